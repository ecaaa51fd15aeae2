/- Merged texts of one proof. -/
import Derived.Test.YtnoppodfngkoeaaGreatM2
import Derived.Laws.FloatArith
import Derived.Sort.AssemblyPlain
import Derived.Sort.LotD5
import Derived.Laws.Bits64
import Derived.Laws.Bits64b
set_option linter.unusedVariables false
set_option linter.unusedSimpArgs false
set_option maxRecDepth 20000
namespace Go.Proofs.YtnoppodfngkoeaaGreat
open Tryz Go.IntKind
namespace K
open Go.Proofs.YtnoppodfngkoeaaGreat.F
structure aDo (r:Ru):Prop where
 kind:r.freq≤1→(∀d∈r.day,d.2=0)∨(∀d∈r.day,d.2≠0)
 weekPos:r.freq=2→r.setPos≠[]→r.start/86400%7=r.wkst
 small:4≤r.freq→r.setPos=[]∧r.month=[]∧r.monthDay=[]∧r.yearDay=[]∧r.interval≤24
 met:wG r
structure uH (r:Ru):Prop where
 weekNo:∀n∈r.weekNo,-51≤n∧n≤51
structure pF (r:Ru):Prop where
 clean:iC r
 left:aDo r
 said:uH r
theorem nD {l:List Int} {most low high:Int} {zero:Bool} (h:cP l most low high zero=true):l.Nodup:=by
 have h3:=(cO h).2.2
 refine List.pairwise_iff_getElem.2 fun i j hi hj hij e=>?_
 have:=h3 j l[j] (List.getElem?_eq_getElem hj)
 apply this
 rw[←e]
 exact List.mem_of_getElem? (i:=i) (by rw[List.getElem?_take_of_lt hij];exact List.getElem?_eq_getElem hi)
theorem sV {r:Ru} (h:iC r) {d:Int×Int} (hd:d∈r.day):0≤d.1∧d.1≤6∧-cY r≤d.2∧d.2≤cY r:=by
 obtain⟨i,hi⟩:=List.getElem?_of_mem hd
 exact (h.day i d hi).2
theorem aPk {r:Ru} (h:dJ r=false):r.monthDay=[]∧r.yearDay=[]∧r.weekNo=[]∧r.day=[]∧r.easter=[]:=by
 unfold dJ at h
 have:=odF h
 refine⟨?_,?_,?_,?_,?_⟩<;>apply List.eq_nil_of_length_eq_zero<;>omega
theorem sW {α:Type} {l:List α} (h:l≠[]):0<l.length:=by cases l<;>simp_all
theorem nE {r:Ru} (g:pF r):GP (whole r):=by
 have h:=g.clean
 have hw:=zO h
 have hst:=h.start
 have dn:=gO (n:=r.start/86400) (by omega)
 have md:=bP (aK (r.start/86400)) (aL (r.start/86400)).1
 have hm:=vZ r
 have wday:∀d∈(whole r).day,d∈r.day∨(dJ r=false∧r.freq=2∧d=(r.start/86400%7,0)):=by
  intro d hd
  have hd:d∈(if dJ r=false∧r.freq=2 then [(r.start/86400%7,0)] else r.day):=hd
  split at hd
  ·rename_i hc
   simp only[List.mem_singleton] at hd
   exact .inr ⟨hc.1,hc.2,hd⟩
  ·exact .inl hd
 have wmonth:∀n∈(whole r).month,n∈r.month∨(dJ r=false∧r.freq=0∧n=(aL (r.start/86400)).1):=by
  intro d hd
  have hd:d∈(if dJ r=false∧r.freq=0∧r.month=[] then [(aL (r.start/86400)).1] else r.month):=hd
  split at hd
  ·rename_i hc
   simp only[List.mem_singleton] at hd
   exact .inr ⟨hc.1,hc.2.1,hd⟩
  ·exact .inl hd
 have wmday:∀n∈(whole r).monthDay,n∈r.monthDay∨(dJ r=false∧r.freq≤1∧n=(aL (r.start/86400)).2):=by
  intro d hd
  have hd:d∈(if dJ r=false∧r.freq≤1 then [(aL (r.start/86400)).2] else r.monthDay):=hd
  split at hd
  ·rename_i hc
   simp only[List.mem_singleton] at hd
   exact .inr ⟨hc.1,hc.2,hd⟩
  ·exact .inl hd
 have hour:(whole r).hour=if r.hour=[]∧r.freq<4 then [r.start%86400/3600] else r.hour:=rfl
 have minute:(whole r).minute=if r.minute=[]∧r.freq<5 then [r.start%86400/60%60] else r.minute:=rfl
 have second:(whole r).second=if r.second=[]∧r.freq<6 then [r.start%86400%60] else r.second:=rfl
 have dlen:(whole r).day.length≤12:=by
  show (if dJ r=false∧r.freq=2 then [(r.start/86400%7,0)] else r.day).length≤12
  have:=h.dayLen
  split<;>simp<;>omega
 have mlen:(whole r).month.length≤12:=by
  show (if dJ r=false∧r.freq=0∧r.month=[] then [(aL (r.start/86400)).1] else r.month).length≤12
  have:=(cO h.month).1
  split<;>simp<;>omega
 have mdlen:(whole r).monthDay.length≤12:=by
  show (if dJ r=false∧r.freq≤1 then [(aL (r.start/86400)).2] else r.monthDay).length≤12
  have:=(cO h.monthDay).1
  split<;>simp<;>omega
 have hlen:=(cO h.hour).1
 have nlen:=(cO h.minute).1
 have slen:=(cO h.second).1
 have many:=h.many
 have lh:r.freq<4→((whole r).hour.length:Int)=max 1 (r.hour.length:Int):=by
  intro hf;rw[hour]
  by_cases e:r.hour=[]
  ·rw[if_pos ⟨e,hf⟩,e];rfl
  ·rw[if_neg (fun hh=>e hh.1)];have:=sW e;omega
 have lm:r.freq<5→((whole r).minute.length:Int)=max 1 (r.minute.length:Int):=by
  intro hf;rw[minute]
  by_cases e:r.minute=[]
  ·rw[if_pos ⟨e,hf⟩,e];rfl
  ·rw[if_neg (fun hh=>e hh.1)];have:=sW e;omega
 have ls:r.freq<6→((whole r).second.length:Int)=max 1 (r.second.length:Int):=by
  intro hf;rw[second]
  by_cases e:r.second=[]
  ·rw[if_pos ⟨e,hf⟩,e];rfl
  ·rw[if_neg (fun hh=>e hh.1)];have:=sW e;omega
 have b1:(1:Int)≤max 1 (r.hour.length:Int)∧max 1 (r.hour.length:Int)≤12:=by omega
 have b2:(1:Int)≤max 1 (r.minute.length:Int)∧max 1 (r.minute.length:Int)≤12:=by omega
 have b3:(1:Int)≤max 1 (r.second.length:Int)∧max 1 (r.second.length:Int)≤12:=by omega
 refine {hw with month:=?_,monthDay:=?_,yearDay:=?_,weekNo:=?_,easter:=?_,setPos:=?_,day:=?_,dayMonth:=?_,dayPlain:=?_,dayKind:=?_,weekYear:=?_,easterYear:=?_,monthDayWeek:=?_,yearDayFreq:=?_,hours:=?_,minutes:=?_,seconds:=?_,small:=?_,weekPos:=?_,lens:=?_,nodup:=?_,many:=?_,manyH:=?_}
 ·intro n hn
  rcases wmonth n hn with e|⟨_,_,rfl⟩
  ·have:=(cO h.month).2.1 n e;omega
  ·omega
 ·intro n hn
  rcases wmday n hn with e|⟨_,_,rfl⟩
  ·have:=(cO h.monthDay).2.1 n e
   exact⟨this.1,this.2.1,this.2.2 rfl⟩
  ·omega
 ·intro n hn
  have:=(cO h.yearDay).2.1 n hn
  exact⟨this.1,this.2.1,this.2.2 rfl⟩
 ·intro n hn
  have:=(cO h.weekNo).2.1 n hn
  have h2:=g.said.weekNo n hn
  exact⟨h2.1,h2.2,this.2.2 rfl⟩
 ·intro n hn
  have:=(cO h.easter).2.1 n hn;omega
 ·intro n hn
  have:=(cO h.setPos).2.1 n hn
  exact⟨this.1,this.2.1,this.2.2 rfl⟩
 ·intro d hd
  rcases wday d hd with e|⟨_,_,rfl⟩
  ·have:=sV h e;omega
  ·simp only;omega
 ·intro hc d hd
  rcases wday d hd with e|⟨_,_,rfl⟩
  ·have hh:=sV h e
   have:cY r≤5:=by
    unfold cY
    split
    ·omega
    ·rename_i hn
     split
     ·rename_i h0
      exfalso
      rcases hc with hc|hc
      ·exact hn (.inl hc)
      ·have hne:(whole r).month≠[]:=hc
       obtain⟨n,hn'⟩:=List.exists_mem_of_ne_nil _ hne
       rcases wmonth n hn' with e2|⟨e2,_⟩
       ·exact hn (.inr ⟨h0.1,List.length_pos_of_mem e2⟩)
       ·rw[(aPk e2).2.2.2.1] at e;simp at e
     ·omega
   omega
  ·simp only;omega
 ·intro hf d hd
  have hf:1<r.freq:=hf
  rcases wday d hd with e|⟨_,_,rfl⟩
  ·have hh:=sV h e
   have:cY r=0:=by unfold cY;rw[if_neg (by omega),if_neg (by omega)]
   omega
  ·rfl
 ·by_cases hf:r.freq≤1
  ·rcases g.left.kind hf with hk|hk
   ·left
    intro d hd
    rcases wday d hd with e|⟨_,_,rfl⟩
    ·exact hk d e
    ·rfl
   ·right
    intro d hd
    rcases wday d hd with e|⟨_,e,_⟩
    ·exact hk d e
    ·omega
  ·left
   intro d hd
   rcases wday d hd with e|⟨_,_,rfl⟩
   ·have hh:=sV h e
    have:cY r=0:=by unfold cY;rw[if_neg (by omega),if_neg (by omega)]
    omega
   ·rfl
 ·intro hn
  exact h.weekYear (sW hn)
 ·intro hn
  exact h.easterYear (sW hn)
 ·intro hf
  have hf:r.freq=2:=hf
  show (if dJ r=false∧r.freq≤1 then [(aL (r.start/86400)).2] else r.monthDay)=[]
  rw[if_neg (by omega)]
  cases hl:r.monthDay with
  |nil=>rfl
  |cons a l=>exact absurd hf (h.monthDayWeek (by rw[hl];simp))
 ·intro hf
  show r.yearDay=[]
  have hf:r.freq=1∨r.freq=2∨r.freq=3:=hf
  cases hl:r.yearDay with
  |nil=>rfl
  |cons a l=>have:=h.yearDayFreq (by rw[hl];simp);omega
 ·intro hf e
  have:=lh hf
  rw[e] at this;simp at this;omega
 ·intro hf e
  have:=lm hf
  rw[e] at this;simp at this;omega
 ·intro hf e
  have:=ls hf
  rw[e] at this;simp at this;omega
 ·intro hf
  have:=g.left.small hf
  refine⟨this.1,?_⟩
  show max 1 r.interval≤24
  omega
 ·exact fun hf hp=>g.left.weekPos hf hp
 ·have a1:=(cO h.setPos).1
  have a2:=(cO h.yearDay).1
  have a3:=(cO h.weekNo).1
  have a4:=(cO h.easter).1
  refine⟨?_,mlen,mdlen,?_,?_,dlen,?_,?_,?_,?_⟩
  ·show r.setPos.length≤12;omega
  ·show r.yearDay.length≤12;omega
  ·show r.weekNo.length≤12;omega
  ·rw[hour];split<;>first|(simp;done)|omega
  ·rw[minute];split<;>first|(simp;done)|omega
  ·rw[second];split<;>first|(simp;done)|omega
  ·show r.easter.length≤12;omega
 ·refine⟨?_,?_,?_⟩
  ·rw[hour];split
   ·simp
   ·exact nD h.hour
  ·rw[minute];split
   ·simp
   ·exact nD h.minute
  ·rw[second];split
   ·simp
   ·exact nD h.second
 ·intro hf
  have hf:r.freq<4:=hf
  have e1:=lh hf
  have e2:=lm (by omega)
  have e3:=ls (by omega)
  have:(((whole r).hour.length*(whole r).minute.length*(whole r).second.length:Nat):Int)≤60:=by
   rw[Int.natCast_mul,Int.natCast_mul,e1,e2,e3];exact many
  omega
 ·intro hf
  have hf:r.freq=4:=hf
  have e2:=lm (by omega)
  have e3:=ls (by omega)
  have:(((whole r).minute.length*(whole r).second.length:Nat):Int)≤60:=by
   rw[Int.natCast_mul,e2,e3]
   have m1:(0:Int)≤max 1 (r.minute.length:Int)*max 1 (r.second.length:Int):=Int.mul_nonneg (by omega) (by omega)
   have m2:1*(max 1 (r.minute.length:Int)*max 1 (r.second.length:Int))≤max 1 (r.hour.length:Int)*(max 1 (r.minute.length:Int)*max 1 (r.second.length:Int)):=Int.mul_le_mul_of_nonneg_right b1.1 m1
   have m3:max 1 (r.hour.length:Int)*(max 1 (r.minute.length:Int)*max 1 (r.second.length:Int))≤60:=by rw[←Int.mul_assoc];exact many
   rw[Int.one_mul] at m2
   omega
  omega
theorem aKo {r:Ru} (g:pF r):wG (whole r):=by
 intro hf hne
 have hf:4≤r.freq:=hf
 have e1:(whole r).hour=r.hour:=by show (if _ then _ else _)=_;rw[if_neg (by omega)]
 have e2:5≤r.freq→(whole r).minute=r.minute:=fun h5=>by show (if _ then _ else _)=_;rw[if_neg (by omega)]
 have e3:r.freq=6→(whole r).second=r.second:=fun h6=>by show (if _ then _ else _)=_;rw[if_neg (by omega)]
 have hne':r.hour≠[]∨(5≤r.freq∧r.minute≠[])∨(r.freq=6∧r.second≠[]):=by
  rcases hne with h|⟨h5,h⟩|⟨h6,h⟩
  ·rw[e1] at h;exact .inl h
  ·have h5:5≤r.freq:=h5
   rw[e2 h5] at h;exact .inr (.inl ⟨h5,h⟩)
  ·have h6:r.freq=6:=h6
   rw[e3 h6] at h;exact .inr (.inr ⟨h6,h⟩)
 obtain⟨t,t0,t1,hd,a1,a2,a3⟩:=g.left.met hf hne'
 refine⟨t,t0,t1,?_,by rw[e1];exact a1,fun h5=>by have h5:5≤r.freq:=h5;rw[e2 h5];exact a2 h5,fun h6=>by have h6:r.freq=6:=h6;rw[e3 h6];exact a3 h6⟩
 show (t-r.start%86400/dV (whole r))%((Nat.gcd (max 1 (max 1 r.interval)).toNat (bD (whole r)).toNat:Nat):Int)=0
 rw[show max 1 (max 1 r.interval)=max 1 r.interval by omega]
 exact hd
def got (r:Ru) (k i:Nat):List Int:=iG r 0 k++keep r ((dN r k).take i)
theorem kK {r:Ru} (h:WP r) (k:Nat):gE r=iG r 0 k++rest r k:=by
 refine Asc.ext (aIa h) ?_ fun t=>?_
 ·refine List.pairwise_append.2 ⟨zN h 0 k,uC h k,fun a ha b hb=>?_⟩
  obtain⟨_,_,i,_,hi,ha⟩:=uB.1 ha
  obtain⟨_,_,j,hj,hb⟩:=(mA h).1 hb
  have h1:=jE h ha
  have h2:=jE h hb
  have h3:=sU h i
  have h4:=kV h (show i+1≤j by omega)
  omega
 ·rw[List.mem_append,aH9 h,uB,mA h]
  constructor
  ·rintro ⟨a,b,j,c⟩
   rcases Nat.lt_or_ge j k with e|e
   ·exact .inl ⟨a,b,j,by omega,by omega,c⟩
   ·exact .inr ⟨a,b,j,e,c⟩
  ·rintro (⟨a,b,j,_,_,c⟩|⟨a,b,j,_,c⟩)<;>exact⟨a,b,j,c⟩
theorem oN (r:Ru) (a b:List Int):keep r (a++b)=keep r a++keep r b:=List.filter_append ..
theorem aPl {r:Ru} (h:WP r) (k i:Nat):got r k i <+: gE r:=by
 rw[kK h k,jI h k]
 have e:keep r (dN r k)=keep r ((dN r k).take i)++keep r ((dN r k).drop i):=by
  rw[←oN,List.take_append_drop]
 rw[e]
 exact⟨keep r ((dN r k).drop i)++rest r (k+1),by unfold got;simp only[List.append_assoc]⟩
theorem aLy {a b:List Int} (h:a <+: b) {n:Nat} (hl:(a.take n).length=n):b.take n=a.take n:=by
 obtain⟨t,rfl⟩:=h
 rw[List.length_take] at hl
 rw[List.take_append_of_le_length (by omega)]
theorem aLz {r:Ru} (h:WP r) {k i n:Nat} (hl:((got r k i).take n).length=n):(gE r).take n=(got r k i).take n:=aLy (aPl h k i) hl
theorem aLA {r:Ru} (h:WP r) {k i:Nat} {t:Int} (ht:(dN r k)[i]?=some t) (h2:r.til<t):gE r=got r k i:=by
 rw[kK h k,jI h k,aCX h (List.mem_of_getElem? ht) h2,List.append_nil]
 unfold got
 congr 1
 have e:keep r (dN r k)=keep r ((dN r k).take i)++keep r ((dN r k).drop i):=by
  rw[←oN,List.take_append_drop]
 rw[e]
 have:keep r ((dN r k).drop i)=[]:=by
  refine List.filter_eq_nil_iff.2 fun x hx=>?_
  obtain⟨j,hj⟩:=List.getElem?_of_mem hx
  rw[List.getElem?_drop] at hj
  have ha:=nX h k
  have hi:=(List.getElem?_eq_some_iff.1 ht)
  have hj':=(List.getElem?_eq_some_iff.1 hj)
  have:t≤x:=by
   rcases Nat.eq_zero_or_pos j with e0|e0
   ·subst e0;rw[Nat.add_zero] at hj;rw[ht] at hj;have:=Option.some.inj hj;omega
   ·have:=aKd ha hi.1 hj'.1 (by omega)
    rw[hi.2,hj'.2] at this;omega
  simp;omega
 rw[this,List.append_nil]
theorem aHg {r:Ru} (h:WP r) {k:Nat} (hk:rest r k=[]):gE r=got r k 0:=by
 rw[kK h k,hk]
 unfold got
 simp[keep]
theorem aKp {r:Ru} {k i:Nat} {t:Int} (ht:(dN r k)[i]?=some t) (h1:r.start≤t) (h2:t≤r.til):got r k (i+1)=got r k i++[t]:=by
 unfold got
 rw[List.take_add_one,ht,oN,List.append_assoc]
 congr 1
 unfold keep
 simp[h1,h2]
theorem aKq {r:Ru} {k i:Nat} {t:Int} (ht:(dN r k)[i]?=some t) (h1:t<r.start):got r k (i+1)=got r k i:=by
 unfold got
 rw[List.take_add_one,ht,oN]
 have:keep r (some t).toList=[]:=by unfold keep;simp;omega
 rw[this,List.append_nil]
theorem aLB {r:Ru} (k i:Nat) (hi:(dN r k).length≤i):got r k i=got r (k+1) 0:=by
 unfold got
 rw[List.take_of_length_le hi]
 unfold iG
 rw[List.range'_1_concat,List.flatMap_append]
 simp[keep]
theorem aIg {r:Ru} (h:WP r) (hf:r.freq<4) {k:Nat} (hk:r.til/86400<aU r k):rest r (k+1)=[]:=by
 refine nZ h ?_
 have:=(t8 h hf k)
 unfold dY
 rw[if_pos hf]
 omega
theorem aIh {r:Ru} (n:Nat):(gK r).take n=(gE (whole r)).take (if 0<r.count then min n r.count.toNat else n):=by
 unfold gK
 split
 ·rw[List.take_take]
 ·rfl
theorem aIi {r:Ru} (h:WP r) {s:Int} (hs:0<s) (hi:∀k:Nat,dN r k=[r.start+k*s]) (j:Nat):(gE r)[j]?=if r.start+j*s≤r.til then some (r.start+j*s) else none:=by
 have pos:∀k:Nat,(0:Int)≤k*s:=fun k=>Int.mul_nonneg (by omega) (by omega)
 have key:∀k:Nat,k≤wC→r.start+k*s≤r.til→(iG r 0 k).length=k∧∀i:Nat,i<k→(iG r 0 k)[i]?=some (r.start+i*s):=by
  intro k
  induction k with
  |zero=>intro _ _;exact⟨rfl,fun i hi=>by omega⟩
  |succ k ih=>
   intro hk hl
   rw[kI (b:=0)] at hl
   obtain⟨h1,h2⟩:=ih (by omega) (by omega)
   have e:iG r 0 (k+1)=iG r 0 k++[r.start+k*s]:=by
    unfold iG
    rw[List.range'_1_concat,List.flatMap_append]
    congr 1
    simp only[List.flatMap_cons,List.flatMap_nil,List.append_nil,Nat.zero_add,hi]
    unfold keep
    have:=pos k
    simp;omega
   rw[e]
   refine⟨by simp[h1],fun i hi=>?_⟩
   rcases Nat.lt_or_ge i k with h3|h3
   ·rw[List.getElem?_append_left (by omega)];exact h2 i h3
   ·have:i=k:=by omega
    subst this
    rw[List.getElem?_append_right (by omega),h1];simp
 split
 ·rename_i hl
  have hj:j<wC:=by
   rcases Nat.lt_or_ge j wC with h1|h1
   ·exact h1
   ·exfalso
    have:=aHf h h1
    have h2:=jE h (show r.start+j*s∈dN r j by rw[hi];exact List.mem_singleton.2 rfl)
    omega
  obtain⟨h1,h2⟩:=key j (by omega) hl
  rw[kK h j,jI h j,List.getElem?_append_right (by omega),h1,Nat.sub_self,hi]
  have:keep r [r.start+(j:Int)*s]=[r.start+j*s]:=by
   have:=pos j
   unfold keep;simp;omega
  rw[this];rfl
 ·rename_i hl
  rw[List.getElem?_eq_none_iff]
  have hmem:r.start+(j:Int)*s∈dN r j:=by rw[hi];exact List.mem_singleton.2 rfl
  have hr:rest r j=[]:=by
   rw[jI h j,aCX h hmem (by omega),List.append_nil,hi]
   unfold keep
   simp;omega
  rw[kK h j,hr,List.append_nil]
  have:∀n:Nat,(iG r 0 n).length≤n:=by
   intro n
   induction n with
   |zero=>simp[iG]
   |succ n ih=>
    have e:iG r 0 (n+1)=iG r 0 n++keep r (dN r n):=by
     unfold iG
     rw[List.range'_1_concat,List.flatMap_append]
     simp
    have h1:(keep r (dN r n)).length≤1:=by
     rw[hi];exact Nat.le_trans (List.length_filter_le ..) (by simp)
    rw[e,List.length_append]
    omega
  exact this j
end K
namespace F
open Go.RowKit Go.Proofs.YtnoppodfngkoeaaGreat.AL
end F
open Go.RowKit Go.Proofs.YtnoppodfngkoeaaGreat.AL Go.Proofs.YtnoppodfngkoeaaGreat.F
attribute [local irreducible] bJ cB gT eJ mP gI jM aDi aAC aAE aDS lT gR aBQ lY oI rV rA kT tX AWp cW aDk
attribute [local go_sem] aDZ vO tQ tP tO gD vJ aAl rS aAm aCi aAn iW aCj aDI xV aDJ aBR aBS aDK vR aAT aCF mT aAU aCG aAo xW aCk aCl aDM aDN aDO aDL aPW aAs aAt xX xY vK xZ aCm yA aCn uR aAu aCo vL sG sH aAv aAw vM aAx oX uS aAy aCp yB aAz aDP qY sI vN aAA yC sJ aDQ yD aCq aFL aCh aAk aDH aI9 aDG aFJ aFK aDF Nat.reduceLT Nat.reduceBEq List.map_cons List.map_nil Option.map_some Option.map_none aAB aDR yE aCr aAD aDT aDU aCs aCt aFN aFO aFP aFQ aFR aFS aFT aFU aFV aFW aFX aFY aD2 aD3 yF yG tV aAG yH yI aAJ aAH aAI aEe aEf aEg aF4 aJe aJf aJg aD4 aD5 aFZ aAK aCw aD6 aCH aCI aCJ qF mU aCK aAV aCL aCM aAW aCN aAX aAY aAZ aEb mkS aAL aCx aCy aAM aCz aAN aAP aAQ yJ aD7 bB bX qZ tW aD8 yK aD9 aEa aCA aCB aCC aCD aCE List.length_cons List.length_nil List.getElem?_cons_zero List.getElem?_cons_succ List.set_cons_zero List.set_cons_succ List.cons_append List.nil_append List.append_assoc Nat.reduceAdd Nat.zero_add Nat.add_zero Int.reduceBEq List.all_cons List.all_nil Value.oneCell' Bool.and_true Bool.and_self if_true if_false Bool.false_eq_true hZ aAq lG pH Option.bind_some fQ List.drop_succ_cons List.drop_zero List.take_succ_cons List.take_zero List.take_nil List.drop_nil Nat.reduceLeDiff and_self and_true true_and reduceIte Option.some.injEq Nat.reduceEqDiff ne_eq Int.reduceEq Int.reduceLE Int.reduceLT Int.reduceNe not_false_eq_true Option.map_map List.getElem?_toArray beq_self_eq_true Bool.true_beq Bool.false_beq Bool.not_true Bool.not_false decide_true decide_false beq_true Nat.reduceMul Nat.mul_one Nat.one_mul Nat.zero_mul bsA gW iM List.append_nil Nat.reduceSub Int.reduceToNat Int.toNat_natCast Int.toNat_zero aK9 sM aF0 aJh aJi aF1 aJj yL yM uT vV yN aA0 aA1 yO aA2 aEc aF2 gF jY aAr nO aA4 aEh aEd kd1 sz1 zc1 if1 kd2 sz2 zc2 if2 kd3 sz3 zc3 if3 kd4 sz4 zc4 if4 kd5 sz5 zc5 if5 kd7 sz7 zc7 fp7 aMj aMk aMl aMm if7 kd9 sz9 zc9 if9 aPZ aP0 aP1 aP2 aP3 aP4 aP5 aP6 aJm aJn aP7 aP8 aP9 aQa aQb aJo aQc aQd aQe aQf aQg aQh aQi aQj aQk aQl aQm mW aQn aQo aQp aQq aLd aQr aQs aQt aQu aQv aJp aJq aJr aJs aJt aJu aJv aJw aJx aJy aF5 aF6 aF7 aF8 aF9 aGa aGb aGc aQw aQx aQy aQz aBT aQA aQB aQC aQD aLe aQE aQF aQG aQH aQI aJz aJA aJB aJC aJD aJE aJF aJG aJH aJI aGd aGe aGf aGg aGh aGi aGj aGk aQJ aQK aQL aQM aQN aJJ aJK aJL aQO aQP aQQ aQR aQS aQT aQU aQV aQW aQX aQY aQZ aQ0 aQ1 aQ2 aQ3 aJM aJN aJO aQ4 aQ5 aQ6 aQ7 aQ8 aJP aJQ aJR aQ9 aRa aRb aRc aH1 aRd aRe aRf aRg aRh aJS aJT aJU aJV aJW aJX aJY aJZ aJ0 aJ1 aGl aGm aGn aGo aGp aGq aRi aRj aRk aRl aRm aRn aRo aRp aRq aJ2 aJ3 aJ4 aRr aRs aRt aRu aRv aRw aRx aRy vW aRz aMn aMo aMp aMq aGr aGs aGt aGu aGv aGw aGx aGy aGz aGA aEi aEj aEk aEl aEm aEn aEo aEp aEq aEr aEs aEt aMr aMs aMt aMu aMv aMw aMx aMy aMz aGB aGC aGD aGE aGF aGG aGH aGI aGJ aGK aEu aEv aEw aEx aEy aMA aMB aMC aMD aME aGL aGM aMF aMG aMH aMI aA5 aMJ aMK aML aMM aMN aGN aGO aGP aGQ aGR aGS aGT aGU aGV aGW aEz aEA aEB aEC aMO aMP aMQ aMR aMS aMT aMU aMV aMW aMX aMY aMZ aM0 aM1 aM2 aM3 aM4 aM5 aM6 aM7 aM8 aM9 aNa aNb aNc aJ5 aNd aNe aNf aNg aNh aNi aJ6 aNj aNk aNl aNm aNn aNo aGX aGY aGZ aG0 aNp aNq aNr aNs aNt aNu aNv aNw aNx aG1 aG2 aG3 aNy aNz aNA aNB aNC aG4 aG5 aG6 aG7 aND aNE aNF aNG aNH aNI aNJ aNK aNL aNM aNN aNO aNP aNQ aNR aNS aNT aNU aNV aNW aNX aNY aNZ aN0 aN1 aN2 aN3 aH2 aN4 aN5 aN6 aN7 aN8 aN9 aOa aOb aOc aOd aOe aOf aOg aOh aOi aOj aOk aJ7 aOl aOm aOn aOo aOp aOq aOr aOs aOt aOu aG8 aOv aOw aOx aOy aOz aOA aOB aOC aOD aOE aOF aOG aG9 aHa aOH aOI aOJ aOK aOL aOM aON aOO aOP aOQ aOR aOS aOT aOU aOV aOW aOX Tryz.underlying1 Tryz.underlying2 Tryz.underlying3 Tryz.underlying4 Tryz.underlying5 Tryz.underlying7 Tryz.underlying9 Tryz.underlying12 Tryz.underlying13 Tryz.underlying18 Tryz.underlying20 Tryz.underlying21 Tryz.underlying22 Tryz.underlying23 Tryz.underlying25 Tryz.underlying27 Tryz.underlying32 Tryz.underlying34 Tryz.underlying41 Tryz.underlying71 Tryz.underlying73 Tryz.underlying76 Tryz.underlying78 Tryz.underlying80 Tryz.underlying81 Tryz.underlying83 Tryz.underlying86 Tryz.underlying90 Tryz.underlying95 Tryz.underlying99 Tryz.underlying112 Tryz.underlying115 Tryz.underlying117 Tryz.underlying119 Tryz.underlying120 Tryz.underlying122 Tryz.underlying128 Tryz.underlying132 Tryz.underlying134 Tryz.underlying143 Tryz.underlying145 Tryz.underlying151 Tryz.underlying152 Tryz.underlying154 Tryz.underlying157 Tryz.underlying159 Tryz.underlying164 Tryz.underlying165 Tryz.underlying169 Tryz.underlying174 Tryz.underlying177 Tryz.underlying182 Tryz.underlying186 Tryz.underlying189 Tryz.underlying194 Tryz.underlying199 Tryz.underlying200 Tryz.underlying205 Tryz.underlying207 Tryz.underlying210 Tryz.underlying214 Tryz.underlying219 Tryz.underlying226 Tryz.underlying232 Tryz.underlying240 Tryz.underlying251
attribute [local go_sem_proc] Nat.reduceLT Nat.reduceBEq Nat.reduceAdd Int.reduceBEq Nat.reduceLeDiff reduceIte Nat.reduceEqDiff Int.reduceEq Int.reduceLE Int.reduceLT Int.reduceNe Nat.reduceMul Nat.reduceSub Int.reduceToNat
namespace F
open Go.RowKit Go.Proofs.YtnoppodfngkoeaaGreat.AL
theorem fF {l:List Int} {i:Nat} (hi:i<l.length):l[i]?=some (l.getD i 0):=by rw[List.getD_eq_getElem?_getD,List.getElem?_eq_getElem hi];rfl
theorem bO {w0:World} (l:List Int) (hl:l.length≤1000000000) (a:Int) (x:AV) (H:aB) (hx:aQ H x l):aH prog (CB w0) 84 [x,vI a] H fun r H'=>r=vB (l.contains a)∧H'=H:=by
 refine aSi (N:=17) (rs:=[.tmp 4]) Tryz.func84 ?_
 rintro e he ⟨g0,g1,-⟩
 have hlen:=hx.len 3
 simp only[go_sem,he,g0,g1,hlen]
 refine cF l.length (fun k e h=>h=H∧len e=17∧AL.get e 1=vI a∧AL.get e 7=x∧AL.get e 8=vI l.length∧∃i:Nat,AL.get e 9=vI i∧i+k=l.length∧∀j,j<i→l.getD j 0≠a) (by kernel_rfl) ?_ ?_
 ·simp only[go_sem,he,g0,g1]
  exact⟨0,rfl,by omega,fun j hj=>by omega⟩
 ·rintro k e h ⟨rfl,he,g1,g7,g8,i,g9,hik,hno⟩
  have wi:i64.wrap ((i:Int)+1)=((i+1:Nat):Int):=by rw[aJ (by omega)];rfl
  simp only[go_sem,he,g1,g7,g8,g9]
  refine aF (fun hc=>?_) fun hc=>?_
  ·have hc:=odT hc
   have hi:i<l.length:=by omega
   obtain⟨own,o,off,cs,rfl,hcs,hci⟩:=hx.get hi
   simp only[go_sem,he,g1,g7,g8,g9,hcs,hci,Int.toNat_natCast]
   refine⟨by omega,aF (fun hq=>?_) fun hq=>?_⟩
   ·have hq:=odT hq
    simp only[go_sem,he]
    have:l.contains a=true:=by rw[List.contains_iff_mem,←hq];exact List.mem_of_getElem? (fF hi)
    rw[this]
   ·have hq:=odF hq
    simp only[go_sem,he,g1,g7,g8,g9,wi]
    refine⟨k-1,by omega,i+1,rfl,by omega,fun j hj=>?_⟩
    rcases Nat.lt_or_ge j i with h1|h1
    ·exact hno j h1
    ·have:j=i:=by omega
     subst this;exact hq
  ·have hc:=odF hc
   simp only[go_sem,he]
   have:l.contains a=false:=by
    rw[Bool.eq_false_iff]
    intro hm
    obtain⟨j,hj⟩:=List.getElem?_of_mem (List.contains_iff_mem.1 hm)
    have hlt:=(List.getElem?_eq_some_iff.1 hj).1
    rw[fF hlt] at hj
    exact hno j (by omega) (Option.some.inj hj)
   rw[this]
theorem kX {w0:World} (a b:Int) (ha:-1000000≤a∧a≤1000000) (hb:1≤b∧b≤100000) (H:aB):aH prog (CB w0) 144 [vI a,vI b] H fun r H'=>r=vI (a%b)∧H'=H:=by
 refine aSi (N:=17) (rs:=[.tmp 4]) Tryz.func144 ?_
 rintro e he ⟨g0,g1,-⟩
 have hb0:b≠0:=by omega
 have hr1:=Int.emod_nonneg a hb0
 have hr2:=Int.emod_lt_of_pos a (show 0<b by omega)
 rcases Int.le_total 0 a with h|h
 ·have t2:a.tmod b=a%b:=Int.tmod_eq_emod_of_nonneg h
  have hp:0≤a%b*b:=Int.mul_nonneg hr1 (by omega)
  have hp2:a%b*b≤100000*100000:=Int.mul_le_mul (by omega) (by omega) (by omega) (by omega)
  have w1:i64.wrap (a%b*b)=a%b*b:=aJ (by omega)
  have hd:decide (a%b*b<0)=false:=dcF (by omega)
  simp only[go_sem,he,g0,g1,t2,w1,hd,hb0]
 ·have hd1:=sN a b h (by omega)
  have em:=Int.emod_add_mul_ediv a b
  rcases hd1 with ⟨h1,h2⟩|⟨h1,h2⟩
  ·have e0:a%b=0:=by
    have:=Int.tmod_add_mul_tdiv a b
    rw[h1,h2] at this;omega
   have w1:i64.wrap (0*b)=0:=by rw[Int.zero_mul];rfl
   simp only[go_sem,he,g0,g1,w1,h1,hb0,e0]
  ·have e0:a.tmod b+b=a%b:=by
    have:=Int.tmod_add_mul_tdiv a b
    rw[h2,Int.mul_add,Int.mul_one] at this;omega
   have hlow:-b≤a.tmod b:=by omega
   have hp:a.tmod b*b<0:=Int.mul_neg_of_neg_of_pos h1 (by omega)
   have hp2:-100000*b≤a.tmod b*b:=Int.mul_le_mul_of_nonneg_right (by omega) (by omega)
   have w1:i64.wrap (a.tmod b*b)=a.tmod b*b:=aJ (by omega)
   have w2:i64.wrap (a.tmod b+b)=a%b:=by rw[aJ (by omega)];omega
   have hd:decide (a.tmod b*b<0)=true:=dcT hp
   simp only[go_sem,he,g0,g1,w1,w2,hd,hb0]
def New (H h:aB) (x:AV) (l:List Int):Prop:=GrN 3 1 H h x l.length (l.map vI)
theorem New.at {H h:aB} {x:AV} {l:List Int} (hx:New H h x l):aQ h x l:=by
 obtain⟨_,_,hx⟩:=hx
 rcases hx with ⟨rfl,h0⟩|⟨o,rfl,ho,_⟩
 ·exact .inl ⟨rfl,h0⟩
 ·refine .inr ⟨true,o,0,l.map vI,rfl,by rw[ho];rfl,fun i hi=>?_⟩
  rw[Nat.mul_one] at hi
  rw[Nat.zero_add,List.getElem?_map,fF hi];rfl
theorem New.grown {H h:aB} {x:AV} {l:List Int} (hx:New H h x l):∃G,h=H++G:=hx.1
theorem GrN.over {t st:Nat} {H1 H2 h:aB} {x:AV} {n:Nat} {cs:List AV} (h12:∃G,H2=H1++G) (hx:GrN t st H2 h x n cs):GrN t st H1 h x n cs:=by
 obtain⟨G,rfl⟩:=h12
 obtain⟨⟨G2,rfl⟩,h2,h3⟩:=hx
 refine⟨⟨G++G2,List.append_assoc _ _ _⟩,h2,?_⟩
 rcases h3 with h3|⟨o,a,b,c⟩
 ·exact .inl h3
 ·exact .inr ⟨o,a,b,by simp only[List.length_append] at c;omega⟩
theorem GrN.make {t st:Nat} {H h:aB} (hG:∃G,h=H++G):GrN t st H (h++[aD.own t []]) (.sl true h.length 0 0 st) 0 []:=by
 obtain⟨G,rfl⟩:=hG
 exact⟨⟨G++[aD.own t []],List.append_assoc _ _ _⟩,by simp,.inr ⟨_,rfl,by rw[bB];rfl,by simp only[List.length_append];omega⟩⟩
theorem New.cat {H h:aB} {x y:AV} {l m:List Int} (hO:New H h x l) (hy:aQ h y m) (hm:m≠[]) (hn:l.length≤1000000∧m.length≤1000000) :
  ∃x' h',cW prog 22 x y h=some (x',h')∧New H h' x' (l++m)∧∀(p:Nat) (z:aD),h[p]?=some z→(∀q,x=.sl true q 0 l.length 1→p≠q)→h'[p]?=some z:=by
 obtain⟨hG,hl,hx⟩:=hO
 have hmp:0<m.length:=by cases m<;>simp_all
 rcases hy with ⟨rfl,h0⟩|⟨own,o',off',cs',rfl,hcs,hcell⟩
 ·omega
 ·have hc:cellsOf h o'=some cs':=by
   unfold cellsOf
   cases ho:h[o']? with
   |none=>rw[ho] at hcs;cases hcs
   |some y=>rw[ho] at hcs;cases y<;>first|exact hcs|cases hcs
  have e2:(cs'.drop off').take (m.length*1)=m.map vI:=by
   apply List.ext_getElem?
   intro i
   rw[List.getElem?_take,List.getElem?_drop,List.getElem?_map]
   split
   ·rename_i hi
    rw[hcell i hi,fF (by omega)];rfl
   ·rename_i hi
    rw[List.getElem?_eq_none (by omega)];rfl
  have hle:off'+m.length*1≤cs'.length:=by
   have:=hcell (m.length-1) (by omega)
   have:=(List.getElem?_eq_some_iff.1 this).1
   omega
  have e3:((cs'.drop off').take (m.length*1)).all AV.one=true:=by
   rw[e2,List.all_eq_true]
   intro z hz
   obtain⟨v,_,rfl⟩:=List.mem_map.1 hz;rfl
  rcases hx with ⟨rfl,h1⟩|⟨o,rfl,ho,hol⟩
  ·have hnil:l=[]:=List.eq_nil_of_length_eq_zero h1
   subst hnil
   refine⟨.sl true h.length 0 m.length 1,h++[.own 3 (m.map vI)],?_,⟨?_,by simp,.inr ⟨_,rfl,by rw[bB];rfl,?_⟩⟩,fun p z hp _=>aZ hp⟩
   ·unfold cW
    rw[mW]
    simp only[hc]
    rw[if_pos ⟨hle,trivial,e3⟩,if_neg (by omega),if_pos ⟨by omega,by omega⟩,e2]
   ·obtain⟨G,rfl⟩:=hG;exact⟨_,List.append_assoc _ _ _⟩
   ·obtain⟨G,rfl⟩:=hG;simp only[List.length_append];omega
  ·have hlt:o<h.length:=(List.getElem?_eq_some_iff.1 ho).1
   refine⟨.sl true h.length 0 (l.length+m.length) 1,h.set o .gone++[.own 3 (l.map vI++m.map vI)],?_,⟨?_,?_,.inr ⟨h.length,by rw[List.length_append],?_,by obtain⟨G,rfl⟩:=hG;simp only[List.length_append];omega⟩⟩,?_⟩
   ·unfold cW
    rw[mW]
    simp only[hc,ho]
    rw[if_pos ⟨hle,trivial,e3⟩,if_pos ⟨trivial,trivial,by simp,by omega,by omega⟩,e2,List.take_of_length_le (by simp)]
   ·obtain⟨G,rfl⟩:=hG
    exact⟨G.set (o-H.length) .gone++[.own 3 (l.map vI++m.map vI)],by rw[eZ hol,List.append_assoc]⟩
   ·simp
   ·have:(h.set o .gone).length=h.length:=List.length_set
    rw[←this,bB,List.map_append];rfl
   ·intro p z hp hq
    have hpo:p≠o:=hq o rfl
    have hpl:=(List.getElem?_eq_some_iff.1 hp).1
    rw[cZ (by rw[List.length_set];exact hpl),List.getElem?_set_ne (fun e=>hpo e.symm)]
    exact hp
theorem f7 {w0:World} (v:Int) (n:Nat) (hn:n≤100000) (H:aB):aH prog (CB w0) 171 [vI v,vI n] H fun r H'=>New H H' r (List.replicate n v):=by
 refine aSi (N:=18) (rs:=[.tmp 4]) Tryz.func171 ?_
 rintro e he ⟨g0,g1,-⟩
 simp only[go_sem,he,g0,g1]
 refine cF n (fun k e h=>len e=18∧AL.get e 0=vI v∧AL.get e 1=vI n∧∃(i:Nat) (y:AV),AL.get e 6=vI i∧AL.get e 5=y∧i+k=n∧New H h y (List.replicate i v)) (by kernel_rfl) ?_ ?_
 ·simp only[go_sem,he,g0,g1]
  exact⟨0,_,rfl,rfl,by omega,GrN.make ⟨[],(List.append_nil _).symm⟩⟩
 ·rintro k e h ⟨he,g0,g1,i,y,g6,g5,hik,hO⟩
  have wi:i64.wrap ((i:Int)+1)=((i+1:Nat):Int):=by rw[aJ (by omega)];rfl
  simp only[go_sem,he,g0,g1,g6,g5]
  refine aF (fun hc=>?_) fun hc=>?_
  ·have hc:=odT hc
   unfold New at hO
   rw[List.length_replicate] at hO
   obtain⟨x2,h2,ha,hO2,-⟩:=hO.push mW (by omega) (c:=[vI v]) rfl rfl (by omega)
   simp only[go_sem,he,g0,g1,g6,g5] at ha ⊢
   rw[ha]
   simp only[go_sem,he,g0,g1,g6,g5,wi]
   refine⟨k-1,by omega,i+1,_,rfl,rfl,by omega,?_⟩
   unfold New
   rw[List.length_replicate,List.replicate_succ',List.map_append]
   exact hO2
  ·have hc:=odF hc
   have:i=n:=by omega
   subst this
   simp only[go_sem,he,g0,g1,g6,g5]
   exact hO
theorem sX {w0:World} (a b:Int) (ha:-100000≤a∧a≤100000) (hb:-100000≤b∧b≤100000) (H:aB):aH prog (CB w0) 172 [vI a,vI b] H fun r H'=>New H H' r (K.zK a b):=by
 refine aSi (N:=19) (rs:=[.tmp 4]) Tryz.func172 ?_
 rintro e he ⟨g0,g1,-⟩
 simp only[go_sem,he,g0,g1]
 refine cF (b-a).toNat (fun k e h=>len e=19∧AL.get e 1=vI b∧∃(i:Nat) (y:AV),AL.get e 6=vI (a+i)∧AL.get e 5=y∧i+k=(b-a).toNat∧New H h y ((List.range i).map fun j:Nat=>a+(j:Int))) (by kernel_rfl) ?_ ?_
 ·simp only[go_sem,he,g0,g1]
  exact⟨0,_,by simp,rfl,by omega,GrN.make ⟨[],(List.append_nil _).symm⟩⟩
 ·rintro k e h ⟨he,g1,i,y,g6,g5,hik,hO⟩
  have wi:i64.wrap (a+(i:Int)+1)=a+((i+1:Nat):Int):=by rw[aJ (by omega)];omega
  simp only[go_sem,he,g1,g6,g5]
  refine aF (fun hc=>?_) fun hc=>?_
  ·have hc:=odT hc
   unfold New at hO
   rw[List.length_map,List.length_range] at hO
   obtain⟨x2,h2,ha,hO2,-⟩:=hO.push mW (by omega) (c:=[vI (a+i)]) rfl rfl (by omega)
   simp only[go_sem,he,g1,g6,g5] at ha ⊢
   rw[ha]
   simp only[go_sem,he,g1,g6,g5,wi]
   refine⟨k-1,by omega,i+1,_,rfl,rfl,by omega,?_⟩
   unfold New
   rw[List.length_map,List.length_range,List.range_succ,List.map_append,List.map_append]
   exact hO2
  ·have hc:=odF hc
   have:i=(b-a).toNat:=by omega
   subst this
   simp only[go_sem,he,g1,g6,g5]
   exact hO
theorem aQ.grow {H h:aB} {x:AV} {l:List Int} (hx:aQ H x l) (hG:∃G,h=H++G):aQ h x l:=by obtain⟨G,rfl⟩:=hG;exact hx.more G
theorem cM {A B D:aB} (h1:∃G,B=A++G) (h2:∃G,D=B++G):∃G,D=A++G:=by
 obtain⟨G,rfl⟩:=h1;obtain⟨G2,rfl⟩:=h2;exact⟨G++G2,List.append_assoc _ _ _⟩
theorem kL (A G:aB):∃G',A++G=A++G':=⟨G,rfl⟩
theorem aPm {ls:List (AV×List Int)} {n:Nat} (h:∀p∈ls,p.2.length≤n):(ls.flatMap (·.2)).length≤n*ls.length:=by
 induction ls with
 |nil=>simp
 |cons p ls ih=>
  have h1:=h p (List.mem_cons_self ..)
  have h2:=ih fun q hq=>h q (List.mem_cons_of_mem _ hq)
  rw[List.flatMap_cons,List.length_append,List.length_cons,Nat.mul_succ]
  omega
theorem oA {w0:World} (ls:List (AV×List Int)) (hne:∀p∈ls,p.2≠[]∧p.2.length≤1000) (hl:ls.length≤100) (o:Nat) (H:aB) (ho:H[o]?=some (.own 22 (ls.map (·.1)))) (hat:∀p∈ls,aQ H p.1 p.2) :
  aH prog (CB w0) 170 [.sl true o 0 ls.length 1] H fun r H'=>New H H' r (ls.flatMap (·.2)):=by
 refine aSi (N:=18) (rs:=[.tmp 2]) Tryz.func170 ?_
 rintro e he ⟨g0,-⟩
 simp only[go_sem,he,g0]
 refine cF ls.length (fun k e h=>len e=18∧AL.get e 7=.sl true o 0 ls.length 1∧AL.get e 8=vI ls.length∧∃(i:Nat) (y:AV),AL.get e 9=vI i∧AL.get e 3=y∧i+k=ls.length∧New H h y ((ls.take i).flatMap (·.2))) (by kernel_rfl) ?_ ?_
 ·simp only[go_sem,he,g0]
  exact⟨0,_,rfl,rfl,by omega,GrN.make ⟨[],(List.append_nil _).symm⟩⟩
 ·rintro k e h ⟨he,g7,g8,i,y,g9,g3,hik,hO⟩
  have wi:i64.wrap ((i:Int)+1)=((i+1:Nat):Int):=by rw[aJ (by omega)];rfl
  simp only[go_sem,he,g7,g8,g9,g3]
  refine aF (fun hc=>?_) fun hc=>?_
  ·have hc:=odT hc
   have hi:i<ls.length:=by omega
   have hm:ls[i]∈ls:=List.getElem_mem hi
   obtain⟨hn1,hn2⟩:=hne _ hm
   have hgr:=hO.grown
   have hoh:h[o]?=some (.own 22 (ls.map (·.1))):=by obtain⟨G,rfl⟩:=hgr;exact aZ ho
   have hci:(ls.map (·.1))[i]?=some ls[i].1:=by rw[List.getElem?_map,List.getElem?_eq_getElem hi];rfl
   have hsl:=aPm (n:=1000) (ls:=ls.take i) fun p hp=>(hne p (List.mem_of_mem_take hp)).2
   rw[List.length_take] at hsl
   obtain⟨x2,h2,ha,hO2,-⟩:=hO.cat ((hat _ hm).grow hgr) hn1 ⟨by omega,by omega⟩
   simp only[go_sem,he,g7,g8,g9,g3,hoh,hci,Int.toNat_natCast] at ha ⊢
   refine⟨by omega,?_⟩
   rw[ha]
   simp only[go_sem,he,g7,g8,g9,g3,wi]
   refine⟨k-1,by omega,i+1,_,rfl,rfl,by omega,?_⟩
   rw[List.take_add_one,List.getElem?_eq_getElem hi,List.flatMap_append]
   simpa using hO2
  ·have hc:=odF hc
   have:i=ls.length:=by omega
   subst this
   simp only[go_sem,he,g7,g8,g9,g3]
   rw[List.take_length] at hO
   exact hO
theorem iQ {H h:aB} {x:AV} {l:List Int} (hx:New H h x l):x.one=true:=hx.at.one
theorem aBg {w0:World} (H:aB):aH prog (CB w0) 140 [] H fun r H'=>New H H' r K.qI:=by
 refine aSi (N:=16) (rs:=[.tmp 0]) Tryz.func140 ?_
 rintro e he -
 simp only[go_sem,he]
 refine aI (f7 1 31 (by omega) _) ?_
 intro y0 h0 n0
 simp only[go_sem,he,aA]
 refine aI (f7 2 29 (by omega) _) ?_
 intro y1 h1 n1
 simp only[go_sem,he,aA]
 refine aI (f7 3 31 (by omega) _) ?_
 intro y2 h2 n2
 simp only[go_sem,he,aA]
 refine aI (f7 4 30 (by omega) _) ?_
 intro y3 h3 n3
 simp only[go_sem,he,aA]
 refine aI (f7 5 31 (by omega) _) ?_
 intro y4 h4 n4
 simp only[go_sem,he,aA]
 refine aI (f7 6 30 (by omega) _) ?_
 intro y5 h5 n5
 simp only[go_sem,he,aA]
 refine aI (f7 7 31 (by omega) _) ?_
 intro y6 h6 n6
 simp only[go_sem,he,aA]
 refine aI (f7 8 31 (by omega) _) ?_
 intro y7 h7 n7
 simp only[go_sem,he,aA]
 refine aI (f7 9 30 (by omega) _) ?_
 intro y8 h8 n8
 simp only[go_sem,he,aA]
 refine aI (f7 10 31 (by omega) _) ?_
 intro y9 h9 n9
 simp only[go_sem,he,aA]
 refine aI (f7 11 30 (by omega) _) ?_
 intro y10 h10 n10
 simp only[go_sem,he,aA]
 refine aI (f7 12 31 (by omega) _) ?_
 intro y11 h11 n11
 simp only[go_sem,he,aA]
 refine aI (f7 1 7 (by omega) _) ?_
 intro y12 h12 n12
 simp only[go_sem,he,aA]
 have o0:=iQ n0
 have o1:=iQ n1
 have o2:=iQ n2
 have o3:=iQ n3
 have o4:=iQ n4
 have o5:=iQ n5
 have o6:=iQ n6
 have o7:=iQ n7
 have o8:=iQ n8
 have o9:=iQ n9
 have o10:=iQ n10
 have o11:=iQ n11
 have o12:=iQ n12
 simp only[go_sem,he,aN o0,aN o1,aN o2,aN o3,aN o4,aN o5,aN o6,aN o7,aN o8,aN o9,aN o10,aN o11,aN o12,o0,o1,o2,o3,o4,o5,o6,o7,o8,o9,o10,o11,o12,List.replicate]
 have k12:∃G,h12=h12++G:=⟨[],(List.append_nil _).symm⟩
 have k11:∃G,h12=h11++G:=cM n12.grown k12
 have k10:∃G,h12=h10++G:=cM n11.grown k11
 have k9:∃G,h12=h9++G:=cM n10.grown k10
 have k8:∃G,h12=h8++G:=cM n9.grown k9
 have k7:∃G,h12=h7++G:=cM n8.grown k8
 have k6:∃G,h12=h6++G:=cM n7.grown k7
 have k5:∃G,h12=h5++G:=cM n6.grown k6
 have k4:∃G,h12=h4++G:=cM n5.grown k5
 have k3:∃G,h12=h3++G:=cM n4.grown k4
 have k2:∃G,h12=h2++G:=cM n3.grown k3
 have k1:∃G,h12=h1++G:=cM n2.grown k2
 have k0:∃G,h12=h0++G:=cM n1.grown k1
 have kk:∃G,h12=H++G:=cM n0.grown k0
 refine aI (oA [(y0,List.replicate 31 1),(y1,List.replicate 29 2),(y2,List.replicate 31 3),(y3,List.replicate 30 4),(y4,List.replicate 31 5),(y5,List.replicate 30 6),(y6,List.replicate 31 7),(y7,List.replicate 31 8),(y8,List.replicate 30 9),(y9,List.replicate 31 10),(y10,List.replicate 30 11),(y11,List.replicate 31 12),(y12,List.replicate 7 1)] ?_ (by simp) h12.length _ (by rw[bB];rfl) ?_) ?_
 ·intro p hp
  simp only[List.mem_cons,List.not_mem_nil,or_false] at hp
  rcases hp with rfl|rfl|rfl|rfl|rfl|rfl|rfl|rfl|rfl|rfl|rfl|rfl|rfl<;>exact⟨by simp,by simp⟩
 ·intro p hp
  simp only[List.mem_cons,List.not_mem_nil,or_false] at hp
  rcases hp with rfl|rfl|rfl|rfl|rfl|rfl|rfl|rfl|rfl|rfl|rfl|rfl|rfl
  ·exact (n0.at.grow k0).more _
  ·exact (n1.at.grow k1).more _
  ·exact (n2.at.grow k2).more _
  ·exact (n3.at.grow k3).more _
  ·exact (n4.at.grow k4).more _
  ·exact (n5.at.grow k5).more _
  ·exact (n6.at.grow k6).more _
  ·exact (n7.at.grow k7).more _
  ·exact (n8.at.grow k8).more _
  ·exact (n9.at.grow k9).more _
  ·exact (n10.at.grow k10).more _
  ·exact (n11.at.grow k11).more _
  ·exact (n12.at.grow k12).more _
 ·intro r h' hn
  simp only[go_sem,he,aA]
  exact GrN.over (cM kk (kL _ _)) hn
theorem New.sl {H h:aB} {x:AV} {l:List Int} (hx:New H h x l) (hl:l≠[]):∃o,x=.sl true o 0 l.length 1∧h[o]?=some (.own 3 (l.map vI))∧H.length≤o:=by
 rcases hx.2.2 with ⟨_,h0⟩|h0
 ·exact absurd (List.eq_nil_of_length_eq_zero h0) hl
 ·exact h0
theorem f8 {h:aB} {o:Nat} {l:List Int} (ho:h[o]?=some (.own 3 (l.map vI))) (a b:Nat) (hab:a≤b∧b≤l.length):aQ h (.sl true o a (b-a) 1) ((l.take b).drop a):=by
 refine .inr ⟨true,o,a,l.map vI,by rw[List.length_drop,List.length_take];congr 1;omega,by rw[ho];rfl,fun i hi=>?_⟩
 rw[Nat.mul_one,List.length_drop,List.length_take] at hi
 have hi':a+i<l.length:=by omega
 rw[List.getElem?_map,fF hi']
 show some (vI (l.getD (a+i) 0))=some (vI (((l.take b).drop a).getD i 0))
 rw[show l.getD (a+i) 0=((l.take b).drop a).getD i 0 by rw[List.getD_eq_getElem?_getD,List.getD_eq_getElem?_getD,List.getElem?_drop,List.getElem?_take_of_lt (by omega)]]
theorem New.ex (H:aB) (l:List Int):∃r H',New H H' r l:=⟨.sl true H.length 0 l.length 1,H++[.own 3 (l.map vI)],⟨_,rfl⟩,by simp,.inr ⟨_,rfl,by rw[bB];rfl,Nat.le_refl _⟩⟩
theorem New.eq {H h:aB} {x:AV} {l m:List Int} (hx:New H h x l) (e:l=m):New H h x m:=e▸hx
theorem uV {w0:World} (H:aB):aH prog (CB w0) 141 [] H fun r H'=>New H H' r K.iJ:=by
 refine aSi (N:=23) (rs:=[.tmp 0]) Tryz.func141 ?_
 rintro e he -
 simp only[go_sem,he]
 refine aI (sX (1) (30) (by omega) (by omega) _) ?_
 intro y0 h0 n0
 simp only[go_sem,he,aA]
 refine aI (sX (1) (31) (by omega) (by omega) _) ?_
 intro y1 h1 n1
 simp only[go_sem,he,aA]
 refine aI (sX (1) (32) (by omega) (by omega) _) ?_
 intro y2 h2 n2
 simp only[go_sem,he,aA]
 have f0:K.M29≠[]∧K.M29.length=29:=by constructor<;>decide
 have f1:K.M30≠[]∧K.M30.length=30:=by constructor<;>decide
 have g7:K.M31.take 7≠[]∧(K.M31.take 7).length≤1000:=by constructor<;>decide
 have f2:K.M31≠[]∧K.M31.length=31:=by constructor<;>decide
 change New H h0 y0 K.M29 at n0
 change New h0 h1 y1 K.M30 at n1
 change New h1 h2 y2 K.M31 at n2
 obtain⟨o2,rfl,ho2,_⟩:=n2.sl f2.1
 rw[f2.2]
 have i2:aQ h2 (.sl true o2 0 31 1) K.M31:=by have:=f8 ho2 0 31 (by rw[f2.2];omega);rwa [show ((K.M31).take 31).drop 0=K.M31 from rfl] at this
 have i2t:aQ h2 (.sl true o2 0 7 1) (K.M31.take 7):=f8 ho2 0 7 (by rw[f2.2];omega)
 have o0:=iQ n0
 have o1:=iQ n1
 have kk:∃G,h2=H++G:=cM n0.grown (cM n1.grown n2.grown)
 simp only[go_sem,he,aN o0,aN o1,o0,o1,List.replicate]
 refine aI (oA [(AV.sl true o2 0 31 1,K.M31),(y0,K.M29),(AV.sl true o2 0 31 1,K.M31),(y1,K.M30),(AV.sl true o2 0 31 1,K.M31),(y1,K.M30),(AV.sl true o2 0 31 1,K.M31),(AV.sl true o2 0 31 1,K.M31),(y1,K.M30),(AV.sl true o2 0 31 1,K.M31),(y1,K.M30),(AV.sl true o2 0 31 1,K.M31),(AV.sl true o2 0 7 1,K.M31.take 7)] ?_ (by simp) h2.length _ (by rw[bB];rfl) ?_) ?_
 ·intro p hp
  simp only[List.mem_cons,List.not_mem_nil,or_false] at hp
  rcases hp with rfl|rfl|rfl|rfl|rfl|rfl|rfl|rfl|rfl|rfl|rfl|rfl|rfl
  ·exact⟨f2.1,by rw[f2.2];omega⟩
  ·exact⟨f0.1,by rw[f0.2];omega⟩
  ·exact⟨f2.1,by rw[f2.2];omega⟩
  ·exact⟨f1.1,by rw[f1.2];omega⟩
  ·exact⟨f2.1,by rw[f2.2];omega⟩
  ·exact⟨f1.1,by rw[f1.2];omega⟩
  ·exact⟨f2.1,by rw[f2.2];omega⟩
  ·exact⟨f2.1,by rw[f2.2];omega⟩
  ·exact⟨f1.1,by rw[f1.2];omega⟩
  ·exact⟨f2.1,by rw[f2.2];omega⟩
  ·exact⟨f1.1,by rw[f1.2];omega⟩
  ·exact⟨f2.1,by rw[f2.2];omega⟩
  ·exact⟨g7.1,g7.2⟩
 ·intro p hp
  simp only[List.mem_cons,List.not_mem_nil,or_false] at hp
  rcases hp with rfl|rfl|rfl|rfl|rfl|rfl|rfl|rfl|rfl|rfl|rfl|rfl|rfl
  ·exact i2.more _
  ·exact (n0.at.grow (cM n1.grown n2.grown)).more _
  ·exact i2.more _
  ·exact (n1.at.grow n2.grown).more _
  ·exact i2.more _
  ·exact (n1.at.grow n2.grown).more _
  ·exact i2.more _
  ·exact i2.more _
  ·exact (n1.at.grow n2.grown).more _
  ·exact i2.more _
  ·exact (n1.at.grow n2.grown).more _
  ·exact i2.more _
  ·exact i2t.more _
 ·intro r h' hn
  simp only[go_sem,he,aA]
  exact New.eq (GrN.over (cM kk (kL _ _)) hn) (by simp only[List.flatMap_cons,List.flatMap_nil,List.append_nil,K.iJ,List.append_assoc])
theorem sY {w0:World} (H:aB):aH prog (CB w0) 142 [] H fun r H'=>New H H' r K.gN:=by
 refine aSi (N:=23) (rs:=[.tmp 0]) Tryz.func142 ?_
 rintro e he -
 simp only[go_sem,he]
 refine aI (sX (-29) (0) (by omega) (by omega) _) ?_
 intro y0 h0 n0
 simp only[go_sem,he,aA]
 refine aI (sX (-30) (0) (by omega) (by omega) _) ?_
 intro y1 h1 n1
 simp only[go_sem,he,aA]
 refine aI (sX (-31) (0) (by omega) (by omega) _) ?_
 intro y2 h2 n2
 simp only[go_sem,he,aA]
 have f0:K.N29≠[]∧K.N29.length=29:=by constructor<;>decide
 have f1:K.N30≠[]∧K.N30.length=30:=by constructor<;>decide
 have g7:K.N31.take 7≠[]∧(K.N31.take 7).length≤1000:=by constructor<;>decide
 have f2:K.N31≠[]∧K.N31.length=31:=by constructor<;>decide
 change New H h0 y0 K.N29 at n0
 change New h0 h1 y1 K.N30 at n1
 change New h1 h2 y2 K.N31 at n2
 obtain⟨o2,rfl,ho2,_⟩:=n2.sl f2.1
 rw[f2.2]
 have i2:aQ h2 (.sl true o2 0 31 1) K.N31:=by have:=f8 ho2 0 31 (by rw[f2.2];omega);rwa [show ((K.N31).take 31).drop 0=K.N31 from rfl] at this
 have i2t:aQ h2 (.sl true o2 0 7 1) (K.N31.take 7):=f8 ho2 0 7 (by rw[f2.2];omega)
 have o0:=iQ n0
 have o1:=iQ n1
 have kk:∃G,h2=H++G:=cM n0.grown (cM n1.grown n2.grown)
 simp only[go_sem,he,aN o0,aN o1,o0,o1,List.replicate]
 refine aI (oA [(AV.sl true o2 0 31 1,K.N31),(y0,K.N29),(AV.sl true o2 0 31 1,K.N31),(y1,K.N30),(AV.sl true o2 0 31 1,K.N31),(y1,K.N30),(AV.sl true o2 0 31 1,K.N31),(AV.sl true o2 0 31 1,K.N31),(y1,K.N30),(AV.sl true o2 0 31 1,K.N31),(y1,K.N30),(AV.sl true o2 0 31 1,K.N31),(AV.sl true o2 0 7 1,K.N31.take 7)] ?_ (by simp) h2.length _ (by rw[bB];rfl) ?_) ?_
 ·intro p hp
  simp only[List.mem_cons,List.not_mem_nil,or_false] at hp
  rcases hp with rfl|rfl|rfl|rfl|rfl|rfl|rfl|rfl|rfl|rfl|rfl|rfl|rfl
  ·exact⟨f2.1,by rw[f2.2];omega⟩
  ·exact⟨f0.1,by rw[f0.2];omega⟩
  ·exact⟨f2.1,by rw[f2.2];omega⟩
  ·exact⟨f1.1,by rw[f1.2];omega⟩
  ·exact⟨f2.1,by rw[f2.2];omega⟩
  ·exact⟨f1.1,by rw[f1.2];omega⟩
  ·exact⟨f2.1,by rw[f2.2];omega⟩
  ·exact⟨f2.1,by rw[f2.2];omega⟩
  ·exact⟨f1.1,by rw[f1.2];omega⟩
  ·exact⟨f2.1,by rw[f2.2];omega⟩
  ·exact⟨f1.1,by rw[f1.2];omega⟩
  ·exact⟨f2.1,by rw[f2.2];omega⟩
  ·exact⟨g7.1,g7.2⟩
 ·intro p hp
  simp only[List.mem_cons,List.not_mem_nil,or_false] at hp
  rcases hp with rfl|rfl|rfl|rfl|rfl|rfl|rfl|rfl|rfl|rfl|rfl|rfl|rfl
  ·exact i2.more _
  ·exact (n0.at.grow (cM n1.grown n2.grown)).more _
  ·exact i2.more _
  ·exact (n1.at.grow n2.grown).more _
  ·exact i2.more _
  ·exact (n1.at.grow n2.grown).more _
  ·exact i2.more _
  ·exact i2.more _
  ·exact (n1.at.grow n2.grown).more _
  ·exact i2.more _
  ·exact (n1.at.grow n2.grown).more _
  ·exact i2.more _
  ·exact i2t.more _
 ·intro r h' hn
  simp only[go_sem,he,aA]
  exact New.eq (GrN.over (cM kk (kL _ _)) hn) (by simp only[List.flatMap_cons,List.flatMap_nil,List.append_nil,K.gN,List.append_assoc])
theorem aLC:K.qI.length=373:=by kernel_rfl
theorem aIj {w0:World} (H:aB):aH prog (CB w0) 136 [] H fun r H'=>New H H' r (K.qI.take 59++K.qI.drop 60):=by
 refine aSi (N:=9) (rs:=[.tmp 0]) Tryz.func136 ?_
 rintro e he -
 simp only[go_sem,he]
 refine aI (aBg _) ?_
 intro y h n
 have hl:=aLC
 obtain⟨o,rfl,ho,hoH⟩:=n.sl (fun e=>by rw[e] at hl;simp at hl)
 rw[hl]
 have i1:aQ h (.sl true o 0 59 1) (K.qI.take 59):=f8 ho 0 59 (by rw[hl];omega)
 have i2:aQ h (.sl true o 60 313 1) (K.qI.drop 60):=by
  have:=f8 ho 60 373 (by rw[hl];omega)
  rwa [List.take_of_length_le (by rw[hl];omega)] at this
 simp only[go_sem,he,aA]
 refine bF bI (by kernel_rfl) ?_
 simp only[go_sem,he,List.replicate]
 have hgr:∃G,h++[aD.own 22 [.sl true o 0 59 1,.sl true o 60 313 1]]=H++G:=cM n.grown (kL _ _)
 refine kR (oA [(AV.sl true o 0 59 1,K.qI.take 59),(AV.sl true o 60 313 1,K.qI.drop 60)] ?_ (by simp) h.length _ (by rw[bB];rfl) ?_) ?_ (New.ex _ _) ?_
 ·intro p hp
  simp only[List.mem_cons,List.not_mem_nil,or_false] at hp
  rcases hp with rfl|rfl
  ·exact⟨fun e=>by have:=congrArg List.length e;rw[List.length_take,hl] at this;simp at this,by rw[List.length_take,hl];omega⟩
  ·exact⟨fun e=>by have:=congrArg List.length e;rw[List.length_drop,hl] at this;simp at this,by rw[List.length_drop,hl];omega⟩
 ·intro p hp
  simp only[List.mem_cons,List.not_mem_nil,or_false] at hp
  rcases hp with rfl|rfl
  ·exact i1.more _
  ·exact i2.more _
 ·rintro r h' hn
  obtain⟨G,rfl⟩:=hn.grown
  exact List.prefix_append _ _
 ·intro r h' hn
  simp only[go_sem,he,aA]
  exact New.eq (GrN.over hgr hn) (by simp only[List.flatMap_cons,List.flatMap_nil,List.append_nil])
theorem aFx:K.iJ.length=373:=by kernel_rfl
theorem aDb {w0:World} (H:aB):aH prog (CB w0) 137 [] H fun r H'=>New H H' r (K.iJ.take 59++K.iJ.drop 60):=by
 refine aSi (N:=9) (rs:=[.tmp 0]) Tryz.func137 ?_
 rintro e he -
 simp only[go_sem,he]
 refine aI (uV _) ?_
 intro y h n
 have hl:=aFx
 obtain⟨o,rfl,ho,hoH⟩:=n.sl (fun e=>by rw[e] at hl;simp at hl)
 rw[hl]
 have i1:aQ h (.sl true o 0 59 1) (K.iJ.take 59):=f8 ho 0 59 (by rw[hl];omega)
 have i2:aQ h (.sl true o 60 313 1) (K.iJ.drop 60):=by
  have:=f8 ho 60 373 (by rw[hl];omega)
  rwa [List.take_of_length_le (by rw[hl];omega)] at this
 simp only[go_sem,he,aA]
 refine bF bI (by kernel_rfl) ?_
 simp only[go_sem,he,List.replicate]
 have hgr:∃G,h++[aD.own 22 [.sl true o 0 59 1,.sl true o 60 313 1]]=H++G:=cM n.grown (kL _ _)
 refine kR (oA [(AV.sl true o 0 59 1,K.iJ.take 59),(AV.sl true o 60 313 1,K.iJ.drop 60)] ?_ (by simp) h.length _ (by rw[bB];rfl) ?_) ?_ (New.ex _ _) ?_
 ·intro p hp
  simp only[List.mem_cons,List.not_mem_nil,or_false] at hp
  rcases hp with rfl|rfl
  ·exact⟨fun e=>by have:=congrArg List.length e;rw[List.length_take,hl] at this;simp at this,by rw[List.length_take,hl];omega⟩
  ·exact⟨fun e=>by have:=congrArg List.length e;rw[List.length_drop,hl] at this;simp at this,by rw[List.length_drop,hl];omega⟩
 ·intro p hp
  simp only[List.mem_cons,List.not_mem_nil,or_false] at hp
  rcases hp with rfl|rfl
  ·exact i1.more _
  ·exact i2.more _
 ·rintro r h' hn
  obtain⟨G,rfl⟩:=hn.grown
  exact List.prefix_append _ _
 ·intro r h' hn
  simp only[go_sem,he,aA]
  exact New.eq (GrN.over hgr hn) (by simp only[List.flatMap_cons,List.flatMap_nil,List.append_nil])
theorem aEL:K.gN.length=373:=by kernel_rfl
theorem aBW {w0:World} (H:aB):aH prog (CB w0) 138 [] H fun r H'=>New H H' r (K.gN.take 31++K.gN.drop 32):=by
 refine aSi (N:=9) (rs:=[.tmp 0]) Tryz.func138 ?_
 rintro e he -
 simp only[go_sem,he]
 refine aI (sY _) ?_
 intro y h n
 have hl:=aEL
 obtain⟨o,rfl,ho,hoH⟩:=n.sl (fun e=>by rw[e] at hl;simp at hl)
 rw[hl]
 have i1:aQ h (.sl true o 0 31 1) (K.gN.take 31):=f8 ho 0 31 (by rw[hl];omega)
 have i2:aQ h (.sl true o 32 341 1) (K.gN.drop 32):=by
  have:=f8 ho 32 373 (by rw[hl];omega)
  rwa [List.take_of_length_le (by rw[hl];omega)] at this
 simp only[go_sem,he,aA]
 refine bF bI (by kernel_rfl) ?_
 simp only[go_sem,he,List.replicate]
 have hgr:∃G,h++[aD.own 22 [.sl true o 0 31 1,.sl true o 32 341 1]]=H++G:=cM n.grown (kL _ _)
 refine kR (oA [(AV.sl true o 0 31 1,K.gN.take 31),(AV.sl true o 32 341 1,K.gN.drop 32)] ?_ (by simp) h.length _ (by rw[bB];rfl) ?_) ?_ (New.ex _ _) ?_
 ·intro p hp
  simp only[List.mem_cons,List.not_mem_nil,or_false] at hp
  rcases hp with rfl|rfl
  ·exact⟨fun e=>by have:=congrArg List.length e;rw[List.length_take,hl] at this;simp at this,by rw[List.length_take,hl];omega⟩
  ·exact⟨fun e=>by have:=congrArg List.length e;rw[List.length_drop,hl] at this;simp at this,by rw[List.length_drop,hl];omega⟩
 ·intro p hp
  simp only[List.mem_cons,List.not_mem_nil,or_false] at hp
  rcases hp with rfl|rfl
  ·exact i1.more _
  ·exact i2.more _
 ·rintro r h' hn
  obtain⟨G,rfl⟩:=hn.grown
  exact List.prefix_append _ _
 ·intro r h' hn
  simp only[go_sem,he,aA]
  exact New.eq (GrN.over hgr hn) (by simp only[List.flatMap_cons,List.flatMap_nil,List.append_nil])
theorem aFy {w0:World} (H:aB):aH prog (CB w0) 143 [] H fun r H'=>New H H' r (K.eI true):=by
 refine aSi (N:=2) (rs:=[.tmp 0]) Tryz.func143 ?_
 rintro e he -
 simp only[go_sem,he,List.replicate]
 exact⟨⟨_,rfl⟩,by rfl,.inr ⟨_,rfl,by rw[bB];rfl,Nat.le_refl _⟩⟩
theorem aFz {w0:World} (H:aB):aH prog (CB w0) 139 [] H fun r H'=>New H H' r (K.eI false):=by
 refine aSi (N:=2) (rs:=[.tmp 0]) Tryz.func139 ?_
 rintro e he -
 simp only[go_sem,he,List.replicate]
 exact⟨⟨_,rfl⟩,by rfl,.inr ⟨_,rfl,by rw[bB];rfl,Nat.le_refl _⟩⟩
def fY:Nat→List Int
 |0=>[]
 |n+1=>fY n++[0,1,2,3,4,5,6]
theorem fA:∀n,(fY n).length=7*n
 |0=>rfl
 |n+1=>by rw[fY,List.length_append,fA n];simp;omega
theorem pT:∀(n i:Nat),i<7*n→(fY n).getD i 0=(i:Int)%7
 |0,i,h=>by omega
 |n+1,i,h=>by
  rw[List.getD_eq_getElem?_getD,fY]
  rcases Nat.lt_or_ge i (7*n) with h1|h1
  ·rw[List.getElem?_append_left (by rw[fA];exact h1),←List.getD_eq_getElem?_getD]
   exact pT n i h1
  ·rw[List.getElem?_append_right (by rw[fA];exact h1),fA]
   obtain⟨j,rfl⟩:∃j,i=7*n+j:=⟨i-7*n,by omega⟩
   have hj:j=0∨j=1∨j=2∨j=3∨j=4∨j=5∨j=6:=by omega
   rw[show 7*n+j-7*n=j by omega]
   rcases hj with rfl|rfl|rfl|rfl|rfl|rfl|rfl<;>simp<;>omega
theorem aIk {w0:World} (H:aB):aH prog (CB w0) 135 [] H fun r H'=>New H H' r (fY 55):=by
 refine aSi (N:=11) (rs:=[.tmp 0]) Tryz.func135 ?_
 rintro e he -
 simp only[go_sem,he]
 refine cF 55 (fun k e h=>len e=11∧∃(i:Nat) (y:AV),AL.get e 2=vI i∧AL.get e 1=y∧i+k=55∧New H h y (fY i)) (by kernel_rfl) ?_ ?_
 ·simp only[go_sem,he]
  exact⟨0,_,rfl,rfl,by omega,GrN.nil ⟨[],(List.append_nil _).symm⟩⟩
 ·rintro k e h ⟨he,i,y,g2,g1,hik,hO⟩
  have wi:i64.wrap ((i:Int)+1)=((i+1:Nat):Int):=by rw[aJ (by omega)];rfl
  simp only[go_sem,he,g2,g1]
  refine aF (fun hc=>?_) fun hc=>?_
  ·have hc:=odT hc
   have hat:aQ (h++[aD.own 3 [vI 0,vI 1,vI 2,vI 3,vI 4,vI 5,vI 6]]) (.sl true h.length 0 7 1) [0,1,2,3,4,5,6]:=
    f8 (l:=[0,1,2,3,4,5,6]) (by rw[bB];rfl) 0 7 (by simp)
   have hl:=fA i
   obtain⟨x2,h2,ha,hO2,-⟩:=New.cat (H:=H) (GrN.more hO [aD.own 3 [vI 0,vI 1,vI 2,vI 3,vI 4,vI 5,vI 6]]) hat (by simp) ⟨by omega,by simp⟩
   simp only[go_sem,he,g2,g1,List.replicate] at ha ⊢
   rw[ha]
   simp only[go_sem,he,g2,g1,wi]
   exact⟨k-1,by omega,i+1,_,rfl,rfl,by omega,hO2⟩
  ·have hc:=odF hc
   have:i=55:=by omega
   subst this
   simp only[go_sem,he,g2,g1]
   exact hO
abbrev vT (t:Int):AV:=.agg [vI t,vI 0]
theorem aLD {w0:World} (t:Int) (ht:InY t) (H:aB):aH prog (CB w0) 123 [vT t] H fun r H'=>r=vI (aL (t/86400)).1∧H'=H:=by
 refine aH.flat rfl ?_
 refine aSi (N:=13) (rs:=[.tmp 2]) Tryz.func123 ?_
 rintro e he ⟨g0,-⟩
 simp only[go_sem,he,g0]
 refine aSh (mI t ht _) ?_
 simp only[go_sem,he,aA]
 exact⟨_,rfl⟩
theorem aEM {w0:World} (t:Int) (ht:InY t) (H:aB):aH prog (CB w0) 124 [vT t] H fun r H'=>r=vI (aL (t/86400)).2∧H'=H:=by
 refine aH.flat rfl ?_
 refine aSi (N:=13) (rs:=[.tmp 2]) Tryz.func124 ?_
 rintro e he ⟨g0,-⟩
 simp only[go_sem,he,g0]
 refine aSh (mI t ht _) ?_
 simp only[go_sem,he,aA]
 exact⟨_,rfl⟩
theorem aPn {w0:World} (t:Int) (ht:InY t) (H:aB):aH prog (CB w0) 125 [vT t] H fun r H'=>r=vI (t%86400/3600)∧H'=H:=by
 refine aH.flat rfl ?_
 refine aSi (N:=13) (rs:=[.tmp 2]) Tryz.func125 ?_
 rintro e he ⟨g0,-⟩
 simp only[go_sem,he,g0]
 refine aSh (lZ t ht _) ?_
 simp only[go_sem,he,aA]
 exact⟨_,rfl⟩
theorem aKr {w0:World} (t:Int) (ht:InY t) (H:aB):aH prog (CB w0) 126 [vT t] H fun r H'=>r=vI (t%86400/60%60)∧H'=H:=by
 refine aH.flat rfl ?_
 refine aSi (N:=13) (rs:=[.tmp 2]) Tryz.func126 ?_
 rintro e he ⟨g0,-⟩
 simp only[go_sem,he,g0]
 refine aSh (lZ t ht _) ?_
 simp only[go_sem,he,aA]
 exact⟨_,rfl⟩
theorem aKs {w0:World} (t:Int) (ht:InY t) (H:aB):aH prog (CB w0) 127 [vT t] H fun r H'=>r=vI (t%86400%60)∧H'=H:=by
 refine aH.flat rfl ?_
 refine aSi (N:=13) (rs:=[.tmp 2]) Tryz.func127 ?_
 rintro e he ⟨g0,-⟩
 simp only[go_sem,he,g0]
 refine aSh (lZ t ht _) ?_
 simp only[go_sem,he,aA]
 exact⟨_,rfl⟩
theorem aBh {w0:World} (t:Int) (ht:InY t) (H:aB):aH prog (CB w0) 147 [vT t] H fun r H'=>r=vI (t/86400-aC (aK (t/86400))+1)∧H'=H:=by
 refine aH.flat rfl ?_
 refine aSi (N:=14) (rs:=[.tmp 2]) Tryz.func147 ?_
 rintro e he ⟨g0,-⟩
 simp only[go_sem,he,g0]
 refine aSh (zJ t ht _) ?_
 unfold InY at ht
 have hy:=eW (n:=t/86400) (by omega)
 have hb:=dG hy.2.1
 have w1:i64.wrap (t/86400-aC (aK (t/86400)))=t/86400-aC (aK (t/86400)):=aJ (by omega)
 have w2:i64.wrap (t/86400-aC (aK (t/86400))+1)=t/86400-aC (aK (t/86400))+1:=aJ (by omega)
 simp only[go_sem,he,aA,w1,w2,dL (P:=prog) (s:=2) (d:=3) Tryz.underlying2 Tryz.underlying3]
 exact⟨_,rfl⟩
theorem pU {w0:World} (t:Int) (ht:InY t) (H:aB):aH prog (CB w0) 82 [vT t] H fun r H'=>r=vI ((t/86400+1)%7)∧H'=H:=by
 refine aH.flat rfl ?_
 refine aSi (N:=13) (rs:=[.tmp 2]) Tryz.func82 ?_
 rintro e he ⟨g0,-⟩
 unfold InY at ht
 have w1:i64.wrap (t/86400+1)=t/86400+1:=aJ (by omega)
 have w2:i64.wrap (7*((t/86400+1)/7))=7*((t/86400+1)/7):=aJ (by omega)
 have w3:i64.wrap (t/86400+1-7*((t/86400+1)/7))=(t/86400+1)%7:=by rw[aJ (by omega)];omega
 have w4:i64.wrap ((t/86400+1)%7)=(t/86400+1)%7:=aJ (by omega)
 simp only[go_sem,he,g0]
 refine aSh (jZ t 86400 (by omega) (by omega) _) ?_
 simp only[go_sem,he,aA,w1]
 refine aSh (jZ (t/86400+1) 7 (by omega) (by omega) _) ?_
 simp only[go_sem,he,aA,w2,w3,w4,dL (P:=prog) (s:=2) (d:=128) Tryz.underlying2 Tryz.underlying128]
 exact⟨_,rfl⟩
theorem aBi {w0:World} (w:Int) (hw:0≤w∧w≤6) (H:aB):aH prog (CB w0) 81 [vI w] H fun r H'=>r=vI ((w+6)%7)∧H'=H:=by
 refine aH.flat rfl ?_
 refine aSi (N:=7) (rs:=[.tmp 2]) Tryz.func81 ?_
 rintro e he ⟨g0,-⟩
 have hc:w=0∨w=1∨w=2∨w=3∨w=4∨w=5∨w=6:=by omega
 rcases hc with rfl|rfl|rfl|rfl|rfl|rfl|rfl<;>simp only[go_sem,he,g0,List.replicate]<;>first|exact⟨by omega,rfl,_,rfl⟩|exact⟨rfl,_,rfl⟩|skip
theorem zR {w0:World} (y:Int) (h0:0≤y) (H:aB):aH prog (CB w0) 134 [vI y] H fun r H'=>r=vI (if aR y then 1 else 0)∧H'=H:=by
 refine aSi (N:=16) (rs:=[.tmp 2]) Tryz.func134 ?_
 rintro e he ⟨g0,-⟩
 have e4:y.tmod 4=y%4:=Int.tmod_eq_emod_of_nonneg h0
 have e1:y.tmod 100=y%100:=Int.tmod_eq_emod_of_nonneg h0
 have e2:y.tmod 400=y%400:=Int.tmod_eq_emod_of_nonneg h0
 by_cases c4:y%4=0
 ·by_cases c1:y%100=0
  ·by_cases c2:y%400=0
   ·simp only[go_sem,he,g0,e4,e1,e2,c4,c1,c2]
    simp[aR,c4,c1,c2]
   ·simp only[go_sem,he,g0,e4,e1,e2,c4,c1,c2]
    simp[aR,c4,c1,c2]
  ·simp only[go_sem,he,g0,e4,e1,e2,c4,c1]
   simp[aR,c4,c1]
 ·simp only[go_sem,he,g0,e4,c4]
  simp[aR,c4]
theorem yU {w0:World} (t d:Int) (H:aB):aH prog (CB w0) 121 [vT t,vI d] H fun r H'=>r=vT t∧H'=H:=by
 refine aH.flat rfl ?_
 refine aSi (N:=8) (rs:=[.cell 4 78]) Tryz.func121 ?_
 rintro e he ⟨g0,g1,-⟩
 simp only[go_sem,he,g0,g1,List.replicate]
 exact⟨_,rfl⟩
theorem aRE {w0:World} (t:Int) (ht:InY t) (H:aB):aH prog (CB w0) 122 [vT t,vI 9223372036854775807] H fun r H'=>r=.agg [vI (t+9223372036),vI 854775807]∧H'=H:=by
 refine aH.flat rfl ?_
 refine aSi (N:=32) (rs:=[.cell 4 78]) Tryz.func122 ?_
 rintro e he ⟨g0,g1,-⟩
 unfold InY at ht
 have q1:(9223372036854775807:Int).tdiv 1000000000=9223372036:=by decide
 have q2:(9223372036854775807:Int).tmod 1000000000=854775807:=by decide
 have w1:i64.wrap 9223372036=9223372036:=aJ (by omega)
 have w2:i64.wrap 854775807=854775807:=aJ (by omega)
 have w3:i64.wrap (0+854775807)=854775807:=aJ (by omega)
 have w4:i64.wrap (t+9223372036)=t+9223372036:=aJ (by omega)
 simp only[go_sem,he,g0,g1,List.replicate]
 refine bF bI (by kernel_rfl) ?_
 simp only[go_sem,he,g0,g1,List.replicate,q1,q2,w1,w2,w3,w4,dL (P:=prog) (s:=169) (d:=2) Tryz.underlying169 Tryz.underlying2]
 exact⟨_,rfl⟩
theorem rJ {w0:World} (a x b y:Int) (H:aB):aH prog (CB w0) 158 [.agg [vI a,vI x],.agg [vI b,vI y]] H fun r H'=>r=vB (decide (a<b)||(decide (a=b)&&decide (x<y)))∧H'=H:=by
 refine aH.flat rfl ?_
 refine aSi (N:=24) (rs:=[.tmp 4]) Tryz.func158 ?_
 rintro e he ⟨g0,g1,-⟩
 by_cases h:a<b
 ·have d:=dcT h
  simp only[go_sem,he,g0,g1,d,Bool.true_or]
  exact⟨_,rfl⟩
 ·have d:=dcF h
  by_cases h2:a=b
  ·have d2:=dcT h2
   simp only[go_sem,he,g0,g1,d,d2,Bool.false_or,Bool.true_and]
   exact⟨_,rfl⟩
  ·have d2:=dcF h2
   simp only[go_sem,he,g0,g1,d,d2,Bool.false_or,Bool.false_and]
   exact⟨_,rfl⟩
theorem aEN {w0:World} (a x b y:Int) (H:aB):aH prog (CB w0) 157 [.agg [vI a,vI x],.agg [vI b,vI y]] H fun r H'=>r=vB (decide (b<a)||(decide (b=a)&&decide (y<x)))∧H'=H:=by
 refine aH.flat rfl ?_
 refine aSi (N:=8) (rs:=[.tmp 4]) Tryz.func157 ?_
 rintro e he ⟨g0,g1,-⟩
 simp only[go_sem,he,g0,g1]
 refine aSh (rJ _ _ _ _ _) ?_
 simp only[go_sem,he,aA]
 exact⟨_,rfl⟩
theorem aLE {w0:World} (a x b y:Int) (H:aB):aH prog (CB w0) 205 [.agg [vI a,vI x],.agg [vI b,vI y]] H fun r H'=>r=vB (decide (a=b)&&decide (x=y))∧H'=H:=by
 refine aH.flat rfl ?_
 refine aSi (N:=8) (rs:=[.tmp 4]) Tryz.func205 ?_
 rintro e he ⟨g0,g1,-⟩
 simp only[go_sem,he,g0,g1]
 exact⟨_,rfl⟩
theorem gX {w0:World} (t:Int) (H:aB):aH prog (CB w0) 129 [vT t] H fun r H'=>r=.agg []∧H'=H:=by
 refine aH.flat rfl ?_
 refine aSi (N:=4) (rs:=[.cell 2 174]) Tryz.func129 ?_
 rintro e he ⟨g0,-⟩
 simp only[go_sem,he,g0,List.replicate]
 exact⟨_,rfl⟩
theorem aHh {w0:World} (t:Int) (H:aB):aH prog (CB w0) 180 [vT t] H fun r H'=>r=vI 0∧H'=H:=by
 refine aH.flat rfl ?_
 refine aSi (N:=5) (rs:=[.tmp 2]) Tryz.func180 ?_
 rintro e he ⟨g0,-⟩
 have w0:i64.wrap 0=0:=rfl
 simp only[go_sem,he,g0,w0,dL (P:=prog) (s:=2) (d:=3) Tryz.underlying2 Tryz.underlying3]
 exact⟨_,rfl⟩
end F
namespace FL
open Go Ieee
theorem aEO (neg:Bool) (n drop:Nat):Toward.down.cut neg n drop=n/2 ^ drop+(neg&&n%2 ^ drop != 0).toNat:=by
 unfold Toward.cut
 simp only[Nat.shiftLeft_eq,Nat.one_mul]
 rcases Nat.le_total drop (n.log2+2) with h|h
 ·rw[Nat.min_eq_left h]
 ·rw[Nat.min_eq_right h]
  have h1:n<2 ^ (n.log2+1):=Nat.lt_log2_self
  have h2:2 ^ (n.log2+1)≤2 ^ (n.log2+2):=Nat.pow_le_pow_right (by omega) (by omega)
  have h3:2 ^ (n.log2+2)≤2 ^ drop:=Nat.pow_le_pow_right (by omega) h
  rw[Nat.div_eq_of_lt (by omega),Nat.mod_eq_of_lt (by omega),Nat.div_eq_of_lt (by omega),Nat.mod_eq_of_lt (by omega)]
theorem aEP (neg:Bool) (n drop:Nat) (h:drop≤n.log2+2):∃c,(c=0∨c=1)∧Toward.even.cut neg n drop=n/2 ^ drop+c∧(n%2 ^ drop=0→c=0):=by
 unfold Toward.cut
 simp only[Nat.shiftLeft_eq,Nat.one_mul]
 rw[Nat.min_eq_left h]
 refine⟨_,?_,rfl,fun h0=>?_⟩
 ·cases (decide (2 ^ drop<2*(n%2 ^ drop))||2 ^ drop==2*(n%2 ^ drop)&&n/2 ^ drop%2==1)<;>simp
 ·rw[h0]
  have:0<2 ^ drop:=Nat.two_pow_pos _
  have e1:(2 ^ drop==0)=false:=by simp
  simp[e1]
theorem xI {n k:Nat} (h0:n≠0) (h:n<2 ^ (k+1)):n.log2≤k:=by
 have:=(Nat.log2_lt h0).2 h;omega
theorem aBX {n k:Nat} (h1:2 ^ k≤n) (h2:n<2 ^ (k+1)):n.log2=k:=by
 have h0:n≠0:=by have:=Nat.two_pow_pos k;omega
 have:=xI h0 h2
 have h3:¬n.log2<k:=fun h=>by
  have:=(Nat.log2_lt h0).1 h;omega
 omega
def sig (n:Nat):Nat:=n*2 ^ (52-n.log2)
theorem sZ {n:Nat} (h0:0<n) (h:n<2 ^ 53):n.log2≤52∧2 ^ 52≤sig n∧sig n<2 ^ 53∧(sig n).log2=52:=by
 have hl:=xI (n:=n) (k:=52) (by omega) h
 have h1:2 ^ n.log2≤n:=Nat.log2_self_le (by omega)
 have h2:n<2 ^ (n.log2+1):=Nat.lt_log2_self
 have e1:2 ^ n.log2*2 ^ (52-n.log2)=2 ^ 52:=by rw[←Nat.pow_add];congr 1;omega
 have e2:2 ^ (n.log2+1)*2 ^ (52-n.log2)=2 ^ 53:=by rw[←Nat.pow_add];congr 1;omega
 have a:2 ^ 52≤sig n:=by unfold sig;rw[←e1];exact Nat.mul_le_mul_right _ h1
 have b:sig n<2 ^ 53:=by unfold sig;rw[←e2];exact Nat.mul_lt_mul_of_pos_right h2 (Nat.two_pow_pos _)
 exact⟨hl,a,b,aBX a b⟩
theorem zS:double.binade=2 ^ 52:=rfl
theorem aIl:double.infRung=2047*2 ^ 52:=rfl
theorem aRF:double.signWeight=2 ^ 63:=rfl
theorem aLF:double.leastPlace=-1074:=by rfl
theorem wH (neg:Bool) {e m:Nat} (he:e<2000) (hm:2 ^ 52≤m) (hm2:m<2 ^ 53):double.read (double.word neg (e*2 ^ 52+m))=.number neg m ((e:Int)-1074):=by
 have hw:double.word neg (e*2 ^ 52+m)=(if neg then 2 ^ 63 else 0)+(e*2 ^ 52+m):=by
  unfold Format.word;rw[aRF];cases neg<;>simp
 have hb:e*2 ^ 52+m<2 ^ 63:=by
  have:e*2 ^ 52≤1999*2 ^ 52:=Nat.mul_le_mul_right _ (by omega)
  omega
 unfold Format.read
 rw[hw,aRF,zS,aIl,aLF]
 have e1:((if neg then 2 ^ 63 else 0)+(e*2 ^ 52+m))%2 ^ 63=e*2 ^ 52+m:=by
  cases neg<;>simp<;>omega
 have e2:(((if neg then 2 ^ 63 else 0)+(e*2 ^ 52+m))/2 ^ 63%2==1)=neg:=by
  cases neg
  ·have:(0+(e*2 ^ 52+m))/2 ^ 63=0:=Nat.div_eq_of_lt (by omega)
   have this':(e*2 ^ 52+m)/2 ^ 63=0:=Nat.div_eq_of_lt hb
   simp only[Bool.false_eq_true,if_false,Nat.zero_add,this']
   rfl
  ·have:(2 ^ 63+(e*2 ^ 52+m))/2 ^ 63=1:=by omega
   simp only[if_true,this]
   rfl
 simp only[e1,e2]
 have e3:¬e*2 ^ 52+m<2 ^ 52:=by omega
 have e4:e*2 ^ 52+m<2047*2 ^ 52:=by omega
 have e5:(e*2 ^ 52+m)/2 ^ 52=e+1:=by omega
 have e6:(e*2 ^ 52+m)%2 ^ 52=m-2 ^ 52:=by omega
 have e7:2 ^ 52+(m-2 ^ 52)=m:=by omega
 have e8:(-1074:Int)+((e+1-1:Nat):Int)=(e:Int)-1074:=by omega
 rw[if_neg e3,if_pos e4,e5,e6,e7,e8]
theorem aFA (neg:Bool) {n:Nat} (h0:0<n) (h:n<2 ^ 53):double.nearest neg n 0=double.word neg ((n.log2+1022)*2 ^ 52+sig n):=by
 obtain⟨hl,h1,h2,h3⟩:=sZ h0 h
 unfold Format.nearest
 rw[if_neg (by omega),aLF]
 have e0:(double.fractionBits:Int)=52:=rfl
 rw[e0]
 have e1:max ((0:Int)+n.log2-52) (-1074)=(n.log2:Int)-52:=by omega
 simp only[e1]
 have e2:((0:Int)-((n.log2:Int)-52)).toNat=52-n.log2:=by omega
 have e3:(((n.log2:Int)-52)-0).toNat=0:=by omega
 have e4:(((n.log2:Int)-52) - -1074).toNat=n.log2+1022:=by omega
 rw[e2,e3,e4,zS,aIl]
 obtain⟨c,_,hc,hc0⟩:=aEP neg (n <<< (52-n.log2)) 0 (by omega)
 rw[hc,hc0 (by simp[Nat.mod_one]),Nat.pow_zero,Nat.div_one,Nat.add_zero,Nat.shiftLeft_eq]
 show double.word neg (min ((n.log2+1022)*2 ^ 52+sig n) _)=_
 rw[Nat.min_eq_left (by omega)]
theorem uI (neg:Bool) {n:Nat} (h0:0<n) (h:n<2 ^ 53):double.read (double.nearest neg n 0)=.number neg (sig n) ((n.log2:Int)-52):=by
 obtain⟨hl,h1,h2,h3⟩:=sZ h0 h
 have e1:(((n.log2+1022:Nat):Int))-1074=(n.log2:Int)-52:=by omega
 rw[aFA neg h0 h,wH neg (by omega) h1 h2,e1]
theorem aEQ {neg:Bool} {K t:Nat} (e:Nat) (he:e<1999) (ht:1≤t) (het:(e:Int)-1074=-(t:Int)) (h1:2 ^ 52≤K) (h2:K≤2 ^ 53) :
  (double.read (double.word neg (e*2 ^ 52+K))).integral .down=.number neg (K/2 ^ t+(neg&&K%2 ^ t != 0).toNat) 0:=by
 rcases Nat.lt_or_ge K (2 ^ 53) with h3|h3
 ·rw[wH neg (by omega) h1 h3,het]
  show Datum.number neg (Toward.down.cut neg (K <<< (-(t:Int)).toNat) (- -(t:Int)).toNat) 0=_
  have a1:(-(t:Int)).toNat=0:=by omega
  have a2:(- -(t:Int)).toNat=t:=by omega
  rw[a1,a2,aEO]
  rfl
 ·have hK:K=2 ^ 53:=Nat.le_antisymm h2 h3
  subst hK
  have e1:e*2 ^ 52+2 ^ 53=(e+1)*2 ^ 52+2 ^ 52:=by omega
  have e2:(((e+1:Nat)):Int)-1074=-((t-1:Nat):Int):=by omega
  rw[e1,wH neg (by omega) (Nat.le_refl _) (by omega),e2]
  show Datum.number neg (Toward.down.cut neg (2 ^ 52 <<< (-((t-1:Nat):Int)).toNat) (- -((t-1:Nat):Int)).toNat) 0=_
  have a1:(-((t-1:Nat):Int)).toNat=0:=by omega
  have a2:(- -((t-1:Nat):Int)).toNat=t-1:=by omega
  rw[a1,a2,aEO]
  have b1:2 ^ t=2 ^ (t-1)*2:=by rw[←Nat.pow_succ];congr 1;omega
  have b2:2 ^ 53/2 ^ t=2 ^ 52/2 ^ (t-1):=by
   rw[b1,show (2:Nat) ^ 53=2 ^ 52*2 from rfl];exact Nat.mul_div_mul_right _ _ (by omega)
  have b3:2 ^ 53%2 ^ t=2 ^ 52%2 ^ (t-1)*2:=by
   rw[b1,show (2:Nat) ^ 53=2 ^ 52*2 from rfl];exact Nat.mul_mod_mul_right _ _ _
  rw[b2,b3]
  have b4:(2 ^ 52%2 ^ (t-1)*2 != 0)=(2 ^ 52%2 ^ (t-1) != 0):=by
   rw[Bool.eq_iff_iff,bne_iff_ne,bne_iff_ne];omega
  rw[b4]
  rfl
theorem aC1 (neg:Bool) {a b:Nat} (a0:0<a) (a1:a<2 ^ 40) (b0:0<b) (b1:b<2 ^ 40) :
  ∃q,double.div (double.nearest neg a 0) (double.nearest false b 0)=some q∧(double.read q).integral .down=.number neg (a/b+(neg&&a%b != 0).toNat) 0∧(∀s f,double.read q≠.nan s f):=by
 obtain⟨la1,sa1,sa2,sa3⟩:=sZ a0 (by omega)
 obtain⟨lb1,sb1,sb2,sb3⟩:=sZ b0 (by omega)
 have la40:=xI (n:=a) (k:=39) (by omega) a1
 have lb40:=xI (n:=b) (k:=39) (by omega) b1
 unfold Format.div
 rw[uI neg a0 (by omega),uI false b0 (by omega)]
 have hfb:double.fractionBits+2=54:=rfl
 rw[hfb]
 unfold Datum.quotient
 simp only
 rw[if_neg (by omega),sa3,sb3]
 have hm:54+52-52=54:=rfl
 simp only[hm,Nat.shiftLeft_eq,Option.map_some]
 generalize hQ:sig a*2 ^ 54/sig b=Q
 generalize hst:(sig a*2 ^ 54%sig b != 0).toNat=st
 have hst1:st≤1:=by rw[←hst];cases (sig a*2 ^ 54%sig b != 0)<;>simp
 have hsb0:0<sig b:=by omega
 have hQ1:2 ^ 53≤Q:=by
  rw[←hQ]
  refine (Nat.le_div_iff_mul_le hsb0).2 ?_
  have x1:2 ^ 53*sig b≤2 ^ 53*2 ^ 53:=Nat.mul_le_mul_left _ (Nat.le_of_lt sb2)
  have x2:2 ^ 52*2 ^ 54≤sig a*2 ^ 54:=Nat.mul_le_mul_right _ sa1
  have x3:(2:Nat) ^ 53*2 ^ 53=2 ^ 52*2 ^ 54:=by rw[←Nat.pow_add]
  rw[x3] at x1
  exact Nat.le_trans x1 x2
 have hQ2:Q<2 ^ 55:=by
  rw[←hQ]
  refine (Nat.div_lt_iff_lt_mul hsb0).2 ?_
  have x1:2 ^ 55*2 ^ 52≤2 ^ 55*sig b:=Nat.mul_le_mul_left _ sb1
  have x2:sig a*2 ^ 54<2 ^ 53*2 ^ 54:=Nat.mul_lt_mul_of_pos_right sa2 (Nat.two_pow_pos _)
  have x3:(2:Nat) ^ 53*2 ^ 54=2 ^ 55*2 ^ 52:=by rw[←Nat.pow_add]
  rw[x3] at x2
  exact Nat.lt_of_lt_of_le x2 x1
 obtain⟨d,hd,hlq⟩:∃d,(d=2∨d=3)∧(2*Q+st).log2=52+d:=by
  rcases Nat.lt_or_ge Q (2 ^ 54) with h|h
  ·exact⟨2,.inl rfl,aBX (by omega) (by omega)⟩
  ·exact⟨3,.inr rfl,aBX (by omega) (by omega)⟩
 have hlq2:2 ^ (52+d)≤2*Q+st∧2*Q+st<2 ^ (53+d):=by
  have h1:2 ^ (2*Q+st).log2≤2*Q+st:=Nat.log2_self_le (by omega)
  have h2:2*Q+st<2 ^ ((2*Q+st).log2+1):=Nat.lt_log2_self
  rw[hlq] at h1 h2
  rw[show 53+d=52+d+1 by omega]
  exact⟨h1,h2⟩
 obtain⟨t,ht⟩:∃t:Nat,t=55-d+b.log2-a.log2:=⟨_,rfl⟩
 have ht1:12≤t:=by omega
 have hW:(2*Q+st)/2 ^ d=a*2 ^ t/b:=by
  have e1:(2*Q+st)/2 ^ d=Q/2 ^ (d-1):=by
   rw[show 2 ^ d=2*2 ^ (d-1) by rw[←Nat.pow_succ'];congr 1;omega,←Nat.div_div_eq_div_mul]
   congr 1;omega
  rw[e1,←hQ,Nat.div_div_eq_div_mul]
  have e2:sig a*2 ^ 54=a*2 ^ t*2 ^ (51-b.log2+d):=by
   unfold sig
   rw[Nat.mul_assoc,Nat.mul_assoc,←Nat.pow_add,←Nat.pow_add]
   congr 2;omega
  have e3:sig b*2 ^ (d-1)=b*2 ^ (51-b.log2+d):=by
   unfold sig
   rw[Nat.mul_assoc,←Nat.pow_add]
   congr 2;omega
  rw[e2,e3]
  exact Nat.mul_div_mul_right _ _ (Nat.two_pow_pos _)
 have hex:a*2 ^ t%b=0→(2*Q+st)%2 ^ d=0:=by
  intro h
  have e2:sig a*2 ^ 54=a*2 ^ t*2 ^ (51-b.log2+d):=by
   unfold sig
   rw[Nat.mul_assoc,Nat.mul_assoc,←Nat.pow_add,←Nat.pow_add]
   congr 2;omega
  have e3:sig b*2 ^ (d-1)=b*2 ^ (51-b.log2+d):=by
   unfold sig
   rw[Nat.mul_assoc,←Nat.pow_add]
   congr 2;omega
  obtain⟨w,hw⟩:=Nat.dvd_of_mod_eq_zero h
  have e4:sig a*2 ^ 54=sig b*(2 ^ (d-1)*w):=by
   rw[e2,hw,←Nat.mul_assoc,e3,Nat.mul_assoc,Nat.mul_assoc,Nat.mul_comm w]
  have e5:st=0:=by rw[←hst,e4,Nat.mul_mod_right];rfl
  have e6:Q=2 ^ (d-1)*w:=by rw[←hQ,e4];exact Nat.mul_div_cancel_left _ hsb0
  rw[e5,e6,Nat.add_zero,←Nat.mul_assoc,show 2*2 ^ (d-1)=2 ^ d by rw[←Nat.pow_succ'];congr 1;omega]
  exact Nat.mul_mod_right _ _
 obtain⟨c,hc,hcut,hc0⟩:=aEP neg (2*Q+st) d (by rw[hlq];omega)
 obtain⟨e,hee⟩:∃e:Nat,(e:Int)=1074-t:=⟨1074-t,by omega⟩
 have hq:double.write (.number (neg ^^ false) (2*Q+st) ((a.log2:Int)-52-((b.log2:Int)-52)-(54:Nat)-1))=double.word neg (e*2 ^ 52+(a*2 ^ t/b+c)):=by
  show double.nearest (neg ^^ false) _ _=_
  rw[Bool.xor_false]
  unfold Format.nearest
  rw[if_neg (by omega),aLF,hlq]
  have e0:(double.fractionBits:Int)=52:=rfl
  have e1:max ((a.log2:Int)-52-((b.log2:Int)-52)-(54:Nat)-1+((52+d:Nat):Int)-(double.fractionBits:Int)) (-1074)=-(t:Int):=by rw[e0];omega
  simp only[e1]
  have e2:((a.log2:Int)-52-((b.log2:Int)-52)-(54:Nat)-1 - -(t:Int)).toNat=0:=by omega
  have e3:(-(t:Int)-((a.log2:Int)-52-((b.log2:Int)-52)-(54:Nat)-1)).toNat=d:=by omega
  have e4:(-(t:Int) - -1074).toNat=e:=by omega
  rw[e2,e3,e4,zS,aIl,Nat.shiftLeft_zero,hcut,hW]
  rw[Nat.min_eq_left]
  have hk:a*2 ^ t/b+c≤2 ^ 53:=by
   rw[←hW]
   have:(2*Q+st)/2 ^ d<2 ^ 53:=(Nat.div_lt_iff_lt_mul (Nat.two_pow_pos _)).2 (by rw[←Nat.pow_add];exact hlq2.2)
   omega
  omega
 have hk1:2 ^ 52≤a*2 ^ t/b+c:=by
  rw[←hW]
  have:2 ^ 52≤(2*Q+st)/2 ^ d:=(Nat.le_div_iff_mul_le (Nat.two_pow_pos _)).2 (by rw[←Nat.pow_add];exact hlq2.1)
  omega
 have hk2:a*2 ^ t/b+c≤2 ^ 53:=by
  rw[←hW]
  have:(2*Q+st)/2 ^ d<2 ^ 53:=(Nat.div_lt_iff_lt_mul (Nat.two_pow_pos _)).2 (by rw[←Nat.pow_add];exact hlq2.2)
  omega
 refine⟨_,rfl,?_,?_⟩
 ·rw[hq,aEQ (t:=t) e (by omega) (by omega) (by omega) hk1 hk2]
  have h2t:b<2 ^ t:=by
   have h1:b<2 ^ (b.log2+1):=Nat.lt_log2_self
   exact Nat.lt_of_lt_of_le h1 (Nat.pow_le_pow_right (by omega) (by omega))
  have hab:=Nat.div_add_mod a b
  have hr:=Nat.mod_lt a b0
  generalize hN:a/b=N at *
  generalize hR:a%b=R at *
  have hp:0<2 ^ t:=Nat.two_pow_pos _
  have m1:a*2 ^ t=b*(N*2 ^ t)+R*2 ^ t:=by rw[←hab,Nat.add_mul,Nat.mul_assoc]
  have w1:a*2 ^ t/b=N*2 ^ t+R*2 ^ t/b:=by rw[m1,Nat.mul_add_div b0]
  have w2:R*2 ^ t/b+2≤2 ^ t:=by
   have h1:R*2 ^ t≤(b-1)*2 ^ t:=Nat.mul_le_mul_right _ (by omega)
   have h2:(b-1)*2 ^ t=b*2 ^ t-2 ^ t:=by rw[Nat.sub_mul,Nat.one_mul]
   have h3:b*2 ^ t-2 ^ t≤b*(2 ^ t-2)+(b-1):=by
    rw[Nat.mul_sub]
    have:b*2≤b*2 ^ t:=Nat.mul_le_mul_left _ (by omega)
    omega
   have h4:R*2 ^ t/b≤2 ^ t-2:=by
    refine Nat.le_of_lt_succ ((Nat.div_lt_iff_lt_mul b0).2 ?_)
    have e9:(2 ^ t-2).succ*b=b*(2 ^ t-2)+b:=by rw[Nat.succ_mul,Nat.mul_comm]
    rw[e9]
    omega
   omega
  have k1:(N*2 ^ t+(R*2 ^ t/b+c))/2 ^ t=N:=by
   rw[Nat.mul_comm N,Nat.mul_add_div hp,Nat.div_eq_of_lt (by omega),Nat.add_zero]
  have k2:(N*2 ^ t+(R*2 ^ t/b+c))%2 ^ t=R*2 ^ t/b+c:=by
   rw[Nat.mul_comm N,Nat.mul_add_mod,Nat.mod_eq_of_lt (by omega)]
  rw[w1,Nat.add_assoc,k1,k2]
  have k3:(R*2 ^ t/b+c != 0)=(R != 0):=by
   rw[Bool.eq_iff_iff,bne_iff_ne,bne_iff_ne]
   constructor
   ·intro h e0
    subst e0
    have hz:c=0:=hc0 (hex (by rw[m1,Nat.zero_mul,Nat.add_zero,Nat.mul_mod_right]))
    rw[hz,Nat.zero_mul,Nat.zero_div] at h
    exact h rfl
   ·intro h e0
    have:1≤R*2 ^ t/b:=by
     refine (Nat.le_div_iff_mul_le b0).2 ?_
     have:1*2 ^ t≤R*2 ^ t:=Nat.mul_le_mul_right _ (by omega)
     omega
    omega
  rw[k3]
 ·rw[hq]
  intro s f h
  have:=aEQ (neg:=neg) (t:=t) e (by omega) (show 1≤t by omega) (by omega) hk1 hk2
  rw[h] at this
  cases this
theorem aLG (neg:Bool) {n:Nat} (h:n<2 ^ 53):(double.read (double.nearest neg n 0)).toInt .zero=some (if neg then -(n:Int) else (n:Int)):=by
 rcases Nat.eq_zero_or_pos n with h0|h0
 ·subst h0
  cases neg<;>kernel_rfl
 ·obtain⟨hl,h1,h2,h3⟩:=sZ h0 h
  rw[uI neg h0 h]
  unfold Datum.toInt Datum.integral
  simp only
  have a1:((n.log2:Int)-52).toNat=0:=by omega
  have a2:(-((n.log2:Int)-52)).toNat=52-n.log2:=by omega
  rw[a1,a2]
  have hc:Toward.zero.cut neg (sig n <<< 0) (52-n.log2)=n:=by
   unfold Toward.cut
   simp only[Nat.shiftLeft_eq,Nat.one_mul,Nat.pow_zero,Nat.mul_one,Bool.toNat_false,Nat.add_zero]
   rw[h3,Nat.min_eq_left (by omega)]
   unfold sig
   exact Nat.mul_div_cancel _ (Nat.two_pow_pos _)
  rw[hc]
  unfold Ieee.signed
  simp
def flF (x:Nat):Option Nat:=match FloatKind.f64.decode x with
 |.nan _ _=>none
 |d=>some (FloatKind.f64.encode (d.integral .down))
theorem divF_ok {a b:Int} (ha:-1000000≤a∧a≤1000000) (hb:1≤b∧b≤1000000):∃q f,floatBits .quo .f64 (floatOfInt .f64 a) (floatOfInt .f64 b)=some q∧flF q=some f∧floatToIntVal .f64 f .i64=some (a/b):=by
 obtain⟨n,rfl⟩:∃n:Nat,b=n:=⟨b.toNat,by omega⟩
 have hB:floatOfInt .f64 (n:Int)=double.nearest false n 0:=by
  show double.nearest (decide ((n:Int)<0)) (n:Int).natAbs 0=_
  rw[dcF (by omega)];rfl
 have fin:∀(neg:Bool) (R:Nat),R<2 ^ 53→floatToIntVal .f64 (FloatKind.f64.encode (.number neg R 0)) .i64=some (if neg then -(R:Int) else (R:Int)):=by
  intro neg R hR
  unfold floatToIntVal
  have:=aLG neg hR
  show (match (double.read (double.nearest neg R 0)).toInt .zero with|some n=>if IntKind.min .i64≤n∧n≤IntKind.max .i64 then some n else none|none=>none)=_
  rw[this]
  simp only
  have m1:IntKind.min .i64=-9223372036854775808:=rfl
  have m2:IntKind.max .i64=9223372036854775807:=rfl
  rw[m1,m2,if_pos]
  cases neg<;>simp<;>omega
 rcases Int.lt_trichotomy a 0 with h|h|h
 ·obtain⟨m,rfl⟩:∃m:Nat,a=-(m:Int):=⟨(-a).toNat,by omega⟩
  have hA:floatOfInt .f64 (-(m:Int))=double.nearest true m 0:=by
   show double.nearest (decide (-(m:Int)<0)) (-(m:Int)).natAbs 0=_
   rw[dcT (by omega),Int.natAbs_neg];rfl
  obtain⟨q,h1,h2,h3⟩:=aC1 true (a:=m) (b:=n) (by omega) (by omega) (by omega) (by omega)
  refine⟨q,FloatKind.f64.encode (.number true (m/n+(m%n != 0).toNat) 0),by rw[hA,hB];exact h1,?_,?_⟩
  ·unfold flF
   have hd:FloatKind.f64.decode q=double.read q:=rfl
   rw[hd]
   have h2':(double.read q).integral .down=.number true (m/n+(m%n != 0).toNat) 0:=h2
   generalize double.read q=D at *
   cases D with
   |nan s f=>exact absurd rfl (h3 s f)
   |number s f p=>simp only;rw[h2']
   |infinity s=>simp only;rw[h2']
  ·have hdm:=Nat.div_add_mod m n
   have hml:=Nat.mod_lt m (show 0<n by omega)
   have hdl:m/n≤m:=Nat.div_le_self _ _
   rw[fin true _ (by cases (m%n != 0)<;>simp<;>omega)]
   simp only[if_true]
   congr 1
   have hdmI:(n:Int)*((m/n:Nat):Int)+((m%n:Nat):Int)=m:=by exact_mod_cast hdm
   have hn0:(n:Int)≠0:=by omega
   generalize ((m/n:Nat))=D at *
   generalize ((m%n:Nat))=E at *
   by_cases hE:E=0
   ·subst hE
    rw[show (-(m:Int))=(n:Int)*(-(D:Int)) by rw[Int.mul_neg];omega,Int.mul_ediv_cancel_left _ hn0]
    simp
   ·have e1:(E != 0)=true:=by simp[hE]
    rw[e1]
    have e2:-(m:Int)=((n:Int)-E)+n*(-(D:Int)-1):=by rw[Int.mul_sub,Int.mul_neg];omega
    rw[e2,Int.add_mul_ediv_left _ _ hn0,Int.ediv_eq_zero_of_lt (by omega) (by omega)]
    simp only[Bool.toNat_true];omega
 ·subst h
  rw[hB,Int.zero_ediv]
  obtain⟨lb1,sb1,sb2,sb3⟩:=sZ (n:=n) (by omega) (by omega)
  refine⟨0,0,?_,by kernel_rfl,by kernel_rfl⟩
  show double.div (double.nearest false 0 0) (double.nearest false n 0)=some 0
  unfold Format.div
  rw[uI (n:=n) false (by omega) (by omega)]
  have h0:double.read (double.nearest false 0 0)=.number false 0 (-1074):=by kernel_rfl
  rw[h0]
  unfold Datum.quotient
  simp only
  rw[if_neg (by omega)]
  simp only[Nat.shiftLeft_eq,Nat.zero_mul,Nat.zero_div,Nat.mul_zero,Nat.zero_mod,Option.map_some]
  rfl
 ·obtain⟨m,rfl⟩:∃m:Nat,a=(m:Int):=⟨a.toNat,by omega⟩
  have hA:floatOfInt .f64 (m:Int)=double.nearest false m 0:=by
   show double.nearest (decide ((m:Int)<0)) (m:Int).natAbs 0=_
   rw[dcF (by omega)];rfl
  obtain⟨q,h1,h2,h3⟩:=aC1 false (a:=m) (b:=n) (by omega) (by omega) (by omega) (by omega)
  have h2':(double.read q).integral .down=.number false (m/n) 0:=by rw[h2];rfl
  refine⟨q,FloatKind.f64.encode (.number false (m/n) 0),by rw[hA,hB];exact h1,?_,?_⟩
  ·unfold flF
   have hd:FloatKind.f64.decode q=double.read q:=rfl
   rw[hd]
   generalize double.read q=D at *
   cases D with
   |nan s f=>exact absurd rfl (h3 s f)
   |number s f p=>simp only;rw[h2']
   |infinity s=>simp only;rw[h2']
  ·have hdl:m/n≤m:=Nat.div_le_self _ _
   rw[fin false _ (by omega)]
   simp
end FL
namespace F
open Go.RowKit Go.Proofs.YtnoppodfngkoeaaGreat.AL
theorem aBj {y:Int} (h:1≤y):365*(y-1)≤aC y∧aC y≤366*(y-1):=by unfold aC;omega
theorem pV {y mo d h mi s:Int} (hm:1≤mo∧mo≤12):eL y mo d h mi s=K.bR y mo d*86400+h*3600+mi*60+s:=by
 unfold eL K.bR
 have e1:(mo-1)/12=0:=by omega
 have e2:(mo-1)%12=mo-1:=by omega
 rw[e1,e2,Int.add_zero]
 omega
theorem aBk {w0:World} (t n:Int) (ht:InY t) (hn:-10000≤n∧n≤10000) (H:aB):aH prog (CB w0) 179 [vT t,vI 0,vI 0,vI n] H fun r H'=>r=vT (t+n*86400)∧H'=H:=by
 refine aH.flat rfl ?_
 refine aSi (N:=43) (rs:=[.cell 8 78]) Tryz.func179 ?_
 rintro e he ⟨g0,g1,g2,g3,-⟩
 have ht':=ht
 unfold InY at ht'
 have hd:=K.gO (n:=t/86400) (by omega)
 have hy:=eW (n:=t/86400) (by omega)
 have hb:=aBj hy.2.1
 have md:=bP (aK (t/86400)) (aL (t/86400)).1
 have w1:i64.wrap (aK (t/86400)+0)=aK (t/86400):=by rw[aJ (by omega)];omega
 have w2:i64.wrap ((aL (t/86400)).1+0)=(aL (t/86400)).1:=by rw[aJ (by omega)];omega
 have w3:i64.wrap ((aL (t/86400)).2+n)=(aL (t/86400)).2+n:=aJ (by omega)
 have w4:i64.wrap 0=0:=rfl
 have w5:i64.wrap (aK (t/86400))=aK (t/86400):=aJ (by omega)
 have w6:i64.wrap (aL (t/86400)).1=(aL (t/86400)).1:=aJ (by omega)
 simp only[go_sem,he,g0,g1,g2,g3,List.replicate]
 refine aSh (mI t ht _) ?_
 simp only[go_sem,he,g0,g1,g2,g3,aA]
 refine aSh (lZ t ht _) ?_
 simp only[go_sem,he,g0,g1,g2,g3,aA,w1,w2,w3,w4,w5,w6,dL (P:=prog) (s:=3) (d:=115) Tryz.underlying3 Tryz.underlying115,dL (P:=prog) (s:=2) (d:=3) Tryz.underlying2 Tryz.underlying3,List.replicate]
 refine aSh (gZ (aK (t/86400)) (aL (t/86400)).1 ((aL (t/86400)).2+n) (t%86400/3600) (t%86400/60%60) (t%86400%60) 0 ⟨by omega,by omega,by omega,by omega,by omega,by omega,by omega⟩ (.agg []) rfl _) ?_
 have e:eL (aK (t/86400)) (aL (t/86400)).1 ((aL (t/86400)).2+n) (t%86400/3600) (t%86400/60%60) (t%86400%60)=t+n*86400:=by
  rw[pV ⟨hd.1,hd.2.1⟩]
  have h5:=hd.2.2.2.2
  unfold K.bR at h5 ⊢
  omega
 rw[e]
 simp only[go_sem,he,aA]
 exact⟨_,rfl⟩
theorem aER {w0:World} (m y:Int) (hm:1≤m∧m≤12) (hy:1≤y∧y≤10500) (H:aB):aH prog (CB w0) 183 [vI m,vI y] H fun r H'=>r=vI (aO y m)∧H'=H:=by
 refine aH.plain1 rfl ?_
 refine aSi (N:=11) (rs:=[.tmp 4]) Tryz.func183 ?_
 rintro e he ⟨g0,g1,-⟩
 have w1:i64.wrap (m+1)=m+1:=aJ (by omega)
 have hb:=dG hy.1
 have hbm:=dO y
 have md:=bP y m
 have ed:eL y (m+1) 0 0 0 0=K.bR y m (aO y m)*86400:=by
  rcases Int.lt_or_le m 12 with h|h
  ·rw[pV ⟨by omega,by omega⟩,←K.aBc ⟨hm.1,h⟩,Int.sub_self];omega
  ·have:m=12:=by omega
   subst this
   rw[←K.wF,Int.sub_self]
   unfold eL K.bR
   have e1:((12:Int)+1-1)/12=1:=by decide
   have e2:(((12:Int)+1-1)%12).toNat=0:=by decide
   have e3:((1:Int)-1).toNat=0:=by decide
   rw[e1,e2,e3]
   omega
 have hn:=K.mB (y:=y) (m:=m) (d:=aO y m) hm ⟨by omega,by omega⟩
 have hnx:=dQ y
 have hin:InY (K.bR y m (aO y m)*86400):=by
  unfold InY
  have:=aBj (y:=y+1) (by omega)
  omega
 have ec:aL (K.bR y m (aO y m)*86400/86400)=(m,aO y m):=by
  rw[Int.mul_ediv_cancel _ (by omega)]
  exact (K.aIb hy.1 hm ⟨by omega,by omega⟩).2
 simp only[go_sem,he,g0,g1]
 refine aSh (aA9 _) ?_
 simp only[go_sem,he,g0,g1,aA,w1]
 refine aSh (gZ y (m+1) 0 0 0 0 0 ⟨by omega,by omega,by omega,by omega,by omega,by omega,by omega⟩ (.agg []) rfl _) ?_
 simp only[go_sem,he,aA]
 rw[ed]
 refine aSh (aEM _ hin _) ?_
 simp only[go_sem,he,aA,ec]
 exact⟨[],(List.append_nil _).symm⟩
theorem yV {w0:World} (s:List UInt8) (H:aB):aH prog (CB w0) 119 [vS s] H fun r H'=>r=aRC∧H'=H:=by
 refine aH.drop (R:=fun r=>∃y,r=.ifc 205 y) ?_ ?_
 ·refine aSi (N:=7) (rs:=[.tmp 2]) Tryz.func119 ?_
  rintro e he ⟨g0,-⟩
  simp only[go_sem,he,g0]
  exact⟨⟨_,rfl⟩,_,rfl⟩
 ·rintro r ⟨y,rfl⟩ m m0 w v ⟨u,h1,_⟩
  exact⟨u,h1,trivial⟩
theorem aPo {w0:World} (l:List Int) (hl:l.length≤1000000) (i:Int) (hi:-1000≤i∧i≤1000000) (x:AV) (H:aB) (hx:aQ H x l):aH prog (CB w0) 178 [x,vI i] H fun r H'=>r=(if 0≤(if i<0 then i+l.length else i)∧(if i<0 then i+l.length else i)<l.length then .tup [vI (l.getD (if i<0 then i+l.length else i).toNat 0),.val .nilIface] else .tup [vI 0,aRC])∧H'=H:=by
 refine aSi (N:=25) (rs:=[.tmp 4,.tmp 5]) Tryz.func178 ?_
 rintro e he ⟨g0,g1,-⟩
 have hlen:=hx.len 3
 have key:∀j:Int,-1000≤j→(∀e:Env,len e=25→AL.get e 0=x→AL.get e 1=vI j→True):=fun _ _ _ _ _ _=>trivial
 simp only[go_sem,he,g0,g1,hlen]
 refine bC (fun e h=>h=H∧len e=25∧AL.get e 0=x∧AL.get e 1=vI (if i<0 then i+l.length else i)) (fun hc=>?_) (fun hc=>?_) ?_
 ·have hc:=odT hc
  have w1:i64.wrap (i+(l.length:Int))=i+l.length:=aJ (by omega)
  simp only[go_sem,he,g0,g1,hlen,w1]
  rw[if_pos hc]
 ·have hc:=odF hc
  simp only[go_sem,he,g0,g1,hlen]
  rw[if_neg hc]
 ·rintro e h ⟨rfl,he,g0,g1⟩
  generalize (if i<0 then i+(l.length:Int) else i)=j at *
  by_cases h1:j<0
  ·have d1:=dcT h1
   simp only[go_sem,he,g0,g1,hlen,d1]
   refine aSh (yV _ _) ?_
   simp only[go_sem,he,aA]
   rw[if_neg (by omega)]
  ·have d1:=dcF h1
   by_cases h2:(l.length:Int)≤j
   ·have d2:=dcT h2
    simp only[go_sem,he,g0,g1,hlen,d1,d2]
    refine aSh (yV _ _) ?_
    simp only[go_sem,he,aA]
    rw[if_neg (by omega)]
   ·have d2:=dcF h2
    obtain⟨own,o,off,cs,rfl,hcs,hci⟩:=hx.get (show j.toNat<l.length by omega)
    simp only[go_sem,he,g0,g1,hlen,d1,d2,hcs,hci]
    refine⟨by omega,?_⟩
    rw[if_pos (by omega)]
def d9 (H:aB) (x:AV) (l:List Int):Prop:=cU H x (l.map fun t=>(t,0))
theorem wI (l:List Int):(l.map fun t=>(t,(0:Int))).length=l.length:=by simp
theorem d9.get {H:aB} {x:AV} {l:List Int} (hx:d9 H x l) {i:Nat} (hi:i<l.length):∃own o off cs,x=.sl own o off l.length 2∧iP H[o]?=some cs∧off+i*2+2≤cs.length∧(cs.drop (off+i*2)).take 2=[vI (l.getD i 0),vI 0]:=by
 obtain⟨own,o,off,cs,h1,h2,h3,h4⟩:=cU.get hx (i:=i) (by rw[wI];exact hi)
 rw[wI] at h1
 refine⟨own,o,off,cs,h1,h2,h3,?_⟩
 rw[h4,List.getD_eq_getElem?_getD,List.getElem?_map,fF hi]
 rfl
theorem d9.len {H:aB} {x:AV} {l:List Int} (hx:d9 H x l) (e:TypeId):lenK (some (.slice e)) x=some (vI l.length):=by
 have:=fN.len hx e
 rwa [wI] at this
theorem d9.one {H:aB} {x:AV} {l:List Int} (hx:d9 H x l):x.one=true:=fN.one hx
theorem d9.more {H:aB} {x:AV} {l:List Int} (hx:d9 H x l) (G:aB):d9 (H++G) x l:=fN.more hx G
theorem aBY {w0:World} (l:List Int) (hl:l.length≤1000000) (t:Int) (x:AV) (H:aB) (hx:d9 H x l):aH prog (CB w0) 181 [x,vT t] H fun r H'=>r=vB (l.contains t)∧H'=H:=by
 refine aH.flat rfl ?_
 refine aSi (N:=17) (rs:=[.tmp 4]) Tryz.func181 ?_
 rintro e he ⟨g0,g1,-⟩
 have hlen:=hx.len 78
 have x1:=hx.one
 simp only[go_sem,he,g0,g1,x1,hlen]
 refine cF l.length (fun k e h=>(∃G,h=H++G)∧len e=17∧AL.get e 3=.ptr H.length 0∧h[H.length]?=some (.own 78 [vI t,vI 0])∧AL.get e 7=x∧AL.get e 8=vI l.length∧∃i:Nat,AL.get e 9=vI i∧i+k=l.length∧∀j,j<i→l.getD j 0≠t) (by kernel_rfl) ?_ ?_
 ·simp only[go_sem,he,g0,g1]
  exact⟨⟨_,rfl⟩,0,rfl,by omega,fun j hj=>by omega⟩
 ·rintro k e h ⟨hG,he,g3,hb,g7,g8,i,g9,hik,hno⟩
  have wi:i64.wrap ((i:Int)+1)=((i+1:Nat):Int):=by rw[aJ (by omega)];rfl
  simp only[go_sem,he,g3,g7,g8,g9]
  refine aF (fun hc=>?_) fun hc=>?_
  ·have hc:=odT hc
   have hi:i<l.length:=by omega
   have hxh:d9 h x l:=by obtain⟨G,rfl⟩:=hG;exact hx.more G
   obtain⟨own,o,off,cs,rfl,hcs,hc1,hc2⟩:=hxh.get hi
   have hb2:(h++[aD.own 78 [vI (l.getD i 0),vI 0]])[H.length]?=some (.own 78 [vI t,vI 0]):=aZ hb
   simp only[go_sem,he,g3,g7,g8,g9,hcs,hc1,hc2,hb2,Int.toNat_natCast,List.replicate]
   refine⟨by omega,aSh (aLE _ _ _ _ _) ?_⟩
   simp only[go_sem,he,g3,g7,g8,g9,aA]
   refine aF (fun hq=>?_) fun hq=>?_
   ·have hq:l.getD i 0=t:=by simpa using hq
    simp only[go_sem,he]
    have:l.contains t=true:=by rw[List.contains_iff_mem,←hq];exact List.mem_of_getElem? (fF hi)
    rw[this]
    exact⟨rfl,cM hG (kL _ _)⟩
   ·have hq:l.getD i 0≠t:=by simpa using hq
    simp only[go_sem,he,g3,g7,g8,g9,wi]
    refine⟨k-1,by omega,cM hG (kL _ _),hb2,i+1,rfl,by omega,fun j hj=>?_⟩
    rcases Nat.lt_or_ge j i with h1|h1
    ·exact hno j h1
    ·have:j=i:=by omega
     subst this;exact hq
  ·have hc:=odF hc
   simp only[go_sem,he]
   have:l.contains t=false:=by
    rw[Bool.eq_false_iff]
    intro hm
    obtain⟨j,hj⟩:=List.getElem?_of_mem (List.contains_iff_mem.1 hm)
    have hlt:=(List.getElem?_eq_some_iff.1 hj).1
    rw[fF hlt] at hj
    exact hno j (by omega) (Option.some.inj hj)
   rw[this]
   exact⟨rfl,hG⟩
open Go Go.RowKit
theorem aDc (x y:Nat) (h:FL.flF x=some y) (w:World):(callFunc 203 #[.float .f64 x]).run prog w=.ok (.value (.float .f64 y)) w:=by
 rw [run_callFunc_extern (e := Extern.MathFloor.toIntegral "math.archFloor" .down) Tryz.func203 (by kernel_rfl) (by kernel_rfl) (by kernel_rfl) (by kernel_rfl)]
 unfold FL.flF at h
 show ((match FloatKind.f64.decode x with
  |.nan s t=>
   if FloatKind.f64.format.quiet t=t then (pure (.float .f64 x):Sem Value) else do
   let kept ← choose (.extern "math.Floor,Ceil,Trunc,RoundToEven.signallingNaN kept" 2)
   pure (.float .f64 (if kept==1 then x else FloatKind.f64.encode (.nan s (FloatKind.f64.format.quiet t))))
  |d=>pure (.float .f64 (FloatKind.f64.encode (d.integral .down)))).run prog w).andThen _=_
 generalize FloatKind.f64.decode x=d at *
 cases d with
 |nan s t=>cases h
 |number s m p=>cases h;rfl
 |infinity s=>cases h;rfl
theorem aES (x y:Nat) (h:FL.flF x=some y) (w:World):Calls prog 173 #[.float .f64 x] w fun e w'=>e=.returned (.float .f64 y)∧w'=w:=by
 have e203:=aDc x y h
 clear h
 go_enter Tryz.func173,(rfl:Tryz.f173.ntmps=7)
 go_wp2
 go_ret
 exact⟨rfl,rfl⟩
end F
namespace AL
open Go.RowKit
variable {P:Program}
theorem aLH {t:TypeId} {xo yo:Operand} {x y r:Nat} (h:floatBits .quo .f64 x y=some r):cH P .quo t xo yo (.val (.float .f64 x)) (.val (.float .f64 y))=some (.val (.float .f64 r)):=by
 unfold floatBits at h
 simp only at h
 simp[cH,plain,aT,eqGuard,binOp,Op.floatArith,h,bind,Sem.bind,pure]
theorem aPp {s d:TypeId} {u:TypeDesc} {a:Int} (hs:P.underlying s=some u) (hd:P.underlying d=some (.float .f64)):gU P s d (.val (.int .i64 a))=some (.val (.float .f64 (floatOfInt .f64 a))):=by
 unfold gU
 simp only[plain,Option.bind_some]
 unfold convert
 rw[iI hs,iI hd]
 cases u<;>rfl
theorem aPq {s d:TypeId} {u:TypeDesc} {b:Nat} {n:Int} (hs:P.underlying s=some u) (hd:P.underlying d=some (.int .i64)) (h:floatToIntVal .f64 b .i64=some n):gU P s d (.val (.float .f64 b))=some (.val (.int .i64 n)):=by
 unfold floatToIntVal at h
 unfold gU
 simp only[plain,Option.bind_some]
 unfold convert
 rw[iI hs,iI hd]
 split at h
 ·rename_i m he
  split at h
  ·rename_i hb
   cases h
   have hm:n≤9223372036854775807:=hb.2
   cases u<;>simp[Conv.floatToInt,he,hb.1,hb.2,hm,mR]
  ·cases h
 ·cases h
end AL
namespace F
open Go.RowKit Go.Proofs.YtnoppodfngkoeaaGreat.AL
theorem aLI {w0:World} (x y:Nat) (h:FL.flF x=some y) (H:aB):aH prog (CB w0) 173 [.val (.float .f64 x)] H fun r H'=>r=.val (.float .f64 y)∧H'=H:=
 aR3 (args:=[.float .f64 x]) (aFq Tryz.func173 (by kernel_rfl) (by kernel_rfl)) fun w hb _=>(aES x y h w).mono fun e w' ⟨h1,h2⟩=>⟨h1,by rw[h2];exact Below.refl _ _⟩
theorem i4 {w0:World} (a b:Int) (ha:-1000000≤a∧a≤1000000) (hb:1≤b∧b≤100000) (H:aB):aH prog (CB w0) 145 [vI a,vI b] H fun r H'=>r=.tup [vI (a/b),vI (a%b)]∧H'=H:=by
 obtain⟨q,f,h1,h2,h3⟩:=FL.divF_ok (a:=a) (b:=b) ha ⟨hb.1,by omega⟩
 refine aSi (N:=16) (rs:=[.tmp 4,.tmp 5]) Tryz.func145 ?_
 rintro e he ⟨g0,g1,-⟩
 simp only[go_sem,he,g0,g1,aPp (P:=prog) (s:=3) (d:=214) Tryz.underlying3 Tryz.underlying214,aLH h1]
 refine aSh (aLI q f h2 _) ?_
 simp only[go_sem,he,g0,g1,aA,aPq (P:=prog) (s:=214) (d:=3) Tryz.underlying214 Tryz.underlying3 h3]
 refine aSh (kX a b ha hb _) ?_
 simp only[go_sem,he,g0,g1,aA]
theorem aFB {y p:Int} (hp:-6≤p∧p≤29):eL y (3+(p+26)/30) (1+(p+27+(p+6)/40)%31) 0 0 0=(aC y+bA y 2+27+p)*86400:=by
 have e0:(p+6)/40=0:=by omega
 rcases Int.lt_or_le p 4 with h|h
 ·have e1:(p+26)/30=0:=by omega
  have e2:(p+27+0)%31=p+27:=by omega
  rw[e0,e1,e2,pV ⟨by omega,by omega⟩]
  unfold K.bR
  show (aC y+bA y 2+(1+(p+27))-1)*86400+0*3600+0*60+0=_
  omega
 ·have e1:(p+26)/30=1:=by omega
  have e2:(p+27+0)%31=p-4:=by omega
  rw[e0,e1,e2,pV ⟨by omega,by omega⟩]
  unfold K.bR
  have e3:bA y 3=bA y 2+aO y 3:=rfl
  have e4:aO y 3=31:=by simp[aO]
  show (aC y+bA y 3+(1+(p-4))-1)*86400+0*3600+0*60+0=_
  omega
theorem aLJ {w0:World} (y:Int) (hy:1≤y∧y≤10500) (H:aB):aH prog (CB w0) 146 [vI y] H fun r H'=>r=vT (K.cS y*86400)∧H'=H:=by
 refine aH.flat rfl ?_
 refine aSi (N:=78) (rs:=[.cell 2 78]) Tryz.func146 ?_
 rintro e he ⟨g0,-⟩
 simp only[go_sem,he,g0]
 simp (disch:=omega) only[aJ,Int.tdiv_eq_ediv_of_nonneg,Int.tmod_eq_emod_of_nonneg]
 unfold K.cS
 simp only
 have eh:(19*(y%19)+y/100-y/100/4-(8*(y/100)+13)/25+15)%30=(y/100-y/100/4-(8*(y/100)+13)/25+19*(y%19)+15)%30:=by congr 1;omega
 rw[eh]
 have hh0:0≤(y/100-y/100/4-(8*(y/100)+13)/25+19*(y%19)+15)%30:=Int.emod_nonneg _ (by omega)
 have hh1:(y/100-y/100/4-(8*(y/100)+13)/25+19*(y%19)+15)%30<30:=Int.emod_lt_of_pos _ (by omega)
 generalize (y/100-y/100/4-(8*(y/100)+13)/25+19*(y%19)+15)%30=h at *
 have hg:(21-y%19)/11=0∨(21-y%19)/11=1:=by omega
 generalize hgg:(21-y%19)/11=g at *
 have key:∃i:Int,0≤i∧i≤29∧h-h/28*(1-h/28*(29/(h+1))*g)=i∧i64.wrap (h-i64.wrap (h/28*i64.wrap (1-i64.wrap (i64.wrap (h/28*i64.wrap (29/(h+1)))*g))))=i:=by
  rcases (show h<28∨h=28∨h=29 by omega) with c|c|c
  ·have q:h/28=0:=by omega
   refine⟨h,hh0,by omega,?_,?_⟩
   ·rw[q];omega
   ·rw[q,Int.zero_mul]
    have:i64.wrap 0=0:=rfl
    rw[this,Int.sub_zero]
    exact aJ (by omega)
  ·subst c
   rcases hg with rfl|rfl
   ·exact⟨27,by omega,by omega,by decide,by decide⟩
   ·exact⟨28,by omega,by omega,by decide,by decide⟩
  ·subst c
   rcases hg with rfl|rfl
   ·exact⟨28,by omega,by omega,by decide,by decide⟩
   ·exact⟨28,by omega,by omega,by decide,by decide⟩
 obtain⟨i,i0,i1,k1,k2⟩:=key
 rw[k1]
 simp only[k2]
 simp (disch:=omega) only[aJ,Int.tdiv_eq_ediv_of_nonneg,Int.tmod_eq_emod_of_nonneg]
 refine⟨by omega,?_⟩
 refine aSh (aA9 _) ?_
 simp only[go_sem,he,g0,aA]
 have j0:=Int.emod_nonneg (y+y/4+i+2-y/100+y/100/4) (show (7:Int)≠0 by omega)
 have j1:=Int.emod_lt_of_pos (y+y/4+i+2-y/100+y/100/4) (show (0:Int)<7 by omega)
 generalize (y+y/4+i+2-y/100+y/100/4)%7=j at *
 have hp:-6≤i-j∧i-j≤29:=by omega
 generalize hpp:i-j=p at *
 have ed:=aFB (y:=y) hp
 refine aSh (gZ y (3+(p+26)/30) (1+(p+27+(p+6)/40)%31) 0 0 0 0 ⟨by omega,by omega,by omega,by omega,by omega,by omega,by omega⟩ (.agg []) rfl _) ?_
 rw[ed]
 simp only[go_sem,he,aA]
 exact⟨by rw[show aC y+bA y 2+27+p=aC y+bA y 2+27+i-j by omega],_,rfl⟩
open Go.RowKit Go.Proofs.YtnoppodfngkoeaaGreat.AL Go.Sort
theorem bG {P:Program} {C:dC} {id:Nat} {b:Code} {Q:Exit→Env→AL.aB→Prop} {env:Env} {H:AL.aB} (n:Nat) (I:Nat→Env→AL.aB→Prop) (J:Env→AL.aB→Prop) (hok:okC C.nG b=true) (h0:I n env H)
  (step:∀n e h,I n e h→cB P C b (mk e []) h (rA I n (lY id (kT J Q)))) (h2:∀e h,J e h→Q .normal (mk e []) h):AWp P C (.loop b) env H (lY id Q):=
 AWp.mono (cF n I hok h0 step) fun ex e h hk=>by
  cases ex with
  |exit j=>
   by_cases hj:j=id
   ·subst hj
    rw[aBR] at hk ⊢
    delta kT at hk
    exact h2 e h hk
   ·have hj:(j==id)=false:=by simp[hj]
    rw[aBS hj] at hk ⊢
    delta kT at hk
    exact hk
  |normal=>
   delta lY kT at hk
   delta lY
   exact h2 e h hk
  |_=>
   delta lY kT at hk
   delta lY
   exact hk
structure SI (w0:World) (ty:TypeId) (rv:AV) {α:Type} [Inhabited α] (lt:α→α→Bool) (N:Nat) (S:Array α→aB) where
 fl:Nat
 fs:Nat
 fn:Nat
 mL : rQ prog ty "Less" = some fl
 mS : rQ prog ty "Swap" = some fs
 mN : rQ prog ty "Len" = some fn
 hN:N≤200
 slen:∀d d':Array α,d.size=N→d'.size=N→(S d).length=(S d').length
 less:∀(d:Array α) (G:aB) (i j:Nat),d.size=N→i<N→j<N→aH prog (CB w0) fl [rv,vI i,vI j] (S d++G) fun r H'=>r=vB (lt d[i]! d[j]!)∧H'=S d++G
 swap:∀(d:Array α) (G:aB) (i j:Nat),d.size=N→i<N→j<N→aH prog (CB w0) fs [rv,vI i,vI j] (S d++G) fun r H'=>r=.tup []∧H'=S (swp d i j)++G
 len:∀(d:Array α) (G:aB),d.size=N→aH prog (CB w0) fn [rv] (S d++G) fun r H'=>r=vI N∧H'=S d++G
theorem eG {α:Type} [Inhabited α] (d:Array α) (i j:Nat):(swp d i j).size=d.size:=by simp[swp]
section
variable {w0:World} {ty:TypeId} {rv:AV} {α:Type} [Inhabited α] {lt:α→α→Bool} {N:Nat} {S:Array α→aB}
theorem aBl (I:SI w0 ty rv lt N S) (d:Array α) (G:aB) (a b:Nat) (hd:d.size=N) (hab:a≤b) (hb:b≤N):aH prog (CB w0) 195 [.ifc ty rv,vI a,vI b] (S d++G) fun r H'=>r=.tup []∧H'=S (insertionSort lt d a b)++G:=by
 have hN:=I.hN
 refine aSi (N:=33) (rs:=[]) Tryz.func195 ?_
 rintro e he ⟨g0,g1,g2,-⟩
 have w1:i64.wrap ((a:Int)+1)=((a+1:Nat):Int):=by rw[aJ (by omega)];rfl
 simp only[go_sem,he,g0,g1,g2,w1]
 refine cF (b-a) (fun k e h=>len e=33∧AL.get e 0=.ifc ty rv∧AL.get e 1=vI a∧AL.get e 2=vI b∧∃(i:Nat) (dk:Array α),AL.get e 6=vI i∧i+k=b+1∧a<i∧dk.size=N∧h=S dk++G∧insOuter lt a b i dk=insertionSort lt d a b) (by kernel_rfl) ?_ ?_
 ·simp only[go_sem,he,g0,g1,g2]
  exact⟨a+1,d,rfl,by omega,by omega,hd,rfl,rfl⟩
 ·rintro k e h ⟨he,g0,g1,g2,i,dk,g6,hik,hai,hdk,rfl,hO⟩
  have wi:i64.wrap ((i:Int)+1)=((i+1:Nat):Int):=by rw[aJ (by omega)];rfl
  simp only[go_sem,he,g0,g1,g2,g6]
  refine aF (fun hc=>?_) fun hc=>?_
  ·have hc:=odT hc
   have hib:i<b:=by omega
   simp only[go_sem,he,g0,g1,g2,g6]
   refine cF i (fun k2 e h=>len e=33∧AL.get e 0=.ifc ty rv∧AL.get e 1=vI a∧AL.get e 2=vI b∧AL.get e 6=vI i∧∃(j:Nat) (dj:Array α),AL.get e 7=vI j∧j=k2∧a≤j∧j≤i∧dj.size=N∧h=S dj++G∧insInner lt a j dj=insInner lt a i dk) (by kernel_rfl) ?_ ?_
   ·simp only[go_sem,he,g0,g1,g2,g6]
    exact⟨i,dk,rfl,rfl,by omega,by omega,hdk,rfl,rfl⟩
   ·clear g0 g1 g2 g6 he
    rintro k2 e h ⟨he,g0,g1,g2,g6,j,dj,g7,rfl,haj,hji,hdj,rfl,hI⟩
    have fin:insInner lt a j dj=dj→(∃n',n'<k∧∃(i':Nat) (dk':Array α),vI (((i+1:Nat)):Int)=vI i'∧i'+n'=b+1∧a<i'∧dk'.size=N∧S dj++G=S dk'++G∧insOuter lt a b i' dk'=insertionSort lt d a b):=fun hs=>
     ⟨k-1,by omega,i+1,dj,rfl,by omega,by omega,hdj,rfl,by rw[←hO,insOuter.eq_1 lt a b i,if_pos hib,←hI,hs]⟩
    simp only[go_sem,he,g0,g1,g2,g6,g7]
    by_cases haj2:a<j
    ·have d1:decide ((a:Int)<(j:Int))=true:=dcT (by omega)
     have wj:i64.wrap ((j:Int)-1)=((j-1:Nat):Int):=by rw[aJ (by omega)];omega
     obtain⟨m,rfl⟩:∃m,j=m+1:=⟨j-1,by omega⟩
     rw[Nat.add_sub_cancel] at wj
     simp only[go_sem,he,g0,g1,g2,g6,g7,d1,wj,I.mL]
     refine aSh (I.less dj G (m+1) m hdj (by omega) (by omega)) ?_
     simp only[go_sem,he,g0,g1,g2,g6,g7,aA]
     refine aF (fun hl=>?_) fun hl=>?_
     ·simp only[go_sem,he,g0,g1,g2,g6,g7,wj,I.mS]
      refine aI (I.swap dj G (m+1) m hdj (by omega) (by omega)) ?_
      rintro r H' ⟨rfl,rfl⟩
      simp only[go_sem,he,g0,g1,g2,g6,g7,aA,bL,wj]
      refine⟨m,by omega,m,_,rfl,rfl,by omega,by omega,by rw[eG];exact hdj,rfl,?_⟩
      rw[←hI,insInner,if_pos (by simp[hl];omega)]
     ·simp only[go_sem,he,g0,g1,g2,g6,g7,wi]
      exact fin (by rw[insInner,if_neg (by simp[hl])])
    ·have d1:decide ((a:Int)<(j:Int))=false:=dcF (by omega)
     simp only[go_sem,he,g0,g1,g2,g6,g7,d1,wi]
     refine fin ?_
     cases j with
     |zero=>rfl
     |succ m=>rw[insInner,if_neg (by simp;omega)]
  ·have hc:=odF hc
   simp only[go_sem,he,g0,g1,g2,g6]
   rw[insOuter,if_neg (by omega)] at hO
   rw[hO]
end
theorem wN {e:Int} (n:Nat) (h:e=n) (hn:n≤1000000000):i64.wrap e=(n:Int):=by rw[aJ (by omega),h]
section
variable {w0:World} {ty:TypeId} {rv:AV} {α:Type} [Inhabited α] {lt:α→α→Bool} {N:Nat} {S:Array α→aB}
theorem aBZ (I:SI w0 ty rv lt N S) (d:Array α) (G:aB) (a b:Nat) (hd:d.size=N) (hab:a<b) (hb:b≤N):aH prog (CB w0) 199 [.ifc ty rv,vI a,vI b] (S d++G) fun r H'=>r=.tup []∧H'=S (reverseRange d a b)++G:=by
 have hN:=I.hN
 refine aSi (N:=22) (rs:=[]) Tryz.func199 ?_
 rintro e he ⟨g0,g1,g2,-⟩
 have w1:i64.wrap ((b:Int)-1)=((b-1:Nat):Int):=wN _ (by omega) (by omega)
 simp only[go_sem,he,g0,g1,g2,w1]
 refine cF b (fun k e h=>len e=22∧AL.get e 0=.ifc ty rv∧∃(i j:Nat) (dk:Array α),AL.get e 6=vI i∧AL.get e 7=vI j∧k=j+1∧j<N∧dk.size=N∧h=S dk++G∧reverseLoop i j dk=reverseRange d a b) (by kernel_rfl) ?_ ?_
 ·simp only[go_sem,he,g0,g1,g2]
  exact⟨a,b-1,d,rfl,rfl,by omega,by omega,hd,rfl,rfl⟩
 ·clear g0 g1 g2 he
  rintro k e h ⟨he,g0,i,j,dk,g6,g7,hk,hj,hdk,rfl,hO⟩
  simp only[go_sem,he,g0,g6,g7]
  refine aF (fun hc=>?_) fun hc=>?_
  ·have hc:=odT hc
   have hij:i<j:=by omega
   have wi:i64.wrap ((i:Int)+1)=((i+1:Nat):Int):=wN _ (by omega) (by omega)
   have wj:i64.wrap ((j:Int)-1)=((j-1:Nat):Int):=wN _ (by omega) (by omega)
   simp only[go_sem,he,g0,g6,g7,I.mS]
   refine aI (I.swap dk G i j hdk (by omega) (by omega)) ?_
   rintro r H' ⟨rfl,rfl⟩
   simp only[go_sem,he,g0,g6,g7,aA,bL,wi,wj]
   refine⟨j,by omega,i+1,j-1,_,rfl,rfl,by omega,by omega,by rw[eG];exact hdk,rfl,?_⟩
   rw[←hO,reverseLoop.eq_1 i j,if_pos hij]
  ·have hc:=odF hc
   simp only[go_sem,he,g0,g6,g7]
   rw[reverseLoop,if_neg (by omega)] at hO
   rw[hO]
theorem aBm (I:SI w0 ty rv lt N S) (d:Array α) (G:aB) (lo hi first:Nat) (hd:d.size=N) (hb:first+hi≤N) (hlo:lo≤hi):aH prog (CB w0) 208 [.ifc ty rv,vI lo,vI hi,vI first] (S d++G) fun r H'=>r=.tup []∧H'=S (siftDown lt hi first lo d)++G:=by
 have hN:=I.hN
 refine aSi (N:=52) (rs:=[]) Tryz.func208 ?_
 rintro e he ⟨g0,g1,g2,g3,-⟩
 simp only[go_sem,he,g0,g1,g2,g3]
 refine cF (2*N+1) (fun k e h=>len e=52∧AL.get e 0=.ifc ty rv∧AL.get e 2=vI hi∧AL.get e 3=vI first∧∃(root:Nat) (dk:Array α),AL.get e 8=vI root∧k+root=2*N+1+lo∧root≤hi∧dk.size=N∧h=S dk++G∧siftDown lt hi first root dk=siftDown lt hi first lo d) (by kernel_rfl) ?_ ?_
 ·simp only[go_sem,he,g0,g1,g2,g3]
  exact⟨lo,d,rfl,by omega,hlo,hd,rfl,rfl⟩
 ·clear g0 g1 g2 g3 he
  rintro k e h ⟨he,g0,g2,g3,root,dk,g8,hk,hr,hdk,rfl,hO⟩
  have w1:i64.wrap (2*(root:Int))=((2*root:Nat):Int):=wN _ (by omega) (by omega)
  have w2:i64.wrap (((2*root:Nat):Int)+1)=((2*root+1:Nat):Int):=wN _ (by omega) (by omega)
  simp only[go_sem,he,g0,g2,g3,g8,w1,w2]
  refine aF (fun hc=>?_) fun hc=>?_
  ·have hc:=odT hc
   simp only[go_sem,he,g0,g2,g3,g8]
   rw[siftDown,dif_pos (by omega)] at hO
   rw[hO]
  ·have hc:=odF hc
   have hc2:2*root+1<hi:=by omega
   have w3:i64.wrap (((2*root+1:Nat):Int)+1)=((2*root+2:Nat):Int):=wN _ (by omega) (by omega)
   have w4:i64.wrap ((first:Int)+((2*root+1:Nat):Int))=((first+(2*root+1):Nat):Int):=wN _ (by omega) (by omega)
   have w5:i64.wrap (((first+(2*root+1):Nat):Int)+1)=((first+(2*root+1)+1:Nat):Int):=wN _ (by omega) (by omega)
   have w6:i64.wrap ((first:Int)+((root:Nat):Int))=((first+root:Nat):Int):=wN _ (by omega) (by omega)
   have w7:i64.wrap ((first:Int)+((2*root+2:Nat):Int))=((first+(2*root+2):Nat):Int):=wN _ (by omega) (by omega)
   by_cases hd2:2*root+1+1<hi
   ·have d1:decide (((2*root+2:Nat):Int)<(hi:Int))=true:=dcT (by omega)
    simp only[go_sem,he,g0,g2,g3,g8,w3,w4,w5,d1,I.mL]
    refine aSh (I.less dk G _ _ hdk (by omega) (by omega)) ?_
    simp only[go_sem,he,g0,g2,g3,g8,aA]
    refine aF (fun hl=>?_) fun hl=>?_
    ·simp only[go_sem,he,g0,g2,g3,g8,w3,w6,w7,I.mL]
     refine aSh (I.less dk G _ _ hdk (by omega) (by omega)) ?_
     simp only[go_sem,he,g0,g2,g3,g8,aA]
     rw[siftDown,dif_neg (by omega),if_pos (by simp[hl,hd2])] at hO
     refine aF (fun hm=>?_) fun hm=>?_
     ·simp only[go_sem,he,g0,g2,g3,g8]
      rw[if_pos (by simpa using hm)] at hO
      rw[hO]
     ·simp only[go_sem,he,g0,g2,g3,g8,w6,w7,I.mS]
      refine aI (I.swap dk G _ _ hdk (by omega) (by omega)) ?_
      rintro r H' ⟨rfl,rfl⟩
      simp only[go_sem,he,g0,g2,g3,g8,aA,bL]
      refine⟨2*N+1+lo-(2*root+2),by omega,2*root+2,_,rfl,by omega,by omega,by rw[eG];exact hdk,rfl,?_⟩
      rw[if_neg (by simpa using hm),dif_pos (by omega)] at hO
      exact hO
    ·simp only[go_sem,he,g0,g2,g3,g8,w6,w4,I.mL]
     refine aSh (I.less dk G _ _ hdk (by omega) (by omega)) ?_
     simp only[go_sem,he,g0,g2,g3,g8,aA]
     rw[siftDown,dif_neg (by omega),if_neg (by simp[hl])] at hO
     refine aF (fun hm=>?_) fun hm=>?_
     ·simp only[go_sem,he,g0,g2,g3,g8]
      rw[if_pos (by simpa using hm)] at hO
      rw[hO]
     ·simp only[go_sem,he,g0,g2,g3,g8,w6,w4,I.mS]
      refine aI (I.swap dk G _ _ hdk (by omega) (by omega)) ?_
      rintro r H' ⟨rfl,rfl⟩
      simp only[go_sem,he,g0,g2,g3,g8,aA,bL]
      refine⟨2*N+1+lo-(2*root+1),by omega,2*root+1,_,rfl,by omega,by omega,by rw[eG];exact hdk,rfl,?_⟩
      rw[if_neg (by simpa using hm)] at hO
      exact hO
   ·have d1:decide (((2*root+2:Nat):Int)<(hi:Int))=false:=dcF (by omega)
    simp only[go_sem,he,g0,g2,g3,g8,w3,w4,w6,d1,I.mL]
    refine aSh (I.less dk G _ _ hdk (by omega) (by omega)) ?_
    simp only[go_sem,he,g0,g2,g3,g8,aA]
    rw[siftDown,dif_neg (by omega),if_neg (by simp[hd2])] at hO
    refine aF (fun hm=>?_) fun hm=>?_
    ·simp only[go_sem,he,g0,g2,g3,g8]
     rw[if_pos (by simpa using hm)] at hO
     rw[hO]
    ·simp only[go_sem,he,g0,g2,g3,g8,w6,w4,I.mS]
     refine aI (I.swap dk G _ _ hdk (by omega) (by omega)) ?_
     rintro r H' ⟨rfl,rfl⟩
     simp only[go_sem,he,g0,g2,g3,g8,aA,bL]
     refine⟨2*N+1+lo-(2*root+1),by omega,2*root+1,_,rfl,by omega,by omega,by rw[eG];exact hdk,rfl,?_⟩
     rw[if_neg (by simpa using hm)] at hO
     exact hO
end
open Go.Sort
abbrev vQ (n:Int):AV:=.val (.int .u64 n)
theorem aB0 {P:Program} {t:TypeId} {xo yo:Operand} {a b:Int} (h:0≤b):cH P .shl t xo yo (vQ a) (vQ b)=some (vQ (IntKind.u64.wrap (a*2 ^ (min b.toNat 64)))):=by
 simp[cH,plain,aT,eqGuard,binOp,Op.shift,bind,Sem.bind,pure,show ¬b<0 by omega,IntKind.bits]
theorem aPr {P:Program} {t:TypeId} {xo yo:Operand} {a b:Int} (h:0≤b):cH P .shr t xo yo (vQ a) (vQ b)=some (vQ (a.fdiv (2 ^ (min b.toNat 64)))):=by
 simp[cH,plain,aT,eqGuard,binOp,Op.shift,bind,Sem.bind,pure,show ¬b<0 by omega,IntKind.bits]
theorem wJ {P:Program} {t:TypeId} {xo yo:Operand} {a:Int}:cH P .shl t xo yo (vQ a) (vQ 13)=some (vQ (IntKind.u64.wrap (a*8192))):=aB0 (by decide)
theorem wK {P:Program} {t:TypeId} {xo yo:Operand} {a:Int}:cH P .shl t xo yo (vQ a) (vQ 17)=some (vQ (IntKind.u64.wrap (a*131072))):=aB0 (by decide)
theorem zT {P:Program} {t:TypeId} {xo yo:Operand} {a:Int}:cH P .shr t xo yo (vQ a) (vQ 7)=some (vQ (a/128)):=by
 rw[aPr (by decide),show min (7:Int).toNat 64=7 by decide,show (2:Int) ^ 7=128 by decide,Int.fdiv_eq_ediv_of_nonneg a (by decide)]
theorem aB1 {P:Program} {t:TypeId} {xo yo:Operand} {a b:Int}:cH P .xor t xo yo (vQ a) (vQ b)=some (vQ (bits .xor .u64 a b)):=by
 simp[cH,plain,aT,eqGuard,binOp,Op.intBits,bind,Sem.bind,pure,bits]
theorem aPs {P:Program} {t:TypeId} {xo yo:Operand} {a b:Int}:cH P .and t xo yo (vQ a) (vQ b)=some (vQ (bits .and .u64 a b)):=by
 simp[cH,plain,aT,eqGuard,binOp,Op.intBits,bind,Sem.bind,pure,bits]
theorem iD {n:Nat} (h:n<18446744073709551616):IntKind.u64.wrap (n:Int)=(n:Int):=by
 rw[IntKind.wrap_u64];omega
theorem aPt (X:Nat) (hX:X<18446744073709551616):∃A B:Nat,A<18446744073709551616∧B<18446744073709551616∧xorNextN X<18446744073709551616∧bits .xor .u64 (X:Int) (IntKind.u64.wrap ((X:Int)*8192))=(A:Int)∧bits .xor .u64 (A:Int) ((A:Int)/128)=(B:Int)∧bits .xor .u64 (B:Int) (IntKind.u64.wrap ((B:Int)*131072))=(xorNextN X:Nat):=by
 have lA:X ^^^ (X*8192%18446744073709551616)<18446744073709551616:=Nat.xor_lt_two_pow (n:=64) (by omega) (by omega)
 have lB:(X ^^^ (X*8192%18446744073709551616)) ^^^ ((X ^^^ (X*8192%18446744073709551616))/128)<18446744073709551616:=Nat.xor_lt_two_pow (n:=64) (by omega) (by omega)
 refine⟨_,_,lA,lB,xorNextN_lt X hX,?_,?_,?_⟩
 ·rw[IntKind.wrap_u64,show ((X:Int)*8192%18446744073709551616)=((X*8192%18446744073709551616:Nat):Int) by omega,bits_xor_u64_nat _ _ hX (by omega)]
 ·generalize X ^^^ (X*8192%18446744073709551616)=A at lA
  rw[show ((A:Int)/128)=((A/128:Nat):Int) by omega,bits_xor_u64_nat _ _ lA (by omega)]
 ·unfold xorNextN
  simp only[]
  generalize (X ^^^ (X*8192%18446744073709551616)) ^^^ ((X ^^^ (X*8192%18446744073709551616))/128)=B at lB ⊢
  rw[IntKind.wrap_u64,show ((B:Int)*131072%18446744073709551616)=((B*131072%18446744073709551616:Nat):Int) by omega,bits_xor_u64_nat _ _ lB (by omega)]
theorem aIm {w0:World} (H:aB) (t:TypeId) (X:Nat) (hX:X<18446744073709551616):aH prog (CB w0) 210 [.ptr H.length 0] (H++[.own t [vQ X]]) fun r H'=>r=vQ (xorNextN X:Nat)∧H'=H++[.own t [vQ (xorNextN X:Nat)]]:=by
 obtain⟨A,B,lA,lB,lC,e1,e2,e3⟩:=aPt X hX
 generalize xorNextN X=C at lC e3
 refine aSi (N:=33) (rs:=[.tmp 2]) Tryz.func210 ?_
 rintro e he ⟨g0,-⟩
 simp only[go_sem,he,g0]
 refine bF bI (by kernel_rfl) ?_
 simp only[go_sem,he,g0,wJ,zT,wK,aB1,e1]
 refine bF bI (by kernel_rfl) ?_
 simp only[go_sem,he,g0,wJ,zT,wK,aB1,e2]
 refine bF bI (by kernel_rfl) ?_
 simp only[go_sem,he,g0,wJ,zT,wK,aB1,e3]
section
variable {w0:World} {ty:TypeId} {rv:AV} {α:Type} [Inhabited α] {lt:α→α→Bool} {N:Nat} {S:Array α→aB}
theorem uW (hi O:Nat):∀(n root:Nat) (d:Array α),hi-root≤n→(siftDown lt hi O root d).size=d.size:=by
 intro n
 induction n with
 |zero=>intro root d h;rw[siftDown,dif_pos (by omega)]
 |succ n ih=>
  intro root d h
  rw[siftDown]
  (repeat' split)<;>first|rfl|rw[ih _ _ (by omega),Go.Proofs.YtnoppodfngkoeaaGreat.F.eG]
theorem aIn (I:SI w0 ty rv lt N S) (d:Array α) (G:aB) (a b:Nat) (hd:d.size=N) (hab:a<b) (hb:b≤N):aH prog (CB w0) 196 [.ifc ty rv,vI a,vI b] (S d++G) fun r H'=>r=.tup []∧H'=S (heapSort lt d a b)++G:=by
 have hN:=I.hN
 refine aSi (N:=44) (rs:=[]) Tryz.func196 ?_
 rintro e he ⟨g0,g1,g2,-⟩
 have w1:i64.wrap ((b:Int)-a)=((b-a:Nat):Int):=wN _ (by omega) (by omega)
 have w2:i64.wrap (((b-a:Nat):Int)-1)=((b-a-1:Nat):Int):=wN _ (by omega) (by omega)
 have w3:i64.wrap (Int.tdiv ((b-a-1:Nat):Int) 2)=(((b-a-1)/2:Nat):Int):=wN _ (by rw[Int.tdiv_eq_ediv_of_nonneg (by omega)];omega) (by omega)
 simp only[go_sem,he,g0,g1,g2,w1,w2,w3]
 refine cF ((b-a-1)/2+1) (fun k e h=>len e=44∧AL.get e 0=.ifc ty rv∧AL.get e 6=vI a∧AL.get e 7=vI 0∧AL.get e 8=vI (b-a:Nat)∧∃(i:Int) (dk:Array α),AL.get e 9=vI i∧i=(k:Int)-1∧k≤(b-a-1)/2+1∧dk.size=N∧h=S dk++G∧heapBuild lt (b-a) a k dk=heapBuild lt (b-a) a ((b-a-1)/2+1) d) (by kernel_rfl) ?_ ?_
 ·simp only[go_sem,he,g0,g1,g2]
  exact⟨_,d,rfl,by omega,by omega,hd,rfl,rfl⟩
 ·clear g0 g1 g2 he
  rintro k e h ⟨he,g0,g6,g7,g8,i,dk,g9,hi,hk,hdk,rfl,hO⟩
  simp only[go_sem,he,g0,g6,g7,g8,g9]
  refine aF (fun hc=>?_) fun hc=>?_
  ·have hc:=odT hc
   obtain⟨m,rfl⟩:∃m:Nat,i=m:=⟨i.toNat,by omega⟩
   obtain rfl:k=m+1:=by omega
   have wj:i64.wrap ((m:Int)-1)=(m:Int)-1:=aJ (by omega)
   simp only[go_sem,he,g0,g6,g7,g8,g9]
   refine aI (aBm I dk G m (b-a) a hdk (by omega) (by omega)) ?_
   rintro r H' ⟨rfl,rfl⟩
   simp only[go_sem,he,g0,g6,g7,g8,g9,bL,aA,wj]
   exact⟨m,by omega,_,_,rfl,rfl,by omega,by rw[uW _ _ _ m dk (Nat.le_refl _)];exact hdk,rfl,hO⟩
  ·have hc:=odF hc
   obtain rfl:k=0:=by omega
   change dk=_ at hO
   subst hO
   simp only[go_sem,he,g0,g6,g7,g8,g9,w2]
   clear g9
   refine cF (b-a) (fun k e h=>len e=44∧AL.get e 0=.ifc ty rv∧AL.get e 6=vI a∧AL.get e 7=vI 0∧AL.get e 8=vI (b-a:Nat)∧∃(i:Int) (dk:Array α),AL.get e 10=vI i∧i=(k:Int)-1∧k≤b-a∧dk.size=N∧h=S dk++G∧heapPop lt a k dk=heapSort lt d a b) (by kernel_rfl) ?_ ?_
   ·simp only[go_sem,he,g0,g6,g7,g8]
    exact⟨_,_,rfl,by omega,by omega,hdk,rfl,rfl⟩
   ·clear g0 g6 g7 g8 he
    rintro k e h ⟨he,g0,g6,g7,g8,i,dk,g9,hi,hk,hdk,rfl,hO⟩
    simp only[go_sem,he,g0,g6,g7,g8,g9]
    refine aF (fun hc=>?_) fun hc=>?_
    ·have hc:=odT hc
     obtain⟨m,rfl⟩:∃m:Nat,i=m:=⟨i.toNat,by omega⟩
     obtain rfl:k=m+1:=by omega
     have wj:i64.wrap ((m:Int)-1)=(m:Int)-1:=aJ (by omega)
     have wm:i64.wrap ((a:Int)+m)=((a+m:Nat):Int):=wN _ (by omega) (by omega)
     simp only[go_sem,he,g0,g6,g7,g8,g9,wm,I.mS]
     refine aI (I.swap dk G a (a+m) hdk (by omega) (by omega)) ?_
     rintro r H' ⟨rfl,rfl⟩
     simp only[go_sem,he,g0,g6,g7,g8,g9,bL,aA]
     refine aI (aBm I (swp dk a (a+m)) G 0 m a (by rw[F.eG];exact hdk) (by omega) (by omega)) ?_
     rintro r H' ⟨rfl,rfl⟩
     simp only[go_sem,he,g0,g6,g7,g8,g9,bL,aA,wj]
     exact⟨m,by omega,_,_,rfl,rfl,by omega,by rw[uW _ _ _ 0 _ (Nat.le_refl _),F.eG];exact hdk,rfl,hO⟩
    ·have hc:=odF hc
     obtain rfl:k=0:=by omega
     change dk=_ at hO
     simp only[go_sem,he,g0,g6,g7,g8,g9]
     rw[hO]
theorem wL {p:α→Bool} {d:Array α} {j i:Nat} (h:i≤j) (hp:p d[i]! = true):scanUp p d j i=scanUp p d j (i+1):=by rw[scanUp,if_pos (by simp[h,hp])]
theorem kY {p:α→Bool} {d:Array α} {j i:Nat} (h:¬(i≤j∧p d[i]! = true)):scanUp p d j i=i:=by rw[scanUp,if_neg (by simpa using h)]
theorem r3 {p:α→Bool} {d:Array α} {i j:Nat} (h:i≤j+1) (hp:p d[j+1]! = true):scanDown p d i (j+1)=scanDown p d i j:=by rw[scanDown,if_pos (by simp[h,hp])]
theorem jG {p:α→Bool} {d:Array α} {i j:Nat} (hj:0<j) (h:¬(i≤j∧p d[j]! = true)):scanDown p d i j=j:=by
 obtain⟨m,rfl⟩:∃m,j=m+1:=⟨j-1,by omega⟩
 rw[scanDown,if_neg (by simpa using h)]
theorem zU (I:SI w0 ty rv lt N S) (d:Array α) (G:aB) (a b pivot:Nat) (hd:d.size=N) (hp:a≤pivot∧pivot<b) (hb:b≤N):aH prog (CB w0) 201 [.ifc ty rv,vI a,vI b,vI pivot] (S d++G) fun r H'=>r=vI (partitionEqual lt d a b pivot).1∧H'=S (partitionEqual lt d a b pivot).2++G:=by
 have hN:=I.hN
 refine aSi (N:=54) (rs:=[.tmp 8]) Tryz.func201 ?_
 rintro e he ⟨g0,g1,g2,g3,-⟩
 have w1:i64.wrap ((a:Int)+1)=((a+1:Nat):Int):=wN _ (by omega) (by omega)
 have w2:i64.wrap ((b:Int)-1)=((b-1:Nat):Int):=wN _ (by omega) (by omega)
 simp only[go_sem,he,g0,g1,g2,g3,I.mS]
 refine aI (I.swap d G a pivot hd (by omega) (by omega)) ?_
 rintro r H' ⟨rfl,rfl⟩
 simp only[go_sem,he,g0,g1,g2,g3,bL,aA,w1,w2]
 refine cF (b-1+1-(a+1)) (fun k e h=>len e=54∧AL.get e 0=.ifc ty rv∧AL.get e 1=vI a∧∃(i j:Nat) (dk:Array α),AL.get e 9=vI i∧AL.get e 10=vI j∧k=j+1-i∧a<i∧i≤j+2∧j<b∧dk.size=N∧h=S dk++G∧partEqLoop lt a i j dk=partitionEqual lt d a b pivot) (by kernel_rfl) ?_ ?_
 ·simp only[go_sem,he,g0,g1,g2,g3]
  exact⟨a+1,b-1,_,rfl,rfl,rfl,by omega,by omega,by omega,by rw[F.eG];exact hd,rfl,rfl⟩
 ·clear g0 g1 g2 g3 he
  rintro k e h ⟨he,g0,g1,i,j,dk,g9,g10,rfl,hai,hij,hjb,hdk,rfl,hO⟩
  simp only[go_sem,he,g0,g1,g9,g10]
  refine bG (j+2-i) (fun k2 e h=>len e=54∧AL.get e 0=.ifc ty rv∧AL.get e 1=vI a∧AL.get e 10=vI j∧∃i':Nat,AL.get e 9=vI i'∧k2=j+2-i'∧i≤i'∧i'≤j+2∧h=S dk++G∧scanUp (fun x=>!lt dk[a]! x) dk j i'=scanUp (fun x=>!lt dk[a]! x) dk j i) (fun e h=>len e=54∧AL.get e 0=.ifc ty rv∧AL.get e 1=vI a∧AL.get e 10=vI j∧AL.get e 9=vI (scanUp (fun x=>!lt dk[a]! x) dk j i:Nat)∧scanUp (fun x=>!lt dk[a]! x) dk j i≤j+2∧h=S dk++G) (by kernel_rfl) ?_ ?_ ?_
  ·simp only[go_sem,he,g0,g1,g9,g10]
   exact⟨i,rfl,rfl,Nat.le_refl _,hij,rfl⟩
  ·clear g0 g1 g9 g10 he
   rintro k2 e h ⟨he,g0,g1,g10,i',g9,rfl,hi1,hi2,rfl,hs⟩
   have wi:i64.wrap ((i':Int)+1)=((i'+1:Nat):Int):=wN _ (by omega) (by omega)
   simp only[go_sem,he,g0,g1,g9,g10]
   by_cases hc:i'≤j
   ·have d1:decide ((i':Int)≤(j:Int))=true:=dcT (by omega)
    simp only[go_sem,he,g0,g1,g9,g10,d1,I.mL]
    refine aSh (I.less dk G a i' hdk (by omega) (by omega)) ?_
    simp only[go_sem,he,g0,g1,g9,g10,aA]
    refine aF (fun hl=>?_) fun hl=>?_
    ·simp only[go_sem,he,g0,g1,g9,g10,wi]
     exact⟨j+2-(i'+1),by omega,i'+1,rfl,rfl,by omega,by omega,by rw[←hs,wL hc hl]⟩
    ·simp only[go_sem,he,g0,g1,g9,g10]
     rw[kY (fun h=>absurd (hl.symm.trans h.2) Bool.false_ne_true)] at hs
     rw[←hs]
     exact⟨rfl,hi2⟩
   ·have d1:decide ((i':Int)≤(j:Int))=false:=dcF (by omega)
    simp only[go_sem,he,g0,g1,g9,g10,d1]
    rw[kY (by omega)] at hs
    rw[←hs]
    exact⟨rfl,hi2⟩
  ·clear g0 g1 g9 g10 he
   rintro e h ⟨he,g0,g1,g10,g9,hi2,rfl⟩
   have hi1:=scanUp_ge (fun x=>!lt dk[a]! x) dk j i
   rw[partEqLoop_eq] at hO
   generalize scanUp (fun x=>!lt dk[a]! x) dk j i=i2 at hi1 hi2 g9 hO
   simp only[go_sem,he,g0,g1,g9,g10]
   refine bG j (fun k2 e h=>len e=54∧AL.get e 0=.ifc ty rv∧AL.get e 1=vI a∧AL.get e 9=vI i2∧∃j':Nat,AL.get e 10=vI j'∧j'=k2∧j'≤j∧h=S dk++G∧scanDown (fun x=>lt dk[a]! x) dk i2 j'=scanDown (fun x=>lt dk[a]! x) dk i2 j) (fun e h=>len e=54∧AL.get e 0=.ifc ty rv∧AL.get e 1=vI a∧AL.get e 9=vI i2∧AL.get e 10=vI (scanDown (fun x=>lt dk[a]! x) dk i2 j:Nat)∧h=S dk++G) (by kernel_rfl) ?_ ?_ ?_
   ·simp only[go_sem,he,g0,g1,g9,g10]
    exact⟨j,rfl,rfl,Nat.le_refl _,rfl⟩
   ·clear g0 g1 g9 g10 he
    rintro k2 e h ⟨he,g0,g1,g9,j',g10,hk2,hj1,rfl,hs⟩
    simp only[go_sem,he,g0,g1,g9,g10]
    by_cases hc:i2≤j'
    ·have d1:decide ((i2:Int)≤(j':Int))=true:=dcT (by omega)
     obtain⟨m,rfl⟩:∃m,j'=m+1:=⟨j'-1,by omega⟩
     have wj:i64.wrap (((m+1:Nat):Int)-1)=(m:Int):=wN _ (by omega) (by omega)
     simp only[go_sem,he,g0,g1,g9,g10,d1,I.mL]
     refine aSh (I.less dk G a (m+1) hdk (by omega) (by omega)) ?_
     simp only[go_sem,he,g0,g1,g9,g10,aA]
     refine aF (fun hl=>?_) fun hl=>?_
     ·simp only[go_sem,he,g0,g1,g9,g10,wj]
      exact⟨m,by omega,m,rfl,rfl,by omega,by rw[←hs,r3 hc hl]⟩
     ·simp only[go_sem,he,g0,g1,g9,g10]
      rw[jG (by omega) (fun h=>absurd (hl.symm.trans h.2) Bool.false_ne_true)] at hs
      rw[←hs]
    ·have d1:decide ((i2:Int)≤(j':Int))=false:=dcF (by omega)
     simp only[go_sem,he,g0,g1,g9,g10,d1]
     cases j' with
     |zero=>rw[←hs];rfl
     |succ m=>rw[jG (by omega) (by omega)] at hs;rw[←hs]
   ·clear g0 g1 g9 g10 he
    rintro e h ⟨he,g0,g1,g9,g10,rfl⟩
    have hj1:=scanDown_le (fun x=>lt dk[a]! x) dk i2 j
    generalize scanDown (fun x=>lt dk[a]! x) dk i2 j=j2 at hj1 g10 hO
    simp only[go_sem,he,g0,g1,g9,g10]
    refine aF (fun hc=>?_) fun hc=>?_
    ·have hc:=odT hc
     simp only[go_sem,he,g0,g1,g9,g10]
     rw[if_pos (by omega)] at hO
     rw[←hO]
     exact⟨rfl,rfl⟩
    ·have hc:=odF hc
     rw[if_neg (by omega)] at hO
     have wi:i64.wrap ((i2:Int)+1)=((i2+1:Nat):Int):=wN _ (by omega) (by omega)
     have wj:i64.wrap ((j2:Int)-1)=((j2-1:Nat):Int):=wN _ (by omega) (by omega)
     simp only[go_sem,he,g0,g1,g9,g10,I.mS]
     refine aI (I.swap dk G i2 j2 hdk (by omega) (by omega)) ?_
     rintro r H' ⟨rfl,rfl⟩
     simp only[go_sem,he,g0,g1,g9,g10,bL,aA,wi,wj]
     exact⟨j2-1+1-(i2+1),by omega,i2+1,j2-1,_,rfl,rfl,rfl,by omega,by omega,by omega,by rw[F.eG];exact hdk,rfl,hO⟩
end
section
variable {w0:World} {ty:TypeId} {rv:AV} {α:Type} [Inhabited α] {lt:α→α→Bool} {N:Nat} {S:Array α→aB}
theorem aFC (I:SI w0 ty rv lt N S) (d:Array α) (G:aB) (a b pivot:Nat) (hd:d.size=N) (hp:a≤pivot∧pivot<b) (hb:b≤N):aH prog (CB w0) 202 [.ifc ty rv,vI a,vI b,vI pivot] (S d++G) fun r H'=>r=.tup [vI (partition lt d a b pivot).1,vB (partition lt d a b pivot).2.1]∧H'=S (partition lt d a b pivot).2.2++G:=by
 have hN:=I.hN
 refine aSi (N:=98) (rs:=[.tmp 8,.tmp 9]) Tryz.func202 ?_
 rintro e he ⟨g0,g1,g2,g3,-⟩
 have w1:i64.wrap ((a:Int)+1)=((a+1:Nat):Int):=wN _ (by omega) (by omega)
 have w2:i64.wrap ((b:Int)-1)=((b-1:Nat):Int):=wN _ (by omega) (by omega)
 simp only[go_sem,he,g0,g1,g2,g3,I.mS]
 refine aI (I.swap d G a pivot hd (by omega) (by omega)) ?_
 rintro r H' ⟨rfl,rfl⟩
 simp only[go_sem,he,g0,g1,g2,g3,bL,aA,w1,w2]
 obtain⟨T,hO⟩:∃T,partition lt d a b pivot=T:=⟨_,rfl⟩
 rw[hO]
 unfold partition at hO
 simp only[] at hO
 have hdk:(swp d a pivot).size=N:=by rw[F.eG];exact hd
 generalize swp d a pivot=dk at hdk hO ⊢
 have hab:a<b:=by omega
 clear g2 g3 hd hp w1 w2 d
 have hai:a<a+1:=Nat.lt_succ_self a
 have hij:a+1≤b-1+2:=by omega
 have hjb:b-1<b:=by omega
 generalize a+1=i at hai hij hO ⊢
 generalize b-1=j at hij hjb hO ⊢
 have gi:True:=trivial
 have gj:True:=trivial
 refine bG (j+2-i) (fun k2 e h=>len e=98∧AL.get e 0=.ifc ty rv∧AL.get e 1=vI a∧AL.get e 11=vI j∧∃i':Nat,AL.get e 10=vI i'∧k2=j+2-i'∧i≤i'∧i'≤j+2∧h=S dk++G∧scanUp (fun x=>lt x dk[a]!) dk j i'=scanUp (fun x=>lt x dk[a]!) dk j i) (fun e h=>len e=98∧AL.get e 0=.ifc ty rv∧AL.get e 1=vI a∧AL.get e 11=vI j∧AL.get e 10=vI (scanUp (fun x=>lt x dk[a]!) dk j i:Nat)∧scanUp (fun x=>lt x dk[a]!) dk j i≤j+2∧h=S dk++G) (by kernel_rfl) ?_ ?_ ?_
 ·simp only[go_sem,he,g0,g1,gi,gj]
  exact⟨i,rfl,rfl,Nat.le_refl _,hij,rfl⟩
 ·clear g0 g1 gi gj he
  rintro k2 e h ⟨he,g0,g1,gj,i',gi,rfl,hi1,hi2,rfl,hs⟩
  have wi:i64.wrap ((i':Int)+1)=((i'+1:Nat):Int):=wN _ (by omega) (by omega)
  simp only[go_sem,he,g0,g1,gi,gj]
  by_cases hc:i'≤j
  ·have d1:decide ((i':Int)≤(j:Int))=true:=dcT (by omega)
   simp only[go_sem,he,g0,g1,gi,gj,d1,I.mL]
   refine aSh (I.less dk G i' a hdk (by omega) (by omega)) ?_
   simp only[go_sem,he,g0,g1,gi,gj,aA]
   refine aF (fun hl=>?_) fun hl=>?_
   ·simp only[go_sem,he,g0,g1,gi,gj,wi]
    exact⟨j+2-(i'+1),by omega,i'+1,rfl,rfl,by omega,by omega,by rw[←hs,wL (p:=fun x=>lt x dk[a]!) hc hl]⟩
   ·simp only[go_sem,he,g0,g1,gi,gj]
    rw[kY (p:=fun x=>lt x dk[a]!) (fun h=>absurd (hl.symm.trans h.2) Bool.false_ne_true)] at hs
    rw[←hs]
    exact⟨rfl,hi2⟩
  ·have d1:decide ((i':Int)≤(j:Int))=false:=dcF (by omega)
   simp only[go_sem,he,g0,g1,gi,gj,d1]
   rw[kY (by omega)] at hs
   rw[←hs]
   exact⟨rfl,hi2⟩
 ·clear g0 g1 gi gj he
  rintro e h ⟨he,g0,g1,gj,gi,hi2,rfl⟩
  have hi1:=scanUp_ge (fun x=>lt x dk[a]!) dk j i
  generalize hgi:scanUp (fun x=>lt x dk[a]!) dk j i=i2 at hi1 hi2 gi hO
  simp only[go_sem,he,g0,g1,gi,gj]
  refine bG j (fun k2 e h=>len e=98∧AL.get e 0=.ifc ty rv∧AL.get e 1=vI a∧AL.get e 10=vI i2∧∃j':Nat,AL.get e 11=vI j'∧k2=j'∧j'≤j∧h=S dk++G∧scanDown (fun x=>!lt x dk[a]!) dk i2 j'=scanDown (fun x=>!lt x dk[a]!) dk i2 j) (fun e h=>len e=98∧AL.get e 0=.ifc ty rv∧AL.get e 1=vI a∧AL.get e 10=vI i2∧AL.get e 11=vI (scanDown (fun x=>!lt x dk[a]!) dk i2 j:Nat)∧h=S dk++G) (by kernel_rfl) ?_ ?_ ?_
  ·simp only[go_sem,he,g0,g1,gi,gj]
   exact⟨j,rfl,rfl,Nat.le_refl _,rfl⟩
  ·clear g0 g1 gi gj he
   rintro k2 e h ⟨he,g0,g1,gi,j',gj,hk2,hj1,rfl,hs⟩
   simp only[go_sem,he,g0,g1,gi,gj]
   by_cases hc:i2≤j'
   ·have d1:decide ((i2:Int)≤(j':Int))=true:=dcT (by omega)
    obtain⟨m,rfl⟩:∃m,j'=m+1:=⟨j'-1,by omega⟩
    have wj:i64.wrap (((m+1:Nat):Int)-1)=(m:Int):=wN _ (by omega) (by omega)
    simp only[go_sem,he,g0,g1,gi,gj,d1,I.mL]
    refine aSh (I.less dk G (m+1) a hdk (by omega) (by omega)) ?_
    simp only[go_sem,he,g0,g1,gi,gj,aA]
    refine aF (fun hl=>?_) fun hl=>?_
    ·simp only[go_sem,he,g0,g1,gi,gj,wj]
     exact⟨m,by omega,m,rfl,rfl,by omega,by rw[←hs,r3 (p:=fun x=>!lt x dk[a]!) hc hl]⟩
    ·simp only[go_sem,he,g0,g1,gi,gj]
     rw[jG (p:=fun x=>!lt x dk[a]!) (by omega) (fun h=>absurd (hl.symm.trans h.2) Bool.false_ne_true)] at hs
     rw[←hs]
   ·have d1:decide ((i2:Int)≤(j':Int))=false:=dcF (by omega)
    simp only[go_sem,he,g0,g1,gi,gj,d1]
    cases j' with
    |zero=>rw[←hs];rfl
    |succ m=>rw[jG (by omega) (by omega)] at hs;rw[←hs]
  ·clear g0 g1 gi gj he
   rintro e h ⟨he,g0,g1,gi,gj,rfl⟩
   have hj1:=scanDown_le (fun x=>!lt x dk[a]!) dk i2 j
   generalize hgj:scanDown (fun x=>!lt x dk[a]!) dk i2 j=j2 at hj1 gj hO
   simp only[go_sem,he,g0,g1,gi,gj]
   refine aF (fun hc=>?_) fun hc=>?_
   ·have hc:=odT hc
    rw[if_pos (by omega)] at hO
    simp only[go_sem,he,g0,g1,gi,gj,I.mS]
    refine aI (I.swap dk G j2 a hdk (by omega) (by omega)) ?_
    rintro r H' ⟨rfl,rfl⟩
    simp only[go_sem,he,g0,g1,gi,gj,bL,aA]
    rw[←hO]
    exact⟨rfl,rfl⟩
   ·have hc:=odF hc
    rw[if_neg (by omega)] at hO
    have wi:i64.wrap ((i2:Int)+1)=((i2+1:Nat):Int):=wN _ (by omega) (by omega)
    have wj:i64.wrap ((j2:Int)-1)=((j2-1:Nat):Int):=wN _ (by omega) (by omega)
    simp only[go_sem,he,g0,g1,gi,gj,I.mS]
    refine aI (I.swap dk G i2 j2 hdk (by omega) (by omega)) ?_
    rintro r H' ⟨rfl,rfl⟩
    simp only[go_sem,he,g0,g1,gi,gj,bL,aA,wi,wj]
    refine cF (j2-1+1-(i2+1)) (fun k e h=>len e=98∧AL.get e 0=.ifc ty rv∧AL.get e 1=vI a∧∃(i j:Nat) (dk2:Array α),AL.get e 10=vI i∧AL.get e 11=vI j∧k=j+1-i∧a<i∧i≤j+2∧j<b∧dk2.size=N∧h=S dk2++G∧((partLoop lt a i j dk2).1,false,swp (partLoop lt a i j dk2).2 (partLoop lt a i j dk2).1 a)=T) (by kernel_rfl) ?_ ?_
    ·simp only[go_sem,he,g0,g1,gi,gj]
     exact⟨i2+1,j2-1,_,rfl,rfl,rfl,by omega,by omega,by omega,by rw[F.eG];exact hdk,rfl,hO⟩
    ·clear g0 g1 gi gj he hO
     rintro k e h ⟨he,g0,g1,i3,j3,dk2,gi,gj,rfl,hai,hij3,hjb,hdk2,rfl,hO⟩
     clear hgi hgj hi1 hi2 hj1 wi wj hc hij hdk
     rw[partLoop_eq] at hO
     simp only[go_sem,he,g0,g1,gi,gj]
     refine bG (j3+2-i3) (fun k2 e h=>len e=98∧AL.get e 0=.ifc ty rv∧AL.get e 1=vI a∧AL.get e 11=vI j3∧∃i':Nat,AL.get e 10=vI i'∧k2=j3+2-i'∧i3≤i'∧i'≤j3+2∧h=S dk2++G∧scanUp (fun x=>lt x dk2[a]!) dk2 j3 i'=scanUp (fun x=>lt x dk2[a]!) dk2 j3 i3) (fun e h=>len e=98∧AL.get e 0=.ifc ty rv∧AL.get e 1=vI a∧AL.get e 11=vI j3∧AL.get e 10=vI (scanUp (fun x=>lt x dk2[a]!) dk2 j3 i3:Nat)∧scanUp (fun x=>lt x dk2[a]!) dk2 j3 i3≤j3+2∧h=S dk2++G) (by kernel_rfl) ?_ ?_ ?_
     ·simp only[go_sem,he,g0,g1,gi,gj]
      exact⟨i3,rfl,rfl,Nat.le_refl _,hij3,rfl⟩
     ·clear g0 g1 gi gj he
      rintro k2 e h ⟨he,g0,g1,gj,i',gi,rfl,hi1,hi2,rfl,hs⟩
      have wi:i64.wrap ((i':Int)+1)=((i'+1:Nat):Int):=wN _ (by omega) (by omega)
      simp only[go_sem,he,g0,g1,gi,gj]
      by_cases hc:i'≤j3
      ·have d1:decide ((i':Int)≤(j3:Int))=true:=dcT (by omega)
       simp only[go_sem,he,g0,g1,gi,gj,d1,I.mL]
       refine aSh (I.less dk2 G i' a hdk2 (by omega) (by omega)) ?_
       simp only[go_sem,he,g0,g1,gi,gj,aA]
       refine aF (fun hl=>?_) fun hl=>?_
       ·simp only[go_sem,he,g0,g1,gi,gj,wi]
        exact⟨j3+2-(i'+1),by omega,i'+1,rfl,rfl,by omega,by omega,by rw[←hs,wL (p:=fun x=>lt x dk2[a]!) hc hl]⟩
       ·simp only[go_sem,he,g0,g1,gi,gj]
        rw[kY (p:=fun x=>lt x dk2[a]!) (fun h=>absurd (hl.symm.trans h.2) Bool.false_ne_true)] at hs
        rw[←hs]
        exact⟨rfl,hi2⟩
      ·have d1:decide ((i':Int)≤(j3:Int))=false:=dcF (by omega)
       simp only[go_sem,he,g0,g1,gi,gj,d1]
       rw[kY (by omega)] at hs
       rw[←hs]
       exact⟨rfl,hi2⟩
     ·clear g0 g1 gi gj he
      rintro e h ⟨he,g0,g1,gj,gi,hi2,rfl⟩
      have hi1:=scanUp_ge (fun x=>lt x dk2[a]!) dk2 j3 i3
      generalize hgi:scanUp (fun x=>lt x dk2[a]!) dk2 j3 i3=i2 at hi1 hi2 gi hO
      simp only[go_sem,he,g0,g1,gi,gj]
      refine bG j3 (fun k2 e h=>len e=98∧AL.get e 0=.ifc ty rv∧AL.get e 1=vI a∧AL.get e 10=vI i2∧∃j':Nat,AL.get e 11=vI j'∧k2=j'∧j'≤j3∧h=S dk2++G∧scanDown (fun x=>!lt x dk2[a]!) dk2 i2 j'=scanDown (fun x=>!lt x dk2[a]!) dk2 i2 j3) (fun e h=>len e=98∧AL.get e 0=.ifc ty rv∧AL.get e 1=vI a∧AL.get e 10=vI i2∧AL.get e 11=vI (scanDown (fun x=>!lt x dk2[a]!) dk2 i2 j3:Nat)∧h=S dk2++G) (by kernel_rfl) ?_ ?_ ?_
      ·simp only[go_sem,he,g0,g1,gi,gj]
       exact⟨j3,rfl,rfl,Nat.le_refl _,rfl⟩
      ·clear g0 g1 gi gj he
       rintro k2 e h ⟨he,g0,g1,gi,j',gj,hk2,hj1,rfl,hs⟩
       simp only[go_sem,he,g0,g1,gi,gj]
       by_cases hc:i2≤j'
       ·have d1:decide ((i2:Int)≤(j':Int))=true:=dcT (by omega)
        obtain⟨m,rfl⟩:∃m,j'=m+1:=⟨j'-1,by omega⟩
        have wj:i64.wrap (((m+1:Nat):Int)-1)=(m:Int):=wN _ (by omega) (by omega)
        simp only[go_sem,he,g0,g1,gi,gj,d1,I.mL]
        refine aSh (I.less dk2 G (m+1) a hdk2 (by omega) (by omega)) ?_
        simp only[go_sem,he,g0,g1,gi,gj,aA]
        refine aF (fun hl=>?_) fun hl=>?_
        ·simp only[go_sem,he,g0,g1,gi,gj,wj]
         exact⟨m,by omega,m,rfl,rfl,by omega,by rw[←hs,r3 (p:=fun x=>!lt x dk2[a]!) hc hl]⟩
        ·simp only[go_sem,he,g0,g1,gi,gj]
         rw[jG (p:=fun x=>!lt x dk2[a]!) (by omega) (fun h=>absurd (hl.symm.trans h.2) Bool.false_ne_true)] at hs
         rw[←hs]
       ·have d1:decide ((i2:Int)≤(j':Int))=false:=dcF (by omega)
        simp only[go_sem,he,g0,g1,gi,gj,d1]
        cases j' with
        |zero=>rw[←hs];rfl
        |succ m=>rw[jG (by omega) (by omega)] at hs;rw[←hs]
      ·clear g0 g1 gi gj he
       rintro e h ⟨he,g0,g1,gi,gj,rfl⟩
       have hj1:=scanDown_le (fun x=>!lt x dk2[a]!) dk2 i2 j3
       generalize hgj:scanDown (fun x=>!lt x dk2[a]!) dk2 i2 j3=j2 at hj1 gj hO
       simp only[go_sem,he,g0,g1,gi,gj]
       refine aF (fun hc=>?_) fun hc=>?_
       ·have hc:=odT hc
        rw[if_pos (by omega)] at hO
        subst hO
        simp only[go_sem,he,g0,g1,gi,gj,I.mS]
        refine aI (I.swap dk2 G j2 a hdk2 (by omega) (by omega)) ?_
        rintro r H' ⟨rfl,rfl⟩
        simp only[go_sem,he,g0,g1,gi,gj,bL,aA]
       ·have hc:=odF hc
        rw[if_neg (by omega)] at hO
        have wi:i64.wrap ((i2:Int)+1)=((i2+1:Nat):Int):=wN _ (by omega) (by omega)
        have wj:i64.wrap ((j2:Int)-1)=((j2-1:Nat):Int):=wN _ (by omega) (by omega)
        simp only[go_sem,he,g0,g1,gi,gj,I.mS]
        refine aI (I.swap dk2 G i2 j2 hdk2 (by omega) (by omega)) ?_
        rintro r H' ⟨rfl,rfl⟩
        simp only[go_sem,he,g0,g1,gi,gj,bL,aA,wi,wj]
        exact⟨j2-1+1-(i2+1),by omega,i2+1,j2-1,_,rfl,rfl,rfl,by omega,by omega,by omega,by rw[F.eG];exact hdk2,rfl,hO⟩
end
section
variable {w0:World} {ty:TypeId} {rv:AV} {α:Type} [Inhabited α] {lt:α→α→Bool} {N:Nat} {S:Array α→aB}
theorem tA:∀(j:Nat) (d:Array α),(shiftDown lt j d).size=d.size
 |0,d=>rfl
 |j+1,d=>by
   rw[shiftDown]
   split
   ·rfl
   ·rw[tA j,F.eG]
theorem aET (b:Nat):∀(n j:Nat) (d:Array α),b-j≤n→(shiftUp lt b j d).size=d.size:=by
 intro n
 induction n with
 |zero=>intro j d h;rw[shiftUp,if_neg (by omega)]
 |succ n ih=>
  intro j d h
  rw[shiftUp]
  split
  ·split
   ·rfl
   ·rw[ih _ _ (by omega),F.eG]
  ·rfl
theorem aDd (d:Array α) (b:Nat):∀(n i:Nat),b-i≤n→i≤b→i≤scanSorted lt d b i∧scanSorted lt d b i≤b:=by
 intro n
 induction n with
 |zero=>intro i h hi;rw[scanSorted,if_neg (by simp;omega)];omega
 |succ n ih=>
  intro i h hi
  rw[scanSorted]
  split
  ·rename_i hc
   have:i<b:=by simp at hc;exact hc.1
   have:=ih (i+1) (by omega) (by omega)
   omega
  ·omega
theorem aDe {d:Array α} {b i:Nat} (h:i<b) (hp:(!lt d[i]! d[i-1]!)=true):scanSorted lt d b i=scanSorted lt d b (i+1):=by rw[scanSorted.eq_1 lt d b i,if_pos (by simp[h,hp])]
theorem tB {d:Array α} {b i:Nat} (h:¬(i<b∧(!lt d[i]! d[i-1]!)=true)):scanSorted lt d b i=i:=by rw[scanSorted,if_neg (by simpa using h)]
theorem r4 (I:SI w0 ty rv lt N S) (d:Array α) (G:aB) (a b:Nat) (hd:d.size=N) (hab:a<b) (hb:b≤N):aH prog (CB w0) 200 [.ifc ty rv,vI a,vI b] (S d++G) fun r H'=>r=vB (partialInsertionSort lt d a b).2∧H'=S (partialInsertionSort lt d a b).1++G:=by
 have hN:=I.hN
 refine aSi (N:=85) (rs:=[.tmp 6]) Tryz.func200 ?_
 rintro e he ⟨g0,g1,g2,-⟩
 obtain⟨T,hT⟩:∃T,partialInsertionSort lt d a b=T:=⟨_,rfl⟩
 rw[hT]
 have w1:i64.wrap ((a:Int)+1)=((a+1:Nat):Int):=wN _ (by omega) (by omega)
 have wba:i64.wrap ((b:Int)-a)=((b-a:Nat):Int):=wN _ (by omega) (by omega)
 simp only[go_sem,he,g0,g1,g2,w1]
 refine cF 5 (fun k e h=>len e=85∧AL.get e 0=.ifc ty rv∧AL.get e 1=vI a∧AL.get e 2=vI b∧∃(i s:Nat) (dk:Array α),AL.get e 7=vI i∧AL.get e 8=vI s∧k+s=5∧a<i∧i≤b∧dk.size=N∧h=S dk++G∧partialIns lt a b k i dk=T) (by kernel_rfl) ?_ ?_
 ·simp only[go_sem,he,g0,g1,g2]
  exact⟨a+1,0,d,rfl,rfl,rfl,by omega,by omega,hd,rfl,hT⟩
 ·clear g0 g1 g2 he
  rintro k e h ⟨he,g0,g1,g2,i,s,dk,g7,g8,hk,hai,hib,hdk,rfl,hO⟩
  simp only[go_sem,he,g0,g1,g2,g7,g8]
  refine aF (fun hc=>?_) fun hc=>?_
  ·have hc:=odT hc
   obtain⟨k,rfl⟩:∃m,k=m+1:=⟨k-1,by omega⟩
   have ws:i64.wrap ((s:Int)+1)=((s+1:Nat):Int):=wN _ (by omega) (by omega)
   simp only[go_sem,he,g0,g1,g2,g7,g8]
   refine bG (b-i) (fun k2 e h=>len e=85∧AL.get e 0=.ifc ty rv∧AL.get e 1=vI a∧AL.get e 2=vI b∧AL.get e 8=vI s∧∃i':Nat,AL.get e 7=vI i'∧k2=b-i'∧i≤i'∧i'≤b∧h=S dk++G∧scanSorted lt dk b i'=scanSorted lt dk b i) (fun e h=>len e=85∧AL.get e 0=.ifc ty rv∧AL.get e 1=vI a∧AL.get e 2=vI b∧AL.get e 8=vI s∧AL.get e 7=vI (scanSorted lt dk b i:Nat)∧h=S dk++G) (by kernel_rfl) ?_ ?_ ?_
   ·simp only[go_sem,he,g0,g1,g2,g7,g8]
    exact⟨i,rfl,rfl,Nat.le_refl _,hib,rfl⟩
   ·clear g0 g1 g2 g7 g8 he
    rintro k2 e h ⟨he,g0,g1,g2,g8,i',g7,rfl,hi1,hi2,rfl,hs⟩
    have wi:i64.wrap ((i':Int)+1)=((i'+1:Nat):Int):=wN _ (by omega) (by omega)
    simp only[go_sem,he,g0,g1,g2,g7,g8]
    by_cases hc:i'<b
    ·have d1:decide ((i':Int)<(b:Int))=true:=dcT (by omega)
     have wi1:i64.wrap ((i':Int)-1)=((i'-1:Nat):Int):=wN _ (by omega) (by omega)
     simp only[go_sem,he,g0,g1,g2,g7,g8,d1,wi1,I.mL]
     refine aSh (I.less dk G i' (i'-1) hdk (by omega) (by omega)) ?_
     simp only[go_sem,he,g0,g1,g2,g7,g8,aA]
     refine aF (fun hl=>?_) fun hl=>?_
     ·simp only[go_sem,he,g0,g1,g2,g7,g8,wi]
      exact⟨b-(i'+1),by omega,i'+1,rfl,rfl,by omega,by omega,by rw[←hs,aDe hc hl]⟩
     ·simp only[go_sem,he,g0,g1,g2,g7,g8]
      rw[tB (fun h=>absurd (hl.symm.trans h.2) Bool.false_ne_true)] at hs
      rw[←hs]
    ·have d1:decide ((i':Int)<(b:Int))=false:=dcF (by omega)
     simp only[go_sem,he,g0,g1,g2,g7,g8,d1]
     rw[tB (by omega)] at hs
     rw[←hs]
   ·clear g0 g1 g2 g7 g8 he
    rintro e h ⟨he,g0,g1,g2,g8,g7,rfl⟩
    have hi2:=aDd (lt:=lt) dk b _ i (Nat.le_refl _) hib
    rw[partialIns] at hO
    generalize scanSorted lt dk b i=i2 at hi2 g7 hO
    simp only[] at hO
    simp only[go_sem,he,g0,g1,g2,g7,g8]
    refine aF (fun hc=>?_) fun hc=>?_
    ·have hc:=odT hc
     rw[if_pos (by omega)] at hO
     subst hO
     simp only[go_sem,he,g0,g1,g2,g7,g8]
    ·have hc:=odF hc
     have hi3:i2<b:=by omega
     rw[if_neg (by omega)] at hO
     simp only[go_sem,he,g0,g1,g2,g7,g8,wba]
     refine aF (fun hc=>?_) fun hc=>?_
     ·have hc:=odT hc
      rw[if_pos (by omega)] at hO
      subst hO
      simp only[go_sem,he,g0,g1,g2,g7,g8]
     ·have hc:=odF hc
      rw[if_neg (by omega)] at hO
      have wi1:i64.wrap ((i2:Int)-1)=((i2-1:Nat):Int):=wN _ (by omega) (by omega)
      have wi2:i64.wrap ((i2:Int)-a)=((i2-a:Nat):Int):=wN _ (by omega) (by omega)
      have wi3:i64.wrap ((b:Int)-i2)=((b-i2:Nat):Int):=wN _ (by omega) (by omega)
      have wi4:i64.wrap ((i2:Int)+1)=((i2+1:Nat):Int):=wN _ (by omega) (by omega)
      simp only[go_sem,he,g0,g1,g2,g7,g8,wi1,I.mS]
      refine aI (I.swap dk G i2 (i2-1) hdk (by omega) (by omega)) ?_
      rintro r H' ⟨rfl,rfl⟩
      have hd1:(swp dk i2 (i2-1)).size=N:=by rw[F.eG];exact hdk
      generalize swp dk i2 (i2-1)=d1 at hd1 hO
      simp only[go_sem,he,g0,g1,g2,g7,g8,bL,aA,wi2]
      obtain⟨d2,hd2⟩:∃d2,(if i2-a≥2 then shiftDown lt (i2-1) d1 else d1)=d2:=⟨_,rfl⟩
      rw[hd2] at hO
      have hs2:d2.size=N:=by
        rw[←hd2]
        split
        ·rw[tA];exact hd1
        ·exact hd1
      refine bC (fun e h=>len e=85∧AL.get e 0=.ifc ty rv∧AL.get e 1=vI a∧AL.get e 2=vI b∧AL.get e 8=vI s∧AL.get e 7=vI i2∧h=S d2++G) (fun hc=>?_) (fun hc=>?_) ?_
      ·have hc:=odT hc
       rw[if_pos (by omega)] at hd2
       simp only[go_sem,he,g0,g1,g2,g7,g8,wi1]
       refine bG (i2-1) (fun k2 e h=>len e=85∧AL.get e 0=.ifc ty rv∧AL.get e 1=vI a∧AL.get e 2=vI b∧AL.get e 8=vI s∧AL.get e 7=vI i2∧∃(j':Nat) (dj:Array α),AL.get e 9=vI j'∧k2=j'∧j'≤i2-1∧dj.size=N∧h=S dj++G∧shiftDown lt j' dj=d2) (fun e h=>len e=85∧AL.get e 0=.ifc ty rv∧AL.get e 1=vI a∧AL.get e 2=vI b∧AL.get e 8=vI s∧AL.get e 7=vI i2∧h=S d2++G) (by kernel_rfl) ?_ ?_ ?_
       ·simp only[go_sem,he,g0,g1,g2,g7,g8]
        exact⟨i2-1,d1,rfl,rfl,Nat.le_refl _,hd1,rfl,hd2⟩
       ·clear g0 g1 g2 g7 g8 he
        rintro k2 e h ⟨he,g0,g1,g2,g8,g7,j',dj,g9,hk2,hj1,hdj,rfl,hs⟩
        simp only[go_sem,he,g0,g1,g2,g7,g8,g9]
        refine aF (fun hc=>?_) fun hc=>?_
        ·have hc:=odT hc
         obtain⟨m,rfl⟩:∃m,j'=m+1:=⟨j'-1,by omega⟩
         have wj:i64.wrap (((m+1:Nat):Int)-1)=(m:Int):=wN _ (by omega) (by omega)
         simp only[go_sem,he,g0,g1,g2,g7,g8,g9,wj,I.mL]
         refine aSh (I.less dj G (m+1) m hdj (by omega) (by omega)) ?_
         simp only[go_sem,he,g0,g1,g2,g7,g8,g9,aA]
         rw[shiftDown] at hs
         refine aF (fun hl=>?_) fun hl=>?_
         ·simp only[go_sem,he,g0,g1,g2,g7,g8,g9]
          rw[if_pos hl] at hs
          rw[hs]
         ·rw[if_neg (by rw[hl];exact Bool.false_ne_true)] at hs
          simp only[go_sem,he,g0,g1,g2,g7,g8,g9,wj,I.mS]
          refine aI (I.swap dj G (m+1) m hdj (by omega) (by omega)) ?_
          rintro r H' ⟨rfl,rfl⟩
          simp only[go_sem,he,g0,g1,g2,g7,g8,g9,bL,aA,wj]
          exact⟨m,by omega,m,_,rfl,rfl,by omega,by rw[F.eG];exact hdj,rfl,hs⟩
        ·have hc:=odF hc
         obtain rfl:j'=0:=by omega
         change dj=d2 at hs
         simp only[go_sem,he,g0,g1,g2,g7,g8,g9]
         rw[hs]
       ·clear g0 g1 g2 g7 g8 he
        rintro e h ⟨he,g0,g1,g2,g8,g7,rfl⟩
        simp only[go_sem,he,g0,g1,g2,g7,g8]
      ·have hc:=odF hc
       rw[if_neg (by omega)] at hd2
       simp only[go_sem,he,g0,g1,g2,g7,g8]
       rw[hd2]
      ·clear g0 g1 g2 g7 g8 he
       rintro e h ⟨he,g0,g1,g2,g8,g7,rfl⟩
       simp only[go_sem,he,g0,g1,g2,g7,g8,wi3]
       obtain⟨d3,hd3⟩:∃d3,(if b-i2≥2 then shiftUp lt b (i2+1) d2 else d2)=d3:=⟨_,rfl⟩
       rw[hd3] at hO
       have hs3:d3.size=N:=by
         rw[←hd3]
         split
         ·rw[aET b _ _ d2 (Nat.le_refl _)];exact hs2
         ·exact hs2
       refine bC (fun e h=>len e=85∧AL.get e 0=.ifc ty rv∧AL.get e 1=vI a∧AL.get e 2=vI b∧AL.get e 8=vI s∧AL.get e 7=vI i2∧h=S d3++G) (fun hc=>?_) (fun hc=>?_) ?_
       ·have hc:=odT hc
        rw[if_pos (by omega)] at hd3
        simp only[go_sem,he,g0,g1,g2,g7,g8,wi4]
        refine bG (b-(i2+1)) (fun k2 e h=>len e=85∧AL.get e 0=.ifc ty rv∧AL.get e 1=vI a∧AL.get e 2=vI b∧AL.get e 8=vI s∧AL.get e 7=vI i2∧∃(j':Nat) (dj:Array α),AL.get e 10=vI j'∧k2=b-j'∧i2+1≤j'∧j'≤b∧dj.size=N∧h=S dj++G∧shiftUp lt b j' dj=d3) (fun e h=>len e=85∧AL.get e 0=.ifc ty rv∧AL.get e 1=vI a∧AL.get e 2=vI b∧AL.get e 8=vI s∧AL.get e 7=vI i2∧h=S d3++G) (by kernel_rfl) ?_ ?_ ?_
        ·simp only[go_sem,he,g0,g1,g2,g7,g8]
         exact⟨i2+1,d2,rfl,rfl,Nat.le_refl _,by omega,hs2,rfl,hd3⟩
        ·clear g0 g1 g2 g7 g8 he
         rintro k2 e h ⟨he,g0,g1,g2,g8,g7,j',dj,g10,hk2,hj1,hj2,hdj,rfl,hs⟩
         rw[shiftUp] at hs
         simp only[go_sem,he,g0,g1,g2,g7,g8,g10]
         refine aF (fun hc=>?_) fun hc=>?_
         ·have hc:=odT hc
          rw[if_pos (by omega)] at hs
          have wj:i64.wrap ((j':Int)-1)=((j'-1:Nat):Int):=wN _ (by omega) (by omega)
          have wj2:i64.wrap ((j':Int)+1)=((j'+1:Nat):Int):=wN _ (by omega) (by omega)
          simp only[go_sem,he,g0,g1,g2,g7,g8,g10,wj,I.mL]
          refine aSh (I.less dj G j' (j'-1) hdj (by omega) (by omega)) ?_
          simp only[go_sem,he,g0,g1,g2,g7,g8,g10,aA]
          refine aF (fun hl=>?_) fun hl=>?_
          ·simp only[go_sem,he,g0,g1,g2,g7,g8,g10]
           rw[if_pos hl] at hs
           rw[hs]
          ·rw[if_neg (by rw[hl];exact Bool.false_ne_true)] at hs
           simp only[go_sem,he,g0,g1,g2,g7,g8,g10,wj,I.mS]
           refine aI (I.swap dj G j' (j'-1) hdj (by omega) (by omega)) ?_
           rintro r H' ⟨rfl,rfl⟩
           simp only[go_sem,he,g0,g1,g2,g7,g8,g10,bL,aA,wj2]
           exact⟨b-(j'+1),by omega,j'+1,_,rfl,rfl,by omega,by omega,by rw[F.eG];exact hdj,rfl,hs⟩
         ·have hc:=odF hc
          rw[if_neg (by omega)] at hs
          simp only[go_sem,he,g0,g1,g2,g7,g8,g10]
          rw[hs]
        ·clear g0 g1 g2 g7 g8 he
         rintro e h ⟨he,g0,g1,g2,g8,g7,rfl⟩
         simp only[go_sem,he,g0,g1,g2,g7,g8]
       ·have hc:=odF hc
        rw[if_neg (by omega)] at hd3
        simp only[go_sem,he,g0,g1,g2,g7,g8]
        rw[hd3]
       ·clear g0 g1 g2 g7 g8 he
        rintro e h ⟨he,g0,g1,g2,g8,g7,rfl⟩
        simp only[go_sem,he,g0,g1,g2,g7,g8,ws]
        exact⟨k,by omega,i2,s+1,d3,rfl,rfl,by omega,by omega,by omega,hs3,rfl,hO⟩
  ·have hc:=odF hc
   obtain rfl:k=0:=by omega
   change (dk,false)=T at hO
   subst hO
   simp only[go_sem,he,g0,g1,g2,g7,g8]
end
section
variable {w0:World} {ty:TypeId} {rv:AV} {α:Type} [Inhabited α] {lt:α→α→Bool} {N:Nat} {S:Array α→aB}
theorem zV (I:SI w0 ty rv lt N S) (d:Array α) (G:aB) (t:TypeId) (a b s:Nat) (hd:d.size=N) (ha:a<N) (hb:b<N) (hs:s≤1000):aH prog (CB w0) 225 [.ifc ty rv,vI a,vI b,.ptr ((S d).length+G.length) 0] (S d++(G++[.own t [vI s]])) fun r H'=>r=.tup [vI (order2 lt d a b s).1,vI (order2 lt d a b s).2.1]∧H'=S d++(G++[.own t [vI (order2 lt d a b s).2.2]]):=by
 have hN:=I.hN
 refine aSi (N:=23) (rs:=[.tmp 8,.tmp 9]) Tryz.func225 ?_
 rintro e he ⟨g0,g1,g2,g3,-⟩
 have ws:i64.wrap ((s:Int)+1)=((s+1:Nat):Int):=wN _ (by omega) (by omega)
 simp only[go_sem,he,g0,g1,g2,g3,I.mL]
 refine aSh (I.less d (G++[.own t [vI s]]) b a hd (by omega) (by omega)) ?_
 unfold order2
 simp only[go_sem,he,g0,g1,g2,g3,aA]
 refine aF (fun hl=>?_) fun hl=>?_
 ·rw[if_pos hl]
  simp only[go_sem,he,g0,g1,g2,g3,ws]
 ·rw[if_neg (by rw[hl];exact Bool.false_ne_true)]
  simp only[go_sem,he,g0,g1,g2,g3,ws]
theorem mJ (d:Array α) (a b s:Nat) (ha:a<N) (hb:b<N):(order2 lt d a b s).1<N∧(order2 lt d a b s).2.1<N∧(order2 lt d a b s).2.2≤s+1:=by
 unfold order2
 split
 ·exact⟨hb,ha,Nat.le_refl _⟩
 ·exact⟨ha,hb,Nat.le_succ _⟩
theorem aEU (I:SI w0 ty rv lt N S) (d:Array α) (G:aB) (t:TypeId) (a b c s:Nat) (hd:d.size=N) (ha:a<N) (hb:b<N) (hc:c<N) (hs:s≤990):aH prog (CB w0) 212 [.ifc ty rv,vI a,vI b,vI c,.ptr ((S d).length+G.length) 0] (S d++(G++[.own t [vI s]])) fun r H'=>r=vI (Go.Sort.median lt d a b c s).1∧H'=S d++(G++[.own t [vI (Go.Sort.median lt d a b c s).2]]):=by
 refine aSi (N:=36) (rs:=[.tmp 10]) Tryz.func212 ?_
 rintro e he ⟨g0,g1,g2,g3,g4,-⟩
 unfold Go.Sort.median
 simp only[go_sem,he,g0,g1,g2,g3,g4]
 have i1:=mJ (lt:=lt) (N:=N) d a b s ha hb
 refine aI (zV I d G t a b s hd ha hb (by omega)) ?_
 rintro r H' ⟨rfl,rfl⟩
 generalize order2 lt d a b s=r1 at i1 ⊢
 obtain⟨x1,y1,s1⟩:=r1
 simp only[] at i1
 simp only[go_sem,he,g0,g1,g2,g3,g4,aA]
 have i2:=mJ (lt:=lt) (N:=N) d y1 c s1 i1.2.1 hc
 refine aI (zV I d G t y1 c s1 hd i1.2.1 hc (by omega)) ?_
 rintro r H' ⟨rfl,rfl⟩
 generalize order2 lt d y1 c s1=r2 at i2 ⊢
 obtain⟨x2,y2,s2⟩:=r2
 simp only[] at i2
 simp only[go_sem,he,g0,g1,g2,g3,g4,aA]
 have i3:=mJ (lt:=lt) (N:=N) d x1 x2 s2 i1.1 i2.1
 refine aI (zV I d G t x1 x2 s2 hd i1.1 i2.1 (by omega)) ?_
 rintro r H' ⟨rfl,rfl⟩
 simp only[go_sem,he,g0,g1,g2,g3,g4,aA]
theorem wP (d:Array α) (a b c s:Nat) (ha:a<N) (hb:b<N) (hc:c<N):(Go.Sort.median lt d a b c s).1<N∧(Go.Sort.median lt d a b c s).2≤s+3:=by
 have i1:=mJ (lt:=lt) (N:=N) d a b s ha hb
 have i2:=mJ (lt:=lt) (N:=N) d (order2 lt d a b s).2.1 c (order2 lt d a b s).2.2 i1.2.1 hc
 have i3:=mJ (lt:=lt) (N:=N) d (order2 lt d a b s).1 (order2 lt d (order2 lt d a b s).2.1 c (order2 lt d a b s).2.2).1 (order2 lt d (order2 lt d a b s).2.1 c (order2 lt d a b s).2.2).2.2 i1.1 i2.1
 exact⟨i3.2.1,by show (order2 lt d _ _ _).2.2≤_;omega⟩
theorem mD (I:SI w0 ty rv lt N S) (d:Array α) (G:aB) (t:TypeId) (a s:Nat) (hd:d.size=N) (h1:1≤a) (ha:a+1<N) (hs:s≤990):aH prog (CB w0) 211 [.ifc ty rv,vI a,.ptr ((S d).length+G.length) 0] (S d++(G++[.own t [vI s]])) fun r H'=>r=vI (medianAdjacent lt d a s).1∧H'=S d++(G++[.own t [vI (medianAdjacent lt d a s).2]]):=by
 have hN:=I.hN
 refine aSi (N:=15) (rs:=[.tmp 6]) Tryz.func211 ?_
 rintro e he ⟨g0,g1,g2,-⟩
 have w1:i64.wrap ((a:Int)+1)=((a+1:Nat):Int):=wN _ (by omega) (by omega)
 have w2:i64.wrap ((a:Int)-1)=((a-1:Nat):Int):=wN _ (by omega) (by omega)
 unfold medianAdjacent
 simp only[go_sem,he,g0,g1,g2,w1,w2]
 refine aI (aEU I d G t (a-1) a (a+1) s hd (by omega) (by omega) (by omega) hs) ?_
 rintro r H' ⟨rfl,rfl⟩
 simp only[go_sem,he,g0,g1,g2,aA]
def aOZ:Hint→Int
 |.unknown=>0
 |.increasing=>1
 |.decreasing=>2
theorem aDf (I:SI w0 ty rv lt N S) (d:Array α) (G:aB) (a b:Nat) (hd:d.size=N) (hab:a+8≤b) (hb:b≤N):aH prog (CB w0) 198 [.ifc ty rv,vI a,vI b] (S d++G) fun r H'=>r=.tup [vI (choosePivot lt d a b).1,vI (aOZ (choosePivot lt d a b).2)]∧H'=S d++G:=by
 refine aH.flat rfl ?_
 have hN:=I.hN
 refine aSi (N:=57) (rs:=[.tmp 6,.tmp 7]) Tryz.func198 ?_
 rintro e he ⟨g0,g1,g2,-⟩
 obtain⟨P,hP⟩:∃P,choosePivot lt d a b=P:=⟨_,rfl⟩
 rw[hP]
 unfold choosePivot at hP
 have w1:i64.wrap ((b:Int)-a)=((b-a:Nat):Int):=wN _ (by omega) (by omega)
 have w2:i64.wrap (Int.tdiv ((b-a:Nat):Int) 4)=(((b-a)/4:Nat):Int):=wN _ (by rw[Int.tdiv_eq_ediv_of_nonneg (by omega)];omega) (by omega)
 simp only[go_sem,he,g0,g1,g2,w1,w2]
 generalize hl:b-a=l at w1 w2 hP ⊢
 have w3:i64.wrap (((l/4:Nat):Int)*1)=((l/4:Nat):Int):=wN _ (by omega) (by omega)
 have w4:i64.wrap (((l/4:Nat):Int)*2)=((l/4*2:Nat):Int):=wN _ (by omega) (by omega)
 have w5:i64.wrap (((l/4:Nat):Int)*3)=((l/4*3:Nat):Int):=wN _ (by omega) (by omega)
 have w6:i64.wrap ((a:Int)+((l/4:Nat):Int))=((a+l/4:Nat):Int):=wN _ (by omega) (by omega)
 have w7:i64.wrap ((a:Int)+((l/4*2:Nat):Int))=((a+l/4*2:Nat):Int):=wN _ (by omega) (by omega)
 have w8:i64.wrap ((a:Int)+((l/4*3:Nat):Int))=((a+l/4*3:Nat):Int):=wN _ (by omega) (by omega)
 have d8:decide ((8:Int)≤(l:Int))=true:=dcT (by omega)
 simp only[go_sem,he,g0,g1,g2,w1,w2,w3,w4,w5,w6,w7,w8,d8]
 simp only[if_pos (show l≥8 by omega),Nat.mul_one] at hP
 have k1:a+l/4+1<N:=by omega
 have k2:a+l/4*2+1<N:=by omega
 have k3:a+l/4*3+1<N:=by omega
 have k4:1≤a+l/4:=by omega
 have k5:1≤a+l/4*2:=by omega
 have k6:1≤a+l/4*3:=by omega
 generalize a+l/4=i at *
 generalize a+l/4*2=j at *
 generalize a+l/4*3=k at *
 obtain⟨R,hR⟩:∃R:Nat×Nat,(if l≥50 then Go.Sort.median lt d (medianAdjacent lt d i 0).1 (medianAdjacent lt d j (medianAdjacent lt d i 0).2).1 (medianAdjacent lt d k (medianAdjacent lt d j (medianAdjacent lt d i 0).2).2).1 (medianAdjacent lt d k (medianAdjacent lt d j (medianAdjacent lt d i 0).2).2).2 else Go.Sort.median lt d i j k 0)=R:=⟨_,rfl⟩
 rw[hR] at hP
 refine bC (fun e h=>len e=57∧AL.get e 0=.ifc ty rv∧AL.get e 9=.ptr ((S d).length+G.length) 0∧∃i' j' k' s:Nat,AL.get e 10=vI i'∧AL.get e 11=vI j'∧AL.get e 12=vI k'∧i'<N∧j'<N∧k'<N∧s≤100∧h=S d++(G++[.own 3 [vI s]])∧Go.Sort.median lt d i' j' k' s=R) (fun hc=>?_) (fun hc=>?_) ?_
 ·have hc:=odT hc
  rw[if_pos (by omega)] at hR
  simp only[go_sem,he,g0,g1,g2]
  have m1:=wP (lt:=lt) (N:=N) d (i-1) i (i+1) 0 (by omega) (by omega) (by omega)
  refine aI (mD I d G 3 i 0 hd (by omega) (by omega) (by omega)) ?_
  rintro r H' ⟨rfl,rfl⟩
  change (medianAdjacent lt d i 0).1<N∧(medianAdjacent lt d i 0).2≤_ at m1
  generalize medianAdjacent lt d i 0=ri at m1 hR ⊢
  simp only[go_sem,he,g0,g1,g2,aA]
  have m2:=wP (lt:=lt) (N:=N) d (j-1) j (j+1) ri.2 (by omega) (by omega) (by omega)
  refine aI (mD I d G 3 j ri.2 hd (by omega) (by omega) (by omega)) ?_
  rintro r H' ⟨rfl,rfl⟩
  change (medianAdjacent lt d j ri.2).1<N∧(medianAdjacent lt d j ri.2).2≤_ at m2
  generalize medianAdjacent lt d j ri.2=rj at m2 hR ⊢
  simp only[go_sem,he,g0,g1,g2,aA]
  have m3:=wP (lt:=lt) (N:=N) d (k-1) k (k+1) rj.2 (by omega) (by omega) (by omega)
  refine aI (mD I d G 3 k rj.2 hd (by omega) (by omega) (by omega)) ?_
  rintro r H' ⟨rfl,rfl⟩
  change (medianAdjacent lt d k rj.2).1<N∧(medianAdjacent lt d k rj.2).2≤_ at m3
  generalize medianAdjacent lt d k rj.2=rk at m3 hR ⊢
  simp only[go_sem,he,g0,g1,g2,aA]
  exact⟨ri.1,rj.1,rk.1,rk.2,rfl,rfl,rfl,m1.1,m2.1,m3.1,by omega,rfl,hR⟩
 ·have hc:=odF hc
  rw[if_neg (by omega)] at hR
  simp only[go_sem,he,g0,g1,g2]
  exact⟨i,j,k,0,rfl,rfl,rfl,by omega,by omega,by omega,by omega,rfl,hR⟩
 ·clear g0 g1 g2 he hR
  rintro e h ⟨he,g0,g9,i',j',k',s,g10,g11,g12,hi',hj',hk',hs,rfl,hR⟩
  simp only[go_sem,he,g0,g9,g10,g11,g12]
  refine aI (aEU I d G 3 i' j' k' s hd (by omega) (by omega) (by omega) (by omega)) ?_
  rintro r H' ⟨rfl,rfl⟩
  rw[hR]
  simp only[go_sem,he,g0,g9,g10,g11,g12,aA]
  refine aF (fun hc=>?_) fun hc=>?_
  ·have hc:=odT hc
   simp only[go_sem,he,g9,g11]
   rw[if_pos (by omega)] at hP
   subst hP
   exact⟨rfl,_,rfl⟩
  ·have hc:=odF hc
   rw[if_neg (by omega)] at hP
   simp only[go_sem,he,g9,g11]
   refine aF (fun hc=>?_) fun hc=>?_
   ·have hc:=odT hc
    simp only[go_sem,he,g9,g11]
    rw[if_pos (by omega)] at hP
    subst hP
    exact⟨rfl,_,rfl⟩
   ·have hc:=odF hc
    simp only[go_sem,he,g9,g11]
    rw[if_neg (by omega)] at hP
    subst hP
    exact⟨rfl,_,rfl⟩
end
def L8:List UInt8:=[0,1,2,2,3,3,3,3,4,4,4,4,4,4,4,4,5,5,5,5,5,5,5,5,5,5,5,5,5,5,5,5,6,6,6,6,6,6,6,6,6,6,6,6,6,6,6,6,6,6,6,6,6,6,6,6,6,6,6,6,6,6,6,6,7,7,7,7,7,7,7,7,7,7,7,7,7,7,7,7,7,7,7,7,7,7,7,7,7,7,7,7,7,7,7,7,7,7,7,7,7,7,7,7,7,7,7,7,7,7,7,7,7,7,7,7,7,7,7,7,7,7,7,7,7,7,7,7,8,8,8,8,8,8,8,8,8,8,8,8,8,8,8,8,8,8,8,8,8,8,8,8,8,8,8,8,8,8,8,8,8,8,8,8,8,8,8,8,8,8,8,8,8,8,8,8,8,8,8,8,8,8,8,8,8,8,8,8,8,8,8,8,8,8,8,8,8,8,8,8,8,8,8,8,8,8,8,8,8,8,8,8,8,8,8,8,8,8,8,8,8,8,8,8,8,8,8,8,8,8,8,8,8,8,8,8,8,8,8,8,8,8,8,8,8,8,8,8,8,8,8,8,8,8,8,8]
theorem aIo:∀n,n<256→(L8.getD n 0).toNat=bitsLen n∧bitsLen n≤8:=by
 have:((List.range 256).all fun n=>decide ((L8.getD n 0).toNat=bitsLen n∧bitsLen n≤8))=true:=by kernel_rfl
 intro n hn
 exact odT (List.all_eq_true.1 this n (List.mem_range.2 hn))
theorem aRG:∀n,n≤8→(2:Int) ^ n=((2 ^ n:Nat):Int)∧2 ^ n≤256:=by decide
theorem aRH:∀n,n<256→1≤n→1 <<< bitsLen n≤2*n∧2≤1 <<< bitsLen n:=by
 have:((List.range 256).all fun n=>decide (1≤n→1 <<< bitsLen n≤2*n∧2≤1 <<< bitsLen n))=true:=by kernel_rfl
 intro n hn
 exact odT (List.all_eq_true.1 this n (List.mem_range.2 hn))
theorem aPu {w0:World} (H:aB) (n:Nat) (hn:n<256):aH prog (CB w0) 97 [vQ n] H fun r H'=>r=vI (bitsLen n:Nat)∧H'=H:=by
 refine aSi (N:=25) (rs:=[.tmp 2]) Tryz.func97 ?_
 rintro e he ⟨g0,-⟩
 have d1:decide ((4294967296:Int)≤(n:Int))=false:=dcF (by omega)
 have d2:decide ((65536:Int)≤(n:Int))=false:=dcF (by omega)
 have d3:decide ((256:Int)≤(n:Int))=false:=dcF (by omega)
 have c1:gU prog 145 5 (vQ n)=some (vU n):=by
  rw[dL (P:=prog) (s:=145) (d:=5) Tryz.underlying145 Tryz.underlying5,IntKind.wrap_u8,show (n:Int)%256=n by omega]
 have hk:=aIo n hn
 simp only[go_sem,he,g0,d1,d2,d3,c1]
 refine⟨by omega,?_⟩
 have c2:gU prog 5 3 (vU (L8.getD n 0).toNat)=some (vI (bitsLen n:Nat)):=by
  rw[dL (P:=prog) (s:=5) (d:=3) Tryz.underlying5 Tryz.underlying3,hk.1,wN _ rfl (by omega)]
 unfold L8 at c2
 have w:i64.wrap (0+(bitsLen n:Int))=(bitsLen n:Int):=wN _ (by omega) (by omega)
 simp only[c2]
 simp only[go_sem,he,g0,w]
theorem aIp {w0:World} (H:aB) (n:Nat) (hn:n<256):aH prog (CB w0) 57 [vQ n] H fun r H'=>r=vI (bitsLen n:Nat)∧H'=H:=by
 refine aSi (N:=8) (rs:=[.tmp 2]) Tryz.func57 ?_
 rintro e he ⟨g0,-⟩
 simp only[go_sem,he,g0]
 refine aI (aPu H n hn) ?_
 rintro r H' ⟨rfl,rfl⟩
 simp only[go_sem,he,g0,aA]
theorem aKt {w0:World} (H:aB) (n:Nat) (hn:n<256):aH prog (CB w0) 209 [vI n] H fun r H'=>r=vQ (1 <<< bitsLen n:Nat)∧H'=H:=by
 refine aSi (N:=10) (rs:=[.tmp 2]) Tryz.func209 ?_
 rintro e he ⟨g0,-⟩
 have hk:=aIo n hn
 have c1:gU prog 3 95 (vI n)=some (vQ n):=by
  rw[dL (P:=prog) (s:=3) (d:=95) Tryz.underlying3 Tryz.underlying95,iD (by omega)]
 have c2:gU prog 3 95 (vI (bitsLen n:Nat))=some (vQ (bitsLen n:Nat)):=by
  rw[dL (P:=prog) (s:=3) (d:=95) Tryz.underlying3 Tryz.underlying95,iD (by omega)]
 have c3:cH prog .shl 95 (.const (.int .u64 1)) (.tmp 8) (vQ 1) (vQ (bitsLen n:Nat))=some (vQ (1 <<< bitsLen n:Nat)):=by
  rw[aB0 (by omega),Int.toNat_natCast,Nat.min_eq_left (by omega),Nat.one_shiftLeft]
  have h:=aRG _ hk.2
  rw[h.1,Int.one_mul,iD (by omega)]
 simp only[go_sem,he,g0,c1]
 refine aI (aIp H n hn) ?_
 rintro r H' ⟨rfl,rfl⟩
 simp only[go_sem,he,g0,aA,c2,c3]
section
variable {w0:World} {ty:TypeId} {rv:AV} {α:Type} [Inhabited α] {lt:α→α→Bool} {N:Nat} {S:Array α→aB}
def bpR (a l M i0:Nat):Nat→UInt64×Array α→Array α
 |0,st=>st.2
 |k+1,st=>bpR a l M i0 k (breakStep a l M st (i0+(2-k)))
theorem aBn (I:SI w0 ty rv lt N S) (d:Array α) (G:aB) (a b:Nat) (hd:d.size=N) (hab:a+8≤b) (hb:b≤N):aH prog (CB w0) 197 [.ifc ty rv,vI a,vI b] (S d++G) fun r H'=>r=.tup []∧∃G2,H'=S (breakPatterns d a b)++(G++G2):=by
 have hN:=I.hN
 refine aSi (N:=53) (rs:=[]) Tryz.func197 ?_
 rintro e he ⟨g0,g1,g2,-⟩
 have w1:i64.wrap ((b:Int)-a)=((b-a:Nat):Int):=wN _ (by omega) (by omega)
 have w2:i64.wrap (Int.tdiv ((b-a:Nat):Int) 4)=(((b-a)/4:Nat):Int):=wN _ (by rw[Int.tdiv_eq_ediv_of_nonneg (by omega)];omega) (by omega)
 obtain⟨T,hT⟩:∃T,breakPatterns d a b=T:=⟨_,rfl⟩
 rw[hT]
 unfold breakPatterns at hT
 simp only[if_pos (show b-a≥8 by omega)] at hT
 generalize hl:b-a=l at w1 w2 hT
 have hlN:l≤200:=by omega
 have d8:decide ((8:Int)≤(l:Int))=true:=dcT (by omega)
 have w3:i64.wrap (((l/4:Nat):Int)*2)=((l/4*2:Nat):Int):=wN _ (by omega) (by omega)
 have w4:i64.wrap ((a:Int)+((l/4*2:Nat):Int))=((a+l/4*2:Nat):Int):=wN _ (by omega) (by omega)
 have w5:i64.wrap (((a+l/4*2:Nat):Int)-1)=((a+l/4*2-1:Nat):Int):=wN _ (by omega) (by omega)
 have w6:i64.wrap (((a+l/4*2:Nat):Int)+1)=((a+l/4*2+1:Nat):Int):=wN _ (by omega) (by omega)
 have c1:gU prog 3 240 (vI l)=some (vQ l):=by
  rw[dL (P:=prog) (s:=3) (d:=240) Tryz.underlying3 Tryz.underlying240,iD (by omega)]
 simp only[go_sem,he,g0,g1,g2,w1,w2,d8,c1]
 refine aI (aKt _ l (by omega)) ?_
 rintro r H' ⟨rfl,rfl⟩
 have hM:=aRH l (by omega) (by omega)
 generalize 1 <<< bitsLen l=M at hM hT ⊢
 simp only[go_sem,he,g0,g1,g2,aA,w2,w3,w4,w5]
 have hT:bpR a l M (a+l/4*2-1) 3 (UInt64.ofNat l,d)=T:=hT
 have hi0:a+l/4*2-1+2<N:=by omega
 have hi1:a+l/4*2+1=a+l/4*2-1+2:=by omega
 rw[hi1] at w6
 generalize a+l/4*2-1=i0 at *
 refine cF 3 (fun k e h=>len e=53∧AL.get e 0=.ifc ty rv∧AL.get e 1=vI a∧AL.get e 6=vI l∧AL.get e 7=.ptr ((S d).length+G.length) 0∧AL.get e 8=vQ M∧∃(t X:Nat) (r:UInt64) (dk:Array α),AL.get e 9=vI t∧t+k=i0+3∧k≤3∧dk.size=N∧r.toNat=X∧h=S dk++(G++[.own 240 [vQ X]])∧bpR a l M i0 k (r,dk)=T) (by kernel_rfl) ?_ ?_
 ·simp only[go_sem,he,g0,g1,g2]
  have hu:(UInt64.ofNat l).toNat=l:=by rw[UInt64.toNat_ofNat'];omega
  exact⟨i0,l,UInt64.ofNat l,d,rfl,rfl,hd,hu,rfl,hT⟩
 ·clear g0 g1 g2 he hT
  rintro k e h ⟨he,g0,g1,g6,g7,g8,t,X,r,dk,g9,htk,hk3,hdk,hr,rfl,hT⟩
  simp only[go_sem,he,g0,g1,g6,g7,g8,g9,w2,w3,w4,w6]
  refine aF (fun hc=>?_) fun hc=>?_
  ·have hc:=odT hc
   obtain⟨k,rfl⟩:∃m,k=m+1:=⟨k-1,by omega⟩
   have hX:X<18446744073709551616:=by rw[←hr];exact r.toNat_lt
   have cx:=aIm (w0:=w0) (S dk++G) 240 X hX
   rw[List.length_append,List.append_assoc,List.append_assoc,I.slen dk d hdk hd] at cx
   have hX2:=xorNextN_lt X hX
   have e1:(xorNext r).toNat=xorNextN X:=by rw[xorNext_toNat,hr]
   have e2:t=i0+(2-k):=by omega
   have wt:i64.wrap ((t:Int)+1)=((t+1:Nat):Int):=wN _ (by omega) (by omega)
   have wM:IntKind.u64.wrap ((M:Int)-1)=((M-1:Nat):Int):=by rw[show (M:Int)-1=((M-1:Nat):Int) by omega,iD (by omega)]
   have hand:xorNextN X &&& (M-1)≤M-1:=Nat.and_le_right
   have wA:bits .and .u64 ((xorNextN X:Nat):Int) ((M-1:Nat):Int)=((xorNextN X &&& (M-1):Nat):Int):=bits_and_u64_nat _ _ hX2 (by omega)
   have c2:gU prog 95 3 (vQ (xorNextN X &&& (M-1):Nat))=some (vI (xorNextN X &&& (M-1):Nat)):=by
    rw[dL (P:=prog) (s:=95) (d:=3) Tryz.underlying95 Tryz.underlying3,wN _ rfl (by omega)]
   rw[bpR] at hT
   unfold breakStep at hT
   simp only[e1,←e2] at hT
   simp only[go_sem,he,g0,g1,g6,g7,g8,g9]
   refine aI cx ?_
   rintro r' H' ⟨rfl,rfl⟩
   simp only[go_sem,he,g0,g1,g6,g7,g8,g9,aA,wM,aPs,wA,c2]
   generalize xorNextN X &&& (M-1)=O at hand hT ⊢
   obtain⟨O2,hO2⟩:∃O2,(if O≥l then O-l else O)=O2:=⟨_,rfl⟩
   rw[hO2] at hT
   have wO:i64.wrap ((a:Int)+O2)=((a+O2:Nat):Int):=by
    have:O2≤400:=by rw[←hO2];split<;>omega
    exact wN _ (by omega) (by omega)
   have hO3:a+O2<N:=by
    have:O2<l:=by rw[←hO2];split<;>omega
    omega
   refine bC (fun e h=>len e=53∧AL.get e 0=.ifc ty rv∧AL.get e 1=vI a∧AL.get e 6=vI l∧AL.get e 7=.ptr ((S d).length+G.length) 0∧AL.get e 8=vQ M∧AL.get e 9=vI t∧AL.get e 10=vI O2∧h=S dk++(G++[.own 240 [vQ (xorNextN X:Nat)]])) (fun hc=>?_) (fun hc=>?_) ?_
   ·have hc:=odT hc
    rw[if_pos (by omega)] at hO2
    have wl:i64.wrap ((O:Int)-l)=((O-l:Nat):Int):=wN _ (by omega) (by omega)
    simp only[go_sem,he,g0,g1,g6,g7,g8,g9,wl,hO2]
   ·have hc:=odF hc
    rw[if_neg (by omega)] at hO2
    simp only[go_sem,he,g0,g1,g6,g7,g8,g9,hO2]
   ·clear g0 g1 g6 g7 g8 g9 he
    rintro e h ⟨he,g0,g1,g6,g7,g8,g9,g10,rfl⟩
    simp only[go_sem,he,g0,g1,g6,g7,g8,g9,g10,wO,I.mS]
    refine aI (I.swap dk _ t (a+O2) hdk (by omega) (by omega)) ?_
    rintro r' H' ⟨rfl,rfl⟩
    simp only[go_sem,he,g0,g1,g6,g7,g8,g9,g10,bL,aA,wt]
    exact⟨k,by omega,t+1,xorNextN X,xorNext r,_,rfl,by omega,by omega,by rw[F.eG];exact hdk,e1,rfl,hT⟩
  ·have hc:=odF hc
   obtain rfl:k=0:=by omega
   change dk=T at hT
   subst hT
   simp only[go_sem,he,g0,g1,g6,g7,g8,g9]
   exact⟨_,rfl⟩
end
section
variable {w0:World} {ty:TypeId} {rv:AV} {α:Type} [Inhabited α] {lt:α→α→Bool} {N:Nat} {S:Array α→aB}
theorem aKu (I:SI w0 ty rv lt N S) (hS:SWO lt):∀(n:Nat) (d:Array α) (G:aB) (a b limit:Nat),b-a<n→d.size=N→a≤b→b≤N→limit≤1000→Below lt a b d→
  aH prog (CB w0) 168 [.ifc ty rv,vI a,vI b,vI limit] (S d++G) fun r H'=>r=.tup []∧∃R G2,PermIn a b d R∧SortedIn lt a b R∧H'=S R++(G++G2):=by
 have hN:=I.hN
 intro n
 induction n with
 |zero=>intro d G a b limit h;omega
 |succ n ih=>
 intro d G a b limit hn hd hab hb hlim hB
 refine aSi (N:=129) (rs:=[]) Tryz.func168 ?_
 rintro e he ⟨g0,g1,g2,g3,-⟩
 simp only[go_sem,he,g0,g1,g2,g3]
 refine cF (b-a) (fun k e h=>len e=129∧AL.get e 0=.ifc ty rv∧∃(a' b' lim:Nat) (wb wp:Bool) (dk:Array α) (G2:aB),AL.get e 1=vI a'∧AL.get e 2=vI b'∧AL.get e 3=vI lim∧AL.get e 8=vB wb∧AL.get e 9=vB wp∧k=b'-a'∧a'≤b'∧b'≤N∧b'-a'<n+1∧lim≤1000∧dk.size=N∧Below lt a' b' dk∧h=S dk++(G++G2)∧∀R,PermIn a' b' dk R→SortedIn lt a' b' R→PermIn a b d R∧SortedIn lt a b R) (by kernel_rfl) ?_ ?_
 ·simp only[go_sem,he,g0,g1,g2,g3]
  exact⟨a,b,limit,true,true,d,[],rfl,rfl,rfl,rfl,rfl,rfl,hab,hb,hn,hlim,hd,hB,by rw[List.append_nil],fun R h1 h2=>⟨h1,h2⟩⟩
 ·clear g0 g1 g2 g3 he
  rintro k e h ⟨he,g0,a',b',lim,wb,wp,dk,G2,g1,g2,g3,g8,g9,rfl,hab',hb',hn',hlim',hdk,hB',rfl,hK⟩
  have wl:i64.wrap ((b':Int)-a')=((b'-a':Nat):Int):=wN _ (by omega) (by omega)
  simp only[go_sem,he,g0,g1,g2,g3,g8,g9,wl]
  refine aF (fun hc=>?_) fun hc=>?_
  ·have hc:=odT hc
   simp only[go_sem,he,g0,g1,g2,g3,g8,g9]
   refine aI (aBl I dk _ a' b' hdk hab' hb') ?_
   rintro r H' ⟨rfl,rfl⟩
   obtain⟨p,s⟩:=insertionSort_holds hS dk a' b' hab' (by omega)
   simp only[go_sem,he,g0,g1,g2,g3,bL,aA]
   exact⟨_,G2,(hK _ p s).1,(hK _ p s).2,rfl⟩
  ·have hc:=odF hc
   have h12:a'+12<b':=by omega
   simp only[go_sem,he,g0,g1,g2,g3,g8,g9]
   refine aF (fun hc=>?_) fun hc=>?_
   ·simp only[go_sem,he,g0,g1,g2,g3,g8,g9]
    refine aI (aIn I dk _ a' b' hdk (by omega) hb') ?_
    rintro r H' ⟨rfl,rfl⟩
    obtain⟨p,s⟩:=heapSort_holds hS dk a' b' hab' (by omega)
    simp only[go_sem,he,g0,g1,g2,g3,bL,aA]
    exact⟨_,G2,(hK _ p s).1,(hK _ p s).2,rfl⟩
   ·have hc:=odF hc
    have hl0:lim≠0:=by omega
    have wm:i64.wrap ((lim:Int)-1)=((lim-1:Nat):Int):=wN _ (by omega) (by omega)
    simp only[go_sem,he,g0,g1,g2,g3,g8,g9]
    refine bC (fun e h=>len e=129∧AL.get e 0=.ifc ty rv∧AL.get e 1=vI a'∧AL.get e 2=vI b'∧AL.get e 8=vB wb∧AL.get e 9=vB wp∧AL.get e 10=vI (b'-a':Nat)∧∃(lim':Nat) (d1:Array α) (G3:aB),AL.get e 3=vI lim'∧lim'≤1000∧PermIn a' b' dk d1∧h=S d1++(G++G3)) (fun hc=>?_) (fun hc=>?_) ?_
    ·simp only[go_sem,he,g0,g1,g2,g3,g8,g9]
     refine aI (aBn I dk _ a' b' hdk (by omega) hb') ?_
     rintro r H' ⟨rfl,G3,rfl⟩
     simp only[go_sem,he,g0,g1,g2,g3,g8,g9,bL,aA,wm]
     exact⟨lim-1,_,_,rfl,by omega,breakPatterns_holds dk a' b' hab' (by omega),rfl⟩
    ·simp only[go_sem,he,g0,g1,g2,g3,g8,g9]
     exact⟨lim,dk,G2,rfl,hlim',permIn_refl _ _ _,rfl⟩
    ·clear g0 g1 g2 g3 g8 g9 he hlim' hc wm hl0
     rintro e h ⟨he,g0,g1,g2,g8,g9,g10,lim',d1,G3,g3,hlim',p1,rfl⟩
     have hd1:d1.size=N:=p1.1.trans hdk
     have hB1:=hB'.perm (by omega) p1
     simp only[go_sem,he,g0,g1,g2,g3,g8,g9,g10]
     refine aI (aDf I d1 _ a' b' hd1 (by omega) hb') ?_
     rintro r H' ⟨rfl,rfl⟩
     have hcp:=choosePivot_holds lt d1 a' b' (by omega)
     generalize choosePivot lt d1 a' b'=cp at hcp ⊢
     obtain⟨p,hint⟩:=cp
     simp only[] at hcp
     simp only[go_sem,he,g0,g1,g2,g3,g8,g9,g10,aA]
     have wb1:i64.wrap ((b':Int)-1)=((b'-1:Nat):Int):=wN _ (by omega) (by omega)
     have wpa:i64.wrap ((p:Int)-a')=((p-a':Nat):Int):=wN _ (by omega) (by omega)
     have wpp:i64.wrap (((b'-1:Nat):Int)-((p-a':Nat):Int))=((b'-1-(p-a'):Nat):Int):=wN _ (by omega) (by omega)
     refine bC (fun e h=>len e=129∧AL.get e 0=.ifc ty rv∧AL.get e 1=vI a'∧AL.get e 2=vI b'∧AL.get e 3=vI lim'∧AL.get e 8=vB wb∧AL.get e 9=vB wp∧AL.get e 10=vI (b'-a':Nat)∧∃(q:Nat) (hn:Int) (d2:Array α),AL.get e 11=vI q∧AL.get e 12=vI hn∧a'≤q∧q<b'∧PermIn a' b' d1 d2∧h=S d2++(G++G3)) (fun hc=>?_) (fun hc=>?_) ?_
     ·simp only[go_sem,he,g0,g1,g2,g3,g8,g9,g10]
      refine aI (aBZ I d1 _ a' b' hd1 (by omega) hb') ?_
      rintro r H' ⟨rfl,rfl⟩
      simp only[go_sem,he,g0,g1,g2,g3,g8,g9,g10,bL,aA,wb1,wpa,wpp]
      exact⟨b'-1-(p-a'),1,_,rfl,rfl,by omega,by omega,reverseRange_holds d1 a' b' hab' (by omega),rfl⟩
     ·simp only[go_sem,he,g0,g1,g2,g3,g8,g9,g10]
      exact⟨p,aOZ hint,d1,rfl,rfl,hcp.1,hcp.2,permIn_refl _ _ _,rfl⟩
     ·clear g0 g1 g2 g3 g8 g9 g10 he wpp wpa hcp
      rintro e h ⟨he,g0,g1,g2,g3,g8,g9,g10,q,hn,d2,g11,g12,hq1,hq2,p2,rfl⟩
      have hd2:d2.size=N:=p2.1.trans hd1
      have hB2:=hB1.perm (by omega) p2
      have p12:=permIn_trans _ _ _ _ _ p1 p2
      simp only[go_sem,he,g0,g1,g2,g3,g8,g9,g10,g11,g12]
      refine bQ (fun e h=>len e=129∧AL.get e 0=.ifc ty rv∧AL.get e 1=vI a'∧AL.get e 2=vI b'∧AL.get e 3=vI lim'∧AL.get e 8=vB wb∧AL.get e 9=vB wp∧AL.get e 10=vI (b'-a':Nat)∧AL.get e 11=vI q∧(∃c,AL.get e 68=vB c)∧h=S d2++(G++G3)) ?_ ?_
      ·cases wb<;>cases wp<;>simp only[go_sem,he,g0,g1,g2,g3,g8,g9,g10,g11,g12]<;>exact⟨_,rfl⟩
      clear g0 g1 g2 g3 g8 g9 g10 g11 g12 he
      rintro e h ⟨he,g0,g1,g2,g3,g8,g9,g10,g11,⟨c,g68⟩,rfl⟩
      simp only[go_sem,he,g0,g1,g2,g3,g8,g9,g10,g11,g68]
      refine bC (fun e h=>len e=129∧AL.get e 0=.ifc ty rv∧AL.get e 1=vI a'∧AL.get e 2=vI b'∧AL.get e 3=vI lim'∧AL.get e 8=vB wb∧AL.get e 9=vB wp∧AL.get e 10=vI (b'-a':Nat)∧AL.get e 11=vI q∧∃d3,PermIn a' b' d2 d3∧h=S d3++(G++G3)) (fun hc=>?_) (fun hc=>?_) ?_
      ·simp only[go_sem,he,g0,g1,g2,g3,g8,g9,g10,g11]
       refine aI (r4 I d2 _ a' b' hd2 (by omega) hb') ?_
       rintro r H' ⟨rfl,rfl⟩
       obtain⟨pp,ps⟩:=partialInsertionSort_holds hS d2 a' b' (by omega) (by omega) hB2
       simp only[go_sem,he,g0,g1,g2,g3,g8,g9,g10,g11,bL,aA]
       refine aF (fun hc=>?_) fun hc=>?_
       ·simp only[go_sem,he,g0,g1,g2,g3,g8,g9,g10,g11]
        have hh:=hK _ (permIn_trans _ _ _ _ _ p12 pp) (ps hc)
        exact⟨_,G3,hh.1,hh.2,rfl⟩
       ·simp only[go_sem,he,g0,g1,g2,g3,g8,g9,g10,g11]
        exact⟨_,pp,rfl⟩
      ·simp only[go_sem,he,g0,g1,g2,g3,g8,g9,g10,g11]
       exact⟨d2,permIn_refl _ _ _,rfl⟩
      clear g0 g1 g2 g3 g8 g9 g10 g11 g68 he
      rintro e h ⟨he,g0,g1,g2,g3,g8,g9,g10,g11,d3,p3,rfl⟩
      have hd3:d3.size=N:=p3.1.trans hd2
      have hB3:=hB2.perm (by omega) p3
      have p123:=permIn_trans _ _ _ _ _ p12 p3
      simp only[go_sem,he,g0,g1,g2,g3,g8,g9,g10,g11]
      refine bQ (fun e h=>len e=129∧AL.get e 0=.ifc ty rv∧AL.get e 1=vI a'∧AL.get e 2=vI b'∧AL.get e 3=vI lim'∧AL.get e 8=vB wb∧AL.get e 9=vB wp∧AL.get e 10=vI (b'-a':Nat)∧AL.get e 11=vI q∧AL.get e 82=vB (decide (0<a')&&!lt d3[a'-1]! d3[q]!)∧h=S d3++(G++G3)) ?_ ?_
      ·by_cases ha:0<a'
       ·have d1:decide ((0:Int)<(a':Int))=true:=dcT (by omega)
        have d2:decide (0<a')=true:=dcT ha
        have wa:i64.wrap ((a':Int)-1)=((a'-1:Nat):Int):=wN _ (by omega) (by omega)
        simp only[go_sem,he,g0,g1,g2,g3,g8,g9,g10,g11,d1,d2,wa,I.mL]
        refine aSh (I.less d3 _ (a'-1) q hd3 (by omega) (by omega)) ?_
        simp only[go_sem,he,g0,g1,g2,g3,g8,g9,g10,g11,aA,Bool.true_and]
       ·have d1:decide ((0:Int)<(a':Int))=false:=dcF (by omega)
        have d2:decide (0<a')=false:=dcF ha
        simp only[go_sem,he,g0,g1,g2,g3,g8,g9,g10,g11,d1,d2,Bool.false_and]
      clear g0 g1 g2 g3 g8 g9 g10 g11 he
      rintro e h ⟨he,g0,g1,g2,g3,g8,g9,g10,g11,g82,rfl⟩
      simp only[go_sem,he,g0,g1,g2,g3,g8,g9,g10,g11,g82]
      refine aF (fun hc=>?_) fun hc=>?_
      ·simp only[Bool.and_eq_true,decide_eq_true_eq,Bool.not_eq_true'] at hc
       obtain⟨m1,m2,m3,m4,m5⟩:=round_eq hS (partitionEqual_holds lt) hc.1 hq1 hq2 (by omega) hB3 hc.2 (mid:=(partitionEqual lt d3 a' b' q).1) (d4:=(partitionEqual lt d3 a' b' q).2) rfl
       simp only[go_sem,he,g0,g1,g2,g3,g8,g9,g10,g11]
       refine aI (zU I d3 _ a' b' q hd3 ⟨hq1,hq2⟩ hb') ?_
       rintro r H' ⟨rfl,rfl⟩
       generalize partitionEqual lt d3 a' b' q=pe at m1 m2 m3 m4 m5 ⊢
       simp only[go_sem,he,g0,g1,g2,g3,g8,g9,g10,g11,aA]
       refine⟨b'-pe.1,by omega,pe.1,b',lim',wb,wp,pe.2,G3,rfl,rfl,rfl,rfl,rfl,rfl,m2,hb',by omega,hlim',m3.trans hd3,m4,rfl,fun R h1 h2=>?_⟩
       exact hK R (permIn_trans _ _ _ _ _ p123 (m5 R h1 h2).1) (m5 R h1 h2).2
      ·obtain⟨m1,m2,m3,m4,m5,m6,m7⟩:=round_part hS (partition_holds lt) hq1 hq2 (by omega) hB3 (mid:=(partition lt d3 a' b' q).1) (ap:=(partition lt d3 a' b' q).2.1) (d4:=(partition lt d3 a' b' q).2.2) rfl
       simp only[go_sem,he,g0,g1,g2,g3,g8,g9,g10,g11]
       refine aI (aFC I d3 _ a' b' q hd3 ⟨hq1,hq2⟩ hb') ?_
       rintro r H' ⟨rfl,rfl⟩
       generalize partition lt d3 a' b' q=pa at m1 m2 m3 m4 m5 m6 m7 ⊢
       obtain⟨mid,ap,d4⟩:=pa
       simp only[] at m1 m2 m3 m4 m5 m6 m7
       have hd4:d4.size=N:=m3.trans hd3
       have u1:i64.wrap ((mid:Int)-a')=((mid-a':Nat):Int):=wN _ (by omega) (by omega)
       have u2:i64.wrap ((b':Int)-mid)=((b'-mid:Nat):Int):=wN _ (by omega) (by omega)
       have u3:i64.wrap (Int.tdiv ((b'-a':Nat):Int) 8)=(((b'-a')/8:Nat):Int):=wN _ (by rw[Int.tdiv_eq_ediv_of_nonneg (by omega)];omega) (by omega)
       have u4:i64.wrap ((mid:Int)+1)=((mid+1:Nat):Int):=wN _ (by omega) (by omega)
       simp only[go_sem,he,g0,g1,g2,g3,g8,g9,g10,g11,aA,u1,u2,u3]
       refine aF (fun hc=>?_) fun hc=>?_
       ·simp only[go_sem,he,g0,g1,g2,g3,g8,g9,g10,g11]
        refine aI (ih d4 (G++G3) a' mid lim' (by omega) hd4 m1 (by omega) hlim' m4) ?_
        rintro r H' ⟨rfl,L,G4,pL,sL,rfl⟩
        obtain⟨m8,m9⟩:=m6 L pL sL
        simp only[go_sem,he,g0,g1,g2,g3,g8,g9,g10,g11,bL,aA,u4]
        refine⟨b'-(mid+1),by omega,mid+1,b',lim',_,_,L,G3++G4,rfl,rfl,rfl,rfl,rfl,rfl,m2,hb',by omega,hlim',pL.1.trans hd4,m8,rfl,fun R h1 h2=>?_⟩
        exact hK R (permIn_trans _ _ _ _ _ p123 (m9 R h1 h2).1) (m9 R h1 h2).2
       ·simp only[go_sem,he,g0,g1,g2,g3,g8,g9,g10,g11,u4]
        refine aI (ih d4 (G++G3) (mid+1) b' lim' (by omega) hd4 m2 hb' hlim' m5) ?_
        rintro r H' ⟨rfl,L,G4,pL,sL,rfl⟩
        obtain⟨m8,m9⟩:=m7 L pL sL
        simp only[go_sem,he,g0,g1,g2,g3,g8,g9,g10,g11,bL,aA]
        refine⟨mid-a',by omega,a',mid,lim',_,_,L,G3++G4,rfl,rfl,rfl,rfl,rfl,rfl,m1,by omega,by omega,hlim',pL.1.trans hd4,m8,rfl,fun R h1 h2=>?_⟩
        exact hK R (permIn_trans _ _ _ _ _ p123 (m9 R h1 h2).1) (m9 R h1 h2).2
theorem aRI (I:SI w0 ty rv lt N S) (hS:SWO lt) (d:Array α) (G:aB) (hd:d.size=N) :
  aH prog (CB w0) 130 [.ifc ty rv] (S d++G) fun r H'=>r=.tup []∧∃R G2,PermIn 0 N d R∧SortedIn lt 0 N R∧H'=S R++(G++G2):=by
 have hN:=I.hN
 refine aSi (N:=15) (rs:=[]) Tryz.func130 ?_
 rintro e he ⟨g0,-⟩
 simp only[go_sem,he,g0,I.mN]
 refine aSh (I.len d G hd) ?_
 simp only[go_sem,he,g0,aA]
 refine aF (fun hc=>?_) fun hc=>?_
 ·have hc:=odT hc
  simp only[go_sem,he,g0]
  exact⟨d,[],permIn_refl _ _ _,fun i j h1 h2 h3=>by omega,by rw[List.append_nil]⟩
 ·have hk:=aIo N (by omega)
  have c1:gU prog 3 95 (vI N)=some (vQ N):=by
   rw[dL (P:=prog) (s:=3) (d:=95) Tryz.underlying3 Tryz.underlying95,iD (by omega)]
  simp only[go_sem,he,g0,c1]
  refine aI (aIp _ N (by omega)) ?_
  rintro r H' ⟨rfl,rfl⟩
  simp only[go_sem,he,g0,aA]
  refine aI (aKu I hS (N+1) d G 0 N (bitsLen N) (by omega) hd (by omega) (Nat.le_refl _) (by omega) (Or.inl rfl)) ?_
  rintro r H' ⟨rfl,R,G2,h1,h2,rfl⟩
  simp only[go_sem,he,g0,bL,aA]
  exact⟨R,G2,h1,h2,rfl⟩
end
def bE:List Int→List AV
 |[]=>[]
 |t::l=>vI t::vI 0::bE l
theorem nF:∀l:List Int,(bE l).length=l.length*2
 |[]=>rfl
 |t::l=>by simp only[bE,List.length_cons,nF l];omega
theorem pA:∀(l:List Int) (i:Nat),i<l.length→((bE l).drop (i*2)).take 2=[vI (l.getD i 0),vI 0]
 |[],i,h=>by simp at h
 |t::l,0,h=>rfl
 |t::l,i+1,h=>by
  rw[show (i+1)*2=i*2+2 by omega]
  show ((bE l).drop (i*2)).take 2=[vI (l.getD i 0),vI 0]
  exact pA l i (by simpa using h)
theorem uJ:∀(l:List Int) (i:Nat) (t:Int),i<l.length→fQ (bE l) (i*2) [vI t,vI 0]=bE (l.set i t)
 |[],i,t,h=>by simp at h
 |a::l,0,t,h=>rfl
 |a::l,i+1,t,h=>by
  rw[show (i+1)*2=i*2+2 by omega]
  show vI a::vI 0::fQ (bE l) (i*2) [vI t,vI 0]=vI a::vI 0::bE (l.set i t)
  rw[uJ l i t (by simpa using h)]
theorem kZ:∀l m:List Int,bE (l++m)=bE l++bE m
 |[],m=>rfl
 |t::l,m=>by simp only[List.cons_append,bE,kZ l m]
def tS (P:aB) (d:Array Int):aB:=P++[.own 78 (bE d.toList)]
theorem aEV (d:Array Int) (i:Nat):d.toList.getD i 0=d[i]!:=by
 rw[List.getD_eq_getElem?_getD,getElem!_def,Array.getElem?_toList]
 cases d[i]?<;>rfl
theorem aPv {w0:World} (P:aB) (d:Array Int) (G:aB) (i j N:Nat) (hd:d.size=N) (hN:N≤200) (hi:i<N) (hj:j<N):aH prog (CB w0) 259 [.sl true P.length 0 N 2,vI i,vI j] (tS P d++G) fun r H'=>r=vB (decide (d[i]!<d[j]!))∧H'=tS P d++G:=by
 unfold tS
 refine aSi (N:=16) (rs:=[.tmp 6]) Tryz.func259 ?_
 rintro e he ⟨g0,g1,g2,-⟩
 have ci:=pA d.toList i (by simp;omega)
 have cj:=pA d.toList j (by simp;omega)
 have cl:(bE d.toList).length=N*2:=by rw[nF];simp[hd]
 rw[aEV] at ci cj
 simp only[go_sem,he,g0,g1,g2]
 refine bF bI (by kernel_rfl) ?_
 simp only[go_sem,he,g0,g1,g2,Int.toNat_natCast]
 refine⟨by omega,by omega,by omega,by omega,?_⟩
 rw[ci,cj]
 refine aSh (rJ _ _ _ _ _) ?_
 simp only[go_sem,he,g0,g1,g2,aA]
 simp
theorem aRJ {w0:World} (o N:Nat) (H:aB):aH prog (CB w0) 258 [.sl true o 0 N 2] H fun r H'=>r=vI N∧H'=H:=by
 refine aSi (N:=5) (rs:=[.tmp 2]) Tryz.func258 ?_
 rintro e he ⟨g0,-⟩
 simp only[go_sem,he,g0]
theorem aLK (d:Array Int) (i j:Nat):(swp d i j).toList=(d.toList.set i d[j]!).set j d[i]!:=by
 unfold swp
 simp
theorem aPw {w0:World} (P:aB) (d:Array Int) (G:aB) (i j N:Nat) (hd:d.size=N) (hN:N≤200) (hi:i<N) (hj:j<N):aH prog (CB w0) 260 [.sl true P.length 0 N 2,vI i,vI j] (tS P d++G) fun r H'=>r=.tup []∧H'=tS P (swp d i j)++G:=by
 unfold tS
 refine aSi (N:=20) (rs:=[]) Tryz.func260 ?_
 rintro e he ⟨g0,g1,g2,-⟩
 have ci:=pA d.toList i (by simp;omega)
 have cj:=pA d.toList j (by simp;omega)
 have cl:(bE d.toList).length=N*2:=by rw[nF];simp[hd]
 rw[aEV] at ci cj
 have p1:=uJ d.toList i d[j]! (by simp;omega)
 have p2:=uJ (d.toList.set i d[j]!) j d[i]! (by simp;omega)
 have cl2:(bE (d.toList.set i d[j]!)).length=N*2:=by rw[nF];simp[hd]
 rw[aLK]
 simp only[go_sem,he,g0,g1,g2]
 refine bF bI (by kernel_rfl) ?_
 simp only[go_sem,he,g0,g1,g2,Int.toNat_natCast]
 refine⟨⟨by omega,by omega⟩,by omega,⟨by omega,by omega⟩,by omega,⟨by omega,by omega⟩,?_⟩
 rw[ci,cj]
 have k1:i*2+2≤(bE d.toList).length:=by omega
 have k2:j*2+2≤(bE (d.toList.set i d[j]!)).length:=by omega
 have k3:0≤(j:Int)∧(j:Int)<(N:Int):=by omega
 simp only[AL.sM,go_sem,he,g0,g1,g2,p1,k1,k2,p2,Int.toNat_natCast]
 simp only[AL.fQ,List.append_assoc,List.cons_append,List.nil_append,List.length_cons,List.length_nil,Nat.zero_add,Nat.reduceAdd] at p1 p2
 rw[p1]
 exact⟨k3,k2,by rw[p2]⟩
theorem aRK:SWO fun x y:Int=>decide (x<y) where
 irrefl x:=by simp
 trans x y z h1 h2:=by simp at *;omega
 ntrans x y z h1 h2:=by simp at *;omega
def tSI (w0:World) (P:aB) (N:Nat) (hN:N≤200):SI w0 177 (.sl true P.length 0 N 2) (fun x y:Int=>decide (x<y)) N (tS P) where
 fl:=259
 fs:=260
 fn:=258
 mL:=by kernel_rfl
 mS:=by kernel_rfl
 mN:=by kernel_rfl
 hN:=hN
 slen d d' h h':=by simp[tS]
 less d G i j hd hi hj:=aPv P d G i j N hd hN hi hj
 swap d G i j hd hi hj:=aPw P d G i j N hd hN hi hj
 len d G hd:=aRJ _ _ _
def eQ (l:List Int):List Int:=l.mergeSort fun x y=>!decide (y<x)
theorem jJ (l:List Int):(eQ l).length=l.length:=List.length_mergeSort l
theorem yW:∀l:List Int,flats (bE l)=true
 |[]=>rfl
 |t::l=>by simp only[bE,flats,flat,yW l,Bool.and_self]
theorem aIq {w0:World} (P:aB) (l:List Int) (G:aB) (hl:l.length≤200):aH prog (CB w0) 130 [.ifc 177 (.sl true P.length 0 l.length 2)] (P++(.own 78 (bE l)::G)) fun r H'=>r=.tup []∧H'=P++(.own 78 (bE (eQ l))::G):=by
 refine aH.tidy rfl (by simp) (fun o y h=>?_) ?_
 ·by_cases ho:o=P.length
  ·subst ho
   rw[bB] at h
   cases h
   exact .inr (yW _)
  ·left
   by_cases hlt:o<P.length
   ·rw[List.getElem?_append_left hlt] at h ⊢;exact h
   ·obtain⟨k,rfl⟩:∃k,o=P.length+(k+1):=⟨o-P.length-1,by omega⟩
    rw[bX] at h ⊢
    exact h
 have h:=aRI (tSI w0 P l.length hl) aRK l.toArray G (by simp)
 unfold tS at h
 simp only[List.append_assoc,List.cons_append,List.nil_append] at h
 refine h.mono ?_
 rintro r H' ⟨rfl,R,G2,hp,hs,rfl⟩
 have hR:R.toList=eQ l:=sorted_unique_holds aRK (fun x y h1 h2=>by simp at h1 h2;omega) l.toArray R (by simpa using hp) (by simpa using hs)
 rw[hR]
 exact⟨rfl,G2,by simp⟩
theorem i8.putT {t:TypeId} {h:aB} {x:AV} {l:List (Int×Int)} (hx:i8 t h x l) {p t':Nat} {cs:List AV} (hp:h[p]?=some (.own t' cs)) (ht:t'≠t) (y:aD):i8 t (h.set p y) x l:=by
 rcases hx with hx|⟨q,h1,h2⟩
 ·exact .inl hx
 ·refine .inr ⟨q,h1,?_⟩
  have:p≠q:=by rintro rfl;rw[hp] at h2;simp at h2;exact ht h2.1
  rw[List.getElem?_set_ne this];exact h2
theorem jQ.putT {t B:Nat} {h:aB} {x:AV} {l:List (Int×Int)} (hx:jQ t B h x l) {p t':Nat} {cs:List AV} (hp:h[p]?=some (.own t' cs)) (ht:t'≠t) (y:aD):jQ t B (h.set p y) x l:=by
 rcases hx with hx|⟨q,h0,h1,h2⟩
 ·exact .inl hx
 ·refine .inr ⟨q,h0,h1,?_⟩
  have:p≠q:=by rintro rfl;rw[hp] at h2;simp at h2;exact ht h2.1
  rw[List.getElem?_set_ne this];exact h2
theorem aBo:∀(l:List (Int×Int)) (i:Nat),i<l.length*2→(fL l)[i]?=some (aBU l i)
 |[],i,h=>by simp at h
 |d::l,0,h=>rfl
 |d::l,1,h=>rfl
 |d::l,i+2,h=>by
  have ih:=aBo l i (by simp at h;omega)
  have e1:(fL (d::l))[i+2]?=(fL l)[i]?:=rfl
  rw[e1,ih]
  unfold aBU
  have h1:(i+2)/2=i/2+1:=by omega
  have h2:(i+2)%2=i%2:=by omega
  rw[h1,h2]
  rfl
theorem i8.days {t:TypeId} {h:aB} {x:AV} {l:List (Int×Int)} (hx:i8 t h x l):cU h x l:=by
 rcases hx with ⟨rfl,rfl⟩|⟨q,rfl,h1⟩
 ·exact .inl ⟨rfl,rfl⟩
 ·exact .inr ⟨true,q,0,_,rfl,by rw[h1];rfl,fun i hi=>by rw[Nat.zero_add];exact aBo l i hi⟩
theorem aLL {w0:World} (r:Ru) (hdl:r.day.length≤1000) (x:Rs) (H:aB) (hx:cN H r x):aH prog (CB w0) 24 [.agg (aE r x)] H fun v H'=>(∃y,v=.agg (aE r y)∧cN H' r y)∧∃G,H'=H++G:=by
 refine aSi (N:=56) (rs:=[.cell 2 34]) Tryz.func24 ?_
 rintro e he ⟨g0,-⟩
 unfold aE at g0
 have hdl':=hx.day.len 41
 simp only[go_sem,he,g0,hdl',aN hx.setPos.one,aN hx.month.one,aN hx.monthDay.one,aN hx.yearDay.one,aN hx.weekNo.one,aN hx.hour.one,aN hx.minute.one,aN hx.second.one,aN hx.easter.one,hx.setPos.one,hx.month.one,hx.monthDay.one,hx.yearDay.one,hx.weekNo.one,hx.day.one,hx.hour.one,hx.minute.one,hx.second.one,hx.easter.one,List.replicate]
 refine cF r.day.length (fun k e h=>∃(i:Nat) (yd:AV) (z:List AV),i+k=r.day.length∧len e=56∧AL.get e 2=.ptr (H.length+1) 0∧AL.get e 3=.ptr (H.length+2) 0∧AL.get e 42=x.day∧AL.get e 43=vI r.day.length∧AL.get e 44=vI i∧(∃G,h=H++G)∧jQ 90 H.length h yd (r.day.take i)∧h[H.length+1]?=some (.own 34 z)∧z.length=18∧h[H.length+2]?=some (.own 34 (aE r {x with day:=yd}))) (by kernel_rfl) ?_ ?_
 ·unfold aE
  simp only[go_sem,he]
  exact⟨0,aP,_,by omega,rfl,⟨_,rfl⟩,.inl ⟨rfl,rfl⟩,rfl,rfl,rfl⟩
 ·clear he g0
  rintro k e h ⟨i,yd,z,hik,he,g2,g3,g51,g52,g53,hG,hy,hz,hzl,hr⟩
  simp only[go_sem,he,g2,g3,g51,g52,g53]
  refine aF (fun hc=>?_) fun hc=>?_
  ·have hc:=odT hc
   have hi:i<r.day.length:=by omega
   have hxh:cU h x.day r.day:=by obtain⟨G,rfl⟩:=hG;exact hx.day.more G
   obtain⟨own,q,off,cs,e1,e2,e3,e4⟩:=hxh.get hi
   have wi:i64.wrap ((i:Int)+1)=((i+1:Nat):Int):=by rw[aJ (by omega)];rfl
   rw[e1] at g51
   generalize hd:r.day.getD i (0,0)=d at *
   have hr':=aZ (G:=[aD.own 41 [vI d.1,vI d.2]]) hr
   unfold aE at hr'
   simp only[go_sem,he,g2,g3,g51,g52,g53,e2,e3,e4,hr',Int.toNat_natCast,List.replicate]
   refine⟨by omega,?_⟩
   have hpush:=(hy.more [aD.own 41 [vI d.1,vI d.2]]).push aLe (by obtain⟨G,rfl⟩:=hG;exact⟨_,List.append_assoc _ _ _⟩) d (by rw[List.length_take];omega)
   obtain⟨x',h',ha,hy',hG',hkeep⟩:=hpush
   have htk:r.day.take (i+1)=r.day.take i++[d]:=by rw[List.take_add_one,←hd,List.getD_eq_getElem?_getD,List.getElem?_eq_getElem hi];rfl
   rw[←htk] at hy'
   simp only[List.length_append,List.length_cons,List.length_nil,Nat.zero_add,List.append_assoc,List.cons_append,List.nil_append] at ha
   rw[ha]
   have hr2:=hkeep _ _ hr' (by intro cs;simp)
   have hz':=hkeep _ _ (aZ (G:=[aD.own 41 [vI d.1,vI d.2]]) hz) (by intro cs;simp)
   simp only[go_sem,he,g2,g3,g51,g52,g53,hr2,aN hy'.one,wi]
   obtain⟨G',rfl⟩:=hG'
   refine⟨k-1,by omega,i+1,x',z,by omega,e1.symm,rfl,⟨_,eZ (by omega)⟩,hy'.putT hr2 (by decide) _,?_,hzl,?_⟩
   ·rw[List.getElem?_set_ne (by omega)];exact hz'
   ·rw[List.getElem?_set_self (List.getElem?_eq_some_iff.1 hr2).1];rfl
  ·have hc:=odF hc
   have hi:i=r.day.length:=by omega
   rw[hi,List.take_length] at hy
   have hlt1:=(List.getElem?_eq_some_iff.1 hz).1
   have hS:∀y:aD,(h.set (H.length+1) y)[H.length+1]?=some y:=fun y=>List.getElem?_set_self hlt1
   have hr':=hr
   unfold aE at hr'
   have hz18:z.drop 18=[]:=List.drop_eq_nil_of_le (by omega)
   simp only[go_sem,he,g2,g3,g51,g52,g53,hr',hz,hzl,hz18,hS,hy.one,Bool.true_and,hx.setPos.one,hx.month.one,hx.monthDay.one,hx.yearDay.one,hx.weekNo.one,hx.hour.one,hx.minute.one,hx.second.one,hx.easter.one]
   have hy2:=(hy.putT (y:=.own 34 (aE r {x with day:=yd})) hz (by decide)).own
   obtain⟨G,rfl⟩:=hG
   have eset:=eZ (H:=H) (G:=G) (o:=H.length+1) (y:=.own 34 (aE r {x with day:=yd})) (by omega)
   unfold aE at eset hy2
   have hx2:∀G,cN (H++G) r x:=fun G=>hx.more G
   rw[eset] at hy2 ⊢
   exact⟨⟨{x with day:=yd},rfl,⟨(hx2 _).setPos,(hx2 _).month,(hx2 _).monthDay,(hx2 _).yearDay,(hx2 _).weekNo,i8.days hy2,(hx2 _).hour,(hx2 _).minute,(hx2 _).second,(hx2 _).easter⟩⟩,_,rfl⟩
theorem yX {w0:World} (d n:Int) (H:aB):aH prog (CB w0) 78 [vI d,vI n] H fun r H'=>r=vD (d,n)∧H'=H:=by
 refine aH.flat rfl ?_
 refine aSi (N:=8) (rs:=[.cell 4 80]) Tryz.func78 ?_
 rintro e he ⟨g0,g1,-⟩
 simp only[go_sem,he,g0,g1,List.replicate]
 exact⟨_,rfl⟩
theorem aO0 {w0:World} (t:Int) (H:aB):aH prog (CB w0) 59 [vI t] H fun r H'=>r=vT t∧H'=H:=by
 refine aH.flat rfl ?_
 refine aSi (N:=5) (rs:=[.cell 2 78]) Tryz.func59 ?_
 rintro e he ⟨g0,-⟩
 simp only[go_sem,he,g0,List.replicate]
 exact⟨_,rfl⟩
def jU (r:Ru):Int:=if r.hasUntil then r.til else 0
def jH (r:Ru):Int:=if r.hasStart then r.start else 0
def aW (r:Ru) (y:Rs):List AV:=[vI r.freq,vI (jH r),vI 0,vI r.interval,vI r.wkst,vI 0,vI r.count,vI (jU r),vI 0,y.setPos,y.month,y.monthDay,y.yearDay,y.weekNo,y.day,y.hour,y.minute,y.second,y.easter]
set_option maxHeartbeats 4000000 in
theorem aLM {w0:World} (r:Ru) (hfr:r.freq≤255) (hdl:r.day.length≤1000) (x:Rs) (H:aB) (hx:cN H r x):aH prog (CB w0) 51 [.agg (aE r x)] H fun v H'=>(∃y,v=.agg (aW r y)∧cN H' r y)∧∃G,H'=H++G:=by
 refine aSi (N:=66) (rs:=[.cell 2 83]) Tryz.func51 ?_
 rintro e he ⟨g0,-⟩
 unfold aE at g0
 have hdl':=hx.day.len 90
 have c1:gU prog 5 76 (vU r.freq)=some (vI r.freq):=by rw[dL (P:=prog) (s:=5) (d:=76) Tryz.underlying5 Tryz.underlying76,aJ (by omega)]
 simp only[go_sem,he,g0,hdl',c1,aN hx.setPos.one,aN hx.month.one,aN hx.monthDay.one,aN hx.yearDay.one,aN hx.weekNo.one,aN hx.hour.one,aN hx.minute.one,aN hx.second.one,aN hx.easter.one,hx.setPos.one,hx.month.one,hx.monthDay.one,hx.yearDay.one,hx.weekNo.one,hx.day.one,hx.hour.one,hx.minute.one,hx.second.one,hx.easter.one,List.replicate]
 refine bU [78] bI (by kernel_rfl) ?_
 simp only[go_sem,he,g0,hdl',c1]
 refine aS (fun _=>yX _ _ _) ?_
 simp only[go_sem,he,g0,hdl',c1,aA,aN hx.setPos.one,aN hx.month.one,aN hx.monthDay.one,aN hx.yearDay.one,aN hx.weekNo.one,aN hx.hour.one,aN hx.minute.one,aN hx.second.one,aN hx.easter.one,hx.setPos.one,hx.month.one,hx.monthDay.one,hx.yearDay.one,hx.weekNo.one,hx.day.one,hx.hour.one,hx.minute.one,hx.second.one,hx.easter.one,List.replicate]
 refine bC (fun e h=>∃(b z:List AV),len e=66∧AL.get e 1=.ptr H.length 0∧AL.get e 2=.ptr (H.length+1) 0∧AL.get e 3=.ptr (H.length+2) 0∧h=H++[.own 34 b,.own 83 z,.own 83 (aW {r with hasUntil:=false} {x with day:=aP})]∧z.length=19∧b.length=18∧b[6]?=some (vB r.hasUntil)∧b[7]?=some (vI r.til)∧b[13]?=some x.day) (fun hp=>?_) (fun hp=>?_) ?_
 ·simp only[go_sem,he]
  refine aSh (aO0 r.start _) ?_
  have hs:jH {r with hasUntil:=false}=r.start:=by unfold jH;exact if_pos hp
  have ht:jU {r with hasUntil:=false}=0:=rfl
  unfold aW
  rw[hs,ht]
  simp only[go_sem,he,aA]
  refine⟨_,_,rfl,?_,?_,?_,?_,?_⟩<;>rfl
 ·have hs:jH {r with hasUntil:=false}=0:=by unfold jH;exact if_neg (by show ¬r.hasStart=true;rw[hp];exact Bool.false_ne_true)
  have ht:jU {r with hasUntil:=false}=0:=rfl
  unfold aW
  rw[hs,ht]
  simp only[go_sem,he,aA]
  refine⟨_,_,rfl,?_,?_,?_,?_,?_⟩<;>rfl
 rintro e h ⟨b,z,he,g1,g2,g3,rfl,hzl,hbl,hb6,hb7,hb13⟩
 have hb1:(b.drop 13).take 1=[x.day]:=by
  rw[List.drop_eq_getElem_cons (by omega)]
  rw[List.getElem?_eq_getElem (by omega)] at hb13
  rw[Option.some.inj hb13]
  rfl
 unfold aW
 simp only[go_sem,he,g1,g2,g3,hb6,hb7,hb13,hb1,hbl,hdl']
 refine bC (fun e h=>∃(b z:List AV),len e=66∧AL.get e 1=.ptr H.length 0∧AL.get e 2=.ptr (H.length+1) 0∧AL.get e 3=.ptr (H.length+2) 0∧h=H++[.own 34 b,.own 83 z,.own 83 (aW r {x with day:=aP})]∧z.length=19∧b.length=18∧b[13]?=some x.day) (fun hp=>?_) (fun hp=>?_) ?_
 ·have ht:jU r=r.til:=by unfold jU;exact if_pos hp
  have hs:jH {r with hasUntil:=false}=jH r:=rfl
  simp only[go_sem,he,g1,g2,g3,hb7]
  refine aSh (aO0 r.til _) ?_
  unfold aW
  rw[ht,hs]
  simp only[go_sem,he,g1,g2,g3,aA]
  exact⟨b,z,rfl,hzl,hbl,hb13⟩
 ·have ht:jU r=0:=by unfold jU;exact if_neg (by rw[hp];exact Bool.false_ne_true)
  have hs:jH {r with hasUntil:=false}=jH r:=rfl
  have ht2:jU {r with hasUntil:=false}=0:=rfl
  unfold aW
  rw[ht,hs,ht2]
  simp only[go_sem,he,g1,g2,g3]
  exact⟨b,z,rfl,hzl,hbl,hb13⟩
 clear he g1 g2 g3 hb6 hb7 hb13 hbl hzl hb1 b z e
 rintro e h ⟨b,z,he,g1,g2,g3,rfl,hzl,hbl,hb13⟩
 have hb1:(b.drop 13).take 1=[x.day]:=by
  rw[List.drop_eq_getElem_cons (by omega)]
  rw[List.getElem?_eq_getElem (by omega)] at hb13
  rw[Option.some.inj hb13]
  rfl
 simp only[go_sem,he,g1,g2,g3,hb13,hb1,hbl,hdl']
 unfold aW
 refine cF r.day.length (fun k e h=>∃(i:Nat) (yd:AV) (z:List AV),i+k=r.day.length∧len e=66∧AL.get e 2=.ptr (H.length+1) 0∧AL.get e 3=.ptr (H.length+2) 0∧AL.get e 48=x.day∧AL.get e 49=vI r.day.length∧AL.get e 50=vI i∧(∃G,h=H++G)∧jQ 80 H.length h yd (r.day.take i)∧h[H.length+1]?=some (.own 83 z)∧z.length=19∧h[H.length+2]?=some (.own 83 (aW r {x with day:=yd}))) (by kernel_rfl) ?_ ?_
 ·simp only[go_sem,he,g1,g2,g3]
  exact⟨0,aP,z,by omega,rfl,⟨_,rfl⟩,.inl ⟨rfl,rfl⟩,rfl,hzl,rfl⟩
 ·clear hzl hb13 hbl hb1 g1 g2 g3 he
  rintro k e h ⟨i,yd,z,hik,he,g2,g3,g51,g52,g53,hG,hy,hz,hzl,hr⟩
  simp only[go_sem,he,g2,g3,g51,g52,g53]
  refine aF (fun hc=>?_) fun hc=>?_
  ·have hc:=odT hc
   have hi:i<r.day.length:=by omega
   have hxh:cU h x.day r.day:=by obtain⟨G,rfl⟩:=hG;exact hx.day.more G
   obtain⟨own,q,off,cs,e1,e2,e3,e4⟩:=hxh.get hi
   have wi:i64.wrap ((i:Int)+1)=((i+1:Nat):Int):=by rw[aJ (by omega)];rfl
   rw[e1] at g51
   generalize hd:r.day.getD i (0,0)=d at *
   simp only[go_sem,he,g2,g3,g51,g52,g53,e2,e3,e4,Int.toNat_natCast,List.replicate]
   refine⟨by omega,?_⟩
   refine bU [78] bI (by kernel_rfl) ?_
   have hr':=aZ (G:=[aD.own 90 [vI d.1,vI d.2]]) hr
   unfold aW at hr'
   have hnew:(h++[aD.own 90 [vI d.1,vI d.2]])[h.length]?=some (aD.own 90 [vI d.1,vI d.2]):=bB
   simp only[go_sem,he,g2,g3,g51,g52,g53,hr',hnew]
   refine aS (fun _=>yX _ _ _) ?_
   have hpush:=(hy.more [aD.own 90 [vI d.1,vI d.2]]).push aH1 (by obtain⟨G,rfl⟩:=hG;exact⟨_,List.append_assoc _ _ _⟩) d (by rw[List.length_take];omega)
   obtain⟨x',h',ha,hy',hG',hkeep⟩:=hpush
   have htk:r.day.take (i+1)=r.day.take i++[d]:=by rw[List.take_add_one,←hd,List.getD_eq_getElem?_getD,List.getElem?_eq_getElem hi];rfl
   rw[←htk] at hy'
   simp only[go_sem,he,g2,g3,g51,g52,g53,hr',hnew,aA] at ha ⊢
   rw[ha]
   have hr2:=hkeep _ _ hr' (by intro cs;simp)
   have hz':=hkeep _ _ (aZ (G:=[aD.own 90 [vI d.1,vI d.2]]) hz) (by intro cs;simp)
   simp only[go_sem,he,g2,g3,g51,g52,g53,hr2,aN hy'.one,wi]
   obtain⟨G',rfl⟩:=hG'
   refine⟨k-1,by omega,i+1,x',z,by omega,e1.symm,rfl,⟨_,eZ (by omega)⟩,hy'.putT hr2 (by decide) _,?_,hzl,?_⟩
   ·rw[List.getElem?_set_ne (by omega)];exact hz'
   ·rw[List.getElem?_set_self (List.getElem?_eq_some_iff.1 hr2).1];rfl
  ·have hc:=odF hc
   have hi:i=r.day.length:=by omega
   rw[hi,List.take_length] at hy
   have hlt1:=(List.getElem?_eq_some_iff.1 hz).1
   have hS:∀y:aD,(h.set (H.length+1) y)[H.length+1]?=some y:=fun y=>List.getElem?_set_self hlt1
   have hr':=hr
   unfold aW at hr'
   have hz19:z.drop 19=[]:=List.drop_eq_nil_of_le (by omega)
   simp only[go_sem,he,g2,g3,g51,g52,g53,hr',hz,hzl,hz19,hS,hy.one,Bool.true_and,hx.setPos.one,hx.month.one,hx.monthDay.one,hx.yearDay.one,hx.weekNo.one,hx.hour.one,hx.minute.one,hx.second.one,hx.easter.one]
   have hy2:=(hy.putT (y:=.own 83 (aW r {x with day:=yd})) hz (by decide)).own
   obtain⟨G,rfl⟩:=hG
   have eset:=eZ (H:=H) (G:=G) (o:=H.length+1) (y:=.own 83 (aW r {x with day:=yd})) (by omega)
   unfold aW at eset hy2
   have hx2:∀G,cN (H++G) r x:=fun G=>hx.more G
   rw[eset] at hy2 ⊢
   exact⟨⟨{x with day:=yd},rfl,⟨(hx2 _).setPos,(hx2 _).month,(hx2 _).monthDay,(hx2 _).yearDay,(hx2 _).weekNo,i8.days hy2,(hx2 _).hour,(hx2 _).minute,(hx2 _).second,(hx2 _).easter⟩⟩,_,rfl⟩
def aIr (lo hi:Int) (pm:Bool) (v:Int):Prop:=(lo≤v∧v≤hi)∨(pm=true∧v<lo∧-hi≤v∧v≤-lo)
theorem aPx {w0:World} (nm:List UInt8) (lo hi v:Int) (pm:Bool) (q:Nat) (H:aB) (hq:H[q]?=some (.own 3 [vI lo,vI hi])) (hb:0≤lo∧lo≤hi∧hi≤1000) (hv:aIr lo hi pm v):aH prog (CB w0) 118 [vS nm,vI v,.sl true q 0 2 1,vB pm] H fun r H'=>r=.val .nilIface∧H'=H:=by
 refine aSi (N:=44) (rs:=[.tmp 8]) Tryz.func118 ?_
 rintro e he ⟨g0,g1,g2,g3,-⟩
 have n1:i64.wrap (0-lo)=-lo:=by rw[aJ (by omega)];omega
 have n2:i64.wrap (0-hi)=-hi:=by rw[aJ (by omega)];omega
 rcases hv with ⟨h1,h2⟩|⟨rfl,h0,h1,h2⟩
 ·have d1:decide (lo≤v)=true:=dcT h1
  have d2:decide (v≤hi)=true:=dcT h2
  simp only[go_sem,he,g0,g1,g2,g3,hq,d1,d2]
  try trivial
 ·have d1:decide (lo≤v)=false:=dcF (by omega)
  have d2:decide (v≤-lo)=true:=dcT h2
  have d3:decide (-hi≤v)=true:=dcT h1
  simp only[go_sem,he,g0,g1,g2,g3,hq,d1,d2,d3,n1,n2]
  try trivial
def aBp (H:aB) (cs:List AV):Prop:=∃(x:AV) (nm:List UInt8) (q:Nat) (pm:Bool) (l:List Int) (lo hi:Int),cs=[x,vS nm,.sl true q 0 2 1,vB pm]∧aQ H x l∧l.length≤1000∧H[q]?=some (.own 3 [vI lo,vI hi])∧(0≤lo∧lo≤hi∧hi≤1000)∧∀v∈l,aIr lo hi pm v
theorem aBp.more {H:aB} {cs:List AV} (h:aBp H cs) (G:aB):aBp (H++G) cs:=by
 obtain⟨x,nm,q,pm,l,lo,hi,h1,h2,h3,h4,h5,h6⟩:=h
 exact⟨x,nm,q,pm,l,lo,hi,h1,h2.more G,h3,aZ h4,h5,h6⟩
theorem aBq {l:List Int} {lo hi:Int} {z:Bool} (h:cP l 12 lo hi z=true):∀v∈l,aIr lo hi false v:=fun v hv=>.inl ⟨((cO h).2.1 v hv).1,((cO h).2.1 v hv).2.1⟩
theorem xJ {l:List Int} {hi:Int} (h:cP l 12 (-hi) hi false=true):∀v∈l,aIr 1 hi true v:=fun v hv=>by
 have:=(cO h).2.1 v hv
 have h0:=this.2.2 rfl
 by_cases h1:1≤v
 ·exact .inl ⟨h1,this.2.1⟩
 ·exact .inr ⟨rfl,by omega,by omega,by omega⟩
theorem rK {l:List Int} {lo hi:Int} {z:Bool} (h:cP l 12 lo hi z=true):l.length≤1000:=by have:=(cO h).1;omega
set_option maxHeartbeats 4000000 in
theorem zW {w0:World} (r:Ru) (hc:iC r) (x:Rs) (H:aB) (hx:cN H r x):aH prog (CB w0) 76 [.agg (aW r x)] H fun v H'=>v=.val .nilIface∧H'=H:=by
 refine aH.flat rfl ?_
 refine aSi (N:=93) (rs:=[.tmp 2]) Tryz.func76 ?_
 rintro e he ⟨g0,-⟩
 unfold aW at g0
 have hday:=hx.day.len 80
 have hint:=hc.interval
 simp only[go_sem,he,g0,aN hx.setPos.one,aN hx.month.one,aN hx.monthDay.one,aN hx.yearDay.one,aN hx.weekNo.one,aN hx.hour.one,aN hx.minute.one,aN hx.second.one,aN hx.easter.one,hx.setPos.one,hx.month.one,hx.monthDay.one,hx.yearDay.one,hx.weekNo.one,hx.day.one,hx.hour.one,hx.minute.one,hx.second.one,hx.easter.one,List.replicate]
 obtain⟨Hs,hHs⟩:∃Hs:aB,Hs=H++[.own 83 (aW r x),.own 3 [vI 0,vI 59],.own 3 [vI 0,vI 59],.own 3 [vI 0,vI 23],.own 3 [vI 1,vI 31],.own 3 [vI 1,vI 366],.own 3 [vI 1,vI 53],.own 3 [vI 1,vI 12],.own 3 [vI 1,vI 366],
  .own 164 [x.second,vS [98,121,115,101,99,111,110,100],.sl true (H.length+1) 0 2 1,vB false,x.minute,vS [98,121,109,105,110,117,116,101],.sl true (H.length+2) 0 2 1,vB false,x.hour,vS [98,121,104,111,117,114],.sl true (H.length+3) 0 2 1,vB false,x.monthDay,vS [98,121,109,111,110,116,104,100,97,121],.sl true (H.length+4) 0 2 1,vB true,x.yearDay,vS [98,121,121,101,97,114,100,97,121],.sl true (H.length+5) 0 2 1,vB true,x.weekNo,vS [98,121,119,101,101,107,110,111],.sl true (H.length+6) 0 2 1,vB true,x.month,vS [98,121,109,111,110,116,104],.sl true (H.length+7) 0 2 1,vB false,x.setPos,vS [98,121,115,101,116,112,111,115],.sl true (H.length+8) 0 2 1,vB true]]:=⟨_,rfl⟩
 have key:∃CS,Hs[H.length+9]?=some (.own 164 CS)∧CS.length=32∧∀i,i<8→aBp Hs ((CS.drop (i*4)).take 4):=by
  have hx2:cN Hs r x:=by rw[hHs];exact hx.more _
  refine⟨_,by rw[hHs,bX];rfl,rfl,?_⟩
  intro i hi
  have hg:∀k,Hs[H.length+k]?=_:=fun k=>by rw[hHs,bX]
  match i,hi with
  |0,_=>exact⟨_,_,_,_,_,_,_,rfl,hx2.second,rK hc.second,hg 1,by decide,aBq hc.second⟩
  |1,_=>exact⟨_,_,_,_,_,_,_,rfl,hx2.minute,rK hc.minute,hg 2,by decide,aBq hc.minute⟩
  |2,_=>exact⟨_,_,_,_,_,_,_,rfl,hx2.hour,rK hc.hour,hg 3,by decide,aBq hc.hour⟩
  |3,_=>exact⟨_,_,_,_,_,_,_,rfl,hx2.monthDay,rK hc.monthDay,hg 4,by decide,xJ hc.monthDay⟩
  |4,_=>exact⟨_,_,_,_,_,_,_,rfl,hx2.yearDay,rK hc.yearDay,hg 5,by decide,xJ hc.yearDay⟩
  |5,_=>exact⟨_,_,_,_,_,_,_,rfl,hx2.weekNo,rK hc.weekNo,hg 6,by decide,xJ hc.weekNo⟩
  |6,_=>exact⟨_,_,_,_,_,_,_,rfl,hx2.month,rK hc.month,hg 7,by decide,aBq hc.month⟩
  |7,_=>exact⟨_,_,_,_,_,_,_,rfl,hx2.setPos,rK hc.setPos,hg 8,by decide,xJ hc.setPos⟩
  |n+8,h=>omega
 obtain⟨CS,hCS,hCl,hpart⟩:=key
 have hb:Hs[H.length]?=some (.own 83 (aW r x)):=by rw[hHs,bB];rfl
 have hG0:∃G,Hs=H++G:=⟨_,hHs⟩
 change AWp _ _ _ _ (H++_) _
 refine bG 8 (fun k e h=>len e=93∧AL.get e 1=.ptr H.length 0∧AL.get e 4=.fn (.func 118) [] []∧AL.get e 45=.sl true (H.length+9) 0 8 4∧AL.get e 46=vI 8∧(∃G,h=Hs++G)∧∃i:Nat,AL.get e 47=vI i∧i+k=8) (fun e h=>len e=93∧AL.get e 1=.ptr H.length 0∧∃G,h=Hs++G) (by kernel_rfl) ?_ ?_ ?_
 ·simp only[go_sem,he]
  exact⟨rfl,⟨[],by rw[hHs,List.append_nil];rfl⟩,0,rfl,rfl⟩
 ·clear he g0
  rintro k e h ⟨he,g1,g4,g45,g46,⟨G,rfl⟩,i,g47,hik⟩
  simp only[go_sem,he,g1,g4,g45,g46,g47]
  refine aF (fun hcc=>?_) fun hcc=>?_
  ·have hcc:=odT hcc
   have hi:i<8:=by omega
   obtain⟨y,nm,q,pm,l,lo,hi',h1,h2,h3,h4,h5,h6⟩:=(hpart i hi).more G
   have hCS2:=aZ (G:=G) hCS
   have wi:i64.wrap ((i:Int)+1)=((i+1:Nat):Int):=wN _ (by omega) (by omega)
   have y1:=h2.one
   have hlen:=h2.len 3
   obtain⟨h',hh'⟩:∃h':aB,h'=Hs++G++[.own 164 [y,vS nm,.sl true q 0 2 1,vB pm]]:=⟨_,rfl⟩
   have hn:h'[(Hs++G).length]?=some (.own 164 [y,vS nm,.sl true q 0 2 1,vB pm]):=by rw[hh',bB];rfl
   have h2':aQ h' y l:=by rw[hh'];exact h2.more _
   have h4':h'[q]?=some (.own 3 [vI lo,vI hi']):=by rw[hh'];exact aZ h4
   simp only[go_sem,he,g1,g4,g45,g46,g47,hCS2,hCl,h1,y1,hlen,Int.toNat_natCast,List.replicate]
   refine⟨by omega,by omega,?_⟩
   simp only[List.length_append,List.append_assoc] at hn hh'
   refine bG l.length (fun k2 e h=>len e=93∧AL.get e 1=.ptr H.length 0∧AL.get e 4=.fn (.func 118) [] []∧AL.get e 45=.sl true (H.length+9) 0 8 4∧AL.get e 46=vI 8∧AL.get e 47=vI i∧AL.get e 6=.ptr (Hs.length+G.length) 0∧AL.get e 52=y∧AL.get e 53=vI l.length∧h=h'∧∃j:Nat,AL.get e 54=vI j∧j+k2=l.length) (fun e h=>len e=93∧AL.get e 1=.ptr H.length 0∧AL.get e 4=.fn (.func 118) [] []∧AL.get e 45=.sl true (H.length+9) 0 8 4∧AL.get e 46=vI 8∧AL.get e 47=vI i∧h=h') (by kernel_rfl) ?_ ?_ ?_
   ·simp only[go_sem,he,g1,g4,g45,g46,g47]
    refine⟨?_,0,rfl,by omega⟩
    rw[hh']
   ·clear he g1 g4 g45 g46 g47
    rintro k2 e h ⟨he,g1,g4,g45,g46,g47,g6,g52,g53,rfl,j,g54,hjk⟩
    simp only[go_sem,he,g1,g4,g45,g46,g47,g6,g52,g53,g54]
    refine aF (fun hcc=>?_) fun hcc=>?_
    ·have hcc:=odT hcc
     have hj:j<l.length:=by omega
     obtain⟨own,q2,off,cs,e1,e2,e3⟩:=h2'.get hj
     have wj:i64.wrap ((j:Int)+1)=((j+1:Nat):Int):=wN _ (by omega) (by omega)
     rw[e1] at g52
     have hmem:l.getD j 0∈l:=by rw[List.getD_eq_getElem?_getD,List.getElem?_eq_getElem hj];exact List.getElem_mem hj
     simp only[go_sem,he,g1,g4,g45,g46,g47,g6,g52,g53,g54,e2,e3,hn,Int.toNat_natCast]
     refine⟨by omega,?_⟩
     refine aSh (aPx nm lo hi' _ pm q h h4' h5 (h6 _ hmem)) ?_
     simp only[go_sem,he,g1,g4,g45,g46,g47,g6,g52,g53,g54,aA,wj]
     exact⟨l.length-(j+1),by omega,by rw[e1],j+1,rfl,by omega⟩
    ·simp only[go_sem,he,g1,g4,g45,g46,g47,g6,g52,g53,g54]
   ·clear he g1 g4 g45 g46 g47
    rintro e h ⟨he,g1,g4,g45,g46,g47,rfl⟩
    simp only[go_sem,he,g1,g4,g45,g46,g47,wi]
    exact⟨7-i,by omega,⟨_,hh'⟩,i+1,rfl,by omega⟩
  ·simp only[go_sem,he,g1,g4,g45,g46,g47]
   exact⟨G,rfl⟩
 ·clear he g0
  rintro e h ⟨he,g1,G,rfl⟩
  have hb2:=aZ (G:=G) hb
  unfold aW at hb2
  have hxd:cU (Hs++G) x.day r.day:=by rw[hHs];exact (hx.day.more _).more _
  have hdl:=hc.dayLen
  have dI:decide (r.interval<0)=false:=dcF (by omega)
  simp only[go_sem,he,g1,hb2,hday]
  refine bG r.day.length (fun k e h=>len e=93∧AL.get e 1=.ptr H.length 0∧AL.get e 73=x.day∧AL.get e 74=vI r.day.length∧(∃G2,h=Hs++(G++G2))∧∃i:Nat,AL.get e 75=vI i∧i+k=r.day.length) (fun e h=>len e=93∧AL.get e 1=.ptr H.length 0∧∃G,h=Hs++G) (by kernel_rfl) ?_ ?_ ?_
  ·simp only[go_sem,he,g1]
   exact⟨⟨[],by rw[List.append_nil]⟩,0,rfl,by omega⟩
  ·clear he g1
   rintro k e h ⟨he,g1,g73,g74,⟨G2,rfl⟩,i,g75,hik⟩
   simp only[go_sem,he,g1,g73,g74,g75]
   refine aF (fun hcc=>?_) fun hcc=>?_
   ·have hcc:=odT hcc
    have hi:i<r.day.length:=by omega
    have hxd2:cU (Hs++(G++G2)) x.day r.day:=by rw[←List.append_assoc];exact hxd.more _
    obtain⟨own,q,off,cs,e1,e2,e3,e4⟩:=hxd2.get hi
    have wi:i64.wrap ((i:Int)+1)=((i+1:Nat):Int):=wN _ (by omega) (by omega)
    have hmem:r.day.getD i (0,0)∈r.day:=by rw[List.getD_eq_getElem?_getD,List.getElem?_eq_getElem hi];exact List.getElem_mem hi
    have hm:=K.sV hc hmem
    have hmo:cY r≤53:=by unfold cY;split<;>(try split)<;>omega
    rw[e1] at g73
    generalize hd:r.day.getD i (0,0)=d at *
    have d1:decide ((53:Int)<d.2)=false:=dcF (by omega)
    have d2:decide (d.2<(-53:Int))=false:=dcF (by omega)
    have hlen2:(Hs++(G++(G2++[aD.own 80 [vI d.1,vI d.2]])))[Hs.length+(G.length+G2.length)]?=some (aD.own 80 [vI d.1,vI d.2]):=by
     rw[bX,bX,bB];rfl
    simp only[go_sem,he,g1,g73,g74,g75,e2,e3,e4,Int.toNat_natCast,List.replicate,d1,d2,hlen2,wi]
    refine⟨by omega,?_⟩
    exact⟨r.day.length-(i+1),by omega,e1.symm,⟨_,rfl⟩,i+1,rfl,by omega⟩
   ·simp only[go_sem,he,g1,g73,g74,g75]
    exact⟨_,rfl⟩
  ·clear he g1
   rintro e h ⟨he,g1,G2,rfl⟩
   have hb2:=aZ (G:=G2) hb
   unfold aW at hb2
   simp only[go_sem,he,g1,hb2,dI]
   exact⟨_,by rw[hHs,List.append_assoc]⟩
def Sep (p y:AV):Prop:=∀q n m st st',p=.sl true q 0 n st→y≠.sl true q 0 m st'
theorem Sep.nilL {y:AV}:Sep aP y:=fun _ _ _ _ _ h=>by cases h
theorem Sep.symm {p y:AV} (h:Sep p y):Sep y p:=fun q n m st st' h1 h2=>h q m n st' st h2 h1
theorem push2 {s t st bytes:Nat} {z:List Value} (hel:el prog s=some (t,st,bytes,z)) (hb:bytes≤1000) {X Gn:aB} {x:AV} {n:Nat} {cs:List AV} (hO:GrN t st X (X++Gn) x n cs) {c:List AV} (hc:c.length=st) (h1:c.all AV.one=true) (hn:n≤100000000) :
  ∃x' Gn',cW prog s x (.sl true (X++Gn).length 0 1 st) (X++Gn++[aD.own t c])=some (x',X++Gn')∧GrN t st X (X++Gn') x' (n+1) (cs++c)∧Gn.length≤Gn'.length∧
   ∀{y:AV} {t' st' m:Nat} {cs':List AV},Sep x y→GrN t' st' X (X++Gn) y m cs'→GrN t' st' X (X++Gn') y m cs'∧Sep x' y:=by
 obtain⟨-,hl,hx⟩:=hO
 have e1:cellsOf (X++Gn++[aD.own t c]) (X++Gn).length=some c:=by unfold cellsOf;rw[bB];rfl
 have e3:(c.drop 0).take (1*st)=c:=by rw[List.drop_zero,Nat.one_mul,List.take_of_length_le (by omega)]
 have fresh:∀{y:AV} {t' st' m:Nat} {cs':List AV} {w:AV},(∃k,w=.sl true ((X++Gn).length+k) 0 (n+1) st)→GrN t' st' X (X++Gn) y m cs'→Sep w y:=by
  rintro y t' st' m cs' w ⟨k,rfl⟩ ⟨-,-,hy⟩ q n' m' s1 s2 e e'
  cases e
  rcases hy with ⟨rfl,-⟩|⟨o,rfl,ho,-⟩
  ·cases e'
  ·cases e'
   have:=(List.getElem?_eq_some_iff.1 ho).1
   omega
 rcases hx with ⟨rfl,rfl⟩|⟨o,rfl,ho,hol⟩
 ·have hcs:cs=[]:=List.length_eq_zero_iff.1 (by omega)
  subst hcs
  refine⟨.sl true (X++Gn++[aD.own t c]).length 0 1 st,Gn++[aD.own t c]++[.own t c],?_,⟨⟨_,rfl⟩,by simp;omega,.inr ⟨_,rfl,?_,by simp only[List.length_append];omega⟩⟩,by simp only[List.length_append];omega,?_⟩
  ·unfold cW
   rw[hel]
   simp only[e1,e3]
   rw[if_pos ⟨by omega,trivial,h1⟩,if_neg (by omega),if_pos ⟨by omega,by omega⟩]
   simp only[List.append_assoc]
  ·rw[show X++(Gn++[aD.own t c]++[aD.own t c])=(X++Gn++[aD.own t c])++[aD.own t c] by simp only[List.append_assoc],bB];rfl
  ·intro y t' st' m cs' hs hy
   refine⟨?_,fresh ⟨1,by simp[Nat.add_assoc]⟩ hy⟩
   have:=hy.more ([aD.own t c]++[.own t c])
   rwa [List.append_assoc,←List.append_assoc Gn] at this
 ·have hlt:o<(X++Gn).length:=(List.getElem?_eq_some_iff.1 ho).1
  have e2:(X++Gn++[aD.own t c])[o]?=some (.own t cs):=by rw[cZ hlt];exact ho
  have e4:cs.take (n*st)=cs:=List.take_of_length_le (by omega)
  have hb2:(n+1)*bytes≤100000001*1000:=Nat.mul_le_mul (by omega) hb
  have eH:((X++Gn)++[aD.own t c]).set o .gone++[aD.own t (cs++c)]=X++((Gn++[aD.own t c]).set (o-X.length) .gone++[aD.own t (cs++c)]):=by
   rw[List.append_assoc X,eZ hol,List.append_assoc]
  refine⟨.sl true (X++Gn++[aD.own t c]).length 0 (n+1) st,(Gn++[aD.own t c]).set (o-X.length) .gone++[aD.own t (cs++c)],?_,⟨⟨_,rfl⟩,?_,.inr ⟨(X++Gn++[aD.own t c]).length,rfl,?_,by simp only[List.length_append];omega⟩⟩,by simp only[List.length_append,List.length_set];omega,?_⟩
  ·rw[←eH]
   unfold cW
   rw[hel]
   simp only[e1,e2,e3,e4]
   rw[if_pos ⟨by omega,trivial,h1⟩,if_pos ⟨trivial,trivial,by omega,by omega,by omega⟩]
  ·rw[List.length_append,Nat.succ_mul];omega
  ·rw[←eH]
   have:((X++Gn++[aD.own t c]).set o .gone).length=(X++Gn++[aD.own t c]).length:=List.length_set
   rw[←this,bB]
   rfl
  ·intro y t' st' m cs' hs hy
   refine⟨?_,fresh ⟨1,by simp[Nat.add_assoc]⟩ hy⟩
   refine⟨⟨_,rfl⟩,hy.2.1,?_⟩
   rcases hy.2.2 with hy2|⟨o2,rfl,ho2,hol2⟩
   ·exact .inl hy2
   ·refine .inr ⟨o2,rfl,?_,hol2⟩
    have hne:o≠o2:=by rintro rfl;exact hs o n m st st' rfl rfl
    have hpl:o2<(X++Gn).length:=(List.getElem?_eq_some_iff.1 ho2).1
    rw[←eH,cZ (by simp only[List.length_set,List.length_append,List.length_cons,List.length_nil] at hpl ⊢;omega),List.getElem?_set_ne hne,cZ hpl]
    exact ho2
theorem GrN.front {t st:Nat} {X X' Gn:aB} {x:AV} {n:Nat} {cs:List AV} (hO:GrN t st X (X++Gn) x n cs) (hl:X'.length=X.length):GrN t st X' (X'++Gn) x n cs:=by
 obtain⟨-,h1,h2⟩:=hO
 refine⟨⟨_,rfl⟩,h1,?_⟩
 rcases h2 with h2|⟨o,rfl,ho,hol⟩
 ·exact .inl h2
 ·refine .inr ⟨o,rfl,?_,by omega⟩
  rw[List.getElem?_append_right (by omega)] at ho ⊢
  rw[hl];exact ho
theorem GrN.one {t st:Nat} {H h:aB} {x:AV} {n:Nat} {cs:List AV} (hO:GrN t st H h x n cs):x.one=true:=by
 rcases hO.2.2 with ⟨rfl,_⟩|⟨o,rfl,_,_⟩<;>rfl
theorem GrN.ints {H h:aB} {x:AV} {n:Nat} {l:List Int} (hO:GrN 3 1 H h x n (l.map vI)):aQ h x l:=by
 obtain⟨-,h1,h2⟩:=hO
 rw[List.length_map,Nat.mul_one] at h1
 subst h1
 rcases h2 with ⟨rfl,h0⟩|⟨o,rfl,ho,-⟩
 ·exact .inl ⟨rfl,h0⟩
 ·have:=f8 ho 0 l.length (by omega)
  simpa using this
theorem GrN.days {t:TypeId} {H h:aB} {x:AV} {n:Nat} {l:List (Int×Int)} (hO:GrN t 2 H h x n (fL l)):cU h x l:=by
 obtain⟨-,h1,h2⟩:=hO
 rw[t5] at h1
 have hn:l.length=n:=by omega
 subst hn
 rcases h2 with ⟨rfl,h0⟩|⟨o,rfl,ho,-⟩
 ·exact .inl ⟨rfl,h0⟩
 ·exact i8.days (t:=t) (.inr ⟨o,rfl,ho⟩)
def bY (r:Ru) (x:Rs) (iv:Int) (mo md wd:AV):List AV:=[vI r.freq,vI r.start,vI 0,vI iv,vI r.wkst,vI 0,vI r.count,vI (jU r),vI 0,x.setPos,mo,md,x.yearDay,x.weekNo,wd,x.hour,x.minute,x.second,x.easter]
def zX (r:Ru):List AV:=if r.hasUntil then [vI r.til,vI 0] else [vI (r.start+9223372036),vI 854775807]
def dE:List AV:=[vI 0,vI 0,vI 0,vI 0,vI 0,vI 0,vI 0,vI 0,vI 0,aP,aP,aP,aP,aP,aP,aP,aP,aP,aP]
def rrc (r:Ru) (x:Rs) (f:List AV):List AV:=aW r x++(dE++f)
def At3 (H G:aB) (P:aB→Prop):Prop:=∀a b c:aD,P (H++(a::b::c::G))
theorem At3.ints {H G:aB} {x:AV} {l:List Int} (hx:aQ H x l):At3 H G fun h=>aQ h x l:=fun _ _ _=>hx.more _
theorem At3.days {H G:aB} {x:AV} {l:List (Int×Int)} (hx:cU H x l):At3 H G fun h=>cU h x l:=fun _ _ _=>hx.more _
theorem At3.moreI {H G:aB} {x:AV} {l:List Int} (hx:At3 H G fun h=>aQ h x l) (G2:aB):At3 H (G++G2) fun h=>aQ h x l:=fun a b c=>by
 have:=(show aQ (H++(a::b::c::G)) x l from hx a b c).more G2
 rwa [List.append_assoc,List.cons_append,List.cons_append,List.cons_append] at this
theorem At3.moreD {H G:aB} {x:AV} {l:List (Int×Int)} (hx:At3 H G fun h=>cU h x l) (G2:aB):At3 H (G++G2) fun h=>cU h x l:=fun a b c=>by
 have:=(show cU (H++(a::b::c::G)) x l from hx a b c).more G2
 rwa [List.append_assoc,List.cons_append,List.cons_append,List.cons_append] at this
theorem f9 {h:aB} {o:Nat} {v:Int} (ho:h[o]?=some (.own 3 [vI v])):aQ h (.sl true o 0 1 1) [v]:=by
 have:=f8 (l:=[v]) ho 0 1 (by simp)
 simpa using this
theorem aLN {h:aB} {o:Nat} {d:Int×Int} {t:TypeId} (ho:h[o]?=some (.own t [vI d.1,vI d.2])):cU h (.sl true o 0 1 2) [d]:=
 i8.days (t:=t) (.inr ⟨o,rfl,ho⟩)
def bwT (r:Ru) (d:Int×Int):Bool:=decide (d.2=0)||decide (1<(r.freq:Int))
def cA (hs ms ss:List Int):List Int:=hs.flatMap fun h=>ms.flatMap fun m=>ss.map fun s=>h*3600+m*60+s
theorem aDp (h m s:Int):eL 1 1 1 h m s=h*3600+m*60+s:=by
 have e1:(1:Int)+(1-1)/12=1:=rfl
 have e2:(((1:Int)-1)%12).toNat=0:=rfl
 have e3:aC 1=0:=rfl
 unfold eL
 rw[e1,e2,e3]
 simp only[bA]
 omega
theorem gP (hs ms ss:List Int):(cA hs ms ss).length=hs.length*(ms.length*ss.length):=by
 induction hs with
 |nil=>simp[cA]
 |cons h hs ih=>
  have e1:cA (h::hs) ms ss=(ms.flatMap fun m=>ss.map fun s=>h*3600+m*60+s)++cA hs ms ss:=rfl
  have e2:(ms.flatMap fun m=>ss.map fun s=>h*3600+m*60+s).length=ms.length*ss.length:=by
   clear ih e1
   induction ms with
   |nil=>simp
   |cons m ms ih2=>rw[List.flatMap_cons,List.length_append,ih2,List.length_map,List.length_cons,Nat.succ_mul];omega
  rw[e1,List.length_append,e2,ih,List.length_cons,Nat.succ_mul];omega
theorem aRL (c:Int) (H:aB) (hc:0≤c∧c≤100000):fS prog 99 (.val (.int .i64 0)) (.val (.int .i64 c)) H=some (.sl true H.length 0 0 2,H++[.own 78 []]):=by
 unfold fS
 rw[vW]
 simp only[]
 rw[if_pos ⟨by omega,by omega,by omega,by omega⟩]
 rfl
theorem aKv {r:Ru} (hc:iC r) (hf:r.freq<4):1≤(K.whole r).hour.length∧1≤(K.whole r).minute.length∧1≤(K.whole r).second.length∧(K.whole r).hour.length*(K.whole r).minute.length≤60∧(K.whole r).hour.length*(K.whole r).minute.length*(K.whole r).second.length≤60∧(K.whole r).hour.length≤60∧(K.whole r).minute.length≤60∧(K.whole r).second.length≤60:=by
 have one:∀(l:List Int) (v:Int) (c:Prop) [Decidable c],c→((if l=[]∧c then [v] else l).length=max 1 l.length):=by
  intro l v c _ hcc
  cases l with
  |nil=>rw[if_pos ⟨rfl,hcc⟩];rfl
  |cons a l=>rw[if_neg (by simp)];simp only[List.length_cons];omega
 have h1:(K.whole r).hour.length=max 1 r.hour.length:=one _ _ _ hf
 have h2:(K.whole r).minute.length=max 1 r.minute.length:=one _ _ _ (by omega)
 have h3:(K.whole r).second.length=max 1 r.second.length:=one _ _ _ (by omega)
 have hm:=hc.many
 rw[h1,h2,h3]
 have e:((max 1 r.hour.length*max 1 r.minute.length*max 1 r.second.length:Nat):Int)=max 1 (r.hour.length:Int)*max 1 (r.minute.length:Int)*max 1 (r.second.length:Int):=by
  rw[Int.natCast_mul,Int.natCast_mul]
  have:∀n:Nat,((max 1 n:Nat):Int)=max 1 (n:Int):=fun n=>by omega
  rw[this,this,this]
 have hm2:max 1 r.hour.length*max 1 r.minute.length*max 1 r.second.length≤60:=by omega
 have q1:max 1 r.hour.length*max 1 r.minute.length≤max 1 r.hour.length*max 1 r.minute.length*max 1 r.second.length:=Nat.le_mul_of_pos_right _ (by omega)
 have q2:max 1 r.hour.length≤max 1 r.hour.length*max 1 r.minute.length:=Nat.le_mul_of_pos_right _ (by omega)
 have q3:max 1 r.minute.length≤max 1 r.hour.length*max 1 r.minute.length:=Nat.le_mul_of_pos_left _ (by omega)
 have q4:max 1 r.second.length≤max 1 r.hour.length*max 1 r.minute.length*max 1 r.second.length:=Nat.le_mul_of_pos_left _ (Nat.mul_pos (by omega) (by omega))
 omega
theorem aRM (hs ms ss:List Int) (h:Int):cA (hs++[h]) ms ss=cA hs ms ss++cA [h] ms ss:=by simp[cA]
theorem aKw (h:Int) (ms ss:List Int) (m:Int):cA [h] (ms++[m]) ss=cA [h] ms ss++cA [h] [m] ss:=by simp[cA]
theorem aEW (h m:Int) (ss:List Int) (s:Int):cA [h] [m] (ss++[s])=cA [h] [m] ss++[h*3600+m*60+s]:=by simp[cA]
theorem aKx (h m:Int):cA [h] [m] []=[]:=rfl
theorem aPy (h:Int) (ss:List Int):cA [h] [] ss=[]:=rfl
theorem eE {l:List Int} {i:Nat} (hi:i<l.length):l.take (i+1)=l.take i++[l.getD i 0]:=by rw[List.take_add_one,List.getD_eq_getElem?_getD,List.getElem?_eq_getElem hi];rfl
theorem aEX (l:List Int):bE l=fL (l.map fun t=>(t,0)):=by
 induction l with
 |nil=>rfl
 |cons a l ih=>rw[bE,ih];rfl
theorem wQ {h:aB} {o:Nat} {t:TypeId} {l:List Int} (ho:h[o]?=some (.own t (bE l))):d9 h (.sl true o 0 l.length 2) l:=
 i8.days (t:=t) (.inr ⟨o,by rw[List.length_map],by rw[ho,aEX]⟩)
theorem r5 {w0:World} (h:aB) (o:Nat) (l:List Int) (hl:l.length≤200) (ho:h[o]?=some (.own 78 (bE l))):aH prog (CB w0) 130 [.ifc 177 (.sl true o 0 l.length 2)] h fun r H'=>r=.tup []∧H'=h.set o (.own 78 (bE (eQ l))):=by
 obtain⟨hlt,he⟩:=List.getElem?_eq_some_iff.1 ho
 have e1:h=h.take o++(.own 78 (bE l)::h.drop (o+1)):=by
  rw[←he,←List.drop_eq_getElem_cons hlt,List.take_append_drop]
 have e2:(h.take o).length=o:=by rw[List.length_take];omega
 have e3:h.set o (.own 78 (bE (eQ l)))=h.take o++(.own 78 (bE (eQ l))::h.drop (o+1)):=by
  rw[List.set_eq_take_append_cons_drop,if_pos hlt]
 have:=aIq (w0:=w0) (h.take o) l (h.drop (o+1)) hl
 rw[e2,←e1,←e3] at this
 exact this
def r7 (h:aB) (r:Ru) (cs:List AV):Prop:=∃(o:List AV) (t1 t2 ln:Int) (sp mo p n yd wn bw nw ho mi se ea ts:AV),o.length=38∧zX r=[vI t1,vI t2]∧
 cs=o++[vI r.freq,vI r.start,vI 0,vI (max 1 r.interval),vI r.wkst,vI r.count,vI t1,vI t2,sp,mo,p,n,yd,wn,bw,nw,ho,mi,se,ea,ts,vI ln]∧cs.all AV.one=true∧
 aQ h sp r.setPos∧aQ h mo (K.whole r).month∧aQ h p ((K.whole r).monthDay.filter fun d=>decide (0<d))∧aQ h n ((K.whole r).monthDay.filter fun d=>decide (d<0))∧aQ h yd r.yearDay∧aQ h wn r.weekNo∧
 aQ h bw (((K.whole r).day.filter (bwT r)).map (·.1))∧cU h nw ((K.whole r).day.filter fun d=>!bwT r d)∧aQ h ho (K.whole r).hour∧aQ h mi (K.whole r).minute∧aQ h se (K.whole r).second∧aQ h ea r.easter∧
 d9 h ts (if r.freq<4 then eQ (cA (K.whole r).hour (K.whole r).minute (K.whole r).second) else [])
theorem r7.more {h:aB} {r:Ru} {cs:List AV} (hr:r7 h r cs) (G:aB):r7 (h++G) r cs:=by
 obtain⟨o,t1,t2,ln,sp,mo,p,n,yd,wn,bw,nw,ho,mi,se,ea,ts,a1,a2,a3,a4,b1,b2,b3,b4,b5,b6,b7,b8,b9,b10,b11,b12,b13⟩:=hr
 exact⟨o,t1,t2,ln,sp,mo,p,n,yd,wn,bw,nw,ho,mi,se,ea,ts,a1,a2,a3,a4,b1.more G,b2.more G,b3.more G,b4.more G,b5.more G,b6.more G,b7.more G,b8.more G,b9.more G,b10.more G,b11.more G,b12.more G,d9.more b13 G⟩
set_option maxHeartbeats 4000000 in
theorem aEY {w0:World} (r:Ru) (hc:iC r) (x:Rs) (H:aB) (hx:cN H r x):aH prog (CB w0) 77 [.agg (aW r x)] H fun v H'=>(∃cs,v=.agg cs∧r7 H' r cs)∧∃G,H'=H++G:=by
 refine aSi (N:=300) (rs:=[.cell 2 112]) Tryz.func77 ?_
 rintro e he ⟨g0,-⟩
 have hs:jH r=r.start:=by unfold jH;rw[hc.hasStart];rfl
 have hint:=hc.interval
 have hco:=hc.count
 have hst:=hc.start
 unfold aW at g0
 rw[hs] at g0
 simp only[go_sem,he,g0,aN hx.setPos.one,aN hx.month.one,aN hx.monthDay.one,aN hx.yearDay.one,aN hx.weekNo.one,aN hx.hour.one,aN hx.minute.one,aN hx.second.one,aN hx.easter.one,hx.setPos.one,hx.month.one,hx.monthDay.one,hx.yearDay.one,hx.weekNo.one,hx.day.one,hx.hour.one,hx.minute.one,hx.second.one,hx.easter.one,List.replicate]
 refine bC (fun e h=>len e=300∧AL.get e 1=.ptr H.length 0∧AL.get e 2=.ptr (H.length+1) 0∧AL.get e 3=.ptr (H.length+2) 0∧∃z,z.length=60∧h=H++[.own 83 (bY r x (max 1 r.interval) x.month x.monthDay x.day),.own 112 z,.own 112 (rrc r x [vI r.freq,vI 0,vI 0,vI 0,vI 0,vI 0,vI 0,vI 0,aP,aP,aP,aP,aP,aP,aP,aP,aP,aP,aP,aP,aP,vI 0])]) (fun hp=>?_) (fun hp=>?_) ?_
 ·have hp:=odT hp
  have hm:max 1 r.interval=1:=by omega
  unfold rrc aW dE bY
  rw[hs,hm]
  simp only[go_sem,he]
  exact⟨_,rfl,rfl⟩
 ·have hp:=odF hp
  have hm:max 1 r.interval=r.interval:=by omega
  unfold rrc aW dE bY
  rw[hs,hm]
  simp only[go_sem,he]
  exact⟨_,rfl,rfl⟩
 clear he g0
 rintro e h ⟨he,g1,g2,g3,z,hz,rfl⟩
 have dco:decide (r.count<0)=false:=dcF (by omega)
 unfold bY rrc aW dE
 rw[hs]
 simp only[go_sem,he,g1,g2,g3,dco]
 refine aSh (rC _ _ _) ?_
 have dst:decide (r.start=0)=false:=dcF (by omega)
 simp only[go_sem,he,g1,g2,g3,aA,dst,Bool.false_and]
 refine aSh (yU _ _ _) ?_
 simp only[go_sem,he,g1,g2,g3,aA]
 refine aSh (rC _ _ _) ?_
 simp only[go_sem,he,g1,g2,g3,aA]
 have htil:(jU r=0→r.hasUntil=false)∧(jU r≠0→r.hasUntil=true∧jU r=r.til):=by
  have ht:=hc.til
  unfold jU
  cases hu:r.hasUntil with
  |false=>simp
  |true=>have:=ht hu;simp;omega
 obtain⟨t1,t2,hT⟩:∃t1 t2:Int,zX r=[vI t1,vI t2]:=by unfold zX;split<;>exact⟨_,_,rfl⟩
 refine bC (fun e h=>len e=300∧AL.get e 1=.ptr H.length 0∧AL.get e 2=.ptr (H.length+1) 0∧AL.get e 3=.ptr (H.length+2) 0∧∃z,z.length=60∧h=H++[.own 83 (bY r x (max 1 r.interval) x.month x.monthDay x.day),.own 112 z,.own 112 (rrc r x [vI r.freq,vI r.start,vI 0,vI (max 1 r.interval),vI 0,vI r.count,vI t1,vI t2,aP,aP,aP,aP,aP,aP,aP,aP,aP,aP,aP,aP,aP,vI 0])]) (fun hp=>?_) (fun hp=>?_) ?_
 ·have hp:=odT hp
  have hu:=htil.1 hp
  have hT2:t1=r.start+9223372036∧t2=854775807:=by unfold zX at hT;rw[hu] at hT;simp at hT;omega
  obtain⟨rfl,rfl⟩:=hT2
  unfold rrc aW dE bY
  rw[hs]
  simp only[go_sem,he,g1,g2,g3]
  refine aSh (aRE r.start (by unfold InY;omega) _) ?_
  simp only[go_sem,he,g1,g2,g3,aA]
  exact⟨z,hz,rfl⟩
 ·have hp:=odF hp
  have hu:=htil.2 hp
  have hT2:t1=r.til∧t2=0:=by unfold zX at hT;rw[hu.1] at hT;simp at hT;omega
  obtain⟨rfl,rfl⟩:=hT2
  unfold rrc aW dE bY
  rw[hs,hu.2]
  simp only[go_sem,he,g1,g2,g3]
  refine aSh (yU _ _ _) ?_
  simp only[go_sem,he,g1,g2,g3,aA]
  exact⟨z,hz,rfl⟩
 clear he g1 g2 g3 hz z
 rintro e h ⟨he,g1,g2,g3,z,hz,rfl⟩
 have hl1:=hx.month.len 3
 have hl2:=hx.monthDay.len 3
 have hl3:=hx.yearDay.len 3
 have hl4:=hx.weekNo.len 3
 have hl5:=hx.day.len 80
 have hl6:=hx.easter.len 3
 unfold bY rrc aW dE
 rw[hs]
 simp only[go_sem,he,g1,g2,g3,hl4,aN hx.setPos.one]
 refine bQ (fun e h=>len e=300∧AL.get e 1=.ptr H.length 0∧AL.get e 2=.ptr (H.length+1) 0∧AL.get e 3=.ptr (H.length+2) 0∧AL.get e 94=vB (!dJ r)∧h=H++[.own 83 (bY r x (max 1 r.interval) x.month x.monthDay x.day),.own 112 z,.own 112 (rrc r x [vI r.freq,vI r.start,vI 0,vI (max 1 r.interval),vI r.wkst,vI r.count,vI t1,vI t2,x.setPos,aP,aP,aP,aP,aP,aP,aP,aP,aP,aP,aP,aP,vI 0])]) ?_ ?_
 ·unfold bY rrc aW dE
  rw[hs]
  have hd:∀b,(b=true↔r.weekNo.length=0∧r.yearDay.length=0∧r.monthDay.length=0∧r.day.length=0∧r.easter.length=0)→(!dJ r)=b:=by
   intro b hb
   unfold dJ
   cases b with
   |true=>have:=hb.1 rfl;rw[dcF (by omega)];rfl
   |false=>
    have:¬(r.weekNo.length=0∧r.yearDay.length=0∧r.monthDay.length=0∧r.day.length=0∧r.easter.length=0):=fun h=>by cases hb.2 h
    rw[dcT (by omega)];rfl
  by_cases k1:r.weekNo.length=0
  ·have d1:decide ((r.weekNo.length:Int)=0)=true:=dcT (by omega)
   simp only[go_sem,he,g1,g2,g3,d1,hl3]
   by_cases k2:r.yearDay.length=0
   ·have d2:decide ((r.yearDay.length:Int)=0)=true:=dcT (by omega)
    simp only[go_sem,he,g1,g2,g3,d2,hl2]
    by_cases k3:r.monthDay.length=0
    ·have d3:decide ((r.monthDay.length:Int)=0)=true:=dcT (by omega)
     simp only[go_sem,he,g1,g2,g3,d3,hl5]
     by_cases k4:r.day.length=0
     ·have d4:decide ((r.day.length:Int)=0)=true:=dcT (by omega)
      simp only[go_sem,he,g1,g2,g3,d4,hl6]
      by_cases k5:r.easter.length=0
      ·have d5:decide ((r.easter.length:Int)=0)=true:=dcT (by omega)
       rw[hd true ⟨fun _=>⟨k1,k2,k3,k4,k5⟩,fun _=>rfl⟩]
       simp only[go_sem,he,g1,g2,g3,d5]
      ·have d5:decide ((r.easter.length:Int)=0)=false:=dcF (by omega)
       rw[hd false ⟨fun h=>(by cases h),fun h=>(by omega)⟩]
       simp only[go_sem,he,g1,g2,g3,d5]
     ·have d4:decide ((r.day.length:Int)=0)=false:=dcF (by omega)
      rw[hd false ⟨fun h=>(by cases h),fun h=>(by omega)⟩]
      simp only[go_sem,he,g1,g2,g3,d4]
    ·have d3:decide ((r.monthDay.length:Int)=0)=false:=dcF (by omega)
     rw[hd false ⟨fun h=>(by cases h),fun h=>(by omega)⟩]
     simp only[go_sem,he,g1,g2,g3,d3]
   ·have d2:decide ((r.yearDay.length:Int)=0)=false:=dcF (by omega)
    rw[hd false ⟨fun h=>(by cases h),fun h=>(by omega)⟩]
    simp only[go_sem,he,g1,g2,g3,d2]
  ·have d1:decide ((r.weekNo.length:Int)=0)=false:=dcF (by omega)
   rw[hd false ⟨fun h=>(by cases h),fun h=>(by omega)⟩]
   simp only[go_sem,he,g1,g2,g3,d1]
 clear he g1 g2 g3
 rintro e h ⟨he,g1,g2,g3,g94,rfl⟩
 simp only[go_sem,he,g1,g2,g3,g94]
 have hin:InY r.start:=by unfold InY;omega
 have hfr:=hc.freq
 refine bC (fun e h=>len e=300∧AL.get e 1=.ptr H.length 0∧AL.get e 2=.ptr (H.length+1) 0∧AL.get e 3=.ptr (H.length+2) 0∧∃mo md wd G,mo.one=true∧md.one=true∧wd.one=true∧h=H++(.own 83 (bY r x (max 1 r.interval) mo md wd)::.own 112 z::.own 112 (rrc r x [vI r.freq,vI r.start,vI 0,vI (max 1 r.interval),vI r.wkst,vI r.count,vI t1,vI t2,x.setPos,aP,aP,aP,aP,aP,aP,aP,aP,aP,aP,aP,aP,vI 0])::G)∧At3 H G (fun h=>aQ h mo (K.whole r).month)∧At3 H G (fun h=>aQ h md (K.whole r).monthDay)∧At3 H G (fun h=>cU h wd (K.whole r).day)) (fun hp=>?_) (fun hp=>?_) ?_
 ·have hdy:dJ r=false:=by cases h:dJ r<;>simp_all
  have m1:(K.whole r).month=if dJ r=false∧r.freq=0∧r.month=[] then [(aL (r.start/86400)).1] else r.month:=rfl
  have m2:(K.whole r).monthDay=if dJ r=false∧r.freq≤1 then [(aL (r.start/86400)).2] else r.monthDay:=rfl
  have m3:(K.whole r).day=if dJ r=false∧r.freq=2 then [(r.start/86400%7,0)] else r.day:=rfl
  unfold bY rrc aW dE
  rw[hs]
  simp only[go_sem,he,g1,g2,g3]
  refine aF (fun hp=>?_) fun hp=>?_
  ·have hp:=odT hp
   have h0:r.freq=0:=by omega
   simp only[go_sem,he,g1,g2,g3,hl1]
   refine bC (fun e h=>len e=300∧AL.get e 1=.ptr H.length 0∧AL.get e 2=.ptr (H.length+1) 0∧AL.get e 3=.ptr (H.length+2) 0∧∃mo G,mo.one=true∧h=H++(.own 83 (bY r x (max 1 r.interval) mo x.monthDay x.day)::.own 112 z::.own 112 (rrc r x [vI r.freq,vI r.start,vI 0,vI (max 1 r.interval),vI r.wkst,vI r.count,vI t1,vI t2,x.setPos,aP,aP,aP,aP,aP,aP,aP,aP,aP,aP,aP,aP,vI 0])::G)∧At3 H G (fun h=>aQ h mo (K.whole r).month)) (fun hp=>?_) (fun hp=>?_) ?_
   ·have hp:=odT hp
    have hm:r.month=[]:=List.length_eq_zero_iff.1 (by omega)
    rw[if_pos ⟨hdy,h0,hm⟩] at m1
    unfold bY rrc aW dE
    rw[hs,m1]
    simp only[go_sem,he,g1,g2,g3]
    refine aSh (aLD _ hin _) ?_
    simp only[go_sem,he,g1,g2,g3,aA]
    exact⟨.sl true (H.length+3) 0 1 1,[.own 3 [vI (aL (r.start/86400)).1]],rfl,rfl,fun a b c=>f9 (by rw[bX];rfl)⟩
   ·have hp:=odF hp
    rw[if_neg (fun h=>hp (by rw[h.2.2];rfl))] at m1
    unfold bY rrc aW dE
    rw[hs,m1]
    simp only[go_sem,he,g1,g2,g3]
    exact⟨x.month,[],hx.month.one,rfl,At3.ints hx.month⟩
   ·clear he g1 g2 g3 g94
    rintro e h ⟨he,g1,g2,g3,mo,G,mo1,rfl,hmo⟩
    rw[if_pos ⟨hdy,by omega⟩] at m2
    rw[if_neg (by omega)] at m3
    unfold bY rrc aW dE
    rw[hs,m2,m3]
    simp only[go_sem,he,g1,g2,g3]
    refine aSh (aEM _ hin _) ?_
    simp only[go_sem,he,g1,g2,g3,aA]
    refine⟨mo,.sl true (H.length+(G.length+3)) 0 1 1,x.day,G++[.own 3 [vI (aL (r.start/86400)).2]],mo1,rfl,hx.day.one,rfl,At3.moreI hmo _,fun a b c=>f9 (by rw[bX];simp),At3.days hx.day⟩
  ·have hp:=odF hp
   rw[if_neg (by omega)] at m1
   simp only[go_sem,he,g1,g2,g3]
   refine aF (fun hp=>?_) fun hp=>?_
   ·have hp:=odT hp
    rw[if_pos ⟨hdy,by omega⟩] at m2
    rw[if_neg (by omega)] at m3
    rw[m1,m2,m3]
    simp only[go_sem,he,g1,g2,g3]
    refine aSh (aEM _ hin _) ?_
    simp only[go_sem,he,g1,g2,g3,aA]
    exact⟨x.month,.sl true (H.length+3) 0 1 1,x.day,[.own 3 [vI (aL (r.start/86400)).2]],hx.month.one,rfl,hx.day.one,rfl,At3.ints hx.month,fun a b c=>f9 (by rw[bX];rfl),At3.days hx.day⟩
   ·have hp:=odF hp
    rw[if_neg (by omega)] at m2
    simp only[go_sem,he,g1,g2,g3]
    refine aF (fun hp=>?_) fun hp=>?_
    ·have hp:=odT hp
     rw[if_pos ⟨hdy,by omega⟩] at m3
     rw[m1,m2,m3]
     simp only[go_sem,he,g1,g2,g3]
     refine aSh (pU _ hin _) ?_
     simp only[go_sem,he,g1,g2,g3,aA]
     refine aSh (aBi _ (by omega) _) ?_
     simp only[go_sem,he,g1,g2,g3,aA,List.replicate]
     have hw:((r.start/86400+1)%7+6)%7=r.start/86400%7:=by omega
     rw[hw]
     exact⟨x.month,x.monthDay,.sl true (H.length+3) 0 1 2,[.own 80 [vI (r.start/86400%7),vI 0]],hx.month.one,hx.monthDay.one,rfl,rfl,At3.ints hx.month,At3.ints hx.monthDay,fun a b c=>aLN (d:=(r.start/86400%7,0)) (by rw[bX];rfl)⟩
    ·have hp:=odF hp
     rw[if_neg (by omega)] at m3
     rw[m1,m2,m3]
     simp only[go_sem,he,g1,g2,g3]
     exact⟨x.month,x.monthDay,x.day,[],hx.month.one,hx.monthDay.one,hx.day.one,rfl,At3.ints hx.month,At3.ints hx.monthDay,At3.days hx.day⟩
 ·have hdy:dJ r=true:=by cases h:dJ r<;>simp_all
  have m1:(K.whole r).month=r.month:=if_neg (by rw[hdy];simp)
  have m2:(K.whole r).monthDay=r.monthDay:=if_neg (by rw[hdy];simp)
  have m3:(K.whole r).day=r.day:=if_neg (by rw[hdy];simp)
  rw[m1,m2,m3]
  simp only[go_sem,he,g1,g2,g3]
  exact⟨x.month,x.monthDay,x.day,[],hx.month.one,hx.monthDay.one,hx.day.one,rfl,At3.ints hx.month,At3.ints hx.monthDay,At3.days hx.day⟩
 ·clear he g1 g2 g3 g94
  rintro e h ⟨he,g1,g2,g3,mo,md,wd,G,mo1,md1,wd1,rfl,hmo,hmd,hwd⟩
  have hB:∀a b c:aD,(H++(a::b::c::G)).length=H.length+3+G.length:=fun a b c=>by simp only[List.length_append,List.length_cons];omega
  have hmdl:(K.whole r).monthDay.length≤12:=by
   have h1:=(cO hc.monthDay).1
   show (if dJ r=false∧r.freq≤1 then [(aL (r.start/86400)).2] else r.monthDay).length≤12
   split
   ·simp
   ·omega
  have hml:∀a b c:aD,lenK (some (.slice 3)) md=some (vI (K.whole r).monthDay.length):=fun a b c=>fN.len (hmd a b c) 3
  have hmL:=hml .gone .gone .gone
  unfold bY rrc aW dE
  rw[hs]
  simp only[go_sem,he,g1,g2,g3,aN mo1,aN md1,hmL,aN hx.yearDay.one,aN hx.easter.one]
  refine bG (K.whole r).monthDay.length (fun k e h=>len e=300∧AL.get e 1=.ptr H.length 0∧AL.get e 2=.ptr (H.length+1) 0∧AL.get e 3=.ptr (H.length+2) 0∧AL.get e 140=md∧AL.get e 141=vI (K.whole r).monthDay.length∧∃(i:Nat) (p n:AV) (Gn:aB),AL.get e 142=vI i∧i+k=(K.whole r).monthDay.length∧
    (∀X:aB,X.length=H.length+3+G.length→GrN 3 1 X (X++Gn) p (((K.whole r).monthDay.take i).filter (fun d=>decide (0<d))).length ((((K.whole r).monthDay.take i).filter (fun d=>decide (0<d))).map vI)∧GrN 3 1 X (X++Gn) n (((K.whole r).monthDay.take i).filter (fun d=>decide (d<0))).length ((((K.whole r).monthDay.take i).filter (fun d=>decide (d<0))).map vI))∧Sep p n∧
    h=H++(.own 83 (bY r x (max 1 r.interval) mo md wd)::.own 112 z::.own 112 (rrc r x [vI r.freq,vI r.start,vI 0,vI (max 1 r.interval),vI r.wkst,vI r.count,vI t1,vI t2,x.setPos,mo,p,n,x.yearDay,aP,aP,aP,aP,aP,aP,x.easter,aP,vI 0])::(G++Gn)))
   (fun e h=>len e=300∧AL.get e 1=.ptr H.length 0∧AL.get e 2=.ptr (H.length+1) 0∧AL.get e 3=.ptr (H.length+2) 0∧∃(p n:AV) (Gn:aB),
    (∀X:aB,X.length=H.length+3+G.length→GrN 3 1 X (X++Gn) p ((K.whole r).monthDay.filter (fun d=>decide (0<d))).length (((K.whole r).monthDay.filter (fun d=>decide (0<d))).map vI)∧GrN 3 1 X (X++Gn) n ((K.whole r).monthDay.filter (fun d=>decide (d<0))).length (((K.whole r).monthDay.filter (fun d=>decide (d<0))).map vI))∧
    h=H++(.own 83 (bY r x (max 1 r.interval) mo md wd)::.own 112 z::.own 112 (rrc r x [vI r.freq,vI r.start,vI 0,vI (max 1 r.interval),vI r.wkst,vI r.count,vI t1,vI t2,x.setPos,mo,p,n,x.yearDay,aP,aP,aP,aP,aP,aP,x.easter,aP,vI 0])::(G++Gn))) (by kernel_rfl) ?_ ?_ ?_
  ·unfold bY rrc aW dE
   rw[hs]
   simp only[go_sem,he,g1,g2,g3]
   refine⟨0,aP,aP,[],rfl,by omega,fun X _=>⟨GrN.nil ⟨[],rfl⟩,GrN.nil ⟨[],rfl⟩⟩,Sep.nilL,by rw[List.append_nil]⟩
  ·clear he g1 g2 g3
   rintro k e h ⟨he,g1,g2,g3,g140,g141,i,p,n,Gn,g142,hik,hpn,hsep,rfl⟩
   simp only[go_sem,he,g1,g2,g3,g140,g141,g142]
   refine aF (fun hcc=>?_) fun hcc=>?_
   ·have hcc:=odT hcc
    have hi:i<(K.whole r).monthDay.length:=by omega
    have wi:i64.wrap ((i:Int)+1)=((i+1:Nat):Int):=wN _ (by omega) (by omega)
    have hmd2:=At3.moreI hmd Gn (.own 83 (bY r x (max 1 r.interval) mo md wd)) (.own 112 z) (.own 112 (rrc r x [vI r.freq,vI r.start,vI 0,vI (max 1 r.interval),vI r.wkst,vI r.count,vI t1,vI t2,x.setPos,mo,p,n,x.yearDay,aP,aP,aP,aP,aP,aP,x.easter,aP,vI 0]))
    obtain⟨own,q,off,cs,e1,e2,e3⟩:=hmd2.get hi
    have htk:(K.whole r).monthDay.take (i+1)=(K.whole r).monthDay.take i++[(K.whole r).monthDay.getD i 0]:=by rw[List.take_add_one,List.getD_eq_getElem?_getD,List.getElem?_eq_getElem hi];rfl
    generalize (K.whole r).monthDay.getD i 0=v at htk e3
    rw[e1] at g140
    simp only[go_sem,he,g1,g2,g3,g140,g141,g142,e2,e3,Int.toNat_natCast]
    refine⟨by omega,?_⟩
    have hX0:(H++(.own 83 (bY r x (max 1 r.interval) mo md wd)::.own 112 z::.own 112 (rrc r x [vI r.freq,vI r.start,vI 0,vI (max 1 r.interval),vI r.wkst,vI r.count,vI t1,vI t2,x.setPos,mo,p,n,x.yearDay,aP,aP,aP,aP,aP,aP,x.easter,aP,vI 0])::G)).length=H.length+3+G.length:=hB _ _ _
    have lenP:∀f:Int→Bool,(((K.whole r).monthDay.take i).filter f).length≤100000000:=fun f=>by
     have h1:=List.length_filter_le f ((K.whole r).monthDay.take i)
     have h2:=List.length_take_le i (K.whole r).monthDay
     omega
    have hpn0:=hpn _ hX0
    have step:∀(f:Int→Bool),((K.whole r).monthDay.take (i+1)).filter f=((K.whole r).monthDay.take i).filter f++if f v then [v] else []:=fun f=>by
     rw[htk,List.filter_append]
     congr 1
     simp[List.filter_cons]
    have sp:=step fun d=>decide (0<d)
    have sn:=step fun d=>decide (d<0)
    clear step
    by_cases hv:0<v
    ·have d1:decide (0<v)=true:=dcT hv
     have d2:decide (v<0)=false:=dcF (by omega)
     obtain⟨p',Gn',ha,hp',-,hoth⟩:=push2 mW (by decide) hpn0.1 (c:=[vI v]) rfl rfl (lenP _)
     obtain⟨hn',hsep'⟩:=hoth hsep hpn0.2
     have p1:=hp'.one
     unfold bY rrc aW dE at ha
     rw[hs,List.append_assoc H] at ha
     simp only[go_sem] at ha
     unfold bY rrc aW dE
     rw[hs]
     simp only[d1,d2,if_true,Bool.false_eq_true,if_false,List.append_nil] at sp sn
     simp only[go_sem,he,g1,g2,g3,g140,g141,g142,d1,d2,ha,aN p1,wi]
     refine⟨(K.whole r).monthDay.length-(i+1),by omega,e1.symm,i+1,p',n,Gn',rfl,by omega,fun X hX=>⟨?_,?_⟩,hsep',rfl⟩
     ·rw[sp,List.length_append,List.map_append];exact hp'.front (hX.trans hX0.symm)
     ·rw[sn];exact hn'.front (hX.trans hX0.symm)
    ·have d1:decide (0<v)=false:=dcF hv
     unfold bY rrc aW dE
     rw[hs]
     simp only[go_sem,he,g1,g2,g3,g140,g141,g142,d1]
     by_cases hv2:v<0
     ·have d2:decide (v<0)=true:=dcT hv2
      obtain⟨n',Gn',ha,hn',-,hoth⟩:=push2 mW (by decide) hpn0.2 (c:=[vI v]) rfl rfl (lenP _)
      obtain⟨hp',hsep'⟩:=hoth hsep.symm hpn0.1
      have p1:=hn'.one
      unfold bY rrc aW dE at ha
      rw[hs,List.append_assoc H] at ha
      simp only[go_sem] at ha
      simp only[d1,d2,if_true,Bool.false_eq_true,if_false,List.append_nil] at sp sn
      simp only[go_sem,he,g1,g2,g3,g140,g141,g142,d1,d2,ha,aN p1,wi]
      refine⟨(K.whole r).monthDay.length-(i+1),by omega,e1.symm,i+1,p,n',Gn',rfl,by omega,fun X hX=>⟨?_,?_⟩,hsep'.symm,rfl⟩
      ·rw[sp];exact hp'.front (hX.trans hX0.symm)
      ·rw[sn,List.length_append,List.map_append];exact hn'.front (hX.trans hX0.symm)
     ·have d2:decide (v<0)=false:=dcF hv2
      simp only[d1,d2,if_true,Bool.false_eq_true,if_false,List.append_nil] at sp sn
      simp only[go_sem,he,g1,g2,g3,g140,g141,g142,d1,d2,wi]
      refine⟨(K.whole r).monthDay.length-(i+1),by omega,e1.symm,i+1,p,n,Gn,rfl,by omega,fun X hX=>⟨?_,?_⟩,hsep,rfl⟩
      ·rw[sp];exact hpn0.1.front (hX.trans hX0.symm)
      ·rw[sn];exact hpn0.2.front (hX.trans hX0.symm)
   ·have hcc:=odF hcc
    obtain rfl:i=(K.whole r).monthDay.length:=by omega
    rw[List.take_length] at hpn
    simp only[go_sem,he,g1,g2,g3]
    exact⟨p,n,Gn,hpn,rfl⟩
  ·clear he g1 g2 g3
   rintro e h ⟨he,g1,g2,g3,p,n,Gn,hpn,rfl⟩
   have hp3:At3 H (G++Gn) fun h=>aQ h p ((K.whole r).monthDay.filter (fun d=>decide (0<d))):=fun a b c=>by
    have:=(hpn _ (hB a b c)).1.ints
    rwa [List.append_assoc H,List.cons_append,List.cons_append,List.cons_append] at this
   have hn3:At3 H (G++Gn) fun h=>aQ h n ((K.whole r).monthDay.filter (fun d=>decide (d<0))):=fun a b c=>by
    have:=(hpn _ (hB a b c)).2.ints
    rwa [List.append_assoc H,List.cons_append,List.cons_append,List.cons_append] at this
   replace hmo:=At3.moreI hmo Gn
   replace hmd:=At3.moreI hmd Gn
   replace hwd:=At3.moreD hwd Gn
   clear hpn hB hml
   generalize G++Gn=G at hp3 hn3 hmo hmd hwd ⊢
   have hB:∀a b c:aD,(H++(a::b::c::G)).length=H.length+3+G.length:=fun a b c=>by simp only[List.length_append,List.length_cons];omega
   have p1:p.one=true:=fN.one (hp3 .gone .gone .gone)
   have n1:n.one=true:=fN.one (hn3 .gone .gone .gone)
   have hwl:lenK (some (.slice 80)) wd=some (vI (K.whole r).day.length):=fN.len (hwd .gone .gone .gone) 80
   have hdl:(K.whole r).day.length≤12:=by
    have h1:=hc.dayLen
    show (if dJ r=false∧r.freq=2 then [(r.start/86400%7,0)] else r.day).length≤12
    split
    ·simp
    ·omega
   unfold bY rrc aW dE
   rw[hs]
   simp only[go_sem,he,g1,g2,g3,aN hx.weekNo.one,hwl]
   refine bG (K.whole r).day.length (fun k e h=>len e=300∧AL.get e 1=.ptr H.length 0∧AL.get e 2=.ptr (H.length+1) 0∧AL.get e 3=.ptr (H.length+2) 0∧AL.get e 167=wd∧AL.get e 168=vI (K.whole r).day.length∧∃(i:Nat) (bw nw:AV) (Gn:aB),AL.get e 169=vI i∧i+k=(K.whole r).day.length∧(∀X:aB,X.length=H.length+3+G.length→GrN 3 1 X (X++Gn) bw ((((K.whole r).day.take i).filter (bwT r)).map (·.1)).length (((((K.whole r).day.take i).filter (bwT r)).map (·.1)).map vI)∧GrN 80 2 X (X++Gn) nw (((K.whole r).day.take i).filter (fun d=>!bwT r d)).length (fL (((K.whole r).day.take i).filter (fun d=>!bwT r d))))∧Sep bw nw∧h=H++(.own 83 (bY r x (max 1 r.interval) mo md wd)::.own 112 z::.own 112 (rrc r x [vI r.freq,vI r.start,vI 0,vI (max 1 r.interval),vI r.wkst,vI r.count,vI t1,vI t2,x.setPos,mo,p,n,x.yearDay,x.weekNo,bw,nw,aP,aP,aP,x.easter,aP,vI 0])::(G++Gn)))
    (fun e h=>len e=300∧AL.get e 1=.ptr H.length 0∧AL.get e 2=.ptr (H.length+1) 0∧AL.get e 3=.ptr (H.length+2) 0∧∃(bw nw:AV) (Gn:aB),(∀X:aB,X.length=H.length+3+G.length→GrN 3 1 X (X++Gn) bw (((K.whole r).day.filter (bwT r)).map (·.1)).length ((((K.whole r).day.filter (bwT r)).map (·.1)).map vI)∧GrN 80 2 X (X++Gn) nw ((K.whole r).day.filter (fun d=>!bwT r d)).length (fL ((K.whole r).day.filter (fun d=>!bwT r d))))∧h=H++(.own 83 (bY r x (max 1 r.interval) mo md wd)::.own 112 z::.own 112 (rrc r x [vI r.freq,vI r.start,vI 0,vI (max 1 r.interval),vI r.wkst,vI r.count,vI t1,vI t2,x.setPos,mo,p,n,x.yearDay,x.weekNo,bw,nw,aP,aP,aP,x.easter,aP,vI 0])::(G++Gn))) (by kernel_rfl) ?_ ?_ ?_
   ·unfold bY rrc aW dE
    rw[hs]
    simp only[go_sem,he,g1,g2,g3]
    refine⟨0,aP,aP,[],rfl,by omega,fun X _=>⟨GrN.nil ⟨[],rfl⟩,GrN.nil ⟨[],rfl⟩⟩,Sep.nilL,by rw[List.append_nil]⟩
   ·clear he g1 g2 g3
    rintro k e h ⟨he,g1,g2,g3,g167,g168,i,bw,nw,Gn,g169,hik,hpn,hsep,rfl⟩
    simp only[go_sem,he,g1,g2,g3,g167,g168,g169]
    refine aF (fun hcc=>?_) fun hcc=>?_
    ·have hcc:=odT hcc
     have hi:i<(K.whole r).day.length:=by omega
     have wi:i64.wrap ((i:Int)+1)=((i+1:Nat):Int):=wN _ (by omega) (by omega)
     have hwd2:cU _ wd (K.whole r).day:=At3.moreD hwd Gn (.own 83 (bY r x (max 1 r.interval) mo md wd)) (.own 112 z) (.own 112 (rrc r x [vI r.freq,vI r.start,vI 0,vI (max 1 r.interval),vI r.wkst,vI r.count,vI t1,vI t2,x.setPos,mo,p,n,x.yearDay,x.weekNo,bw,nw,aP,aP,aP,x.easter,aP,vI 0]))
     obtain⟨own,q,off,cs,e1,e2,e3,e4⟩:=hwd2.get hi
     have htk:(K.whole r).day.take (i+1)=(K.whole r).day.take i++[(K.whole r).day.getD i (0,0)]:=by rw[List.take_add_one,List.getD_eq_getElem?_getD,List.getElem?_eq_getElem hi];rfl
     generalize (K.whole r).day.getD i (0,0)=d at htk e4
     rw[e1] at g167
     have hX0:(H++(.own 83 (bY r x (max 1 r.interval) mo md wd)::.own 112 z::.own 112 (rrc r x [vI r.freq,vI r.start,vI 0,vI (max 1 r.interval),vI r.wkst,vI r.count,vI t1,vI t2,x.setPos,mo,p,n,x.yearDay,x.weekNo,bw,nw,aP,aP,aP,x.easter,aP,vI 0])::G)).length=H.length+3+G.length:=hB _ _ _
     have lenP:∀f:Int×Int→Bool,(((K.whole r).day.take i).filter f).length≤100000000:=fun f=>by
      have h1:=List.length_filter_le f ((K.whole r).day.take i)
      have h2:=List.length_take_le i (K.whole r).day
      omega
     have hpn0:=hpn _ hX0
     have hpm:=hpn0.1.more [.own 80 [vI d.1,vI d.2]]
     have hnm:=hpn0.2.more [.own 80 [vI d.1,vI d.2]]
     rw[List.append_assoc _ Gn] at hpm hnm
     have step:∀(f:Int×Int→Bool),((K.whole r).day.take (i+1)).filter f=((K.whole r).day.take i).filter f++if f d then [d] else []:=fun f=>by
      rw[htk,List.filter_append]
      congr 1
      simp[List.filter_cons]
     have sp:=step (bwT r)
     have sn:=step fun d=>!bwT r d
     clear step
     have hbox:(H++(.own 83 (bY r x (max 1 r.interval) mo md wd)::.own 112 z::.own 112 (rrc r x [vI r.freq,vI r.start,vI 0,vI (max 1 r.interval),vI r.wkst,vI r.count,vI t1,vI t2,x.setPos,mo,p,n,x.yearDay,x.weekNo,bw,nw,aP,aP,aP,x.easter,aP,vI 0])::(G++(Gn++[.own 80 [vI d.1,vI d.2]]))))[H.length+(G.length+Gn.length+1+1+1)]?=some (.own 80 [vI d.1,vI d.2]):=by
      rw[bX,List.getElem?_cons_succ,List.getElem?_cons_succ,List.getElem?_cons_succ,bX,bB];rfl
     unfold bY rrc aW dE at hbox
     rw[hs] at hbox
     unfold bY rrc aW dE at e2
     rw[hs] at e2
     simp only[List.cons_append,List.nil_append,List.append_assoc] at e2 hbox
     unfold bY rrc aW dE
     rw[hs]
     simp only[go_sem,he,g1,g2,g3,g167,g168,g169,e2,e3,e4,hbox,Int.toNat_natCast,List.replicate]
     refine⟨by omega,?_⟩
     refine bQ (fun e h=>len e=300∧AL.get e 1=.ptr H.length 0∧AL.get e 2=.ptr (H.length+1) 0∧AL.get e 3=.ptr (H.length+2) 0∧AL.get e 7=.ptr (H.length+(G.length+Gn.length+1+1+1)) 0∧AL.get e 167=wd∧AL.get e 168=vI (K.whole r).day.length∧AL.get e 169=vI i∧AL.get e 180=vB (bwT r d)∧h=H++(.own 83 (bY r x (max 1 r.interval) mo md wd)::.own 112 z::.own 112 (rrc r x [vI r.freq,vI r.start,vI 0,vI (max 1 r.interval),vI r.wkst,vI r.count,vI t1,vI t2,x.setPos,mo,p,n,x.yearDay,x.weekNo,bw,nw,aP,aP,aP,x.easter,aP,vI 0])::(G++(Gn++[.own 80 [vI d.1,vI d.2]])))) ?_ ?_
     ·unfold bY rrc aW dE bwT
      rw[hs]
      by_cases hd:d.2=0
      ·have d1:decide (d.2=0)=true:=dcT hd
       simp only[go_sem,he,g1,g2,g3,g167,g168,g169,d1,Bool.true_or,e1]
      ·have d1:decide (d.2=0)=false:=dcF hd
       simp only[go_sem,he,g1,g2,g3,g167,g168,g169,d1,Bool.false_or,e1]
     clear he g1 g2 g3 g167 g168 g169
     rintro e h ⟨he,g1,g2,g3,g7,g167,g168,g169,g180,rfl⟩
     unfold bY rrc aW dE
     rw[hs]
     simp only[go_sem,he,g1,g2,g3,g7,g167,g168,g169,g180,hbox]
     refine aF (fun hb=>?_) fun hb=>?_
     ·obtain⟨p',Gn',ha,hp',-,hoth⟩:=push2 mW (by decide) hpm (c:=[vI d.1]) rfl rfl (by rw[List.length_map];exact lenP _)
      obtain⟨hn',hsep'⟩:=hoth hsep hnm
      have q1:=hp'.one
      unfold bY rrc aW dE at ha
      rw[hs,List.append_assoc H] at ha
      simp only[go_sem] at ha
      rw[if_pos hb] at sp
      rw[if_neg (by rw[hb];decide),List.append_nil] at sn
      simp only[go_sem,he,g1,g2,g3,g7,g167,g168,g169,hbox,ha,aN q1,wi]
      refine⟨(K.whole r).day.length-(i+1),by omega,i+1,p',nw,Gn',rfl,by omega,fun X hX=>⟨?_,?_⟩,hsep',rfl⟩
      ·rw[sp,List.map_append,List.length_append,List.map_append];exact hp'.front (hX.trans hX0.symm)
      ·rw[sn];exact hn'.front (hX.trans hX0.symm)
     ·obtain⟨n',Gn',ha,hn',-,hoth⟩:=push2 aH1 (by decide) hnm (c:=[vI d.1,vI d.2]) rfl rfl (lenP _)
      obtain⟨hp',hsep'⟩:=hoth hsep.symm hpm
      have q1:=hn'.one
      unfold bY rrc aW dE at ha
      rw[hs,List.append_assoc H] at ha
      simp only[go_sem] at ha
      rw[if_neg (by rw[hb];decide),List.append_nil] at sp
      rw[if_pos (by rw[hb];rfl)] at sn
      simp only[go_sem,he,g1,g2,g3,g7,g167,g168,g169,hbox,ha,aN q1,wi]
      refine⟨(K.whole r).day.length-(i+1),by omega,i+1,bw,n',Gn',rfl,by omega,fun X hX=>⟨?_,?_⟩,hsep'.symm,rfl⟩
      ·rw[sp];exact hp'.front (hX.trans hX0.symm)
      ·rw[sn,List.length_append,show fL (((K.whole r).day.take i).filter (fun d=>!bwT r d)++[d])=fL (((K.whole r).day.take i).filter (fun d=>!bwT r d))++[vI d.1,vI d.2] from yP _ _];exact hn'.front (hX.trans hX0.symm)
    ·have hcc:=odF hcc
     obtain rfl:i=(K.whole r).day.length:=by omega
     rw[List.take_length] at hpn
     simp only[go_sem,he,g1,g2,g3]
     exact⟨bw,nw,Gn,hpn,rfl⟩
   ·clear he g1 g2 g3
    rintro e h ⟨he,g1,g2,g3,bw,nw,Gn,hpn,rfl⟩
    have hbw:At3 H (G++Gn) fun h=>aQ h bw (((K.whole r).day.filter (bwT r)).map (·.1)):=fun a b c=>by
     have:=(hpn _ (hB a b c)).1.ints
     rwa [List.append_assoc H,List.cons_append,List.cons_append,List.cons_append] at this
    have hnw:At3 H (G++Gn) fun h=>cU h nw ((K.whole r).day.filter fun d=>!bwT r d):=fun a b c=>by
     have:=(hpn _ (hB a b c)).2.days
     rwa [List.append_assoc H,List.cons_append,List.cons_append,List.cons_append] at this
    replace hmo:=At3.moreI hmo Gn
    replace hp3:=At3.moreI hp3 Gn
    replace hn3:=At3.moreI hn3 Gn
    clear hpn hB hwl hmd hwd
    generalize G++Gn=G at hp3 hn3 hmo hbw hnw ⊢
    have lH:=hx.hour.len 3
    have lM:=hx.minute.len 3
    have lS:=hx.second.len 3
    have who:(K.whole r).hour=if r.hour=[]∧r.freq<4 then [r.start%86400/3600] else r.hour:=rfl
    unfold bY rrc aW dE
    rw[hs]
    simp only[go_sem,he,g1,g2,g3,lH]
    refine bC (fun e h=>len e=300∧AL.get e 1=.ptr H.length 0∧AL.get e 2=.ptr (H.length+1) 0∧AL.get e 3=.ptr (H.length+2) 0∧∃ho G2,ho.one=true∧At3 H (G++G2) (fun h=>aQ h ho (K.whole r).hour)∧h=H++(.own 83 (bY r x (max 1 r.interval) mo md wd)::.own 112 z::.own 112 (rrc r x [vI r.freq,vI r.start,vI 0,vI (max 1 r.interval),vI r.wkst,vI r.count,vI t1,vI t2,x.setPos,mo,p,n,x.yearDay,x.weekNo,bw,nw,ho,aP,aP,x.easter,aP,vI 0])::(G++G2))) (fun hq=>?_) (fun hq=>?_) ?_
    ·have hq:=odT hq
     have hem:r.hour=[]:=List.length_eq_zero_iff.1 (by omega)
     simp only[go_sem,he,g1,g2,g3]
     refine aF (fun hq=>?_) fun hq=>?_
     ·have hq:=odT hq
      rw[if_pos ⟨hem,by omega⟩] at who
      simp only[go_sem,he,g1,g2,g3]
      refine aSh (aPn _ hin _) ?_
      unfold bY rrc aW dE
      rw[hs,who]
      simp only[go_sem,he,g1,g2,g3,aA]
      exact⟨.sl true (H.length+(G.length+3)) 0 1 1,[.own 3 [vI (r.start%86400/3600)]],rfl,fun a b c=>f9 (by rw[bX];simp),rfl⟩
     ·have hq:=odF hq
      rw[if_neg (by omega)] at who
      unfold bY rrc aW dE
      rw[hs,who,hem]
      simp only[go_sem,he,g1,g2,g3]
      exact⟨aP,[],rfl,fun a b c=>.inl ⟨rfl,rfl⟩,by rw[List.append_nil]⟩
    ·have hq:=odF hq
     rw[if_neg (fun h=>hq (by rw[h.1];rfl))] at who
     unfold bY rrc aW dE
     rw[hs,who]
     simp only[go_sem,he,g1,g2,g3,aN hx.hour.one]
     exact⟨x.hour,[],hx.hour.one,At3.ints hx.hour,by rw[List.append_nil]⟩
    clear he g1 g2 g3
    rintro e h ⟨he,g1,g2,g3,ho,G2,ho1,hho,rfl⟩
    replace hmo:=At3.moreI hmo G2
    replace hp3:=At3.moreI hp3 G2
    replace hn3:=At3.moreI hn3 G2
    replace hbw:=At3.moreI hbw G2
    replace hnw:=At3.moreD hnw G2
    generalize G++G2=G at hmo hp3 hn3 hbw hnw hho ⊢
    have wmi:(K.whole r).minute=if r.minute=[]∧r.freq<5 then [r.start%86400/60%60] else r.minute:=rfl
    unfold bY rrc aW dE
    rw[hs]
    simp only[go_sem,he,g1,g2,g3,lM]
    refine bC (fun e h=>len e=300∧AL.get e 1=.ptr H.length 0∧AL.get e 2=.ptr (H.length+1) 0∧AL.get e 3=.ptr (H.length+2) 0∧∃mi G2,mi.one=true∧At3 H (G++G2) (fun h=>aQ h mi (K.whole r).minute)∧h=H++(.own 83 (bY r x (max 1 r.interval) mo md wd)::.own 112 z::.own 112 (rrc r x [vI r.freq,vI r.start,vI 0,vI (max 1 r.interval),vI r.wkst,vI r.count,vI t1,vI t2,x.setPos,mo,p,n,x.yearDay,x.weekNo,bw,nw,ho,mi,aP,x.easter,aP,vI 0])::(G++G2))) (fun hq=>?_) (fun hq=>?_) ?_
    ·have hq:=odT hq
     have hem:r.minute=[]:=List.length_eq_zero_iff.1 (by omega)
     simp only[go_sem,he,g1,g2,g3]
     refine aF (fun hq=>?_) fun hq=>?_
     ·have hq:=odT hq
      rw[if_pos ⟨hem,by omega⟩] at wmi
      simp only[go_sem,he,g1,g2,g3]
      refine aSh (aKr _ hin _) ?_
      unfold bY rrc aW dE
      rw[hs,wmi]
      simp only[go_sem,he,g1,g2,g3,aA]
      exact⟨.sl true (H.length+(G.length+3)) 0 1 1,[.own 3 [vI (r.start%86400/60%60)]],rfl,fun a b c=>f9 (by rw[bX];simp),rfl⟩
     ·have hq:=odF hq
      rw[if_neg (by omega)] at wmi
      unfold bY rrc aW dE
      rw[hs,wmi,hem]
      simp only[go_sem,he,g1,g2,g3]
      exact⟨aP,[],rfl,fun a b c=>.inl ⟨rfl,rfl⟩,by rw[List.append_nil]⟩
    ·have hq:=odF hq
     rw[if_neg (fun h=>hq (by rw[h.1];rfl))] at wmi
     unfold bY rrc aW dE
     rw[hs,wmi]
     simp only[go_sem,he,g1,g2,g3,aN hx.minute.one]
     exact⟨x.minute,[],hx.minute.one,At3.ints hx.minute,by rw[List.append_nil]⟩
    clear he g1 g2 g3
    rintro e h ⟨he,g1,g2,g3,mi,G2,mi1,hmi,rfl⟩
    replace hmo:=At3.moreI hmo G2
    replace hp3:=At3.moreI hp3 G2
    replace hn3:=At3.moreI hn3 G2
    replace hbw:=At3.moreI hbw G2
    replace hho:=At3.moreI hho G2
    replace hnw:=At3.moreD hnw G2
    generalize G++G2=G at hmo hp3 hn3 hbw hho hnw hmi ⊢
    have wse:(K.whole r).second=if r.second=[]∧r.freq<6 then [r.start%86400%60] else r.second:=rfl
    unfold bY rrc aW dE
    rw[hs]
    simp only[go_sem,he,g1,g2,g3,lS]
    refine bC (fun e h=>len e=300∧AL.get e 1=.ptr H.length 0∧AL.get e 2=.ptr (H.length+1) 0∧AL.get e 3=.ptr (H.length+2) 0∧∃se G2,se.one=true∧At3 H (G++G2) (fun h=>aQ h se (K.whole r).second)∧h=H++(.own 83 (bY r x (max 1 r.interval) mo md wd)::.own 112 z::.own 112 (rrc r x [vI r.freq,vI r.start,vI 0,vI (max 1 r.interval),vI r.wkst,vI r.count,vI t1,vI t2,x.setPos,mo,p,n,x.yearDay,x.weekNo,bw,nw,ho,mi,se,x.easter,aP,vI 0])::(G++G2))) (fun hq=>?_) (fun hq=>?_) ?_
    ·have hq:=odT hq
     have hem:r.second=[]:=List.length_eq_zero_iff.1 (by omega)
     simp only[go_sem,he,g1,g2,g3]
     refine aF (fun hq=>?_) fun hq=>?_
     ·have hq:=odT hq
      rw[if_pos ⟨hem,by omega⟩] at wse
      simp only[go_sem,he,g1,g2,g3]
      refine aSh (aKs _ hin _) ?_
      unfold bY rrc aW dE
      rw[hs,wse]
      simp only[go_sem,he,g1,g2,g3,aA]
      exact⟨.sl true (H.length+(G.length+3)) 0 1 1,[.own 3 [vI (r.start%86400%60)]],rfl,fun a b c=>f9 (by rw[bX];simp),rfl⟩
     ·have hq:=odF hq
      rw[if_neg (by omega)] at wse
      unfold bY rrc aW dE
      rw[hs,wse,hem]
      simp only[go_sem,he,g1,g2,g3]
      exact⟨aP,[],rfl,fun a b c=>.inl ⟨rfl,rfl⟩,by rw[List.append_nil]⟩
    ·have hq:=odF hq
     rw[if_neg (fun h=>hq (by rw[h.1];rfl))] at wse
     unfold bY rrc aW dE
     rw[hs,wse]
     simp only[go_sem,he,g1,g2,g3,aN hx.second.one]
     exact⟨x.second,[],hx.second.one,At3.ints hx.second,by rw[List.append_nil]⟩
    clear he g1 g2 g3
    rintro e h ⟨he,g1,g2,g3,se,G2,se1,hse,rfl⟩
    replace hmo:=At3.moreI hmo G2
    replace hp3:=At3.moreI hp3 G2
    replace hn3:=At3.moreI hn3 G2
    replace hbw:=At3.moreI hbw G2
    replace hho:=At3.moreI hho G2
    replace hmi:=At3.moreI hmi G2
    replace hnw:=At3.moreD hnw G2
    generalize G++G2=G at hmo hp3 hn3 hbw hho hmi hnw hse ⊢
    unfold bY rrc aW dE
    rw[hs]
    simp only[go_sem,he,g1,g2,g3]
    have hB:∀a b c:aD,(H++(a::b::c::G)).length=H.length+3+G.length:=fun a b c=>by simp only[List.length_append,List.length_cons];omega
    have kH:lenK (some (.slice 3)) ho=some (vI (K.whole r).hour.length):=fN.len (hho .gone .gone .gone) 3
    have kM:lenK (some (.slice 3)) mi=some (vI (K.whole r).minute.length):=fN.len (hmi .gone .gone .gone) 3
    have kS:lenK (some (.slice 3)) se=some (vI (K.whole r).second.length):=fN.len (hse .gone .gone .gone) 3
    have hmany:=hc.many
    refine bC (fun e h=>len e=300∧AL.get e 1=.ptr H.length 0∧AL.get e 2=.ptr (H.length+1) 0∧AL.get e 3=.ptr (H.length+2) 0∧∃ts G2,ts.one=true∧At3 H (G++G2) (fun h=>d9 h ts (if r.freq<4 then eQ (cA (K.whole r).hour (K.whole r).minute (K.whole r).second) else []))∧h=H++(.own 83 (bY r x (max 1 r.interval) mo md wd)::.own 112 z::.own 112 (rrc r x [vI r.freq,vI r.start,vI 0,vI (max 1 r.interval),vI r.wkst,vI r.count,vI t1,vI t2,x.setPos,mo,p,n,x.yearDay,x.weekNo,bw,nw,ho,mi,se,x.easter,ts,vI 0])::(G++G2))) (fun hq=>?_) (fun hq=>?_) ?_
    ·have hq:=odT hq
     have hf4:r.freq<4:=by omega
     obtain⟨n1,n2,n3,n4,n5,n6,n7,n8⟩:=aKv hc hf4
     have wm1:i64.wrap (((K.whole r).hour.length:Int)*(K.whole r).minute.length)=(((K.whole r).hour.length*(K.whole r).minute.length:Nat):Int):=wN _ (by rw[Int.natCast_mul]) (by omega)
     have wm2:i64.wrap ((((K.whole r).hour.length*(K.whole r).minute.length:Nat):Int)*(K.whole r).second.length)=(((K.whole r).hour.length*(K.whole r).minute.length*(K.whole r).second.length:Nat):Int):=wN _ (by rw[Int.natCast_mul (_*_)]) (by omega)
     simp only[go_sem,he,g1,g2,g3,kH,kM,kS,wm1,wm2,aRL _ _ (show 0≤(((K.whole r).hour.length*(K.whole r).minute.length*(K.whole r).second.length:Nat):Int)∧(((K.whole r).hour.length*(K.whole r).minute.length*(K.whole r).second.length:Nat):Int)≤100000 by omega)]
     refine bG (K.whole r).hour.length (fun k0 e h=>len e=300∧AL.get e 1=.ptr H.length 0∧AL.get e 2=.ptr (H.length+1) 0∧AL.get e 3=.ptr (H.length+2) 0∧AL.get e 258=ho∧AL.get e 259=vI (K.whole r).hour.length∧∃(i:Nat) (ts:AV) (Gn:aB),AL.get e 260=vI i∧i+k0=(K.whole r).hour.length∧(∀X:aB,X.length=H.length+3+G.length→GrN 78 2 X (X++Gn) ts (cA ((K.whole r).hour.take i) (K.whole r).minute (K.whole r).second).length (bE (cA ((K.whole r).hour.take i) (K.whole r).minute (K.whole r).second)))∧h=H++(.own 83 (bY r x (max 1 r.interval) mo md wd)::.own 112 z::.own 112 (rrc r x [vI r.freq,vI r.start,vI 0,vI (max 1 r.interval),vI r.wkst,vI r.count,vI t1,vI t2,x.setPos,mo,p,n,x.yearDay,x.weekNo,bw,nw,ho,mi,se,x.easter,ts,vI 0])::(G++Gn)))
      (fun e h=>len e=300∧AL.get e 1=.ptr H.length 0∧AL.get e 2=.ptr (H.length+1) 0∧AL.get e 3=.ptr (H.length+2) 0∧∃(ts:AV) (Gn:aB),(∀X:aB,X.length=H.length+3+G.length→GrN 78 2 X (X++Gn) ts (cA (K.whole r).hour (K.whole r).minute (K.whole r).second).length (bE (cA (K.whole r).hour (K.whole r).minute (K.whole r).second)))∧h=H++(.own 83 (bY r x (max 1 r.interval) mo md wd)::.own 112 z::.own 112 (rrc r x [vI r.freq,vI r.start,vI 0,vI (max 1 r.interval),vI r.wkst,vI r.count,vI t1,vI t2,x.setPos,mo,p,n,x.yearDay,x.weekNo,bw,nw,ho,mi,se,x.easter,ts,vI 0])::(G++Gn))) (by kernel_rfl) ?_ ?_ ?_
     ·unfold bY rrc aW dE
      rw[hs]
      simp only[go_sem,he,g1,g2,g3]
      refine⟨0,.sl true (H.length+(G.length+3)) 0 0 2,[.own 78 []],rfl,by omega,fun X hX=>⟨⟨_,rfl⟩,rfl,.inr ⟨_,rfl,?_,by omega⟩⟩,rfl⟩
      rw[show H.length+(G.length+3)=X.length by omega,bB];rfl
     ·clear he g1 g2 g3
      rintro k0 e h ⟨he,g1,g2,g3,g258,g259,i,ts,Gn,g260,hik,hpn,rfl⟩
      simp only[go_sem,he,g1,g2,g3,g258,g259,g260]
      refine aF (fun hcc=>?_) fun hcc=>?_
      ·have hcc:=odT hcc
       have hi:i<(K.whole r).hour.length:=by omega
       have wi:i64.wrap ((i:Int)+1)=((i+1:Nat):Int):=wN _ (by omega) (by omega)
       have hho2:aQ _ ho (K.whole r).hour:=At3.moreI hho Gn (.own 83 (bY r x (max 1 r.interval) mo md wd)) (.own 112 z) (.own 112 (rrc r x [vI r.freq,vI r.start,vI 0,vI (max 1 r.interval),vI r.wkst,vI r.count,vI t1,vI t2,x.setPos,mo,p,n,x.yearDay,x.weekNo,bw,nw,ho,mi,se,x.easter,ts,vI 0]))
       obtain⟨own,q,off,cs,x1,x2,x3⟩:=hho2.get hi
       unfold bY rrc aW dE at x2 ⊢
       rw[hs] at x2 ⊢
       simp only[List.cons_append,List.nil_append,List.append_assoc] at x2
       rw[x1] at g258
       simp only[go_sem,he,g1,g2,g3,g258,g259,g260,x2,x3,Int.toNat_natCast,kM]
       refine⟨by omega,?_⟩
       refine bG (K.whole r).minute.length (fun k1 e h=>len e=300∧AL.get e 1=.ptr H.length 0∧AL.get e 2=.ptr (H.length+1) 0∧AL.get e 3=.ptr (H.length+2) 0∧AL.get e 258=ho∧AL.get e 259=vI (K.whole r).hour.length∧AL.get e 260=vI i∧AL.get e 9=vI ((K.whole r).hour.getD i 0)∧AL.get e 265=mi∧AL.get e 266=vI (K.whole r).minute.length∧∃(j:Nat) (ts:AV) (Gn:aB),AL.get e 267=vI j∧j+k1=(K.whole r).minute.length∧(∀X:aB,X.length=H.length+3+G.length→GrN 78 2 X (X++Gn) ts (cA ((K.whole r).hour.take i) (K.whole r).minute (K.whole r).second++cA [(K.whole r).hour.getD i 0] ((K.whole r).minute.take j) (K.whole r).second).length (bE (cA ((K.whole r).hour.take i) (K.whole r).minute (K.whole r).second++cA [(K.whole r).hour.getD i 0] ((K.whole r).minute.take j) (K.whole r).second)))∧h=H++(.own 83 (bY r x (max 1 r.interval) mo md wd)::.own 112 z::.own 112 (rrc r x [vI r.freq,vI r.start,vI 0,vI (max 1 r.interval),vI r.wkst,vI r.count,vI t1,vI t2,x.setPos,mo,p,n,x.yearDay,x.weekNo,bw,nw,ho,mi,se,x.easter,ts,vI 0])::(G++Gn)))
        (fun e h=>len e=300∧AL.get e 1=.ptr H.length 0∧AL.get e 2=.ptr (H.length+1) 0∧AL.get e 3=.ptr (H.length+2) 0∧AL.get e 258=ho∧AL.get e 259=vI (K.whole r).hour.length∧AL.get e 260=vI i∧∃(ts:AV) (Gn:aB),(∀X:aB,X.length=H.length+3+G.length→GrN 78 2 X (X++Gn) ts (cA ((K.whole r).hour.take (i+1)) (K.whole r).minute (K.whole r).second).length (bE (cA ((K.whole r).hour.take (i+1)) (K.whole r).minute (K.whole r).second)))∧h=H++(.own 83 (bY r x (max 1 r.interval) mo md wd)::.own 112 z::.own 112 (rrc r x [vI r.freq,vI r.start,vI 0,vI (max 1 r.interval),vI r.wkst,vI r.count,vI t1,vI t2,x.setPos,mo,p,n,x.yearDay,x.weekNo,bw,nw,ho,mi,se,x.easter,ts,vI 0])::(G++Gn))) (by kernel_rfl) ?_ ?_ ?_
       ·unfold bY rrc aW dE
        rw[hs]
        simp only[go_sem,he,g1,g2,g3,g258,g259,g260]
        exact⟨x1.symm,0,ts,Gn,rfl,by omega,fun X hX=>by rw[List.take_zero,aPy,List.append_nil];exact hpn X hX,rfl⟩
       ·clear he g1 g2 g3 g258 g259 g260 hpn x2 hho2
        rintro k1 e h ⟨he,g1,g2,g3,g258,g259,g260,g9,g265,g266,j,ts,Gn,g267,hjk,hpn,rfl⟩
        simp only[go_sem,he,g1,g2,g3,g258,g259,g260,g9,g265,g266,g267]
        refine aF (fun hcc=>?_) fun hcc=>?_
        ·have hcc:=odT hcc
         have hj:j<(K.whole r).minute.length:=by omega
         have wj:i64.wrap ((j:Int)+1)=((j+1:Nat):Int):=wN _ (by omega) (by omega)
         have hmi2:aQ _ mi (K.whole r).minute:=At3.moreI hmi Gn (.own 83 (bY r x (max 1 r.interval) mo md wd)) (.own 112 z) (.own 112 (rrc r x [vI r.freq,vI r.start,vI 0,vI (max 1 r.interval),vI r.wkst,vI r.count,vI t1,vI t2,x.setPos,mo,p,n,x.yearDay,x.weekNo,bw,nw,ho,mi,se,x.easter,ts,vI 0]))
         obtain⟨own,q,off,cs,y1,y2,y3⟩:=hmi2.get hj
         unfold bY rrc aW dE at y2 ⊢
         rw[hs] at y2 ⊢
         simp only[List.cons_append,List.nil_append,List.append_assoc] at y2
         rw[y1] at g265
         simp only[go_sem,he,g1,g2,g3,g258,g259,g260,g9,g265,g266,g267,y2,y3,Int.toNat_natCast,kS]
         refine⟨by omega,?_⟩
         refine bG (K.whole r).second.length (fun k2 e h=>len e=300∧AL.get e 1=.ptr H.length 0∧AL.get e 2=.ptr (H.length+1) 0∧AL.get e 3=.ptr (H.length+2) 0∧AL.get e 258=ho∧AL.get e 259=vI (K.whole r).hour.length∧AL.get e 260=vI i∧AL.get e 9=vI ((K.whole r).hour.getD i 0)∧AL.get e 265=mi∧AL.get e 266=vI (K.whole r).minute.length∧AL.get e 267=vI j∧AL.get e 11=vI ((K.whole r).minute.getD j 0)∧AL.get e 272=se∧AL.get e 273=vI (K.whole r).second.length∧∃(k:Nat) (ts:AV) (Gn:aB),AL.get e 274=vI k∧k+k2=(K.whole r).second.length∧(∀X:aB,X.length=H.length+3+G.length→GrN 78 2 X (X++Gn) ts (cA ((K.whole r).hour.take i) (K.whole r).minute (K.whole r).second++(cA [(K.whole r).hour.getD i 0] ((K.whole r).minute.take j) (K.whole r).second++cA [(K.whole r).hour.getD i 0] [(K.whole r).minute.getD j 0] ((K.whole r).second.take k))).length (bE (cA ((K.whole r).hour.take i) (K.whole r).minute (K.whole r).second++(cA [(K.whole r).hour.getD i 0] ((K.whole r).minute.take j) (K.whole r).second++cA [(K.whole r).hour.getD i 0] [(K.whole r).minute.getD j 0] ((K.whole r).second.take k)))))∧h=H++(.own 83 (bY r x (max 1 r.interval) mo md wd)::.own 112 z::.own 112 (rrc r x [vI r.freq,vI r.start,vI 0,vI (max 1 r.interval),vI r.wkst,vI r.count,vI t1,vI t2,x.setPos,mo,p,n,x.yearDay,x.weekNo,bw,nw,ho,mi,se,x.easter,ts,vI 0])::(G++Gn)))
          (fun e h=>len e=300∧AL.get e 1=.ptr H.length 0∧AL.get e 2=.ptr (H.length+1) 0∧AL.get e 3=.ptr (H.length+2) 0∧AL.get e 258=ho∧AL.get e 259=vI (K.whole r).hour.length∧AL.get e 260=vI i∧AL.get e 9=vI ((K.whole r).hour.getD i 0)∧AL.get e 265=mi∧AL.get e 266=vI (K.whole r).minute.length∧AL.get e 267=vI j∧∃(ts:AV) (Gn:aB),(∀X:aB,X.length=H.length+3+G.length→GrN 78 2 X (X++Gn) ts (cA ((K.whole r).hour.take i) (K.whole r).minute (K.whole r).second++cA [(K.whole r).hour.getD i 0] ((K.whole r).minute.take (j+1)) (K.whole r).second).length (bE (cA ((K.whole r).hour.take i) (K.whole r).minute (K.whole r).second++cA [(K.whole r).hour.getD i 0] ((K.whole r).minute.take (j+1)) (K.whole r).second)))∧h=H++(.own 83 (bY r x (max 1 r.interval) mo md wd)::.own 112 z::.own 112 (rrc r x [vI r.freq,vI r.start,vI 0,vI (max 1 r.interval),vI r.wkst,vI r.count,vI t1,vI t2,x.setPos,mo,p,n,x.yearDay,x.weekNo,bw,nw,ho,mi,se,x.easter,ts,vI 0])::(G++Gn))) (by kernel_rfl) ?_ ?_ ?_
         ·unfold bY rrc aW dE
          rw[hs]
          simp only[go_sem,he,g1,g2,g3,g258,g259,g260,g9,g265,g266,g267]
          exact⟨y1.symm,0,ts,Gn,rfl,by omega,fun X hX=>by rw[List.take_zero,aKx,List.append_nil];exact hpn X hX,rfl⟩
         ·clear he g1 g2 g3 g258 g259 g260 g9 g265 g266 g267 hpn y2 hmi2
          rintro k2 e h ⟨he,g1,g2,g3,g258,g259,g260,g9,g265,g266,g267,g11,g272,g273,k,ts,Gn,g274,hkk,hpn,rfl⟩
          simp only[go_sem,he,g1,g2,g3,g258,g259,g260,g9,g265,g266,g267,g11,g272,g273,g274]
          refine aF (fun hcc=>?_) fun hcc=>?_
          ·have hcc:=odT hcc
           have hk:k<(K.whole r).second.length:=by omega
           have wk:i64.wrap ((k:Int)+1)=((k+1:Nat):Int):=wN _ (by omega) (by omega)
           have hse2:aQ _ se (K.whole r).second:=At3.moreI hse Gn (.own 83 (bY r x (max 1 r.interval) mo md wd)) (.own 112 z) (.own 112 (rrc r x [vI r.freq,vI r.start,vI 0,vI (max 1 r.interval),vI r.wkst,vI r.count,vI t1,vI t2,x.setPos,mo,p,n,x.yearDay,x.weekNo,bw,nw,ho,mi,se,x.easter,ts,vI 0]))
           obtain⟨own,q,off,cs,z1,z2,z3⟩:=hse2.get hk
           unfold bY rrc aW dE at z2 ⊢
           rw[hs] at z2 ⊢
           simp only[List.cons_append,List.nil_append,List.append_assoc] at z2
           rw[z1] at g272
           simp only[go_sem,he,g1,g2,g3,g258,g259,g260,g9,g265,g266,g267,g11,g272,g273,g274,z2,z3,Int.toNat_natCast]
           refine⟨by omega,?_⟩
           refine bU [129,128] bI (by kernel_rfl) ?_
           simp only[go_sem,he,g1,g2,g3,g258,g259,g260,g9,g265,g266,g267,g11,g272,g273,g274]
           refine aS (fun _=>gX _ _) ?_
           simp only[go_sem,he,g1,g2,g3,g258,g259,g260,g9,g265,g266,g267,g11,g272,g273,g274,aA]
           have hWP:=K.zO hc
           have mem:∀{l:List Int} {a:Nat},a<l.length→l.getD a 0∈l:=fun {l a} ha=>by rw[List.getD_eq_getElem?_getD,List.getElem?_eq_getElem ha];exact List.getElem_mem ha
           have b1:=hWP.hour _ (mem hi)
           have b2:=hWP.minute _ (mem hj)
           have b3:=hWP.second _ (mem hk)
           refine aS (fun _=>gZ 1 1 1 _ _ _ 0 ⟨by omega,by omega,by omega,by omega,by omega,by omega,by omega⟩ _ rfl _) ?_
           have hX0:(H++(.own 83 (bY r x (max 1 r.interval) mo md wd)::.own 112 z::.own 112 (rrc r x [vI r.freq,vI r.start,vI 0,vI (max 1 r.interval),vI r.wkst,vI r.count,vI t1,vI t2,x.setPos,mo,p,n,x.yearDay,x.weekNo,bw,nw,ho,mi,se,x.easter,ts,vI 0])::G)).length=H.length+3+G.length:=hB _ _ _
           obtain⟨ts',Gn',ha,hts',-,-⟩:=push2 vW (by decide) (hpn _ hX0) (c:=[vI (eL 1 1 1 ((K.whole r).hour.getD i 0) ((K.whole r).minute.getD j 0) ((K.whole r).second.getD k 0)),vI 0]) rfl rfl (by
            have u1:=List.length_take_le i (K.whole r).hour
            have u2:=List.length_take_le j (K.whole r).minute
            have u3:=List.length_take_le k (K.whole r).second
            have v1:((K.whole r).hour.take i).length*((K.whole r).minute.length*(K.whole r).second.length)≤60*(60*60):=Nat.mul_le_mul (by rw[List.length_take];omega) (Nat.mul_le_mul n7 n8)
            have v2:((K.whole r).minute.take j).length*(K.whole r).second.length≤60*60:=Nat.mul_le_mul (by rw[List.length_take];omega) n8
            have v3:((K.whole r).second.take k).length≤60:=by rw[List.length_take];omega
            rw[List.length_append,List.length_append,gP,gP,gP]
            simp only[List.length_cons,List.length_nil,Nat.zero_add,Nat.one_mul]
            omega)
           have q1:=hts'.one
           unfold bY rrc aW dE at ha
           rw[hs,List.append_assoc H] at ha
           simp only[go_sem] at ha
           simp only[go_sem,he,g1,g2,g3,g258,g259,g260,g9,g265,g266,g267,g11,g272,g273,g274,aA,ha,aN q1,wk]
           refine⟨k2-1,by omega,z1.symm,k+1,ts',Gn',rfl,by omega,fun X hX=>?_,rfl⟩
           have eq:cA ((K.whole r).hour.take i) (K.whole r).minute (K.whole r).second++(cA [(K.whole r).hour.getD i 0] ((K.whole r).minute.take j) (K.whole r).second++cA [(K.whole r).hour.getD i 0] [(K.whole r).minute.getD j 0] ((K.whole r).second.take (k+1)))=(cA ((K.whole r).hour.take i) (K.whole r).minute (K.whole r).second++(cA [(K.whole r).hour.getD i 0] ((K.whole r).minute.take j) (K.whole r).second++cA [(K.whole r).hour.getD i 0] [(K.whole r).minute.getD j 0] ((K.whole r).second.take k)))++[eL 1 1 1 ((K.whole r).hour.getD i 0) ((K.whole r).minute.getD j 0) ((K.whole r).second.getD k 0)]:=by
            rw[eE hk,aEW,aDp]
            simp only[List.append_assoc]
           rw[eq,List.length_append,kZ]
           exact hts'.front (hX.trans hX0.symm)
          ·have hcc:=odF hcc
           obtain rfl:k=(K.whole r).second.length:=by omega
           rw[List.take_length] at hpn
           simp only[go_sem,he,g1,g2,g3,g258,g259,g260,g9,g265,g266,g267]
           try unfold bY rrc aW dE
           try rw[hs]
           exact⟨ts,Gn,fun X hX=>by rw[eE hj,aKw];exact hpn X hX,rfl⟩
         ·clear he g1 g2 g3 g258 g259 g260 g9 g265 g266 g267 hpn y2 hmi2
          rintro e h ⟨he,g1,g2,g3,g258,g259,g260,g9,g265,g266,g267,ts,Gn,hpn,rfl⟩
          simp only[go_sem,he,g1,g2,g3,g258,g259,g260,g9,g265,g266,g267,wj]
          try unfold bY rrc aW dE
          try rw[hs]
          exact⟨k1-1,by omega,j+1,ts,Gn,rfl,by omega,hpn,rfl⟩
        ·have hcc:=odF hcc
         obtain rfl:j=(K.whole r).minute.length:=by omega
         rw[List.take_length] at hpn
         simp only[go_sem,he,g1,g2,g3,g258,g259,g260]
         try unfold bY rrc aW dE
         try rw[hs]
         exact⟨ts,Gn,fun X hX=>by rw[eE hi,aRM];exact hpn X hX,rfl⟩
       ·clear he g1 g2 g3 g258 g259 g260 hpn x2 hho2
        rintro e h ⟨he,g1,g2,g3,g258,g259,g260,ts,Gn,hpn,rfl⟩
        simp only[go_sem,he,g1,g2,g3,g258,g259,g260,wi]
        try unfold bY rrc aW dE
        try rw[hs]
        exact⟨k0-1,by omega,i+1,ts,Gn,rfl,by omega,hpn,rfl⟩
      ·have hcc:=odF hcc
       obtain rfl:i=(K.whole r).hour.length:=by omega
       rw[List.take_length] at hpn
       simp only[go_sem,he,g1,g2,g3]
       exact⟨ts,Gn,hpn,rfl⟩
     ·clear he g1 g2 g3
      rintro e h ⟨he,g1,g2,g3,ts,Gn,hpn,rfl⟩
      obtain⟨-,-,hts⟩:=hpn _ (hB .gone .gone .gone)
      unfold bY rrc aW dE
      rw[hs]
      simp only[go_sem,he,g1,g2,g3]
      have hL:(cA (K.whole r).hour (K.whole r).minute (K.whole r).second).length=(K.whole r).hour.length*(K.whole r).minute.length*(K.whole r).second.length:=by rw[gP,Nat.mul_assoc]
      have hL1:1≤(K.whole r).hour.length*(K.whole r).minute.length*(K.whole r).second.length:=Nat.mul_pos (Nat.mul_pos n1 n2) n3
      rcases hts with ⟨-,h0⟩|⟨o,rfl,ho,hol⟩
      ·omega
      obtain⟨q,rfl⟩:∃q,o=H.length+(G.length+q+1+1+1):=⟨o-H.length-3-G.length,by have:=hB .gone .gone .gone;omega⟩
      rw[List.getElem?_append_right (by rw[hB];omega),hB] at ho
      have hq':Gn[q]?=some (.own 78 (bE (cA (K.whole r).hour (K.whole r).minute (K.whole r).second))):=by rw[←ho];congr 1;omega
      refine aI (r5 _ _ _ (by omega) (by rw[bX,List.getElem?_cons_succ,List.getElem?_cons_succ,List.getElem?_cons_succ,bX];exact hq')) ?_
      rintro r' H' ⟨rfl,rfl⟩
      have hset:∀(a b c:aD) (y:aD),(H++a::b::c::(G++Gn)).set (H.length+(G.length+q+1+1+1)) y=H++a::b::c::(G++Gn.set q y):=fun a b c y=>by
       rw[tW,List.set_cons_succ,List.set_cons_succ,List.set_cons_succ,tW]
      simp only[go_sem,he,g1,g2,g3,bL,aA]
      refine⟨_,Gn.set q (.own 78 (bE (eQ (cA (K.whole r).hour (K.whole r).minute (K.whole r).second)))),?_,fun a b c=>?_,rfl⟩
      ·rfl
      ·rw[if_pos hf4]
       have hgo:(H++a::b::c::(G++Gn.set q (.own 78 (bE (eQ (cA (K.whole r).hour (K.whole r).minute (K.whole r).second))))))[H.length+(G.length+q+1+1+1)]?=some (.own 78 (bE (eQ (cA (K.whole r).hour (K.whole r).minute (K.whole r).second)))):=by
        rw[bX,List.getElem?_cons_succ,List.getElem?_cons_succ,List.getElem?_cons_succ,bX,List.getElem?_set_self (List.getElem?_eq_some_iff.1 hq').1]
       have:=wQ hgo
       rwa [jJ] at this
    ·simp only[go_sem,he,g1,g2,g3]
     have hq:=odF hq
     try unfold bY rrc aW dE
     try rw[hs]
     exact⟨aP,[],rfl,fun a b c=>(by rw[if_neg (by omega)];exact .inl ⟨rfl,rfl⟩),by simp only[List.append_nil,List.cons_append,List.nil_append]⟩
    ·clear he g1 g2 g3
     rintro e h ⟨he,g1,g2,g3,ts,G2,ts1,hts,rfl⟩
     unfold bY rrc aW dE
     rw[hs]
     have hz60:z.drop 60=[]:=List.drop_eq_nil_of_le (by omega)
     have bw1:bw.one=true:=fN.one (hbw .gone .gone .gone)
     have nw1:nw.one=true:=fN.one (hnw .gone .gone .gone)
     simp only[go_sem,he,g1,g2,g3,Bool.true_and,hx.setPos.one,hx.yearDay.one,hx.weekNo.one,hx.hour.one,hx.minute.one,hx.second.one,hx.easter.one,hx.month.one,hx.monthDay.one,hx.day.one,mo1,md1,wd1,p1,n1,ho1,mi1,se1,ts1,bw1,nw1,hz,hz60,aN]
     refine⟨⟨_,rfl,[vI r.freq,vI r.start,vI 0,vI r.interval,vI r.wkst,vI 0,vI r.count,vI (jU r),vI 0,x.setPos,x.month,x.monthDay,x.yearDay,x.weekNo,x.day,x.hour,x.minute,x.second,x.easter,vI r.freq,vI r.start,vI 0,vI (max 1 r.interval),vI r.wkst,vI 0,vI r.count,vI (jU r),vI 0,x.setPos,mo,md,x.yearDay,x.weekNo,wd,x.hour,x.minute,x.second,x.easter],t1,t2,0,x.setPos,mo,p,n,x.yearDay,x.weekNo,bw,nw,ho,mi,se,x.easter,ts,rfl,hT,rfl,?_,?_⟩,_,rfl⟩
     ·simp only[List.all_cons,List.all_nil,hx.setPos.one,hx.yearDay.one,hx.weekNo.one,hx.hour.one,hx.minute.one,hx.second.one,hx.easter.one,hx.month.one,hx.monthDay.one,hx.day.one,mo1,md1,wd1,p1,n1,ho1,mi1,se1,ts1,bw1,nw1,AL.sM,Bool.and_true,Bool.true_and]
      rfl
     ·exact⟨hx.setPos.more _,At3.moreI hmo G2 _ _ _,At3.moreI hp3 G2 _ _ _,At3.moreI hn3 G2 _ _ _,hx.yearDay.more _,hx.weekNo.more _,At3.moreI hbw G2 _ _ _,At3.moreD hnw G2 _ _ _,At3.moreI hho G2 _ _ _,At3.moreI hmi G2 _ _ _,At3.moreI hse G2 _ _ _,hx.easter.more _,hts _ _ _⟩
theorem r7.len {h:aB} {r:Ru} {cs:List AV} (hr:r7 h r cs):cs.length=60:=by
 obtain⟨o,t1,t2,ln,sp,mo,p,n,yd,wn,bw,nw,ho,mi,se,ea,ts,a1,a2,rfl,-⟩:=hr
 simp[a1]
theorem r7.one {h:aB} {r:Ru} {cs:List AV} (hr:r7 h r cs):cs.all AV.one=true:=by
 obtain⟨o,t1,t2,ln,sp,mo,p,n,yd,wn,bw,nw,ho,mi,se,ea,ts,a1,a2,rfl,h1,-⟩:=hr
 exact h1
theorem aIs {w0:World} (r:Ru) (hc:iC r) (x:Rs) (H:aB) (hx:cN H r x):aH prog (CB w0) 50 [.agg (aW r x)] H fun v H'=>∃h1 cs,v=.tup [.ptr h1.length 0,.val .nilIface]∧H'=h1++[.own 112 cs]∧r7 h1 r cs∧∃G,h1=H++G:=by
 refine aSi (N:=13) (rs:=[.tmp 2,.tmp 3]) Tryz.func50 ?_
 rintro e he ⟨g0,-⟩
 have hopt:aW r x=aW r x:=rfl
 unfold aW at g0
 simp only[go_sem,he,g0,aN hx.setPos.one,aN hx.month.one,aN hx.monthDay.one,aN hx.yearDay.one,aN hx.weekNo.one,aN hx.hour.one,aN hx.minute.one,aN hx.second.one,aN hx.easter.one,hx.setPos.one,hx.month.one,hx.monthDay.one,hx.yearDay.one,hx.weekNo.one,hx.day.one,hx.hour.one,hx.minute.one,hx.second.one,hx.easter.one,List.replicate]
 have c1:=zW (w0:=w0) r hc x (H++[.own 83 (aW r x)]) (hx.more _)
 have c2:=aEY (w0:=w0) r hc x (H++[.own 83 (aW r x)]) (hx.more _)
 unfold aW at c1 c2
 refine aG c1 (List.prefix_refl _) ?_
 simp only[go_sem,he,g0,aA]
 refine aI c2 ?_
 rintro v H' ⟨⟨cs,rfl,hr⟩,G,rfl⟩
 have hl:=hr.len
 have h1:=hr.one
 simp only[go_sem,he,g0,aA,h1,hl,List.replicate]
 refine⟨_,cs,?_,?_,hr,?_⟩
 ·simp only[List.length_append,List.length_cons,List.length_nil]
  congr 3
  omega
 ·simp only[List.append_assoc,List.cons_append,List.nil_append]
 ·exact⟨_,List.append_assoc _ _ _⟩
structure It where
 year:Int
 month:Int
 day:Int
 hour:Int
 minute:Int
 second:Int
 weekday:Int
 rr:AV
 ly:Int
 lm:Int
 yl:Int
 nyl:Int
 fy:Int
 yw:Int
 mm:AV
 mr:AV
 md:AV
 nmd:AV
 wd:AV
 wno:AV
 nwd:AV
 ea:AV
 ts:AV
 tot:Int
 cnt:Int
 st:AV
 bk:AV
 fin:Bool
 ds:AV
def It.cells (I:It):List AV:=[vI I.year,vI I.month,vI I.day,vI I.hour,vI I.minute,vI I.second,vI I.weekday,I.rr,vI I.ly,vI I.lm,vI I.yl,vI I.nyl,vI I.fy,vI 0,vI I.yw,I.mm,I.mr,I.md,I.nmd,I.wd,I.wno,I.nwd,I.ea,I.ts,vI I.tot,vI I.cnt,I.st,I.bk,vB I.fin,I.ds]
def GrT (t st B:Nat) (h:aB) (x:AV) (n:Nat) (cs:List AV):Prop:=(x=aP∧n=0∧cs=[])∨∃o cs0,x=.sl true o 0 n st∧B≤o∧h[o]?=some (.own t cs0)∧cs0.take (n*st)=cs∧n*st≤cs0.length
theorem GrT.one {t st B:Nat} {h:aB} {x:AV} {n:Nat} {cs:List AV} (hx:GrT t st B h x n cs):x.one=true:=by
 rcases hx with ⟨rfl,_⟩|⟨o,cs0,rfl,_⟩<;>rfl
def cR (S:Nat→Prop) (h h':aB):Prop:=∀(p:Nat) (y:aD),h[p]?=some y→¬S p→h'[p]?=some y
def blk (x:AV) (p:Nat):Prop:=∃n st,x=.sl true p 0 n st
theorem GrT.more {t st B:Nat} {h:aB} {x:AV} {n:Nat} {cs:List AV} (hx:GrT t st B h x n cs) (G:aB):GrT t st B (h++G) x n cs:=by
 rcases hx with hx|⟨o,cs0,h1,h2,h3,h4⟩
 ·exact .inl hx
 ·exact .inr ⟨o,cs0,h1,h2,aZ h3,h4⟩
theorem GrT.keep {t st B:Nat} {h h':aB} {x:AV} {n:Nat} {cs:List AV} (hx:GrT t st B h x n cs) {S:Nat→Prop} (hk:cR S h h') (hs:∀p,blk x p→¬S p):GrT t st B h' x n cs:=by
 rcases hx with hx|⟨o,cs0,h1,h2,h3,h4⟩
 ·exact .inl hx
 ·exact .inr ⟨o,cs0,h1,h2,hk o _ h3 (hs o ⟨n,st,h1⟩),h4⟩
theorem aIt {s t st bytes B:Nat} {z:List Value} (hel:el prog s=some (t,st,bytes,z)) (hb:bytes≤1000) {h:aB} {x:AV} {n:Nat} {cs:List AV} (hx:GrT t st B h x n cs) (hB:B≤h.length) {c:List AV} (hc:c.length=st) (hst:1≤st) (h1:c.all AV.one=true) (hn:n≤100000000) :
  ∃x' h',cW prog s x (.sl true h.length 0 1 st) (h++[aD.own t c])=some (x',h')∧GrT t st B h' x' (n+1) (cs++c)∧h.length≤h'.length∧cR (blk x) h h'∧∀p,blk x' p→h.length≤p:=by
 have e1:cellsOf (h++[aD.own t c]) h.length=some c:=by unfold cellsOf;rw[bB];rfl
 have e3:(c.drop 0).take (1*st)=c:=by rw[List.drop_zero,Nat.one_mul,List.take_of_length_le (by omega)]
 rcases hx with ⟨rfl,rfl,rfl⟩|⟨o,cs0,rfl,hol,ho,e4,hle⟩
 ·refine⟨.sl true (h++[aD.own t c]).length 0 1 st,(h++[aD.own t c])++[.own t c],?_,.inr ⟨_,c,rfl,by simp only[List.length_append];omega,by rw[bB];rfl,?_,by omega⟩,by simp only[List.length_append];omega,fun p y hp _=>aZ (aZ hp),?_⟩
  ·unfold cW
   rw[hel]
   simp only[e1,e3]
   rw[if_pos ⟨by omega,trivial,h1⟩,if_neg (by omega),if_pos ⟨by omega,by omega⟩]
  ·rw[Nat.zero_add,Nat.one_mul,List.take_of_length_le (by omega)];rfl
  ·rintro p ⟨n',st',e⟩
   cases e
   simp only[List.length_append];omega
 ·have hlt:o<h.length:=(List.getElem?_eq_some_iff.1 ho).1
  have e2:(h++[aD.own t c])[o]?=some (.own t cs0):=by rw[cZ hlt];exact ho
  have hb2:(n+1)*bytes≤100000001*1000:=Nat.mul_le_mul (by omega) hb
  have hcl:cs.length=n*st:=by rw[←e4,List.length_take];omega
  refine⟨.sl true (h++[aD.own t c]).length 0 (n+1) st,(h++[aD.own t c]).set o .gone++[aD.own t (cs++c)],?_,.inr ⟨_,cs++c,rfl,by simp only[List.length_append];omega,?_,?_,?_⟩,by simp only[List.length_append,List.length_set];omega,?_,?_⟩
  ·unfold cW
   rw[hel]
   simp only[e1,e2,e3,e4]
   rw[if_pos ⟨by omega,trivial,h1⟩,if_pos ⟨trivial,trivial,hle,by omega,by omega⟩]
  ·have:((h++[aD.own t c]).set o .gone).length=(h++[aD.own t c]).length:=List.length_set
   rw[←this,bB]
   rfl
  ·rw[List.take_of_length_le];rw[List.length_append,Nat.succ_mul];omega
  ·rw[List.length_append,Nat.succ_mul];omega
  ·intro p y hp hy
   have hpo:o≠p:=fun e=>hy ⟨n,st,by rw[e]⟩
   have hpl:p<h.length:=(List.getElem?_eq_some_iff.1 hp).1
   rw[cZ (by simp only[List.length_set,List.length_append,List.length_cons,List.length_nil] at hpl ⊢;omega),List.getElem?_set_ne hpo,cZ hpl]
   exact hp
  ·rintro p ⟨n',st',e⟩
   cases e
   simp only[List.length_append];omega
theorem GrT.ne {t st B:Nat} {h:aB} {x:AV} {n:Nat} {cs:List AV} (hx:GrT t st B h x n cs) {ob t':Nat} {cs':List AV} (ho:h[ob]?=some (.own t' cs')) (ht:t'≠t):¬blk x ob:=by
 rintro ⟨n',st',e⟩
 rcases hx with ⟨rfl,_⟩|⟨o,cs0,rfl,_,h3,_⟩
 ·cases e
 ·cases e
  rw[ho] at h3
  cases h3
  exact ht rfl
theorem GrT.set {t st B:Nat} {h:aB} {x:AV} {n:Nat} {cs:List AV} (hx:GrT t st B h x n cs) {ob:Nat} {y:aD} (hn:¬blk x ob):GrT t st B (h.set ob y) x n cs:=by
 rcases hx with hx|⟨o,cs0,rfl,h2,h3,h4⟩
 ·exact .inl hx
 ·refine .inr ⟨o,cs0,rfl,h2,?_,h4⟩
  rw[List.getElem?_set_ne (by rintro rfl;exact hn ⟨n,st,rfl⟩)]
  exact h3
theorem cR.set {S:Nat→Prop} {h h':aB} (hk:cR S h h') {ob:Nat} {y:aD} (hs:S ob):cR S h (h'.set ob y):=fun p z hp hn=>by
 rw[List.getElem?_set_ne (by rintro rfl;exact hn hs)]
 exact hk p z hp hn
theorem cR.mono {S S':Nat→Prop} {h h':aB} (hk:cR S h h') (hs:∀p,S p→S' p):cR S' h h':=fun p z hp hn=>hk p z hp fun h=>hn (hs p h)
theorem cR.trans {S S':Nat→Prop} {h h' h'':aB} (h1:cR S h h') (h2:cR S' h' h''):cR (fun p=>S p∨S' p) h h'':=fun p z hp hn=>h2 p z (h1 p z hp fun h=>hn (.inl h)) fun h=>hn (.inr h)
theorem cR.app (S:Nat→Prop) (h G:aB):cR S h (h++G):=fun p z hp _=>aZ hp
theorem cR.refl (S:Nat→Prop) (h:aB):cR S h h:=fun p z hp _=>hp
theorem aRN {w0:World} (st bk:AV) (hs:st.one=true) (hb:bk.one=true) (n:Nat) (hl:lenK (some (.slice 78)) st=some (vI n)) (H:aB):aH prog (CB w0) 175 [.agg [st,bk]] H fun r H'=>r=vI n∧H'=H:=by
 refine aH.flat rfl ?_
 refine aSi (N:=6) (rs:=[.tmp 2]) Tryz.func175 ?_
 rintro e he ⟨g0,-⟩
 simp only[go_sem,he,g0,hs,hb,hl,List.replicate]
 try exact⟨_,rfl⟩
theorem aEZ {w0:World} (I:It) (ob B:Nat) (h:aB) (hob:h[ob]?=some (.own 122 I.cells)) (t:Int) (n:Nat) (cs:List AV) (hx:GrT 78 2 B h I.st n cs) (hB:B≤h.length) (hn:n≤1000000) :
  aH prog (CB w0) 182 [.ptr ob 26,vT t] h fun r h'=>r=.tup []∧∃x',GrT 78 2 B h' x' (n+1) (cs++[vI t,vI 0])∧h'[ob]?=some (.own 122 {I with st:=x',bk:=x'}.cells)∧h.length≤h'.length∧cR (fun p=>p=ob∨blk I.st p) h h'∧∀p,blk x' p→h.length≤p:=by
 unfold It.cells at hob
 refine aSi (N:=21) (rs:=[]) Tryz.func182 ?_
 rintro e he ⟨g0,g1,-⟩
 have hob2:=aZ (G:=[.own 78 [vI t,vI 0]]) hob
 have hnew:(h++[aD.own 78 [vI t,vI 0]])[h.length]?=some (.own 78 [vI t,vI 0]):=by rw[bB];rfl
 simp only[go_sem,he,g0,g1]
 refine bF bI (by kernel_rfl) ?_
 simp only[go_sem,he,g0,g1,hob2,hnew]
 have hno:=hx.ne hob (by decide)
 obtain⟨x',h',ha,hx',hlen,hkeep,hnb⟩:=aIt vW (by decide) (hx.more [aD.own 78 [vI t,vI 0]]) (by simp only[List.length_append];omega) (c:=[vI t,vI 0]) rfl (by omega) rfl (by omega)
 have hob3:=hkeep _ _ hob2 hno
 have hlt:=(List.getElem?_eq_some_iff.1 hob3).1
 have hS:∀y:aD,(h'.set ob y)[ob]?=some y:=fun y=>List.getElem?_set_self hlt
 have x1:=hx'.one
 have hno':¬blk x' ob:=fun hb=>by
  have h1:=hnb _ hb
  have h2:=(List.getElem?_eq_some_iff.1 hob).1
  simp only[List.length_append,List.length_cons,List.length_nil] at h1
  omega
 simp only[List.length_append,List.length_cons,List.length_nil,Nat.zero_add,List.append_assoc,List.cons_append,List.nil_append] at ha
 rw[ha]
 simp only[go_sem,he,g0,g1,hob3,aN x1,hS,List.set_set]
 refine⟨x',hx'.set hno',?_,?_,?_,?_⟩
 ·rfl
 ·simp only[List.length_set,List.length_append] at hlen ⊢;omega
 ·refine cR.set (fun p z hp hn=>hkeep p z (aZ hp) fun hb=>hn (.inr hb)) (.inl rfl)
 ·intro p hb
  have:=hnb p hb
  simp only[List.length_append] at this
  omega
def oB (B:Nat) (h:aB) (st bk:AV) (P:List Int):Prop:=(P=[]∧GrT 78 2 B h st 0 [])∨(P≠[]∧∃o k m cs0,st=.sl true o (k*2) P.length 2∧bk=.sl true o 0 m 2∧B≤o∧h[o]?=some (.own 78 cs0)∧m*2≤cs0.length∧(cs0.drop (k*2)).take (P.length*2)=bE P∧(k+P.length)*2≤cs0.length)
theorem aRO {w0:World} (I:It) (ob B:Nat) (h:aB) (hob:h[ob]?=some (.own 122 I.cells)) (hp:oB B h I.st I.bk []) :
  aH prog (CB w0) 150 [.ptr ob 26] h fun r h'=>r=.tup [vT 0,vB false]∧h'=h:=by
 refine aH.flat rfl ?_
 unfold It.cells at hob
 rcases hp with ⟨-,hp⟩|⟨h0,-⟩
 ·have hlen:lenK (some (.slice 78)) I.st=some (vI (0:Nat)):=by
   rcases hp with ⟨e,_⟩|⟨o,cs0,e,_⟩<;>rw[e]<;>rfl
  refine aSi (N:=40) (rs:=[.cell 2 78,.tmp 3]) Tryz.func150 ?_
  rintro e he ⟨g0,-⟩
  have hob2:=aZ (G:=[.own 78 [vI 0,vI 0]]) hob
  have d0:decide (((0:Nat):Int)=0)=true:=rfl
  simp only[go_sem,he,g0,hob2,hlen,d0,List.replicate]
  exact⟨_,rfl⟩
 ·exact absurd rfl h0
end F
end Go.Proofs.YtnoppodfngkoeaaGreat
