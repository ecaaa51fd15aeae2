/- Merged texts of one proof. -/
import Derived.Test.YtnoppodfngkoeaaGreatM3
set_option linter.unusedVariables false
set_option linter.unusedSimpArgs false
set_option maxRecDepth 20000
namespace Go.Proofs.YtnoppodfngkoeaaGreat
open Tryz Go.IntKind
namespace F
open Go.RowKit Go.Proofs.YtnoppodfngkoeaaGreat.AL
end F
open Go.RowKit Go.Proofs.YtnoppodfngkoeaaGreat.AL Go.Proofs.YtnoppodfngkoeaaGreat.F
attribute [local irreducible] bJ cB gT eJ mP gI jM aDi aAC aAE aDS lT gR aBQ lY oI rV rA kT tX AWp cW aDk
attribute [local go_sem] aDZ vO tQ tP tO gD vJ aAl rS aAm aCi aAn iW aCj aDI xV aDJ aBR aBS aDK vR aAT aCF mT aAU aCG aAo xW aCk aCl aDM aDN aDO aDL aPW aAs aAt xX xY vK xZ aCm yA aCn uR aAu aCo vL sG sH aAv aAw vM aAx oX uS aAy aCp yB aAz aDP qY sI vN aAA yC sJ aDQ yD aCq aFL aCh aAk aDH aI9 aDG aFJ aFK aDF Nat.reduceLT Nat.reduceBEq List.map_cons List.map_nil Option.map_some Option.map_none aAB aDR yE aCr aAD aDT aDU aCs aCt aFN aFO aFP aFQ aFR aFS aFT aFU aFV aFW aFX aFY aD2 aD3 yF yG tV aAG yH yI aAJ aAH aAI aEe aEf aEg aF4 aJe aJf aJg aD4 aD5 aFZ aAK aCw aD6 aCH aCI aCJ qF mU aCK aAV aCL aCM aAW aCN aAX aAY aAZ aEb mkS aAL aCx aCy aAM aCz aAN aAP aAQ yJ aD7 bB bX qZ tW aD8 yK aD9 aEa aCA aCB aCC aCD aCE List.length_cons List.length_nil List.getElem?_cons_zero List.getElem?_cons_succ List.set_cons_zero List.set_cons_succ List.cons_append List.nil_append List.append_assoc Nat.reduceAdd Nat.zero_add Nat.add_zero Int.reduceBEq List.all_cons List.all_nil Value.oneCell' Bool.and_true Bool.and_self if_true if_false Bool.false_eq_true hZ aAq lG pH Option.bind_some fQ List.drop_succ_cons List.drop_zero List.take_succ_cons List.take_zero List.take_nil List.drop_nil Nat.reduceLeDiff and_self and_true true_and reduceIte Option.some.injEq Nat.reduceEqDiff ne_eq Int.reduceEq Int.reduceLE Int.reduceLT Int.reduceNe not_false_eq_true Option.map_map List.getElem?_toArray beq_self_eq_true Bool.true_beq Bool.false_beq Bool.not_true Bool.not_false decide_true decide_false beq_true Nat.reduceMul Nat.mul_one Nat.one_mul Nat.zero_mul bsA gW iM List.append_nil Nat.reduceSub Int.reduceToNat Int.toNat_natCast Int.toNat_zero aK9 sM aF0 aJh aJi aF1 aJj yL yM uT vV yN aA0 aA1 yO aA2 aEc aF2 gF jY aAr nO aA4 aEh aEd kd1 sz1 zc1 if1 kd2 sz2 zc2 if2 kd3 sz3 zc3 if3 kd4 sz4 zc4 if4 kd5 sz5 zc5 if5 kd7 sz7 zc7 fp7 aMj aMk aMl aMm if7 kd9 sz9 zc9 if9 aPZ aP0 aP1 aP2 aP3 aP4 aP5 aP6 aJm aJn aP7 aP8 aP9 aQa aQb aJo aQc aQd aQe aQf aQg aQh aQi aQj aQk aQl aQm mW aQn aQo aQp aQq aLd aQr aQs aQt aQu aQv aJp aJq aJr aJs aJt aJu aJv aJw aJx aJy aF5 aF6 aF7 aF8 aF9 aGa aGb aGc aQw aQx aQy aQz aBT aQA aQB aQC aQD aLe aQE aQF aQG aQH aQI aJz aJA aJB aJC aJD aJE aJF aJG aJH aJI aGd aGe aGf aGg aGh aGi aGj aGk aQJ aQK aQL aQM aQN aJJ aJK aJL aQO aQP aQQ aQR aQS aQT aQU aQV aQW aQX aQY aQZ aQ0 aQ1 aQ2 aQ3 aJM aJN aJO aQ4 aQ5 aQ6 aQ7 aQ8 aJP aJQ aJR aQ9 aRa aRb aRc aH1 aRd aRe aRf aRg aRh aJS aJT aJU aJV aJW aJX aJY aJZ aJ0 aJ1 aGl aGm aGn aGo aGp aGq aRi aRj aRk aRl aRm aRn aRo aRp aRq aJ2 aJ3 aJ4 aRr aRs aRt aRu aRv aRw aRx aRy vW aRz aMn aMo aMp aMq aGr aGs aGt aGu aGv aGw aGx aGy aGz aGA aEi aEj aEk aEl aEm aEn aEo aEp aEq aEr aEs aEt aMr aMs aMt aMu aMv aMw aMx aMy aMz aGB aGC aGD aGE aGF aGG aGH aGI aGJ aGK aEu aEv aEw aEx aEy aMA aMB aMC aMD aME aGL aGM aMF aMG aMH aMI aA5 aMJ aMK aML aMM aMN aGN aGO aGP aGQ aGR aGS aGT aGU aGV aGW aEz aEA aEB aEC aMO aMP aMQ aMR aMS aMT aMU aMV aMW aMX aMY aMZ aM0 aM1 aM2 aM3 aM4 aM5 aM6 aM7 aM8 aM9 aNa aNb aNc aJ5 aNd aNe aNf aNg aNh aNi aJ6 aNj aNk aNl aNm aNn aNo aGX aGY aGZ aG0 aNp aNq aNr aNs aNt aNu aNv aNw aNx aG1 aG2 aG3 aNy aNz aNA aNB aNC aG4 aG5 aG6 aG7 aND aNE aNF aNG aNH aNI aNJ aNK aNL aNM aNN aNO aNP aNQ aNR aNS aNT aNU aNV aNW aNX aNY aNZ aN0 aN1 aN2 aN3 aH2 aN4 aN5 aN6 aN7 aN8 aN9 aOa aOb aOc aOd aOe aOf aOg aOh aOi aOj aOk aJ7 aOl aOm aOn aOo aOp aOq aOr aOs aOt aOu aG8 aOv aOw aOx aOy aOz aOA aOB aOC aOD aOE aOF aOG aG9 aHa aOH aOI aOJ aOK aOL aOM aON aOO aOP aOQ aOR aOS aOT aOU aOV aOW aOX Tryz.underlying1 Tryz.underlying2 Tryz.underlying3 Tryz.underlying4 Tryz.underlying5 Tryz.underlying7 Tryz.underlying9 Tryz.underlying12 Tryz.underlying13 Tryz.underlying18 Tryz.underlying20 Tryz.underlying21 Tryz.underlying22 Tryz.underlying23 Tryz.underlying25 Tryz.underlying27 Tryz.underlying32 Tryz.underlying34 Tryz.underlying41 Tryz.underlying71 Tryz.underlying73 Tryz.underlying76 Tryz.underlying78 Tryz.underlying80 Tryz.underlying81 Tryz.underlying83 Tryz.underlying86 Tryz.underlying90 Tryz.underlying95 Tryz.underlying99 Tryz.underlying112 Tryz.underlying115 Tryz.underlying117 Tryz.underlying119 Tryz.underlying120 Tryz.underlying122 Tryz.underlying128 Tryz.underlying132 Tryz.underlying134 Tryz.underlying143 Tryz.underlying145 Tryz.underlying151 Tryz.underlying152 Tryz.underlying154 Tryz.underlying157 Tryz.underlying159 Tryz.underlying164 Tryz.underlying165 Tryz.underlying169 Tryz.underlying174 Tryz.underlying177 Tryz.underlying182 Tryz.underlying186 Tryz.underlying189 Tryz.underlying194 Tryz.underlying199 Tryz.underlying200 Tryz.underlying205 Tryz.underlying207 Tryz.underlying210 Tryz.underlying214 Tryz.underlying219 Tryz.underlying226 Tryz.underlying232 Tryz.underlying240 Tryz.underlying251
attribute [local go_sem_proc] Nat.reduceLT Nat.reduceBEq Nat.reduceAdd Int.reduceBEq Nat.reduceLeDiff reduceIte Nat.reduceEqDiff Int.reduceEq Int.reduceLE Int.reduceLT Int.reduceNe Nat.reduceMul Nat.reduceSub Int.reduceToNat
namespace F
open Go.RowKit Go.Proofs.YtnoppodfngkoeaaGreat.AL
theorem cR.step {S S':Nat→Prop} {h hk h':aB} (h1:cR S h hk) (h2:cR S' hk h') (hs:∀p,S' p→S p∨h.length≤p):cR S h h':=fun p y hp hn=>h2 p y (h1 p y hp hn) fun h'=>by
 rcases hs p h' with h3|h3
 ·exact hn h3
 ·have:=(List.getElem?_eq_some_iff.1 hp).1;omega
def iR:List (Int×Bool)→List AV
 |[]=>[]
 |d::l=>vI d.1::vB d.2::iR l
theorem aBr:∀l m:List (Int×Bool),iR (l++m)=iR l++iR m
 |[],m=>rfl
 |d::l,m=>by simp only[List.cons_append,iR,aBr l m]
def nH (a n:Nat):List (Int×Bool):=(List.range n).map fun (i:Nat)=>((a+i:Nat),true)
theorem aKy (a n:Nat):nH a (n+1)=nH a n++[(((a+n:Nat):Int),true)]:=by simp[nH,List.range_succ]
structure aDq (I:It) (ob B:Nat) (h hk:aB) (ds:AV) (n:Nat) (cs:List AV):Prop where
 gr:GrT 219 2 B hk ds n cs
 it:hk[ob]?=some (.own 122 {I with ds:=ds}.cells)
 len:h.length≤hk.length
 keep:cR (fun p=>p=ob∨blk I.ds p) h hk
 blk:∀p,blk ds p→blk I.ds p∨h.length≤p
theorem aR5 (c:Int) (H:aB) (hc:0≤c∧c≤100000):fS prog 120 (.val (.int .i64 0)) (.val (.int .i64 c)) H=some (.sl true H.length 0 0 2,H++[.own 219 []]):=by
 unfold fS
 rw[aA5]
 simp only[]
 rw[if_pos ⟨by omega,by omega,by omega,by omega⟩]
 rfl
theorem aRP:mQ prog 120 (.val (.slice none 0 0)) none (some (.val (.int .i64 0)))=some (.val (.slice none 0 0)):=by
 unfold mQ lI
 rw[aA5]
 rfl
theorem aR6:mQ prog 99 (.val (.slice none 0 0)) none (some (.val (.int .i64 0)))=some (.val (.slice none 0 0)):=by
 unfold mQ lI
 rw[vW]
 rfl
theorem aE0 {w0:World} (I:It) (ob B:Nat) (h:aB) (hob:h[ob]?=some (.own 122 I.cells)) (n0:Nat) (c0:List AV) (hx:GrT 219 2 B h I.ds n0 c0) (hB:B≤h.length) (hn0:n0≤1000) (a b:Nat) (hab:a≤b) (hb:b≤1000) :
  aH prog (CB w0) 177 [.ptr ob 0,vI a,vI b] h fun r h'=>r=.tup []∧∃x',aDq I ob B h h' x' (b-a) (iR (nH a (b-a))):=by
 have hob0:=hob
 have hlt:=(List.getElem?_eq_some_iff.1 hob).1
 have hneO:=hx.ne hob (by decide)
 unfold It.cells at hob
 refine aSi (N:=48) (rs:=[]) Tryz.func177 ?_
 rintro e he ⟨g0,g1,g2,-⟩
 have w1:i64.wrap ((b:Int)-a)=((b-a:Nat):Int):=wN _ (by omega) (by omega)
 obtain⟨S0,hS0⟩:∃S0:AV,S0=I.ds:=⟨_,rfl⟩
 rw[←hS0] at hob
 have hcap:∃n,tH S0=some n:=by
  rcases hx with ⟨e1,-⟩|⟨o,cs0,e1,-⟩<;>rw[hS0,e1]<;>exact⟨_,rfl⟩
 obtain⟨n1,hcap⟩:=hcap
 have one0:S0.one=true:=by rw[hS0];exact hx.one
 simp only[go_sem,he,g0,g1,g2,w1,hob,hcap]
 intro c hc1 hc2
 refine bC (fun e hk=>len e=48∧AL.get e 0=.ptr ob 0∧AL.get e 1=vI a∧AL.get e 2=vI b∧∃ds,aDq I ob B h hk ds 0 []) (fun hc=>?_) (fun hc=>?_) ?_
 ·have hob2:=aZ (G:=[.own 219 []]) hob
  simp only[go_sem,he,g0,g1,g2,hob,aR5 _ _ (show 0≤((b-a:Nat):Int)∧((b-a:Nat):Int)≤100000 by omega),hob2]
  have hne:ob≠h.length:=by omega
  refine⟨.sl true h.length 0 0 2,⟨.inr ⟨h.length,[],rfl,hB,?_,rfl,by simp⟩,?_,by simp,?_,?_⟩⟩
  ·rw[List.getElem?_set_ne hne,bB];rfl
  ·rw[List.getElem?_set_self (by simp;omega)];rfl
  ·exact cR.set (cR.app _ _ _) (.inl rfl)
  ·rintro p ⟨_,_,e⟩;cases e;exact .inr (Nat.le_refl _)
 ·simp only[go_sem,he,g0,g1,g2,hob]
  rcases hx with ⟨e1,rfl,rfl⟩|⟨o,cs0,e1,hBo,ho,hc0,hle⟩
  ·have e2:S0=aP:=hS0.trans e1
   subst e2
   simp only[aRP]
   simp only[go_sem,he,g0,g1,g2,hob]
   refine⟨aP,⟨.inl ⟨rfl,rfl,rfl⟩,?_,by simp,cR.set (cR.refl _ _) (.inl rfl),?_⟩⟩
   ·rw[List.getElem?_set_self hlt];rfl
   ·rintro p ⟨_,_,e⟩;cases e
  ·have e2:S0=.sl true o 0 n0 2:=hS0.trans e1
   subst e2
   simp only[go_sem,he,g0,g1,g2,hob]
   have hne:ob≠o:=by rintro rfl;exact hneO ⟨n0,2,e1⟩
   refine⟨by omega,.sl true o 0 0 2,⟨.inr ⟨o,cs0,rfl,hBo,?_,by simp,by omega⟩,?_,by simp,cR.set (cR.refl _ _) (.inl rfl),?_⟩⟩
   ·rw[List.getElem?_set_ne hne];exact ho
   ·rw[List.getElem?_set_self hlt];rfl
   ·rintro p ⟨_,_,e⟩;cases e;exact .inl ⟨n0,2,e1⟩
 ·clear he g0 g1 g2
  rintro e hk ⟨he,g0,g1,g2,ds,hD⟩
  simp only[go_sem,he,g0,g1,g2]
  refine cF (b-a) (fun k e hk=>len e=48∧AL.get e 0=.ptr ob 0∧AL.get e 2=vI b∧∃(i:Nat) (ds:AV),AL.get e 7=vI (a+i:Nat)∧i+k=b-a∧aDq I ob B h hk ds i (iR (nH a i))) (by kernel_rfl) ?_ ?_
  ·simp only[go_sem,he,g0,g1,g2]
   exact⟨0,ds,rfl,by omega,hD⟩
  ·clear he g0 g1 g2 hD
   rintro k e hk ⟨he,g0,g2,i,ds,g7,hik,hD⟩
   simp only[go_sem,he,g0,g2,g7]
   refine aF (fun hc=>?_) fun hc=>?_
   ·have hc:=odT hc
    have wi:i64.wrap (((a+i:Nat):Int)+1)=((a+(i+1):Nat):Int):=wN _ (by omega) (by omega)
    have hit:=hD.it
    have hnb:=hD.gr.ne hit (by decide)
    obtain⟨x',h',ha,hx',hlen,hkeep,hnew⟩:=aIt aA5 (by decide) hD.gr (by have:=hD.len;omega) (c:=[vI ((a+i:Nat):Int),vB true]) rfl (by omega) rfl (by omega)
    have hit2:=hkeep _ _ hit hnb
    have x1:=hx'.one
    unfold It.cells at hit hit2
    simp only[go_sem,he,g0,g2,g7,hit,ha,hit2,aN x1,wi,List.replicate]
    have hlt2:=(List.getElem?_eq_some_iff.1 hit2).1
    have hlt3:=(List.getElem?_eq_some_iff.1 hit).1
    have hno':¬F.blk x' ob:=fun hb=>by have:=hnew _ hb;omega
    refine⟨k-1,by omega,i+1,x',rfl,by omega,⟨?_,?_,?_,?_,?_⟩⟩
    ·rw[aKy,aBr];exact hx'.set hno'
    ·rw[List.getElem?_set_self hlt2];rfl
    ·have:=hD.len;simp only[List.length_set];omega
    ·exact cR.set (cR.step hD.keep hkeep fun p hb=>(hD.blk p hb).imp .inr id) (.inl rfl)
    ·intro p hb;right;have:=hnew p hb;have:=hD.len;omega
   ·have hc:=odF hc
    obtain rfl:i=b-a:=by omega
    simp only[go_sem,he,g0,g2]
    exact⟨ds,hD⟩
theorem aRQ {s t st bytes B:Nat} {z:List Value} (hel:el prog s=some (t,st,bytes,z)) (hb:bytes≤1000) {h:aB} {x:AV} {n:Nat} {cs:List AV} (hx:GrT t st B h x n cs) (hB:B≤h.length) {c:List AV} (hc:c.length=st) (hst:1≤st) (h1:c.all AV.one=true) (hn:n≤100000000) :
  ∃x' h',cW prog s x (.sl true h.length 0 1 st) (h++[aD.own t c])=some (x',h')∧GrT t st B h' x' (n+1) (cs++c)∧h.length≤h'.length∧cR (blk x) h h'∧(∀p,blk x' p→h.length≤p)∧∃o,x'=.sl true o 0 (n+1) st∧h'[o]?=some (.own t (cs++c)):=by
 have e1:cellsOf (h++[aD.own t c]) h.length=some c:=by unfold cellsOf;rw[bB];rfl
 have e3:(c.drop 0).take (1*st)=c:=by rw[List.drop_zero,Nat.one_mul,List.take_of_length_le (by omega)]
 rcases hx with ⟨rfl,rfl,rfl⟩|⟨o,cs0,rfl,hol,ho,e4,hle⟩
 ·refine⟨.sl true (h++[aD.own t c]).length 0 1 st,(h++[aD.own t c])++[.own t c],?_,.inr ⟨_,c,rfl,by simp only[List.length_append];omega,by rw[bB];rfl,?_,by omega⟩,by simp only[List.length_append];omega,fun p y hp _=>aZ (aZ hp),?_,_,rfl,by rw[bB];rfl⟩
  ·unfold cW
   rw[hel]
   simp only[e1,e3]
   rw[if_pos ⟨by omega,trivial,h1⟩,if_neg (by omega),if_pos ⟨by omega,by omega⟩]
  ·rw[Nat.zero_add,Nat.one_mul,List.take_of_length_le (by omega)];rfl
  ·rintro p ⟨n',st',e⟩
   cases e
   simp only[List.length_append];omega
 ·have hlt:o<h.length:=(List.getElem?_eq_some_iff.1 ho).1
  have e2:(h++[aD.own t c])[o]?=some (.own t cs0):=by rw[cZ hlt];exact ho
  have hb2:(n+1)*bytes≤100000001*1000:=Nat.mul_le_mul (by omega) hb
  have hcl:cs.length=n*st:=by rw[←e4,List.length_take];omega
  refine⟨.sl true (h++[aD.own t c]).length 0 (n+1) st,(h++[aD.own t c]).set o .gone++[aD.own t (cs++c)],?_,.inr ⟨_,cs++c,rfl,by simp only[List.length_append];omega,?_,?_,?_⟩,by simp only[List.length_append,List.length_set];omega,?_,?_,_,rfl,?_⟩
  ·unfold cW
   rw[hel]
   simp only[e1,e2,e3,e4]
   rw[if_pos ⟨by omega,trivial,h1⟩,if_pos ⟨trivial,trivial,hle,by omega,by omega⟩]
  ·have:((h++[aD.own t c]).set o .gone).length=(h++[aD.own t c]).length:=List.length_set
   rw[←this,bB]
   rfl
  ·rw[List.take_of_length_le];rw[List.length_append,Nat.succ_mul];omega
  ·rw[List.length_append,Nat.succ_mul];omega
  ·intro p y hp hy
   have hpo:o≠p:=fun e=>hy ⟨n,st,by rw[e]⟩
   have hpl:p<h.length:=(List.getElem?_eq_some_iff.1 hp).1
   rw[cZ (by simp only[List.length_set,List.length_append,List.length_cons,List.length_nil] at hpl ⊢;omega),List.getElem?_set_ne hpo,cZ hpl]
   exact hp
  ·rintro p ⟨n',st',e⟩
   cases e
   simp only[List.length_append];omega
  ·have:((h++[aD.own t c]).set o .gone).length=(h++[aD.own t c]).length:=List.length_set
   rw[←this,bB]
   rfl
structure i5 (I:It) (ob B:Nat) (h hk:aB) (ts:AV) (n:Nat) (cs:List AV):Prop where
 gr:GrT 78 2 B hk ts n cs
 it:hk[ob]?=some (.own 122 {I with ts:=ts}.cells)
 len:h.length≤hk.length
 keep:cR (fun p=>p=ob∨blk I.ts p) h hk
 blk:∀p,blk ts p→blk I.ts p∨h.length≤p
 exact:n≠0→∃o,ts=.sl true o 0 n 2∧hk[o]?=some (.own 78 cs)
theorem wR {w0:World} (I:It) (ob B:Nat) (h:aB) (hob:h[ob]?=some (.own 122 I.cells)) (n0:Nat) (c0:List AV) (hx:GrT 78 2 B h I.ts n0 c0) (hB:B≤h.length) (hn0:n0≤1000) (c:Nat) (hc:c≤1000) :
  aH prog (CB w0) 148 [.ptr ob 23,vI c] h fun r h'=>r=.tup []∧∃x',i5 I ob B h h' x' 0 []:=by
 have hlt:=(List.getElem?_eq_some_iff.1 hob).1
 have hneO:=hx.ne hob (by decide)
 unfold It.cells at hob
 refine aSi (N:=20) (rs:=[]) Tryz.func148 ?_
 rintro e he ⟨g0,g1,-⟩
 obtain⟨S0,hS0⟩:∃S0:AV,S0=I.ts:=⟨_,rfl⟩
 rw[←hS0] at hob
 have hlen:lenK (some (.slice 78)) S0=some (vI n0):=by
  rcases hx with ⟨e1,e2,-⟩|⟨o,cs0,e1,-⟩
  ·rw[hS0,e1,e2];rfl
  ·rw[hS0,e1];rfl
 have one0:S0.one=true:=by rw[hS0];exact hx.one
 simp only[go_sem,he,g0,g1,hob,hlen]
 refine aF (fun hc=>?_) fun hc=>?_
 ·have hob2:=aZ (G:=[.own 78 []]) hob
  simp only[go_sem,he,g0,g1,hob,aRL _ _ (show 0≤(c:Int)∧(c:Int)≤100000 by omega),hob2]
  have hne:ob≠h.length:=by omega
  refine⟨.sl true h.length 0 0 2,⟨.inr ⟨h.length,[],rfl,hB,?_,rfl,by simp⟩,?_,by simp,?_,?_,?_⟩⟩
  ·rw[List.getElem?_set_ne hne,bB];rfl
  ·rw[List.getElem?_set_self (by simp;omega)];rfl
  ·exact cR.set (cR.app _ _ _) (.inl rfl)
  ·rintro p ⟨_,_,e⟩;cases e;exact .inr (Nat.le_refl _)
  ·exact fun h=>absurd rfl h
 ·simp only[go_sem,he,g0,g1,hob]
  rcases hx with ⟨e1,rfl,rfl⟩|⟨o,cs0,e1,hBo,ho,hc0,hle⟩
  ·have e2:S0=aP:=hS0.trans e1
   subst e2
   simp only[aR6]
   simp only[go_sem,he,g0,g1,hob]
   refine⟨aP,⟨.inl ⟨rfl,rfl,rfl⟩,?_,by simp,cR.set (cR.refl _ _) (.inl rfl),?_,fun h=>absurd rfl h⟩⟩
   ·rw[List.getElem?_set_self hlt];rfl
   ·rintro p ⟨_,_,e⟩;cases e
  ·have e2:S0=.sl true o 0 n0 2:=hS0.trans e1
   subst e2
   simp only[go_sem,he,g0,g1,hob]
   have hne:ob≠o:=by rintro rfl;exact hneO ⟨n0,2,e1⟩
   refine⟨by omega,.sl true o 0 0 2,⟨.inr ⟨o,cs0,rfl,hBo,?_,by simp,by omega⟩,?_,by simp,cR.set (cR.refl _ _) (.inl rfl),?_,fun h=>absurd rfl h⟩⟩
   ·rw[List.getElem?_set_ne hne];exact ho
   ·rw[List.getElem?_set_self hlt];rfl
   ·rintro p ⟨_,_,e⟩;cases e;exact .inl ⟨n0,2,e1⟩
structure RRc (cs:List AV) (r:Ru) (sp mo p n yd wn bw nw ho mi se ea ts:AV):Prop where
 len:cs.length=60
 freq:cs[38]?=some (vI r.freq)
 start:(cs.drop 39).take 2=[vI r.start,vI 0]
 interval:cs[41]?=some (vI (max 1 r.interval))
 wkst:cs[42]?=some (vI r.wkst)
 count:cs[43]?=some (vI r.count)
 til:∃t2:Int,(0≤t2∧t2≤999999999)∧(cs.drop 44).take 2=[vI (K.whole r).til,vI t2]
 setPos:cs[46]?=some sp
 month:cs[47]?=some mo
 pday:cs[48]?=some p
 nday:cs[49]?=some n
 yday:cs[50]?=some yd
 wno:cs[51]?=some wn
 bwd:cs[52]?=some bw
 nwd:cs[53]?=some nw
 hour:cs[54]?=some ho
 minute:cs[55]?=some mi
 second:cs[56]?=some se
 easter:cs[57]?=some ea
 times:cs[58]?=some ts
theorem aRR {o:List AV} {r:Ru} {sp mo p n yd wn bw nw ho mi se ea ts:AV} {t1 t2 ln:Int} (h1:o.length=38) (h2:zX r=[vI t1,vI t2]):RRc (o++[vI r.freq,vI r.start,vI 0,vI (max 1 r.interval),vI r.wkst,vI r.count,vI t1,vI t2,sp,mo,p,n,yd,wn,bw,nw,ho,mi,se,ea,ts,vI ln]) r sp mo p n yd wn bw nw ho mi se ea ts:=by
 have hg:∀(l:List AV) (k:Nat),(o++l)[38+k]?=l[k]?:=fun l k=>by rw[List.getElem?_append_right (by omega)];congr 1;omega
 have hd:∀(l:List AV) (k:Nat),(o++l).drop (38+k)=l.drop k:=fun l k=>by rw[List.drop_append,List.drop_eq_nil_of_le (by omega),List.nil_append];congr 1;omega
 refine⟨by simp[h1],hg _ 0,?_,hg _ 3,hg _ 4,hg _ 5,?_,hg _ 8,hg _ 9,hg _ 10,hg _ 11,hg _ 12,hg _ 13,hg _ 14,hg _ 15,hg _ 16,hg _ 17,hg _ 18,hg _ 19,hg _ 20⟩
 ·rw[hd _ 1];rfl
 ·have e:(K.whole r).til=t1∧0≤t2∧t2≤999999999:=by
   unfold zX at h2
   unfold K.whole
   cases hu:r.hasUntil<;>rw[hu] at h2<;>simp at h2 ⊢<;>omega
  exact⟨t2,e.2,by rw[hd _ 6,e.1];rfl⟩
theorem aKz (r:Ru):(K.whole (K.whole r)).til=(K.whole r).til:=by unfold K.whole;simp
theorem RRc.whole {cs:List AV} {r:Ru} {sp mo p n yd wn bw nw ho mi se ea ts:AV} (h:RRc cs r sp mo p n yd wn bw nw ho mi se ea ts):RRc cs (K.whole r) sp mo p n yd wn bw nw ho mi se ea ts:=
 ⟨h.len,h.freq,h.start,by rw[show max 1 (K.whole r).interval=max 1 r.interval from (by show max 1 (max 1 r.interval)=_;omega)];exact h.interval,h.wkst,h.count,by rw[aKz];exact h.til,h.setPos,h.month,h.pday,h.nday,h.yday,h.wno,h.bwd,h.nwd,h.hour,h.minute,h.second,h.easter,h.times⟩
theorem RRc.len59 {cs:List AV} {r:Ru} {sp mo p n yd wn bw nw ho mi se ea ts:AV} (h:RRc cs r sp mo p n yd wn bw nw ho mi se ea ts) (v:AV):RRc (cs.set 59 v) r sp mo p n yd wn bw nw ho mi se ea ts:=by
 have hg:∀k:Nat,k≠59→(cs.set 59 v)[k]?=cs[k]?:=fun k hk=>List.getElem?_set_ne (Ne.symm hk)
 have hd:∀k:Nat,k+2≤59→((cs.set 59 v).drop k).take 2=(cs.drop k).take 2:=fun k hk=>by
  apply List.ext_getElem?
  intro i
  by_cases hi:i<2
  ·rw[List.getElem?_take_of_lt hi,List.getElem?_take_of_lt hi,List.getElem?_drop,List.getElem?_drop,hg _ (by omega)]
  ·rw[List.getElem?_eq_none (by rw[List.length_take];omega),List.getElem?_eq_none (by rw[List.length_take];omega)]
 refine⟨by rw[List.length_set];exact h.len,?_,?_,?_,?_,?_,?_,?_,?_,?_,?_,?_,?_,?_,?_,?_,?_,?_,?_,?_⟩
 ·rw[hg 38 (by omega)];exact h.freq
 ·rw[hd 39 (by omega)];exact h.start
 ·rw[hg 41 (by omega)];exact h.interval
 ·rw[hg 42 (by omega)];exact h.wkst
 ·rw[hg 43 (by omega)];exact h.count
 ·rw[hd 44 (by omega)];exact h.til
 ·rw[hg 46 (by omega)];exact h.setPos
 ·rw[hg 47 (by omega)];exact h.month
 ·rw[hg 48 (by omega)];exact h.pday
 ·rw[hg 49 (by omega)];exact h.nday
 ·rw[hg 50 (by omega)];exact h.yday
 ·rw[hg 51 (by omega)];exact h.wno
 ·rw[hg 52 (by omega)];exact h.bwd
 ·rw[hg 53 (by omega)];exact h.nwd
 ·rw[hg 54 (by omega)];exact h.hour
 ·rw[hg 55 (by omega)];exact h.minute
 ·rw[hg 56 (by omega)];exact h.second
 ·rw[hg 57 (by omega)];exact h.easter
 ·rw[hg 58 (by omega)];exact h.times
theorem cR.front {S:Nat→Prop} {h1 G hk:aB} (hkp:cR S (h1++G) hk) (hs:∀p,S p→h1.length≤p):∃Gk,hk=h1++Gk:=by
 have hp:∀p,p<h1.length→hk[p]?=h1[p]?:=fun p hp=>by
  have e:(h1++G)[p]?=some h1[p]:=by rw[cZ hp,List.getElem?_eq_getElem hp]
  rw[hkp p _ e fun h=>by have:=hs p h;omega,List.getElem?_eq_getElem hp]
 refine⟨hk.drop h1.length,?_⟩
 have e:hk.take h1.length=h1:=by
  apply List.ext_getElem?
  intro p
  by_cases h:p<h1.length
  ·rw[List.getElem?_take_of_lt h];exact hp p h
  ·rw[List.getElem?_eq_none (by rw[List.length_take];omega),List.getElem?_eq_none (by omega)]
 conv=>lhs;rw[←List.take_append_drop h1.length hk,e]
structure aBs (I:It) (o q B:Nat) (h1 h:aB) (r:Ru) (cs:List AV):Prop where
 front:∃G,h=h1++G
 ob:h[o]?=some (.own 122 I.cells)
 rr:I.rr=.ptr q 0
 rule:h[q]?=some (.own 112 cs)
 ts:∃n0 c0,GrT 78 2 B h I.ts n0 c0∧n0≤1000
 obB:h1.length≤o
 B1:h1.length≤B
 Bh:B≤h.length
theorem i5.push {I:It} {ob B:Nat} {h hk:aB} {ts:AV} {n:Nat} {cs:List AV} (hT:i5 I ob B h hk ts n cs) (hB:B≤h.length) (t:Int) (hn:n≤1000000) :
  ∃x' h',cW prog 99 ts (.sl true hk.length 0 1 2) (hk++[.own 78 [vI t,vI 0]])=some (x',h')∧x'.one=true∧h'[ob]?=some (.own 122 {I with ts:=ts}.cells)∧i5 I ob B h (h'.set ob (.own 122 {I with ts:=x'}.cells)) x' (n+1) (cs++[vI t,vI 0]):=by
 have hit:=hT.it
 have hnb:=hT.gr.ne hit (by decide)
 have hlen:=hT.len
 obtain⟨x',h',ha,hx',hl',hkeep,hnew,o,ho1,ho2⟩:=aRQ vW (by decide) hT.gr (by omega) (c:=[vI t,vI 0]) rfl (by omega) rfl (by omega)
 have hit2:=hkeep _ _ hit hnb
 have hlt2:=(List.getElem?_eq_some_iff.1 hit2).1
 have hlt3:=(List.getElem?_eq_some_iff.1 hit).1
 have hno':¬F.blk x' ob:=fun hb=>by have:=hnew _ hb;omega
 refine⟨x',h',ha,hx'.one,hit2,⟨hx'.set hno',by rw[List.getElem?_set_self hlt2],by simp only[List.length_set];omega,?_,?_,fun _=>⟨o,ho1,?_⟩⟩⟩
 ·exact cR.set (cR.step hT.keep hkeep fun p hb=>(hT.blk p hb).imp .inr id) (.inl rfl)
 ·intro p hb;right;have:=hnew p hb;omega
 ·rw[List.getElem?_set_ne (by rintro rfl;exact hno' ⟨_,_,ho1⟩)];exact ho2
set_option maxHeartbeats 1000000 in
theorem aPz {w0:World} (I:It) (ob rr B:Nat) (h1 h:aB) (r:Ru) (cs:List AV) (hp:aBs I ob rr B h1 h r cs) {sp mo p n yd wn bw nw ho mi se ea ts:AV} (hc:RRc cs r sp mo p n yd wn bw nw ho mi se ea ts) (hh mm ss:Int) (b1:0≤hh∧hh≤23) (b2:0≤mm∧mm≤59) (b3:0≤ss∧ss≤59) :
  aH prog (CB w0) 85 [.ptr ob 7,.ptr ob 23,vI 6,vI hh,vI mm,vI ss] h fun r' h'=>r'=.tup []∧∃x',i5 I ob B h h' x' 1 (bE [hh*3600+mm*60+ss]):=by
 obtain⟨n0,c0,hx,hn0⟩:=hp.ts
 refine aSi (N:=164) (rs:=[]) Tryz.func85 ?_
 rintro e he ⟨g0,g1,g2,g3,g4,g5,-⟩
 simp only[go_sem,he,g0,g1,g2,g3,g4,g5]
 refine aI (wR I ob B h hp.ob n0 c0 hx hp.Bh hn0 1 (by omega)) ?_
 rintro r' hk ⟨rfl,x',hT⟩
 have hit:=hT.it
 have hne:rr≠ob:=fun e=>by have h1:=hp.ob;have h2:=hp.rule;rw[e,h1] at h2;simp at h2
 have hrr:=hT.keep rr _ hp.rule fun h=>h.elim hne (hx.ne hp.rule (by decide))
 have hnb:=hT.gr.ne hit (by decide)
 have hcs:=hc.start
 have hcl:=hc.len
 unfold It.cells at hit
 rw[hp.rr] at hit
 simp only[go_sem,he,g0,g1,g2,g3,g4,g5,bL,aA]
 refine bU [129,128] bI (by kernel_rfl) ?_
 simp only[go_sem,he,g0,g1,g2,g3,g4,g5,hit,hrr,hcs,hcl]
 refine aS (fun _=>gX _ _) ?_
 simp only[go_sem,he,g0,g1,g2,g3,g4,g5,hit,hrr,hcs,hcl,aA]
 refine aS (fun _=>gZ 1 1 1 _ _ _ 0 ⟨by omega,by omega,by omega,by omega,by omega,by omega,by omega⟩ _ rfl _) ?_
 rw[aDp]
 obtain⟨x2,h2,ha,x1,hit2,hT2⟩:=hT.push hp.Bh (hh*3600+mm*60+ss) (by omega)
 unfold It.cells at hit2 hT2
 rw[hp.rr] at hit2 hT2
 simp only[go_sem,he,g0,g1,g2,g3,g4,g5,hit,aA,List.replicate,ha,hit2,aN x1]
 exact⟨x2,hT2⟩
theorem i5.sort {w0:World} {I:It} {ob B:Nat} {h hk:aB} {ts:AV} {l:List Int} (hT:i5 I ob B h hk ts l.length (bE l)) (hl:l.length≤200) (hn:l≠[]) :
  aH prog (CB w0) 130 [.ifc 177 ts] hk fun r h'=>r=.tup []∧i5 I ob B h h' ts l.length (bE (eQ l)):=by
 obtain⟨o,rfl,ho⟩:=hT.exact (fun e=>hn (List.length_eq_zero_iff.1 e))
 refine (r5 hk o l hl ho).mono ?_
 rintro r h' ⟨rfl,rfl⟩
 have hlt:=(List.getElem?_eq_some_iff.1 ho).1
 have hne:o≠ob:=fun e=>by have:=hT.it;rw[←e,ho] at this;simp at this
 have hBo:B≤o:=by
  rcases hT.gr with ⟨e,_⟩|⟨o2,cs0,e,h2,_⟩
  ·cases e
  ·cases e;exact h2
 have hself:(hk.set o (.own 78 (bE (eQ l))))[o]?=some (.own 78 (bE (eQ l))):=List.getElem?_set_self hlt
 have hml:=jJ l
 have htl:=nF (eQ l)
 refine⟨rfl,⟨.inr ⟨o,_,rfl,hBo,hself,List.take_of_length_le (by omega),by omega⟩,?_,?_,?_,hT.blk,fun _=>⟨o,rfl,hself⟩⟩⟩
 ·rw[List.getElem?_set_ne hne];exact hT.it
 ·rw[List.length_set];exact hT.len
 ·intro p y hp hn
  have hp2:=hT.keep p y hp hn
  have hne:o≠p:=by
   rintro rfl
   rcases hT.blk o ⟨_,_,rfl⟩ with hb|hb
   ·exact hn (.inr hb)
   ·have:=(List.getElem?_eq_some_iff.1 hp).1;omega
  rw[List.getElem?_set_ne hne];exact hp2
set_option maxHeartbeats 1000000 in
theorem aPA {w0:World} (I:It) (ob rr B:Nat) (h1 h:aB) (r:Ru) (cs:List AV) (hp:aBs I ob rr B h1 h r cs) {sp mo p n yd wn bw nw ho mi se ea ts:AV} (hc:RRc cs r sp mo p n yd wn bw nw ho mi se ea ts) (S:List Int) (hS:aQ h1 se S) (hS0:S≠[]) (hSl:S.length≤60) (hSb:∀s∈S,0≤s∧s≤59) (hh mm ss:Int) (b1:0≤hh∧hh≤23) (b2:0≤mm∧mm≤59) :
  aH prog (CB w0) 85 [.ptr ob 7,.ptr ob 23,vI 5,vI hh,vI mm,vI ss] h fun r' h'=>r'=.tup []∧∃x',i5 I ob B h h' x' (eQ (cA [hh] [mm] S)).length (bE (eQ (cA [hh] [mm] S))):=by
 obtain⟨n0,c0,hx,hn0⟩:=hp.ts
 obtain⟨G0,hG0⟩:=hp.front
 have hSB:∀q,q=ob∨blk I.ts q→h1.length≤q:=by
  rintro q (rfl|⟨_,_,e⟩)
  ·exact hp.obB
  ·rcases hx with ⟨e2,_⟩|⟨o2,cs0,e2,h2,_⟩
   ·rw[e2] at e;cases e
   ·rw[e2] at e;cases e;have:=hp.B1;omega
 have hne:rr≠ob:=fun e=>by have h1:=hp.ob;have h2:=hp.rule;rw[e,h1] at h2;simp at h2
 have hnt:=hx.ne hp.rule (by decide)
 have hcl:=hc.len
 have hcs:=hc.start
 have hcS:=hc.second
 have hob0:=hp.ob
 have hru0:=hp.rule
 have hlS:lenK (some (.slice 3)) se=some (vI S.length):=hS.len 3
 have hS1:=hS.one
 refine aSi (N:=164) (rs:=[]) Tryz.func85 ?_
 rintro e he ⟨g0,g1,g2,g3,g4,g5,-⟩
 unfold It.cells at hob0
 rw[hp.rr] at hob0
 simp only[go_sem,he,g0,g1,g2,g3,g4,g5,hob0,hru0,hcS,hlS]
 refine aI (wR I ob B h hp.ob n0 c0 hx hp.Bh hn0 S.length (by omega)) ?_
 rintro r' hk ⟨rfl,x',hT⟩
 have hit:=hT.it
 have hrr:=hT.keep rr _ hp.rule fun h=>h.elim hne hnt
 unfold It.cells at hit
 rw[hp.rr] at hit
 simp only[go_sem,he,g0,g1,g2,g3,g4,g5,bL,aA,hit,hrr,hcS,hlS]
 refine bG S.length (fun k e hk=>len e=164∧AL.get e 0=.ptr ob 7∧AL.get e 1=.ptr ob 23∧AL.get e 3=vI hh∧AL.get e 4=vI mm∧AL.get e 110=se∧AL.get e 111=vI S.length∧∃(i:Nat) (x:AV),AL.get e 112=vI i∧i+k=S.length∧i5 I ob B h hk x (cA [hh] [mm] (S.take i)).length (bE (cA [hh] [mm] (S.take i)))) (fun e hk=>len e=164∧AL.get e 1=.ptr ob 23∧∃x,i5 I ob B h hk x (cA [hh] [mm] S).length (bE (cA [hh] [mm] S))) (by kernel_rfl) ?_ ?_ ?_
 ·simp only[go_sem,he,g0,g1,g2,g3,g4,g5]
  exact⟨0,x',rfl,by omega,hT⟩
 ·clear he g0 g1 g2 g3 g4 g5 hT hit hrr
  rintro k e hk ⟨he,g0,g1,g3,g4,g110,g111,i,x,g112,hik,hT⟩
  simp only[go_sem,he,g0,g1,g3,g4,g110,g111,g112]
  refine aF (fun hcc=>?_) fun hcc=>?_
  ·have hcc:=odT hcc
   have hi:i<S.length:=by omega
   have wi:i64.wrap ((i:Int)+1)=((i+1:Nat):Int):=wN _ (by omega) (by omega)
   have hkeep:=hT.keep
   rw[hG0] at hkeep
   obtain⟨Gk,hGk⟩:=hkeep.front hSB
   have hS2:aQ hk se S:=by rw[hGk];exact hS.more _
   obtain⟨own,q,off,cs2,e1,e2,e3⟩:=hS2.get hi
   have hmem:=hSb _ (show S.getD i 0∈S by rw[List.getD_eq_getElem?_getD,List.getElem?_eq_getElem hi];exact List.getElem_mem hi)
   have htk:=eE hi
   generalize S.getD i 0=v at e3 hmem htk
   rw[e1] at g110
   have hit:=hT.it
   have hrr:=hT.keep rr _ hp.rule fun h=>h.elim hne hnt
   unfold It.cells at hit
   rw[hp.rr] at hit
   simp only[go_sem,he,g0,g1,g3,g4,g110,g111,g112,e2,e3,Int.toNat_natCast]
   refine⟨by omega,?_⟩
   refine bU [129,128] bI (by kernel_rfl) ?_
   simp only[go_sem,he,g0,g1,g3,g4,g110,g111,g112,hit,hrr,hcs,hcl]
   refine aS (fun _=>gX _ _) ?_
   simp only[go_sem,he,g0,g1,g3,g4,g110,g111,g112,hit,hrr,hcs,hcl,aA]
   refine aS (fun _=>gZ 1 1 1 _ _ _ 0 ⟨by omega,by omega,by omega,by omega,by omega,by omega,by omega⟩ _ rfl _) ?_
   rw[aDp]
   have hlr:(cA [hh] [mm] (S.take i)).length≤1000000:=by rw[gP,List.length_take];simp;omega
   obtain⟨x2,h2,ha,x1,hit2,hT2⟩:=hT.push hp.Bh (hh*3600+mm*60+v) hlr
   unfold It.cells at hit2 hT2
   rw[hp.rr] at hit2 hT2
   simp only[go_sem,he,g0,g1,g3,g4,g110,g111,g112,hit,aA,List.replicate,ha,hit2,aN x1,wi]
   refine⟨k-1,by omega,e1.symm,i+1,x2,rfl,by omega,?_⟩
   rw[htk,aEW,List.length_append,kZ]
   exact hT2
  ·have hcc:=odF hcc
   obtain rfl:i=S.length:=by omega
   rw[List.take_length] at hT
   simp only[go_sem,he,g1]
   exact⟨x,hT⟩
 ·clear he g0 g1 g2 g3 g4 g5 hT hit hrr
  rintro e hk ⟨he,g1,x,hT⟩
  have hit:=hT.it
  unfold It.cells at hit
  simp only[go_sem,he,g1,hit]
  have hlr:(cA [hh] [mm] S).length=S.length:=by rw[gP];simp
  refine aI (hT.sort (by omega) (fun e=>hS0 (List.length_eq_zero_iff.1 (by rw[←hlr,e];rfl)))) ?_
  rintro r' h' ⟨rfl,hT2⟩
  rw[←jJ] at hT2
  simp only[go_sem,he,g1,bL,aA]
  exact⟨x,hT2⟩
set_option maxHeartbeats 2000000 in
theorem aPB {w0:World} (I:It) (ob rr B:Nat) (h1 h:aB) (r:Ru) (cs:List AV) (hp:aBs I ob rr B h1 h r cs) {sp mo p n yd wn bw nw ho mi se ea ts:AV} (hc:RRc cs r sp mo p n yd wn bw nw ho mi se ea ts) (M S:List Int) (hM:aQ h1 mi M) (hM0:M≠[]) (hMl:M.length≤60) (hMb:∀s∈M,0≤s∧s≤59) (hS:aQ h1 se S) (hS0:S≠[]) (hSl:S.length≤60) (hSb:∀s∈S,0≤s∧s≤59) (hMS:M.length*S.length≤60) (hh mm ss:Int) (b1:0≤hh∧hh≤23) :
  aH prog (CB w0) 85 [.ptr ob 7,.ptr ob 23,vI 4,vI hh,vI mm,vI ss] h fun r' h'=>r'=.tup []∧∃x',i5 I ob B h h' x' (eQ (cA [hh] M S)).length (bE (eQ (cA [hh] M S))):=by
 obtain⟨n0,c0,hx,hn0⟩:=hp.ts
 obtain⟨G0,hG0⟩:=hp.front
 have hSB:∀q,q=ob∨blk I.ts q→h1.length≤q:=by
  rintro q (rfl|⟨_,_,e⟩)
  ·exact hp.obB
  ·rcases hx with ⟨e2,_⟩|⟨o2,cs0,e2,h2,_⟩
   ·rw[e2] at e;cases e
   ·rw[e2] at e;cases e;have:=hp.B1;omega
 have hne:rr≠ob:=fun e=>by have h1:=hp.ob;have h2:=hp.rule;rw[e,h1] at h2;simp at h2
 have hnt:=hx.ne hp.rule (by decide)
 have hcl:=hc.len
 have hcs:=hc.start
 have hcS:=hc.second
 have hcM:=hc.minute
 have hob0:=hp.ob
 have hru0:=hp.rule
 have hlS:lenK (some (.slice 3)) se=some (vI S.length):=hS.len 3
 have hlM:lenK (some (.slice 3)) mi=some (vI M.length):=hM.len 3
 have hS1:=hS.one
 have hM1:=hM.one
 have wms:i64.wrap ((M.length:Int)*S.length)=((M.length*S.length:Nat):Int):=wN _ (by rw[Int.natCast_mul]) (by omega)
 refine aSi (N:=164) (rs:=[]) Tryz.func85 ?_
 rintro e he ⟨g0,g1,g2,g3,g4,g5,-⟩
 unfold It.cells at hob0
 rw[hp.rr] at hob0
 simp only[go_sem,he,g0,g1,g2,g3,g4,g5,hob0,hru0,hcS,hlS,hcM,hlM]
 refine fT [] 18 bI (by kernel_rfl) (by kernel_rfl) (by kernel_rfl) ?_
 simp only[go_sem,he,g0,g1,g2,g3,g4,g5,hob0,hru0,hcS,hlS,hcM,hlM,wms]
 refine aI (wR I ob B h hp.ob n0 c0 hx hp.Bh hn0 (M.length*S.length) (by omega)) ?_
 rintro r' hk ⟨rfl,x',hT⟩
 have hit:=hT.it
 have hrr:=hT.keep rr _ hp.rule fun h=>h.elim hne hnt
 unfold It.cells at hit
 rw[hp.rr] at hit
 simp only[go_sem,he,g0,g1,g2,g3,g4,g5,bL,aA,hit,hrr,hcM,hlM]
 refine bG M.length (fun k e hk=>len e=164∧AL.get e 0=.ptr ob 7∧AL.get e 1=.ptr ob 23∧AL.get e 3=vI hh∧AL.get e 48=mi∧AL.get e 49=vI M.length∧∃(i:Nat) (x:AV),AL.get e 50=vI i∧i+k=M.length∧i5 I ob B h hk x (cA [hh] (M.take i) S).length (bE (cA [hh] (M.take i) S))) (fun e hk=>len e=164∧AL.get e 1=.ptr ob 23∧∃x,i5 I ob B h hk x (cA [hh] M S).length (bE (cA [hh] M S))) (by kernel_rfl) ?_ ?_ ?_
 ·simp only[go_sem,he,g0,g1,g2,g3,g4,g5]
  exact⟨0,x',rfl,by omega,hT⟩
 ·clear he g0 g1 g2 g3 g4 g5 hT hit hrr
  rintro k e hk ⟨he,g0,g1,g3,g48,g49,i,x,g50,hik,hT⟩
  simp only[go_sem,he,g0,g1,g3,g48,g49,g50]
  refine aF (fun hcc=>?_) fun hcc=>?_
  ·have hcc:=odT hcc
   have hi:i<M.length:=by omega
   have wi:i64.wrap ((i:Int)+1)=((i+1:Nat):Int):=wN _ (by omega) (by omega)
   have hkeep:=hT.keep
   rw[hG0] at hkeep
   obtain⟨Gk,hGk⟩:=hkeep.front hSB
   have hM2:aQ hk mi M:=by rw[hGk];exact hM.more _
   obtain⟨own,q,off,cs2,e1,e2,e3⟩:=hM2.get hi
   have hmem:=hMb _ (show M.getD i 0∈M by rw[List.getD_eq_getElem?_getD,List.getElem?_eq_getElem hi];exact List.getElem_mem hi)
   have htk:=eE hi
   generalize M.getD i 0=v at e3 hmem htk
   rw[e1] at g48
   have hit:=hT.it
   have hrr:=hT.keep rr _ hp.rule fun h=>h.elim hne hnt
   unfold It.cells at hit
   rw[hp.rr] at hit
   simp only[go_sem,he,g0,g1,g3,g48,g49,g50,e2,e3,hit,hrr,hcS,hlS,Int.toNat_natCast]
   refine⟨by omega,?_⟩
   refine bG S.length (fun k2 e hk=>len e=164∧AL.get e 0=.ptr ob 7∧AL.get e 1=.ptr ob 23∧AL.get e 3=vI hh∧AL.get e 48=mi∧AL.get e 49=vI M.length∧AL.get e 50=vI i∧AL.get e 13=vI v∧AL.get e 60=se∧AL.get e 61=vI S.length∧∃(j:Nat) (x:AV),AL.get e 62=vI j∧j+k2=S.length∧i5 I ob B h hk x (cA [hh] (M.take i) S++cA [hh] [v] (S.take j)).length (bE (cA [hh] (M.take i) S++cA [hh] [v] (S.take j)))) (fun e hk=>len e=164∧AL.get e 0=.ptr ob 7∧AL.get e 1=.ptr ob 23∧AL.get e 3=vI hh∧AL.get e 48=mi∧AL.get e 49=vI M.length∧AL.get e 50=vI i∧∃x,i5 I ob B h hk x (cA [hh] (M.take (i+1)) S).length (bE (cA [hh] (M.take (i+1)) S))) (by kernel_rfl) ?_ ?_ ?_
   ·simp only[go_sem,he,g0,g1,g3,g48,g49,g50]
    exact⟨e1.symm,0,x,rfl,by omega,by rw[List.take_zero,aKx,List.append_nil];exact hT⟩
   ·clear he g0 g1 g3 g48 g49 g50 hT hit hrr hkeep hGk hM2 e2
    rintro k2 e hk ⟨he,g0,g1,g3,g48,g49,g50,g13,g60,g61,j,x,g62,hjk,hT⟩
    simp only[go_sem,he,g0,g1,g3,g48,g49,g50,g13,g60,g61,g62]
    refine aF (fun hcc=>?_) fun hcc=>?_
    ·have hcc:=odT hcc
     have hj:j<S.length:=by omega
     have wj:i64.wrap ((j:Int)+1)=((j+1:Nat):Int):=wN _ (by omega) (by omega)
     have hkeep:=hT.keep
     rw[hG0] at hkeep
     obtain⟨Gk,hGk⟩:=hkeep.front hSB
     have hS2:aQ hk se S:=by rw[hGk];exact hS.more _
     obtain⟨own,q,off,cs2,y1,y2,y3⟩:=hS2.get hj
     have hmem2:=hSb _ (show S.getD j 0∈S by rw[List.getD_eq_getElem?_getD,List.getElem?_eq_getElem hj];exact List.getElem_mem hj)
     have htk2:=eE hj
     generalize S.getD j 0=u at y3 hmem2 htk2
     rw[y1] at g60
     have hit:=hT.it
     have hrr:=hT.keep rr _ hp.rule fun h=>h.elim hne hnt
     unfold It.cells at hit
     rw[hp.rr] at hit
     simp only[go_sem,he,g0,g1,g3,g48,g49,g50,g13,g60,g61,g62,y2,y3,Int.toNat_natCast]
     refine⟨by omega,?_⟩
     refine bU [129,128] bI (by kernel_rfl) ?_
     simp only[go_sem,he,g0,g1,g3,g48,g49,g50,g13,g60,g61,g62,hit,hrr,hcs,hcl]
     refine aS (fun _=>gX _ _) ?_
     simp only[go_sem,he,g0,g1,g3,g48,g49,g50,g13,g60,g61,g62,hit,hrr,hcs,hcl,aA]
     refine aS (fun _=>gZ 1 1 1 _ _ _ 0 ⟨by omega,by omega,by omega,by omega,by omega,by omega,by omega⟩ _ rfl _) ?_
     rw[aDp]
     have hlr:(cA [hh] (M.take i) S++cA [hh] [v] (S.take j)).length≤1000000:=by
      have v1:(M.take i).length*S.length≤60*60:=Nat.mul_le_mul (by rw[List.length_take];omega) hSl
      have v3:(S.take j).length≤60:=by rw[List.length_take];omega
      rw[List.length_append,gP,gP]
      simp only[List.length_cons,List.length_nil,Nat.zero_add,Nat.one_mul]
      omega
     obtain⟨x2,h2,ha,x1,hit2,hT2⟩:=hT.push hp.Bh (hh*3600+v*60+u) hlr
     unfold It.cells at hit2 hT2
     rw[hp.rr] at hit2 hT2
     simp only[go_sem,he,g0,g1,g3,g48,g49,g50,g13,g60,g61,g62,hit,aA,List.replicate,ha,hit2,aN x1,wj]
     refine⟨k2-1,by omega,y1.symm,j+1,x2,rfl,by omega,?_⟩
     rw[htk2,aEW,←List.append_assoc,List.length_append,kZ]
     exact hT2
    ·have hcc:=odF hcc
     obtain rfl:j=S.length:=by omega
     rw[List.take_length] at hT
     simp only[go_sem,he,g0,g1,g3,g48,g49,g50]
     exact⟨x,by rw[htk,aKw];exact hT⟩
   ·clear he g0 g1 g3 g48 g49 g50 hT hit hrr hkeep hGk hM2 e2
    rintro e hk ⟨he,g0,g1,g3,g48,g49,g50,x,hT⟩
    simp only[go_sem,he,g0,g1,g3,g48,g49,g50,wi]
    exact⟨k-1,by omega,i+1,x,rfl,by omega,hT⟩
  ·have hcc:=odF hcc
   obtain rfl:i=M.length:=by omega
   rw[List.take_length] at hT
   simp only[go_sem,he,g1]
   exact⟨x,hT⟩
 ·clear he g0 g1 g2 g3 g4 g5 hT hit hrr
  rintro e hk ⟨he,g1,x,hT⟩
  have hit:=hT.it
  unfold It.cells at hit
  simp only[go_sem,he,g1,hit]
  have hlr:(cA [hh] M S).length=M.length*S.length:=by rw[gP];simp
  have hpos:1≤M.length*S.length:=Nat.mul_pos (List.length_pos_iff.2 hM0) (List.length_pos_iff.2 hS0)
  refine aI (hT.sort (by omega) (fun e=>by rw[e] at hlr;simp at hlr;omega)) ?_
  rintro r' h' ⟨rfl,hT2⟩
  rw[←jJ] at hT2
  simp only[go_sem,he,g1,bL,aA]
  exact⟨x,hT2⟩
end F
namespace K
open Go.Proofs.YtnoppodfngkoeaaGreat.F
structure Out (l d:List Int) (i:Nat):Prop where
 le:i≤l.length
 ex:∃S,d=S++l.drop i∧S.length=i∧Asc S∧∀t,t∈S↔t∈l.take i
def Inn (l d:List Int) (i j:Nat):Prop:=i<l.length∧∃A B x,d=A++x::(B++l.drop (i+1))∧A.length=j∧A.length+B.length=i∧l[i]?=some x∧Asc (A++B)∧(∀t,t∈A++B↔t∈l.take i)∧∀b∈B,x<b
theorem Out.zero (l:List Int):Out l l 0:=⟨Nat.zero_le _,[],rfl,rfl,List.Pairwise.nil,by simp⟩
theorem Out.one {l:List Int} (h:1≤l.length):Out l l 1:=by
 cases l with
 |nil=>simp at h
 |cons a l=>exact⟨by simp,[a],rfl,rfl,List.pairwise_singleton ..,by simp⟩
theorem Out.len {l d:List Int} {i:Nat} (h:Out l d i):d.length=l.length:=by
 obtain⟨hi,S,rfl,hs,-,-⟩:=h
 rw[List.length_append,List.length_drop];omega
theorem Inn.len {l d:List Int} {i j:Nat} (h:Inn l d i j):d.length=l.length∧j≤i∧i<l.length:=by
 obtain⟨hi,A,B,x,rfl,hA,hB,-⟩:=h
 simp only[List.length_append,List.length_cons,List.length_drop];omega
theorem Out.inn {l d:List Int} {i:Nat} (h:Out l d i) (hi:i<l.length):Inn l d i i:=by
 obtain⟨-,S,rfl,hs,ha,hm⟩:=h
 refine⟨hi,S,[],l[i],?_,hs,by simpa using hs,List.getElem?_eq_getElem hi,by simpa using ha,by simpa using hm,by simp⟩
 rw[List.drop_eq_getElem_cons hi];rfl
theorem Inn.fin {l d:List Int} {i j:Nat} (hn:l.Nodup) (h:Inn l d i j) (hj:j=0∨¬d.getD j 0<d.getD (j-1) 0):Out l d (i+1):=by
 obtain⟨hi,A,B,x,rfl,hA,hB,hx,ha,hm,hb⟩:=h
 have hxn:x∉A++B:=fun hc=>by
  have:=(hm x).1 hc
  obtain⟨k,hk⟩:=List.getElem?_of_mem this
  have hkl:k<i:=by have:=(List.getElem?_eq_some_iff.1 hk).1;rw[List.length_take] at this;omega
  rw[List.getElem?_take_of_lt hkl] at hk
  have e1:=List.getElem?_eq_some_iff.1 hk
  have e2:=List.getElem?_eq_some_iff.1 hx
  have:=List.pairwise_iff_getElem.1 hn k i e1.1 hi hkl
  rw[e1.2,e2.2] at this;exact this rfl
 refine⟨hi,A++x::B,by simp,by simp;omega,?_,fun t=>?_⟩
 ·unfold Asc at ha ⊢
  rw[List.pairwise_append] at ha ⊢
  obtain⟨h1,h2,h3⟩:=ha
  refine⟨h1,List.pairwise_cons.2 ⟨hb,h2⟩,fun a ha b hb'=>?_⟩
  rcases List.mem_cons.1 hb' with rfl|hb'
  ·have hAx:∀a∈A,a≤b:=by
    rcases hj with hj|hj
    ·rw[List.length_eq_zero_iff.1 (by omega:A.length=0)];simp
    ·rcases List.eq_nil_or_concat A with rfl|⟨A',y,rfl⟩
     ·simp
     ·simp only[List.concat_eq_append,List.length_append,List.length_cons,List.length_nil] at hA hj
      have e1:((A'++[y])++b::(B++l.drop (i+1))).getD j 0=b:=by
       rw[List.getD_eq_getElem?_getD,List.getElem?_append_right (by simp;omega)];simp only[List.length_append,List.length_cons,List.length_nil];rw[show j-(A'.length+(0+1))=0 by omega];rfl
      have e2:((A'++[y])++b::(B++l.drop (i+1))).getD (j-1) 0=y:=by
       rw[List.getD_eq_getElem?_getD,List.append_assoc,List.getElem?_append_right (by omega)]
       rw[show j-1-A'.length=0 by omega];rfl
      rw[e1,e2] at hj
      intro a ha
      rcases List.mem_append.1 (by simpa using ha:a∈A'++[y]) with h4|h4
      ·have:=(List.pairwise_append.1 (by simpa using h1:(A'++[y]).Pairwise (·< ·))).2.2 a h4 y (by simp)
       omega
      ·simp at h4;omega
   have:=hAx a ha
   have:a≠b:=fun e=>hxn (by rw[←e];exact List.mem_append_left _ ha)
   omega
  ·exact h3 a ha b hb'
 ·rw[List.take_add_one,hx]
  simp only[List.mem_append,List.mem_cons,Option.toList_some,List.mem_singleton]
  rw[←hm,List.mem_append]
  simp only[List.not_mem_nil,or_false]
  constructor
  ·rintro (h|h|h)
   ·exact .inl (.inl h)
   ·exact .inr h
   ·exact .inl (.inr h)
  ·rintro ((h|h)|h)
   ·exact .inl h
   ·exact .inr (.inr h)
   ·exact .inr (.inl h)
theorem Inn.step {l d:List Int} {i j:Nat} (h:Inn l d i j) (hj:1≤j) (hlt:d.getD j 0<d.getD (j-1) 0):Inn l ((d.set j (d.getD (j-1) 0)).set (j-1) (d.getD j 0)) i (j-1):=by
 obtain⟨hi,A,B,x,rfl,hA,hB,hx,ha,hm,hb⟩:=h
 rcases List.eq_nil_or_concat A with rfl|⟨A',y,rfl⟩
 ·simp at hA;omega
 simp only[List.concat_eq_append] at *
 simp only[List.length_append,List.length_cons,List.length_nil] at hA hB
 have e1:((A'++[y])++x::(B++l.drop (i+1))).getD j 0=x:=by
  rw[List.getD_eq_getElem?_getD,List.getElem?_append_right (by simp;omega)]
  simp only[List.length_append,List.length_cons,List.length_nil]
  rw[show j-(A'.length+(0+1))=0 by omega];rfl
 have e2:((A'++[y])++x::(B++l.drop (i+1))).getD (j-1) 0=y:=by
  rw[List.getD_eq_getElem?_getD,List.append_assoc,List.getElem?_append_right (by omega)]
  rw[show j-1-A'.length=0 by omega];rfl
 rw[e1,e2] at hlt ⊢
 have hj':j=A'.length+1:=by omega
 subst hj'
 refine⟨hi,A',y::B,x,?_,by omega,by simp;omega,hx,by simpa using ha,by simpa using hm,?_⟩
 ·rw[show (A'++[y])++x::(B++l.drop (i+1))=A'++([y,x]++(B++l.drop (i+1))) by simp]
  rw[List.set_append_right _ _ (by omega),List.set_append_right _ _ (by omega),Nat.add_sub_cancel,Nat.add_sub_cancel_left,Nat.sub_self]
  rfl
 ·intro b hb'
  rcases List.mem_cons.1 hb' with rfl|hb'
  ·exact hlt
  ·exact hb b hb'
theorem Out.fin {l d:List Int} (h:Out l d l.length):d=srt l:=by
 obtain⟨-,S,rfl,-,ha,hm⟩:=h
 rw[List.drop_length,List.append_nil]
 exact (aRD ha fun t=>by rw[hm,List.take_length]).symm
theorem p7 {l:List Int} (hn:l.Nodup):(srt l).length=l.length:=by
 have h1:(srt l).Nodup:=aCT (kU l)
 exact ((List.perm_ext_iff_of_nodup h1 hn).2 fun a=>gJ).length_eq
end K
namespace F
open Go.RowKit Go.Proofs.YtnoppodfngkoeaaGreat.AL
theorem aPC {w0:World} (a:Int) (H:aB):aH prog (CB w0) 232 [vI a] H fun r H'=>r=vB false∧H'=H:=by
 refine aSi (N:=6) (rs:=[.tmp 2]) Tryz.func232 ?_
 rintro e he ⟨g0,-⟩
 simp only[go_sem,he,g0]
theorem aRS {w0:World} (a b:Int) (H:aB):aH prog (CB w0) 222 [vI a,vI b] H fun r H'=>r=vB (decide (a<b))∧H'=H:=by
 refine aSi (N:=17) (rs:=[.tmp 4]) Tryz.func222 ?_
 rintro e he ⟨g0,g1,-⟩
 simp only[go_sem,he,g0,g1]
 refine aSh (aPC a _) ?_
 simp only[go_sem,he,g0,g1,aA]
theorem qK (d:List Int) {i:Nat} (hi:i<d.length):(d.map vI)[i]?=some (vI (d.getD i 0)):=by
 rw[List.getElem?_map,List.getElem?_eq_getElem hi,List.getD_eq_getElem?_getD,List.getElem?_eq_getElem hi];rfl
theorem aE1 (d:List Int) (y:Int) {j:Nat} (hj:j<d.length):(d.map vI).take j++vI y::(d.map vI).drop (j+1)=(d.set j y).map vI:=by
 rw[List.map_set,List.set_eq_take_append_cons_drop,if_pos (by simpa using hj)]
theorem aLO {w0:World} (l:List Int) (hn:l.Nodup) (hl:l.length≤12) (q:Nat) (h0:aB) (hq:h0[q]?=some (.own 3 (l.map vI))):aH prog (CB w0) 216 [.sl true q 0 l.length 1,vI 0,vI l.length] h0 fun r H'=>r=.tup []∧H'=h0.set q (.own 3 ((K.srt l).map vI)):=by
 refine aSi (N:=49) (rs:=[]) Tryz.func216 ?_
 rintro e he ⟨g0,g1,g2,-⟩
 have hql:q<h0.length:=(List.getElem?_eq_some_iff.1 hq).1
 have hset:h0.set q (.own 3 (l.map vI))=h0:=by
  rw[List.getElem?_eq_getElem hql] at hq
  rw[←Option.some.inj hq];exact List.set_getElem_self hql
 simp only[go_sem,he,g0,g1,g2]
 refine cF (l.length+1) (fun k e h=>len e=49∧AL.get e 0=.sl true q 0 l.length 1∧AL.get e 1=vI 0∧AL.get e 2=vI l.length∧∃(i:Nat) (d:List Int),AL.get e 6=vI i∧i+k=l.length+2∧h=h0.set q (.own 3 (d.map vI))∧(K.Out l d i∨(l=[]∧d=[]))) (by kernel_rfl) ?_ ?_
 ·simp only[go_sem,he,g0,g1,g2]
  refine⟨1,l,rfl,by omega,hset.symm,?_⟩
  rcases Nat.eq_zero_or_pos l.length with e0|e0
  ·have:=List.length_eq_zero_iff.1 e0
   exact .inr ⟨this,this⟩
  ·exact .inl (K.Out.one e0)
 ·clear he g0 g1 g2
  rintro k e h ⟨he,g0,g1,g2,i,d,g6,hik,rfl,hO⟩
  simp only[go_sem,he,g0,g1,g2,g6]
  refine aF (fun hc=>?_) fun hc=>?_
  ·have hc:=odT hc
   have hi:i<l.length:=by omega
   have hO:K.Out l d i:=by
    rcases hO with h|⟨h,-⟩
    ·exact h
    ·rw[h] at hi;simp at hi
   simp only[go_sem,he,g0,g1,g2,g6]
   refine bG (i+1) (fun k2 e h=>len e=49∧AL.get e 0=.sl true q 0 l.length 1∧AL.get e 1=vI 0∧AL.get e 2=vI l.length∧AL.get e 6=vI i∧∃(j:Nat) (d:List Int),AL.get e 7=vI j∧j+1=k2∧h=h0.set q (.own 3 (d.map vI))∧K.Inn l d i j) (fun e h=>len e=49∧AL.get e 0=.sl true q 0 l.length 1∧AL.get e 1=vI 0∧AL.get e 2=vI l.length∧AL.get e 6=vI i∧∃d:List Int,h=h0.set q (.own 3 (d.map vI))∧K.Out l d (i+1)) (by kernel_rfl) ?_ ?_ ?_
   ·simp only[go_sem,he,g0,g1,g2,g6]
    exact⟨i,d,rfl,rfl,rfl,hO.inn hi⟩
   ·clear he g0 g1 g2 g6
    rintro k2 e h ⟨he,g0,g1,g2,g6,j,d,g7,hjk,rfl,hI⟩
    have hln:=hI.len
    simp only[go_sem,he,g0,g1,g2,g6,g7]
    refine bF bI (by kernel_rfl) ?_
    have hget:∀X,(h0.set q X)[q]?=some X:=fun X=>by simp[hql]
    have wj:1≤j→i64.wrap ((j:Int)-1)=((j-1:Nat):Int):=fun h=>by rw[aJ (by omega)];omega
    cases hq0:decide ((0:Int)<j) with
    |false=>
     have:=odF hq0
     simp only[go_sem,he,g0,g1,g2,g6,g7,hq0]
     exact⟨d,rfl,hI.fin hn (.inl (by omega))⟩
    |true=>
     have hj1:=odT hq0
     have wj:=wj (by omega)
     have d1:=qK d (i:=j) (by omega)
     have d2:=qK d (i:=j-1) (by omega)
     simp only[go_sem,he,g0,g1,g2,g6,g7,hq0,wj,Int.toNat_natCast,hget,d1,d2]
     refine⟨by omega,by omega,aSh (aRS _ _ _) ?_⟩
     simp only[go_sem,he,g0,g1,g2,g6,g7,aA]
     refine aF (fun hd=>?_) fun hd=>?_
     ·have hd:=odT hd
      simp only[go_sem,he,g0,g1,g2,g6,g7]
      refine bF bI (by kernel_rfl) ?_
      have p1:=aE1 d (d.getD (j-1) 0) (j:=j) (by omega)
      have p2:=aE1 (d.set j (d.getD (j-1) 0)) (d.getD j 0) (j:=j-1) (by rw[List.length_set];omega)
      simp only[go_sem,he,g0,g1,g2,g6,g7,wj,Int.toNat_natCast,hget,d1,d2,p1,p2,List.set_set]
      simp only[List.length_map,List.length_set]
      refine⟨by omega,by omega,by omega,by omega,by omega,by omega,?_⟩
      exact⟨k2-1,by omega,j-1,_,rfl,by omega,rfl,hI.step (by omega) hd⟩
     ·have hd:=odF hd
      simp only[go_sem,he,g0,g1,g2,g6,g7]
      exact⟨d,rfl,hI.fin hn (.inr hd)⟩
   ·clear he g0 g1 g2 g6 hO
    rintro e h ⟨he,g0,g1,g2,g6,d,rfl,hO⟩
    have wi:i64.wrap ((i:Int)+1)=((i+1:Nat):Int):=by rw[aJ (by omega)];rfl
    simp only[go_sem,he,g0,g1,g2,g6,wi]
    exact⟨k-1,by omega,i+1,d,rfl,by omega,rfl,.inl hO⟩
  ·have hc:=odF hc
   simp only[go_sem,he,g0,g1,g2,g6]
   rcases hO with hO|⟨rfl,rfl⟩
   ·have:i=l.length:=by have:=hO.le;omega
    subst this
    rw[hO.fin]
   ·rfl
theorem aLP {w0:World} (l:List Int) (hn:l.Nodup) (hl:l.length≤12) (q:Nat) (h0:aB) (hq:h0[q]?=some (.own 3 (l.map vI))):aH prog (CB w0) 185 [.sl true q 0 l.length 1] h0 fun r H'=>r=.tup []∧H'=h0.set q (.own 3 ((K.srt l).map vI)):=by
 have hp:∀lim,aH prog (CB w0) 206 [.sl true q 0 l.length 1,vI 0,vI l.length,vI lim] h0 fun r H'=>r=.tup []∧H'=h0.set q (.own 3 ((K.srt l).map vI)):=by
  intro lim
  refine aSi (N:=134) (rs:=[]) Tryz.func206 ?_
  rintro e he ⟨g0,g1,g2,g3,-⟩
  have w0':i64.wrap ((l.length:Int)-0)=l.length:=by rw[aJ (by omega)];omega
  have h12:decide ((l.length:Int)≤12)=true:=dcT (by omega)
  simp only[go_sem,he,g0,g1,g2,g3]
  refine cF 1 (fun k e h=>len e=134∧k=1∧h=h0∧AL.get e 0=.sl true q 0 l.length 1∧AL.get e 1=vI 0∧AL.get e 2=vI l.length) (by kernel_rfl) ?_ ?_
  ·simp only[go_sem,he,g0,g1,g2,g3]
  ·rintro k e h ⟨he,rfl,rfl,g0,g1,g2⟩
   simp only[go_sem,he,g0,g1,g2,w0',h12]
   refine aI (aLO l hn hl q _ hq) ?_
   rintro r H' ⟨rfl,rfl⟩
   simp only[go_sem,he,g0,g1,g2,aA]
 have c1:gU prog 3 95 (vI l.length)=some (vQ l.length):=by
  rw[dL (P:=prog) (s:=3) (d:=95) Tryz.underlying3 Tryz.underlying95,iD (by omega)]
 refine aSi (N:=11) (rs:=[]) Tryz.func185 ?_
 rintro e he ⟨g0,-⟩
 simp only[go_sem,he,g0,c1]
 refine aSh (aIp _ l.length (by omega)) ?_
 simp only[go_sem,he,g0,aA]
 refine aI (hp _) ?_
 rintro r H' ⟨rfl,rfl⟩
 simp only[go_sem,he,g0,aA]
def aDr:Option TypeDesc→Bool
 |some (.slice _)=>true
 |_=>false
theorem aBt {u:Option TypeDesc} (h:aDr u=true):∃e,u=some (.slice e):=by
 unfold aDr at h
 split at h
 ·exact⟨_,rfl⟩
 ·cases h
theorem aIu {P:Program} {t:TypeId} {xo yo:Operand} {own:Bool} {o off n st:Nat} (h:aDr (P.underlying t)=true):cH P .eql t xo yo (.sl own o off n st) aP=some (vB false):=by
 obtain⟨e,h⟩:=aBt h
 simp only[cH,plain,oT,h]
theorem aIv {P:Program} {t:TypeId} {xo yo:Operand} (h:aDr (P.underlying t)=true):cH P .eql t xo yo aP aP=some (vB true):=by
 obtain⟨e,h⟩:=aBt h
 have e1:aT P (eqGuard .eql t xo yo (.slice none 0 0) (.slice none 0 0))=some ():=rfl
 have e2:aT P (binOp .eql t (.slice none 0 0) (.slice none 0 0))=some (.bool true):=by
  show aT P (Op.equal t (.slice none 0 0) (.slice none 0 0) >>= fun r=>pure (Value.bool r))=_
  rw[cC]
  unfold Op.equal Op.maxDepth
  rw[Op.equalIn,cC,eV h]
  rfl
 simp only[cH,plain,cC,e1,e2,Option.bind_some,Option.map_some]
def Inn (H:aB) (y:AV) (st:Nat):Prop:=∀own o off n cs,y=.sl own o off n st→iP H[o]?=some cs→off+n*st≤cs.length
theorem fN.inn {H:aB} {y:AV} {n st:Nat} {cell:Nat→AV} (hy:fN H y n st cell) (hn:0<n) (hs:0<st):Inn H y st:=by
 rintro own o off n2 cs2 e hc2
 rcases hy with ⟨rfl,h0⟩|⟨own,o,off,cs,rfl,hc,hcell⟩
 ·cases e
 ·cases e
  rw[hc] at hc2
  cases hc2
  have:=Nat.mul_pos hn hs
  have:=(List.getElem?_eq_some_iff.1 (hcell (n*st-1) (by omega))).1
  omega
theorem aPD {t e st bytes:Nat} {z:List Value} (hel:el prog t=some (e,st,bytes,z)) (hb:bytes≤1000) {h:aB} {y:AV} {n:Nat} {cell:Nat→AV} {cs:List AV} (hy:fN h y n st cell) (hi:Inn h y st) (hn:y≠aP) (hl:n≤1000000000) (hcl:cs.length=n*st) (hcs:∀i,i<n*st→cs[i]?=some (cell i)) (h1:cs.all AV.one=true) :
  cW prog t (.sl true h.length 0 0 st) y (h++[.own e []])=some (.sl true (h.length+1) 0 n st,h++[.gone,.own e cs]):=by
 rcases hy with ⟨rfl,-⟩|⟨own,o,off,cs',rfl,hc,hcell⟩
 ·exact absurd rfl hn
 have hol:o<h.length:=by
  rcases Nat.lt_or_ge o h.length with c|c
  ·exact c
  ·rw[List.getElem?_eq_none c] at hc;cases hc
 have hc2:cellsOf (h++[.own e []]) o=some cs':=by
  unfold cellsOf
  rw[List.getElem?_append_left hol]
  cases ho:h[o]? with
  |none=>rw[ho] at hc;cases hc
  |some w=>rw[ho] at hc;cases w<;>first|exact hc|cases hc
 have e2:(cs'.drop off).take (n*st)=cs:=by
  apply List.ext_getElem?
  intro i
  rw[List.getElem?_take,List.getElem?_drop]
  split
  ·rename_i hi;rw[hcell i hi,hcs i hi]
  ·rename_i hi;rw[List.getElem?_eq_none (by omega)]
 have hle:=hi _ _ _ _ _ rfl hc
 have hby:n*bytes≤1000000000*1000:=Nat.mul_le_mul hl hb
 unfold cW
 rw[hel]
 simp only[hc2,bB,List.getElem?_cons_zero]
 rw[if_pos ⟨hle,trivial,by rw[e2];exact h1⟩,if_pos ⟨trivial,trivial,by simp,by rw[Nat.zero_add];omega,by omega⟩,e2]
 simp
theorem aPE {w0:World} (l:List Int) (hl:l.length≤1000) (x:AV) (H:aB) (hx:aQ H x l) (hi:Inn H x 1):aH prog (CB w0) 35 [x] H fun r H'=>(x=aP∧r=aP∧l=[]∧H'=H)∨(r=.sl true (H.length+1) 0 l.length 1∧H'=H++[.gone,.own 3 (l.map vI)]):=by
 refine aSi (N:=8) (rs:=[.tmp 2]) Tryz.func35 ?_
 rintro e he ⟨g0,-⟩
 have x1:=hx.one
 by_cases hn:x=aP
 ·subst hn
  rcases hx with ⟨-,h0⟩|⟨own,o,off,cs,h,-⟩
  ·have hl0:l=[]:=List.length_eq_zero_iff.1 h0
   have hb:∀xo yo,cH prog .eql 22 xo yo aP aP=some (vB true):=fun xo yo=>aIv (by kernel_rfl)
   simp only[go_sem,he,g0,hb]
   exact .inl hl0
  ·cases h
 ·have hap:=aPD mW (by decide) hx hi hn (by omega) (cs:=l.map vI) (by simp) (fun i hi=>by rw[Nat.mul_one] at hi;rw[List.getElem?_map,fF hi];rfl) (by simp[sM,Value.oneCell'])
  rcases hx with ⟨rfl,h0⟩|⟨own,o,off,cs,rfl,hcs,hcell⟩
  ·exact absurd rfl hn
  have hb:∀xo yo,cH prog .eql 22 xo yo (.sl own o off l.length 1) aP=some (vB false):=fun xo yo=>aIu (by kernel_rfl)
  simp only[go_sem,he,g0,hb,hap]
  exact .inr trivial
theorem aKA {w0:World} (l:List Int) (hn:l.Nodup) (hl:l.length≤1000) (x:AV) (H:aB) (hx:aQ H x l):aH prog (CB w0) 186 [x] H fun r H'=>r=x∧H'=H:=by
 refine aSi (N:=61) (rs:=[.tmp 2]) Tryz.func186 ?_
 rintro e he ⟨g0,-⟩
 have hlen:=hx.len 3
 have x1:=hx.one
 simp only[go_sem,he,g0,hlen,x1]
 refine aF (fun hc=>?_) fun hc=>?_
 ·simp only[go_sem,he,g0,hlen,x1]
 ·have hc:=odF hc
  simp only[go_sem,he,g0,hlen,x1]
  refine cF l.length (fun k e h=>h=H∧len e=61∧AL.get e 0=x∧∃i:Nat,AL.get e 3=vI i∧1≤i∧i+k=l.length+1) (by kernel_rfl) ?_ ?_
  ·simp only[go_sem,he,g0,hlen,x1]
   exact⟨1,rfl,by omega,by omega⟩
  ·clear he g0
   rintro k e h ⟨rfl,he,g0,i,g3,hi1,hik⟩
   simp only[go_sem,he,g0,hlen,x1,g3]
   refine aF (fun hd=>?_) fun hd=>?_
   ·have hd:=odT hd
    rcases hx with ⟨rfl,h0⟩|⟨own,o,off,cs,rfl,hcs,hcell⟩
    ·omega
    have c1:=hcell i (by omega)
    have c2:=hcell (i-1) (by omega)
    have wi:i64.wrap ((i:Int)-1)=((i-1:Nat):Int):=by rw[aJ (by omega)];omega
    have wi2:i64.wrap ((i:Int)+1)=((i+1:Nat):Int):=by rw[aJ (by omega)];rfl
    have hne:decide (l.getD i 0=l.getD (i-1) 0)=false:=by
     rw[List.getD_eq_getElem?_getD,List.getD_eq_getElem?_getD,List.getElem?_eq_getElem (by omega),List.getElem?_eq_getElem (by omega)]
     refine dcF fun e=>?_
     exact List.pairwise_iff_getElem.1 hn (i-1) i (by omega) (by omega) (by omega) e.symm
    simp only[go_sem,he,g0,hlen,x1,g3]
    refine bF bI (by kernel_rfl) ?_
    simp only[go_sem,he,g0,hlen,x1,g3,hcs,wi,wi2,Int.toNat_natCast,Nat.mul_one,c1,c2,hne]
    exact⟨by omega,by omega,k-1,by omega,i+1,rfl,by omega,by omega⟩
   ·have hd:=odF hd
    simp only[go_sem,he,g0,hlen,x1,g3]
theorem oC (H:aB) {l:List Int} {n q:Nat} (hn:l.length=n) (hq:H[q]?=some (.own 3 (l.map vI))):aQ H (.sl true q 0 n 1) l:=by
 subst hn
 refine .inr ⟨true,_,0,l.map vI,rfl,by rw[hq];rfl,fun i hi=>?_⟩
 rw[Nat.mul_one] at hi
 rw[Nat.zero_add,List.getElem?_map,fF (by omega)];rfl
theorem pB {w0:World} (l:List Int) (hn:l.Nodup) (hl:l.length≤12) (hne:l≠[]) (x:AV) (H:aB) (hx:aQ H x l):aH prog (CB w0) 161 [x] H fun r H'=>r=.sl true (H.length+1) 0 l.length 1∧H'=H++[.gone,.own 3 ((K.srt l).map vI)]:=by
 have hp:0<l.length:=by cases l<;>simp_all
 have hsl:=K.p7 hn
 refine aSi (N:=9) (rs:=[.tmp 2]) Tryz.func161 ?_
 rintro e he ⟨g0,-⟩
 have x1:=hx.one
 simp only[go_sem,he,g0,x1]
 refine aI (aPE l (by omega) x H hx (hx.inn hp (by decide))) ?_
 rintro r H' (⟨-,-,h,-⟩|⟨rfl,rfl⟩)
 ·exact absurd h hne
 simp only[go_sem,he,g0,aA]
 have hq:(H++[aD.gone,aD.own 3 (l.map vI)])[H.length+1]?=some (.own 3 (l.map vI)):=by rw[bX];rfl
 refine aI (aLP l hn hl _ _ hq) ?_
 rintro r H' ⟨rfl,rfl⟩
 simp only[go_sem,he,g0,aA]
 refine aI (aKA (K.srt l) (K.aCT (K.kU l)) (by omega) _ _ (oC _ hsl (by rw[bX];rfl))) ?_
 rintro r H' ⟨rfl,rfl⟩
 simp only[go_sem,he,g0,aA]
theorem aPF:fo1 prog 159 0=some 0:=by kernel_rfl
theorem aIw:fo1 prog 154 0=some 0:=by kernel_rfl
theorem fD (l:List AV):oV prog 159 (.agg l) 0=l[0]?:=by unfold oV;rw[aPF]
theorem fM (l:List AV):oV prog 154 (.agg l) 0=l[0]?:=by unfold oV;rw[aIw]
theorem nI {w0:World} (n:Int) (h0:0≤n) (H:aB):aH prog (CB w0) 106 [vI n] H fun r H'=>r=vI (n%7)∧H'=H:=by
 refine aSi (N:=5) (rs:=[.tmp 2]) Tryz.func106 ?_
 rintro e he ⟨g0,-⟩
 simp only[go_sem,he,g0]
 rw[Int.tmod_eq_emod_of_nonneg h0]
theorem yY {w0:World} (y:Int) (h0:0≤y) (H:aB):aH prog (CB w0) 188 [vI y] H fun r H'=>r=vI (K.cQ y)∧H'=H:=by
 refine aSi (N:=5) (rs:=[.tmp 2]) Tryz.func188 ?_
 rintro e he ⟨g0,-⟩
 simp only[go_sem,he,g0]
 refine aSh (aJ9 y h0 H) ?_
 unfold K.cQ
 simp only[go_sem,he,g0,aA]
 refine aF (fun hc=>?_) fun hc=>?_
 ·simp only[go_sem,he,g0]
  rw[if_pos hc]
 ·simp only[go_sem,he,g0]
  rw[if_neg (by rw[hc];simp)]
theorem aBu {w0:World} (d h m s:Int) (hd:0≤d∧d≤100000000) (hh:0≤h∧h≤100) (hm:0≤m∧m≤100) (hs:0≤s∧s≤100) (H:aB):aH prog (CB w0) 163 [.agg [vI d,vI h,vI m,vI s]] H fun r H'=>r=vI (d*86400+h*3600+m*60+s)∧H'=H:=by
 refine aH.flat rfl ?_
 refine aSi (N:=17) (rs:=[.tmp 2]) Tryz.func163 ?_
 rintro e he ⟨g0,-⟩
 simp only[go_sem,he,g0]
 simp (disch:=omega) only[aJ]
 exact⟨trivial,_,rfl⟩
theorem aC2 {w0:World} (y m d:Int) (hy:1≤y∧y≤1000000000) (hm:1≤m∧m≤12) (hd:0≤d∧d≤1000) (H:aB):aH prog (CB w0) 116 [.agg [vI y,vI m,vI d]] H fun r H'=>r=vI (aC y+bA y (m-1).toNat+d-1)∧H'=H:=by
 refine aH.flat rfl ?_
 refine aSi (N:=25) (rs:=[.tmp 2]) Tryz.func116 ?_
 rintro e he ⟨g0,-⟩
 have hb:=dO y
 have hms:∀k:Nat,k≤12→0≤bA y k∧bA y k≤372:=fun k hk=>by have:=eX y k;omega
 simp only[go_sem,he,g0]
 refine aSh (cT y hy.1 (by omega) _) ?_
 simp only[go_sem,he,g0,aA]
 refine cF (m-1).toNat (fun k e h=>h=H++[.own 159 [vI y,vI m,vI d]]∧len e=25∧AL.get e 1=.ptr H.length 0∧∃i:Nat,AL.get e 4=vI (i+1)∧AL.get e 3=vI (aC y+bA y i)∧i+k=(m-1).toNat) (by kernel_rfl) ?_ ?_
 ·simp only[go_sem,he,g0]
  exact⟨0,rfl,by simp[bA],by omega⟩
 ·rintro k e h ⟨rfl,he,g1,i,g4,g3,hik⟩
  simp only[go_sem,he,g1,g3,g4]
  refine aF (fun hc=>?_) fun hc=>?_
  ·have hc:=odT hc
   have:=hms i (by omega)
   have hmd:=bP y ((i:Int)+1)
   simp only[go_sem,he,g1,g3,g4]
   refine aSh (iY y _ (by omega) _) ?_
   simp only[go_sem,he,g1,g3,g4,aA]
   have wi:i64.wrap ((i:Int)+1+1)=((i+1:Nat):Int)+1:=by rw[aJ (by omega)];rfl
   rw[wi,aJ (by omega)]
   exact⟨k-1,by omega,i+1,rfl,by rw[bA,Int.add_assoc],by omega⟩
  ·have hc:=odF hc
   have:=hms i (by omega)
   simp only[go_sem,he,g1,g3,g4]
   have hi:i=(m-1).toNat:=by omega
   subst hi
   rw[aJ (n:=aC y+bA y (m-1).toNat+d) (by omega),aJ (by omega)]
   exact⟨rfl,_,rfl⟩
theorem lN {w0:World} (y k:Int) (hy:1≤y∧y≤1000000) (hk:0≤k∧k≤6) (H:aB):aH prog (CB w0) 207 [vI y,vI k] H fun r H'=>r=vI (K.fw k y)∧H'=H:=by
 refine aSi (N:=24) (rs:=[.tmp 4]) Tryz.func207 ?_
 rintro e he ⟨g0,g1,-⟩
 have hb:=dO y
 have hb2:=dG hy.1
 simp only[go_sem,he,g0,g1]
 refine aSh (cT y hy.1 (by omega) _) ?_
 simp only[go_sem,he,g0,g1,aA]
 refine aSh (nI (aC y) (by omega) _) ?_
 simp only[go_sem,he,g0,g1,aA]
 have q:(0:Int)≤aC y%7∧aC y%7≤6:=by omega
 rw[aJ (n:=aC y%7-k) (by omega),aJ (n:=aC y%7-k+7) (by omega),Int.tmod_eq_emod_of_nonneg (by omega)]
 unfold K.fw K.dH
 refine aF (fun hc=>?_) fun hc=>?_
 ·have hc:=odT hc
  simp only[go_sem,he,g0,g1]
  rw[if_pos hc,aJ (by omega),Int.sub_eq_add_neg]
 ·have hc:=odF hc
  simp only[go_sem,he,g0,g1]
  rw[if_neg (by omega),aJ (n:=aC y-(aC y%7-k+7)%7) (by omega),aJ (by omega)]
  exact congrArg vI (by omega)
theorem mE {k y:Int}:aC y-3≤K.fw k y∧K.fw k y≤aC y+3:=by
 have:=K.fO (aC y%7) k
 unfold K.fw;omega
theorem aE2 {n:Int} (h:365≤n):2≤aK n:=by
 have h1:=kD (n:=n) (by omega)
 have h2:=eW (n:=n) (by omega)
 rcases Int.lt_or_le (aK n) 2 with c|c
 ·have:aK n=1:=by omega
  rw[this] at h1
  have:aC (1+1)=365:=by decide
  omega
 ·exact c
theorem aBv {w0:World} (n k:Int) (hn:365≤n∧n≤10000000) (hk:0≤k∧k≤6) (H:aB):aH prog (CB w0) 191 [vI n,vI k] H fun r H'=>r=vI (K.i9 k (aK n) n)∧H'=H:=by
 refine aH.flat rfl ?_
 refine aSi (N:=25) (rs:=[.tmp 4]) Tryz.func191 ?_
 rintro e he ⟨g0,g1,-⟩
 have hy:=eW (n:=n) (by omega)
 have hy2:=aE2 hn.1
 have hb:=dO (aK n)
 have hb2:=dO (aK n+1)
 have hbb:=dG (y:=aK n) (by omega)
 simp only[go_sem,he,g0,g1]
 refine aI (aHc n (by omega) (by omega) _) ?_
 rintro v1 H1 ⟨rfl,G,rfl⟩
 simp only[go_sem,he,g0,g1,aA,fD]
 have yb:aK n≤30000:=by omega
 refine aSh (lN (aK n) k (by omega) hk _) ?_
 simp only[go_sem,he,g0,g1,aA]
 unfold K.i9
 refine aF (fun hc=>?_) fun hc=>?_
 ·have hc:=odT hc
  simp only[go_sem,he,g0,g1]
  rw[if_pos hc,aJ (by omega)]
  exact⟨rfl,_,rfl⟩
 ·have hc:=odF hc
  rw[if_neg hc]
  simp only[go_sem,he,g0,g1]
  rw[aJ (n:=aK n+1) (by omega)]
  refine aSh (lN (aK n+1) k (by omega) hk _) ?_
  simp only[go_sem,he,g0,g1,aA]
  refine aF (fun hd=>?_) fun hd=>?_
  ·have hd:=odT hd
   simp only[go_sem,he,g0,g1]
   rw[if_pos hd,aJ (by omega)]
   exact⟨rfl,_,rfl⟩
  ·have hd:=odF hd
   simp only[go_sem,he,g0,g1]
   rw[if_neg hd]
   exact⟨rfl,_,rfl⟩
theorem yZ {n k:Int} (hn:365≤n∧n≤10000000):1≤K.i9 k (aK n) n∧K.i9 k (aK n) n≤30001∧K.fw k (K.i9 k (aK n) n)≤n∧n≤K.fw k (K.i9 k (aK n) n)+1200:=by
 have hy:=eW (n:=n) (by omega)
 have hy2:=aE2 hn.1
 have hl:=kD (n:=n) (by omega)
 have hbb:=dG (y:=aK n) (by omega)
 have hb:=dO (aK n)
 have h1:=mE (k:=k) (y:=aK n)
 have h2:=mE (k:=k) (y:=aK n+1)
 have h3:=mE (k:=k) (y:=aK n-1)
 have s1:=lJ (aK n)
 have s2:=lJ (aK n-1)
 have n1:=dQ (aK n-1)
 rw[Int.sub_add_cancel] at s2 n1
 have:aC (aK n-1)+365≤aC (aK n):=by rw[n1];split<;>omega
 unfold K.i9
 split
 ·omega
 ·split<;>omega
theorem aLQ {w0:World} (n k:Int) (hn:365≤n∧n≤10000000) (hk:0≤k∧k≤6) (H:aB):aH prog (CB w0) 189 [vI n,vI k] H fun r H'=>r=vI (K.wno k (aK n) n)∧H'=H:=by
 refine aSi (N:=14) (rs:=[.tmp 4]) Tryz.func189 ?_
 rintro e he ⟨g0,g1,-⟩
 have hw:=yZ (k:=k) hn
 simp only[go_sem,he,g0,g1]
 refine aSh (aBv n k hn hk _) ?_
 simp only[go_sem,he,g0,g1,aA]
 refine aSh (lN _ k (by omega) hk _) ?_
 simp only[go_sem,he,g0,g1,aA]
 unfold K.wno
 rw[aJ (n:=n-K.fw k (K.i9 k (aK n) n)) (by omega),Int.tdiv_eq_ediv_of_nonneg (by omega),aJ (n:=(n-K.fw k (K.i9 k (aK n) n))/7) (by omega),aJ (by omega)]
theorem aKB {w0:World} (y k:Int) (hy:1≤y∧y≤100000) (hk:0≤k∧k≤6) (H:aB):aH prog (CB w0) 190 [vI y,vI k] H fun r H'=>r=vI ((K.fw k (y+1)-K.fw k y)/7)∧H'=H:=by
 refine aSi (N:=14) (rs:=[.tmp 4]) Tryz.func190 ?_
 rintro e he ⟨g0,g1,-⟩
 have h1:=mE (k:=k) (y:=y)
 have h2:=mE (k:=k) (y:=y+1)
 have s1:=dQ y
 have hbb:=dG (y:=y) (by omega)
 have hb:=dO y
 have:aC y+365≤aC (y+1):=by rw[s1];split<;>omega
 have:=lJ y
 simp only[go_sem,he,g0,g1]
 rw[aJ (by omega)]
 refine aSh (lN (y+1) k (by omega) hk _) ?_
 simp only[go_sem,he,g0,g1,aA]
 refine aSh (lN y k (by omega) hk _) ?_
 simp only[go_sem,he,g0,g1,aA]
 rw[aJ (n:=K.fw k (y+1)-K.fw k y) (by omega),Int.tdiv_eq_ediv_of_nonneg (by omega),aJ (by omega)]
theorem aKC {w0:World} (y:Int) (hy:1≤y∧y≤10500) (H:aB):aH prog (CB w0) 192 [vI y] H fun r H'=>r=vI (K.cS y)∧H'=H:=by
 refine aSi (N:=65) (rs:=[.tmp 2]) Tryz.func192 ?_
 rintro e he ⟨g0,-⟩
 simp only[go_sem,he,g0]
 simp (disch:=omega) only[aJ,Int.tdiv_eq_ediv_of_nonneg,Int.tmod_eq_emod_of_nonneg]
 unfold K.cS
 simp only
 have hh0:0≤(19*(y%19)+y/100-y/100/4-(8*(y/100)+13)/25+15)%30:=Int.emod_nonneg _ (by omega)
 have hh1:(19*(y%19)+y/100-y/100/4-(8*(y/100)+13)/25+15)%30<30:=Int.emod_lt_of_pos _ (by omega)
 generalize (19*(y%19)+y/100-y/100/4-(8*(y/100)+13)/25+15)%30=h at *
 have hg:(21-y%19)/11=0∨(21-y%19)/11=1:=by omega
 generalize hgg:(21-y%19)/11=g at *
 have key:∃i:Int,0≤i∧i≤29∧h-h/28*(1-h/28*(29/(h+1))*g)=i∧i64.wrap (h-i64.wrap (h/28*i64.wrap (1-i64.wrap (i64.wrap (h/28*i64.wrap (29/(h+1)))*g))))=i:=by
  rcases (show h<28∨h=28∨h=29 by omega) with c|c|c
  ·have q:h/28=0:=by omega
   refine⟨h,hh0,by omega,?_,?_⟩
   ·rw[q];omega
   ·rw[q,Int.zero_mul]
    have:i64.wrap 0=0:=rfl
    rw[this,Int.sub_zero]
    exact aJ (by omega)
  ·subst c
   rcases hg with rfl|rfl
   ·exact⟨27,by omega,by omega,by decide,by decide⟩
   ·exact⟨28,by omega,by omega,by decide,by decide⟩
  ·subst c
   rcases hg with rfl|rfl
   ·exact⟨28,by omega,by omega,by decide,by decide⟩
   ·exact⟨28,by omega,by omega,by decide,by decide⟩
 obtain⟨i,i0,i1,k1,k2⟩:=key
 rw[k1]
 simp only[k2]
 simp (disch:=omega) only[aJ,Int.tdiv_eq_ediv_of_nonneg,Int.tmod_eq_emod_of_nonneg]
 have j0:=Int.emod_nonneg (y+y/4+i+2-y/100+y/100/4) (show (7:Int)≠0 by omega)
 have j1:=Int.emod_lt_of_pos (y+y/4+i+2-y/100+y/100/4) (show (0:Int)<7 by omega)
 generalize (y+y/4+i+2-y/100+y/100/4)%7=j at *
 have hb:=dO y
 have hm:=eX y 2
 first
  |refine⟨by omega,?_⟩
  |skip
 refine aSh (aC2 y 3 28 (by omega) (by omega) (by omega) _) ?_
 simp only[go_sem,he,g0,aA]
 have e2:((3:Int)-1).toNat=2:=rfl
 rw[e2,aJ (n:=aC y+bA y 2+28-1+i) (by omega),aJ (by omega)]
 congr 2;omega
theorem xK {w0:World} (l:List Int) (hl:l.length≤1000000) (a:Int) (x:AV) (H:aB) (hx:aQ H x l):aH prog (CB w0) 165 [x,vI a] H fun r H'=>r=vB (K.aY l a)∧H'=H:=by
 refine aSi (N:=13) (rs:=[.tmp 4]) Tryz.func165 ?_
 rintro e he ⟨g0,g1,-⟩
 have hlen:=hx.len 3
 have x1:=hx.one
 cases l with
 |nil=>
  simp only[List.length_nil,Int.ofNat_zero,Int.cast_ofNat_Int] at hlen
  simp only[go_sem,he,g0,g1,hlen,x1]
  rfl
 |cons b l=>
  have hne:decide (((l.length+1:Nat):Int)=0)=false:=dcF (by omega)
  simp only[go_sem,he,g0,g1,hlen,x1,hne]
  refine aSh (gC (b::l) (by omega) a x H hx) ?_
  simp only[go_sem,he,g0,g1,aA]
  rfl
theorem wS {w0:World} (l:List Int) (hl:l.length≤1000000) (n all:Int) (hn:-1000000000≤n∧n≤1000000000) (ha:-1000000000≤all∧all≤1000000000) (x:AV) (H:aB) (hx:aQ H x l):aH prog (CB w0) 187 [x,vI n,vI all] H fun r H'=>r=vB (K.eS l n all)∧H'=H:=by
 refine aSi (N:=23) (rs:=[.tmp 6]) Tryz.func187 ?_
 rintro e he ⟨g0,g1,g2,-⟩
 have hlen:=hx.len 3
 have x1:=hx.one
 cases l with
 |nil=>
  simp only[List.length_nil,Int.ofNat_zero,Int.cast_ofNat_Int] at hlen
  simp only[go_sem,he,g0,g1,g2,hlen,x1]
  rfl
 |cons b l=>
  have hne:decide (((l.length+1:Nat):Int)=0)=false:=dcF (by omega)
  simp only[go_sem,he,g0,g1,g2,hlen,x1,hne]
  refine aSh (gC (b::l) (by omega) n x H hx) ?_
  unfold K.eS
  cases hc:(b::l).contains n with
  |true=>
   simp only[go_sem,he,g0,g1,g2,aA]
   rfl
  |false=>
   simp only[go_sem,he,g0,g1,g2,aA]
   rw[aJ (n:=n-all) (by omega),aJ (by omega)]
   refine aSh (gC (b::l) (by omega) _ x H hx) ?_
   simp only[go_sem,he,g0,g1,g2,aA]
   rfl
def xL (f:Nat):Nat:=if f=0 then 400 else if f≤2 then 3000 else if f=3 then 8000 else 30000
theorem aIx {w0:World} (f:Nat) (hf:f≤6) (H:aB):aH prog (CB w0) 73 [vU f] H fun r H'=>r=vI (xL f)∧H'=H:=by
 refine aSi (N:=11) (rs:=[.tmp 2]) Tryz.func73 ?_
 rintro e he ⟨g0,-⟩
 simp only[go_sem,he,g0]
 unfold xL
 refine aF (fun c0=>?_) fun c0=>?_
 ·have q0:=odT c0
  simp only[go_sem,he,g0,c0]
  rw[if_pos (by omega)];rfl
 have q0:=odF c0
 rw[if_neg (by omega)]
 simp only[go_sem,he,g0,c0]
 refine aF (fun c1=>?_) fun c1=>?_
 ·have q1:=odT c1
  simp only[go_sem,he,g0,c1]
  rw[if_pos (by omega)];rfl
 have q1:=odF c1
 simp only[go_sem,he,g0,c0,c1]
 refine aF (fun c2=>?_) fun c2=>?_
 ·have q2:=odT c2
  simp only[go_sem,he,g0,c2]
  rw[if_pos (by omega)];rfl
 have q2:=odF c2
 rw[if_neg (by omega)]
 simp only[go_sem,he,g0,c0,c1,c2]
 refine aF (fun c3=>?_) fun c3=>?_
 ·have q3:=odT c3
  simp only[go_sem,he,g0,c3]
  rw[if_pos (by omega)];rfl
 have q3:=odF c3
 rw[if_neg (by omega)]
 simp only[go_sem,he,g0,c0,c1,c2,c3]
 rfl
structure zY (r:Ru):Prop where
 setPos:r.setPos.length≤1000
 month:r.month.length≤1000
 monthDay:r.monthDay.length≤1000
 yearDay:r.yearDay.length≤1000
 weekNo:r.weekNo.length≤1000
 day:r.day.length≤1000
 hour:r.hour.length≤1000
 minute:r.minute.length≤1000
 second:r.second.length≤1000
 easter:r.easter.length≤1000
theorem aPG {w0:World} (r:Ru) (x:Rs) (n y m d:Int) (w:Int×Int) (hn:0≤n∧n≤10000000) (hy:1≤y∧y≤100000) (hb:aC y≤n∧n<aC y+K.cQ y) (hd:1≤d∧d≤aO y m) (H:aB) (hx:cN H r x):aH prog (CB w0) 194 [.agg (aE r x),vI n,.agg [vI y,vI m,vI d],vD w] H fun v H'=>v=vB (K.jR r n y m d w)∧H'=H:=by
 refine aH.flat rfl ?_
 refine aSi (N:=62) (rs:=[.tmp 8]) Tryz.func194 ?_
 rintro e he ⟨g0,g1,g2,g3,-⟩
 unfold aE at g0
 have hmd:=bP y m
 have hbb:=dO y
 have hyd:K.cQ y≤366:=by unfold K.cQ;split<;>omega
 have ml:=hx.month.len 3
 simp only[go_sem,he,g0,g1,g2,g3,hx.setPos.one,hx.month.one,hx.monthDay.one,hx.yearDay.one,hx.weekNo.one,hx.day.one,hx.hour.one,hx.minute.one,hx.second.one,hx.easter.one]
 refine bU [106] bI (by kernel_rfl) ?_
 simp only[go_sem,he,g0,g1,g2,g3]
 refine aS (fun _=>nI n hn.1 _) ?_
 simp only[go_sem,he,g0,g1,g2,g3,aA]
 unfold K.jR
 refine aF (fun hc=>?_) fun hc=>?_
 ·simp only[go_sem,he,g0,g1,g2,g3]
  rw[Bool.not_eq_true'] at hc
  rw[hc]
  exact⟨rfl,_,rfl⟩
 rw[Bool.not_eq_false'] at hc
 rw[hc,Bool.true_and]
 simp only[go_sem,he,g0,g1,g2,g3]
 refine aF (fun hc=>?_) fun hc=>?_
 ·simp only[go_sem,he,g0,g1,g2,g3]
  rw[hc]
  exact⟨rfl,_,rfl⟩
 rw[hc,Bool.false_or]
 simp only[go_sem,he,g0,g1,g2,g3]
 refine bU [117] bI (by kernel_rfl) ?_
 simp only[go_sem,he,g0,g1,g2,g3]
 refine aS (fun _=>iY y m (by omega) _) ?_
 simp only[go_sem,he,g0,g1,g2,g3,aA]
 refine bQ (fun e h=>len e=62∧AL.get e 1=vI n∧AL.get e 6=.ptr (H.length+1) 0∧AL.get e 7=.ptr (H.length+2) 0∧AL.get e 9=vI d∧AL.get e 10=vI (aO y m)∧AL.get e 34=vB (decide (r.freq=0∧r.month=[]))∧h=H++[aD.own 25 (aE r x),aD.own 159 [vI y,vI m,vI d],aD.own 41 [vI w.1,vI w.2]]) ?_ ?_
 ·unfold aE
  cases hf:decide ((r.freq:Int)=0) with
  |true=>
   have hf:=odT hf
   simp only[go_sem,he,g0,g1,g2,g3,ml,hx.month.one]
   congr 1
   refine decide_eq_decide.2 ⟨fun h=>⟨by omega,List.length_eq_zero_iff.1 (by omega)⟩,fun h=>by rw[h.2];rfl⟩
  |false=>
   have hf:=odF hf
   simp only[go_sem,he,g0,g1,g2,g3]
   rw[dcF (fun h=>hf (by omega))]
 clear he g0 g1 g2 g3
 rintro e h ⟨he,g1,g6,g7,g9,g10,g34,rfl⟩
 simp only[go_sem,he,g1,g6,g7,g9,g10,g34]
 have hw2:∀c:Bool,(if r.freq=0∧r.month=[] then decide ((n-aC y)/7+1=w.2)||decide (-((K.cQ y-(n-aC y+1))/7+1)=w.2) else decide ((d-1)/7+1=w.2)||decide (-((aO y m-d)/7+1)=w.2))=(decide (((if r.freq=0∧r.month=[] then n-aC y+1 else d)-1)/7+1=w.2)||decide (-(((if r.freq=0∧r.month=[] then K.cQ y else aO y m)-(if r.freq=0∧r.month=[] then n-aC y+1 else d))/7+1)=w.2)):=by
  intro c
  split
  ·rw[show n-aC y+1-1=n-aC y by omega]
  ·rfl
 rw[hw2 true]
 clear hw2
 refine bC (fun e h=>len e=62∧AL.get e 7=.ptr (H.length+2) 0∧AL.get e 9=vI (if r.freq=0∧r.month=[] then n-aC y+1 else d)∧AL.get e 10=vI (if r.freq=0∧r.month=[] then K.cQ y else aO y m)∧h=H++[aD.own 25 (aE r x),aD.own 159 [vI y,vI m,vI d],aD.own 41 [vI w.1,vI w.2]]) (fun hc=>?_) (fun hc=>?_) ?_
 ·rw[if_pos (odT hc),if_pos (odT hc)]
  refine bU [65,188] bI (by kernel_rfl) ?_
  simp only[go_sem,he,g1,g6,g7,g9,g10,g34]
  refine aS (fun _=>cT y hy.1 (by omega) _) ?_
  simp only[go_sem,he,g1,g6,g7,g9,g10,g34,aA]
  refine aS (fun _=>yY y (by omega) _) ?_
  simp only[go_sem,he,g1,g6,g7,g9,g10,g34,aA]
  rw[aJ (n:=n-aC y) (by omega),aJ (by omega)]
 ·rw[if_neg (odF hc),if_neg (odF hc)]
  simp only[go_sem,he,g1,g6,g7,g9,g10,g34]
 clear he g1 g6 g7 g9 g10 g34
 rintro e h ⟨he,g7,g9,g10,rfl⟩
 obtain⟨a,ha⟩:∃a:Int,a=if r.freq=0∧r.month=[] then n-aC y+1 else d:=⟨_,rfl⟩
 obtain⟨b,hb2⟩:∃b:Int,b=if r.freq=0∧r.month=[] then K.cQ y else aO y m:=⟨_,rfl⟩
 have hab:1≤a∧a≤b∧b≤366:=by
  by_cases hc:r.freq=0∧r.month=[]
  ·rw[if_pos hc] at ha hb2;omega
  ·rw[if_neg hc] at ha hb2;omega
 rw[←ha] at g9 ⊢
 rw[←hb2] at g10 ⊢
 simp only[go_sem,he,g7,g9,g10]
 have e1:i64.wrap (i64.wrap ((i64.wrap (a-1)).tdiv 7)+1)=(a-1)/7+1:=by
  simp (disch:=omega) only[aJ,Int.tdiv_eq_ediv_of_nonneg]
 have e2:i64.wrap (0-i64.wrap (i64.wrap ((i64.wrap (b-a)).tdiv 7)+1))=-((b-a)/7+1):=by
  simp (disch:=omega) only[aJ,Int.tdiv_eq_ediv_of_nonneg]
  omega
 rw[e1]
 cases hq:decide ((a-1)/7+1=w.2) with
 |true=>
  simp only[go_sem,he,g7,g9,g10,hq]
  exact⟨rfl,_,rfl⟩
 |false=>
  simp only[go_sem,he,g7,g9,g10,hq,e2]
  exact⟨rfl,_,rfl⟩
def aIy (w0:World) (H:aB) (f:Nat) (ca:List AV) (p:Int×Int→Bool) (l:List (Int×Int)):Prop:=∀d∈l,∀G,aH prog (CB w0) f (vD d::ca) (H++G) fun r H'=>r=vB (p d)∧H'=H++G
theorem aIz {w0:World} (l:List (Int×Int)) (hl:l.length≤1000000) (x:AV) (f:Nat) (ca:List AV) (p:Int×Int→Bool) (H:aB) (hx:cU H x l) (hf:aIy w0 H f ca p l):aH prog (CB w0) 159 [x,.fn (.func f) [] ca] H fun r H'=>(∃i:Int,r=vI i∧decide (0≤i)=l.any p)∧H'=H:=by
 refine aH.mono (R:=fun r H'=>r=vI (match l.findIdx? p with|some i=>i|none=>-1)∧H'=H) ?_ fun r H' h=>⟨⟨_,h.1,?_⟩,h.2⟩
 ·refine aH.flat rfl ?_
  refine aSi (N:=19) (rs:=[.tmp 4]) Tryz.func159 ?_
  rintro e he ⟨g0,g1,-⟩
  have hlen:=hx.len 41
  have x1:=hx.one
  simp only[go_sem,he,g0,g1,hlen,x1]
  refine cF l.length (fun k e h=>(∃G,h=H++G)∧len e=19∧AL.get e 0=x∧AL.get e 1=.fn (.func f) [] ca∧AL.get e 7=vI l.length∧∃i:Nat,AL.get e 8=vI i∧i+k=l.length∧∀j b,j<i→l[j]?=some b→p b=false) (by kernel_rfl) ?_ ?_
  ·simp only[go_sem,he,g0,g1,hlen,x1]
   exact⟨⟨[],by simp⟩,0,rfl,by omega,fun j b hj=>by omega⟩
  ·clear he g0 g1
   rintro k e h ⟨⟨G,rfl⟩,he,g0,g1,g7,i,g8,hik,hno⟩
   simp only[go_sem,he,g0,g1,g7,g8]
   refine aF (fun hc=>?_) fun hc=>?_
   ·have hc:=odT hc
    have hi:i<l.length:=by omega
    rcases hx.more G with ⟨rfl,h0⟩|⟨own,o,off,cs,rfl,hcs,hcell⟩
    ·omega
    obtain⟨d1,d2⟩:=rB (H:=H) hcell hi
    have hm:l.getD i (0,0)∈l:=by rw[List.getD_eq_getElem?_getD,List.getElem?_eq_getElem hi];exact List.getElem_mem hi
    have hgi:l[i]?=some (l.getD i (0,0)):=by rw[List.getD_eq_getElem?_getD,List.getElem?_eq_getElem hi];rfl
    have wi:i64.wrap ((i:Int)+1)=((i+1:Nat):Int):=by rw[aJ (by omega)];rfl
    simp only[go_sem,he,g0,g1,g7,g8,hcs,d1,d2,Int.toNat_natCast]
    refine⟨by omega,aSh (hf _ hm G) ?_⟩
    simp only[go_sem,he,g0,g1,g7,g8,aA]
    refine aF (fun hd=>?_) fun hd=>?_
    ·simp only[go_sem,he,g0,g1,g7,g8]
     rw[oK hgi hd hno]
     exact⟨rfl,_,rfl⟩
    ·simp only[go_sem,he,g0,g1,g7,g8,wi]
     refine⟨k-1,by omega,⟨_,rfl⟩,i+1,rfl,by omega,fun j b hj hb=>?_⟩
     rcases Nat.lt_or_ge j i with c|c
     ·exact hno j b c hb
     ·have:j=i:=by omega
      subst this
      rw[hgi] at hb;cases hb;exact hd
   ·have hc:=odF hc
    simp only[go_sem,he,g0,g1,g7,g8]
    rw[mX fun j b hb=>hno j b (by have:=(List.getElem?_eq_some_iff.1 hb).1;omega) hb]
    exact⟨rfl,_,rfl⟩
 ·cases hq:l.findIdx? p with
  |some i=>
   obtain⟨hi,h1,_⟩:=List.findIdx?_eq_some_iff_getElem.1 hq
   have:l.any p=true:=List.any_eq_true.2 ⟨_,List.getElem_mem hi,h1⟩
   rw[this]
   exact dcT (by simp)
  |none=>
   have:l.any p=false:=by
    rw[List.any_eq_false]
    intro d hd
    have:=List.findIdx?_eq_none_iff.1 hq d hd
    simpa using this
   rw[this];rfl
theorem aE3 {w0:World} (l:List (Int×Int)) (hl:l.length≤1000000) (x:AV) (f:Nat) (ca:List AV) (p:Int×Int→Bool) (H:aB) (hx:cU H x l) (hf:aIy w0 H f ca p l):aH prog (CB w0) 108 [x,.fn (.func f) [] ca] H fun r H'=>r=vB (l.any p)∧H'=H:=by
 refine aSi (N:=9) (rs:=[.tmp 4]) Tryz.func108 ?_
 rintro e he ⟨g0,g1,-⟩
 simp only[go_sem,he,g0,g1]
 refine aI (aIz l hl x f ca p H hx hf) ?_
 rintro r H' ⟨⟨i,rfl,hi⟩,rfl⟩
 simp only[go_sem,he,g0,g1,aA,hi]
theorem aLR {w0:World} (r:Ru) (x:Rs) (n y m d:Int) (w:Int×Int) (hn:0≤n∧n≤10000000) (hy:1≤y∧y≤100000) (hb:aC y≤n∧n<aC y+K.cQ y) (hd:1≤d∧d≤aO y m) (H G:aB) (hx:cN H r x) (k1 k2 k3:Nat) (h1:H[k1]?=some (.own 25 (aE r x))) (h2:H[k2]?=some (.own 3 [vI n])) (h3:H[k3]?=some (.own 159 [vI y,vI m,vI d])):aH prog (CB w0) 193 [vD w,.ptr k1 0,.ptr k2 0,.ptr k3 0] (H++G) fun v H'=>v=vB (K.jR r n y m d w)∧H'=H++G:=by
 refine aH.flat rfl ?_
 refine aSi (N:=11) (rs:=[.tmp 5]) Tryz.func193 ?_
 rintro e he ⟨g0,g1,g2,g3,-⟩
 have q1:=aZ (G:=G++[aD.own 41 [vI w.1,vI w.2]]) h1
 have q2:=aZ (G:=G++[aD.own 41 [vI w.1,vI w.2]]) h2
 have q3:=aZ (G:=G++[aD.own 41 [vI w.1,vI w.2]]) h3
 have c:=aPG (w0:=w0) r x n y m d w hn hy hb hd _ (hx.more (G++[aD.own 41 [vI w.1,vI w.2]]))
 unfold aE at q1 c
 simp only[go_sem,he,g0,g1,g2,g3,q1,q2,q3]
 refine aI c ?_
 rintro v H' ⟨rfl,rfl⟩
 simp only[go_sem,he,g0,g1,g2,g3,aA]
 exact⟨_,rfl⟩
structure nJ (n:Int):Prop where
 lo:300≤n
 hi:n<aC 10500
theorem nJ.b {n:Int} (h:nJ n):0≤n∧n≤10000000:=by
 have:=h.lo;have:=h.hi
 have:aC 10500≤10000000:=by decide
 omega
theorem nJ.year {n:Int} (h:nJ n):1≤aK n∧aK n≤10499∧aC (aK n)≤n∧n<aC (aK n)+K.cQ (aK n):=by
 have h1:=eW (n:=n) (by have:=h.lo;omega)
 have h2:=kD (n:=n) (by have:=h.lo;omega)
 refine⟨h1.2.1,?_,h1.1,?_⟩
 ·rcases Int.lt_or_le (aK n) 10500 with c|c
  ·omega
  ·have:=K.cK c
   have:=h.hi
   omega
 ·rw[dQ] at h2
  unfold K.cQ
  split at h2<;>rename_i hc<;>simp_all
theorem nJ.day {n:Int} (h:nJ n):1≤(aL n).2∧(aL n).2≤aO (aK n) (aL n).1∧1≤(aL n).1∧(aL n).1≤12:=by
 have:=K.gO (n:=n) (by have:=h.lo;omega)
 omega
theorem aBw (y:Int):aC y-10≤K.cS y∧K.cS y≤aC y+150:=by
 unfold K.cS
 simp only
 have hh0:0≤(19*(y%19)+y/100-y/100/4-(8*(y/100)+13)/25+15)%30:=Int.emod_nonneg _ (by omega)
 have hh1:(19*(y%19)+y/100-y/100/4-(8*(y/100)+13)/25+15)%30<30:=Int.emod_lt_of_pos _ (by omega)
 generalize (19*(y%19)+y/100-y/100/4-(8*(y/100)+13)/25+15)%30=h at *
 have hg:(21-y%19)/11=0∨(21-y%19)/11=1:=by omega
 generalize (21-y%19)/11=g at *
 have key:0≤h-h/28*(1-h/28*(29/(h+1))*g)∧h-h/28*(1-h/28*(29/(h+1))*g)≤29:=by
  rcases (show h<28∨h=28∨h=29 by omega) with c|c|c
  ·have q:h/28=0:=by omega
   rw[q];omega
  ·subst c
   rcases hg with rfl|rfl<;>decide
  ·subst c
   rcases hg with rfl|rfl<;>decide
 generalize h-h/28*(1-h/28*(29/(h+1))*g)=i at *
 have j0:=Int.emod_nonneg (y+y/4+i+2-y/100+y/100/4) (show (7:Int)≠0 by omega)
 have j1:=Int.emod_lt_of_pos (y+y/4+i+2-y/100+y/100/4) (show (0:Int)<7 by omega)
 have hm:=eX y 2
 omega
theorem aLS {w0:World} (r:Ru) (x:Rs) (hs:zY r) (hw:0≤r.wkst∧r.wkst≤6) (n y m d:Int) (hn:nJ n) (h365:r.weekNo=[]∨365≤n) (hyy:aK n=y) (hd:1≤d∧d≤aO y m) (H:aB) (hx:cN H r x):aH prog (CB w0) 162 [.agg (aE r x),vI n,.agg [vI y,vI m,vI d]] H fun v H'=>v=vB (K.sR r n y m d)∧H'=H:=by
 refine aH.flat rfl ?_
 refine aSi (N:=93) (rs:=[.tmp 6]) Tryz.func162 ?_
 rintro e he ⟨g0,g1,g2,-⟩
 unfold aE at g0
 have hb:=hn.b
 have hlo:=hn.lo
 have hy:=hn.year
 rw[hyy] at hy
 have ml:=hx.yearDay.len 3
 have wl:=hx.weekNo.len 3
 have el:=hx.easter.len 3
 have dl:=hx.day.len 41
 have hmd:=bP y m
 have hyd:365≤K.cQ y∧K.cQ y≤366:=by unfold K.cQ;split<;>omega
 have s1:=hs.month;have s2:=hs.monthDay;have s3:=hs.yearDay;have s4:=hs.weekNo;have s5:=hs.easter;have s6:=hs.day
 unfold K.sR
 have hx':∀G1 G2,cN (H++G1++G2) r x:=fun G1 G2=>(hx.more _).more _
 simp only[go_sem,he,g0,g1,g2,hx.setPos.one,hx.month.one,hx.monthDay.one,hx.yearDay.one,hx.weekNo.one,hx.day.one,hx.hour.one,hx.minute.one,hx.second.one,hx.easter.one]
 refine bU [165,117,187,65,188] bI (by kernel_rfl) ?_
 simp only[go_sem,he,g0,g1,g2]
 refine aS (fun _=>xK r.month (by omega) m x.month _ (hx' _ _).month) ?_
 cases hq1:K.aY r.month m with
 |false=>
  simp only[go_sem,he,g0,g1,g2,aA]
  exact⟨rfl,_,rfl⟩
 |true=>
 simp only[go_sem,he,g0,g1,g2,aA]
 refine aS (fun _=>iY y m (by omega) _) ?_
 simp only[go_sem,he,g0,g1,g2,aA]
 refine aS (fun _=>wS r.monthDay (by omega) d (aO y m) (by omega) (by omega) x.monthDay _ (hx' _ _).monthDay) ?_
 cases hq2:K.eS r.monthDay d (aO y m) with
 |false=>
  simp only[go_sem,he,g0,g1,g2,aA]
  exact⟨rfl,_,rfl⟩
 |true=>
 simp only[go_sem,he,g0,g1,g2,aA,ml]
 refine bQ (fun e h=>len e=93∧AL.get e 3=.ptr H.length 0∧AL.get e 4=.ptr (H.length+1) 0∧AL.get e 5=.ptr (H.length+2) 0∧AL.get e 46=vB (!K.eS r.yearDay (n-aC y+1) (K.cQ y))∧h=H++[aD.own 25 (aE r x),aD.own 3 [vI n],aD.own 159 [vI y,vI m,vI d]]) ?_ ?_
 ·unfold aE
  cases hc:decide (0<(r.yearDay.length:Int)) with
  |true=>
   simp only[go_sem,he,g0,g1,g2]
   refine aS (fun _=>cT y (by omega) (by omega) _) ?_
   simp only[go_sem,he,g0,g1,g2,aA]
   refine aS (fun _=>yY y (by omega) _) ?_
   simp only[go_sem,he,g0,g1,g2,aA]
   rw[aJ (n:=n-aC y) (by omega),aJ (n:=n-aC y+1) (by omega)]
   refine aS (fun _=>wS r.yearDay (by omega) (n-aC y+1) (K.cQ y) (by omega) (by omega) x.yearDay _ (hx' _ _).yearDay) ?_
   simp only[go_sem,he,g0,g1,g2,aA]
  |false=>
   have hc:=odF hc
   simp only[go_sem,he,g0,g1,g2,aA]
   have:r.yearDay=[]:=List.length_eq_zero_iff.1 (by omega)
   rw[this];rfl
 clear he g0 g1 g2
 rintro e h ⟨he,g3,g4,g5,g46,rfl⟩
 simp only[go_sem,he,g3,g4,g5,g46]
 cases hq3:K.eS r.yearDay (n-aC y+1) (K.cQ y) with
 |false=>
  simp only[go_sem,he,g3,g4,g5,g46]
  exact⟨rfl,_,rfl⟩
 |true=>
 simp only[go_sem,he,g3,g4,g5,g46]
 refine bU [189,191,190,187] bI (by kernel_rfl) ?_
 unfold aE
 simp only[go_sem,he,g3,g4,g5,wl]
 refine bQ (fun e h=>len e=93∧AL.get e 3=.ptr H.length 0∧AL.get e 4=.ptr (H.length+1) 0∧AL.get e 5=.ptr (H.length+2) 0∧AL.get e 67=vB (!K.eS r.weekNo (K.wno r.wkst y n) (K.rW r.wkst y n))∧h=H++[aD.own 25 (aE r x),aD.own 3 [vI n],aD.own 159 [vI y,vI m,vI d]]) ?_ ?_
 ·unfold aE
  cases hc:decide (0<(r.weekNo.length:Int)) with
  |true=>
   have hlo:365≤n:=by
    rcases h365 with h|h
    ·rw[h] at hc;cases hc
    ·exact h
   have hwy:=yZ (n:=n) (k:=r.wkst) (by omega)
   rw[hyy] at hwy
   simp only[go_sem,he,g3,g4,g5]
   refine aS (fun _=>aLQ n r.wkst (by omega) hw _) ?_
   simp only[go_sem,he,g3,g4,g5,aA]
   refine aS (fun _=>aBv n r.wkst (by omega) hw _) ?_
   rw[hyy]
   simp only[go_sem,he,g3,g4,g5,aA]
   refine aS (fun _=>aKB _ r.wkst (by omega) hw _) ?_
   simp only[go_sem,he,g3,g4,g5,aA]
   have hwn:0≤K.wno r.wkst y n∧K.wno r.wkst y n≤1000:=by unfold K.wno;omega
   have hwa:0≤K.rW r.wkst y n∧K.rW r.wkst y n≤1000:=by
    unfold K.rW
    have:=mE (k:=r.wkst) (y:=K.i9 r.wkst y n+1)
    have:=mE (k:=r.wkst) (y:=K.i9 r.wkst y n)
    have:=dQ (K.i9 r.wkst y n)
    split at this<;>omega
   refine aS (fun _=>wS r.weekNo (by omega) (K.wno r.wkst y n) (K.rW r.wkst y n) (by omega) (by omega) x.weekNo _ (hx' _ _).weekNo) ?_
   simp only[go_sem,he,g3,g4,g5,aA]
  |false=>
   have hc:=odF hc
   simp only[go_sem,he,g3,g4,g5,aA]
   have:r.weekNo=[]:=List.length_eq_zero_iff.1 (by omega)
   rw[this];rfl
 clear he g3 g4 g5 g46
 rintro e h ⟨he,g3,g4,g5,g46,rfl⟩
 simp only[go_sem,he,g3,g4,g5,g46]
 cases hq4:K.eS r.weekNo (K.wno r.wkst y n) (K.rW r.wkst y n) with
 |false=>
  simp only[go_sem,he,g3,g4,g5,g46]
  exact⟨rfl,_,rfl⟩
 |true=>
 simp only[go_sem,he,g3,g4,g5,g46]
 refine bU [192,69] bI (by kernel_rfl) ?_
 unfold aE
 simp only[go_sem,he,g3,g4,g5,el]
 refine bQ (fun e h=>len e=93∧AL.get e 3=.ptr H.length 0∧AL.get e 4=.ptr (H.length+1) 0∧AL.get e 5=.ptr (H.length+2) 0∧AL.get e 82=vB (!(r.easter.isEmpty||r.easter.contains (n-K.cS y)))∧h=H++[aD.own 25 (aE r x),aD.own 3 [vI n],aD.own 159 [vI y,vI m,vI d]]) ?_ ?_
 ·unfold aE
  cases hc:decide (0<(r.easter.length:Int)) with
  |true=>
   have hc:=odT hc
   have hne:r.easter.isEmpty=false:=by cases hh:r.easter with|nil=>rw[hh] at hc;simp at hc|cons a l=>rfl
   simp only[go_sem,he,g3,g4,g5]
   refine aS (fun _=>aKC y (by omega) _) ?_
   simp only[go_sem,he,g3,g4,g5,aA]
   have hed:i64.wrap (n-K.cS y)=n-K.cS y:=by
    have:=aBw y
    have:=dO y
    exact aJ (by omega)
   rw[hed]
   refine aS (fun _=>gC r.easter (by omega) (n-K.cS y) x.easter _ (hx' _ _).easter) ?_
   simp only[go_sem,he,g3,g4,g5,aA]
   rw[hne,Bool.false_or]
  |false=>
   have hc:=odF hc
   simp only[go_sem,he,g3,g4,g5,aA]
   have:r.easter=[]:=List.length_eq_zero_iff.1 (by omega)
   rw[this];rfl
 clear he g3 g4 g5 g46
 rintro e h ⟨he,g3,g4,g5,g46,rfl⟩
 simp only[go_sem,he,g3,g4,g5,g46]
 cases hq5:(r.easter.isEmpty||r.easter.contains (n-K.cS y)) with
 |false=>
  simp only[go_sem,he,g3,g4,g5,g46]
  exact⟨rfl,_,rfl⟩
 |true=>
 unfold aE
 simp only[go_sem,he,g3,g4,g5,g46,dl]
 cases hc:decide ((r.day.length:Int)=0) with
 |true=>
  have hc:=odT hc
  simp only[go_sem,he,g3,g4,g5,g46]
  have:r.day=[]:=List.length_eq_zero_iff.1 (by omega)
  rw[this]
  exact⟨rfl,_,rfl⟩
 |false=>
  have hc:=odF hc
  have hne:r.day.isEmpty=false:=by cases hh:r.day with|nil=>rw[hh] at hc;simp at hc|cons a l=>rfl
  simp only[go_sem,he,g3,g4,g5,g46]
  have hfn:aIy w0 (H++[aD.own 25 (aE r x),aD.own 3 [vI n],aD.own 159 [vI y,vI m,vI d]]) 193 [.ptr H.length 0,.ptr (H.length+1) 0,.ptr (H.length+2) 0] (K.jR r n y m d) r.day:=fun w _ G=>
   aLR r x n y m d w hb (by omega) hy.2.2 hd _ G (hx.more _) H.length (H.length+1) (H.length+2) (by rw[bB];rfl) (by rw[bX];rfl) (by rw[bX];rfl)
  have hany:=aE3 r.day (by omega) x.day _ _ _ _ (hx.more _).day hfn
  unfold aE at hany
  refine aG hany (List.prefix_refl _) ?_
  simp only[go_sem,he,g3,g4,g5,g46,aA]
  rw[hne,Bool.false_or]
  exact⟨rfl,_,rfl⟩
theorem aHi {w0:World} (r:Ru) (x:Rs) (hs:zY r) (hw:0≤r.wkst∧r.wkst≤6) (n:Int) (hn:nJ n) (h365:r.weekNo=[]∨365≤n) (H:aB) (hx:cN H r x):aH prog (CB w0) 162 [.agg (aE r x),vI n,.agg [vI (aK n),vI (aL n).1,vI (aL n).2]] H fun v H'=>v=vB (K.eB r n)∧H'=H:=
 aLS r x hs hw n _ _ _ hn h365 rfl ⟨hn.day.1,hn.day.2.1⟩ H hx
def fU (r:Ru) (k:Nat):Bool:=if r.freq≤1 then decide (K.bN r k≤9999) else decide (K.aU r k<aC 10000)
theorem aE4 {k:Nat} {a:Int} {n m:Int} (hk:(k:Int)≤n) (ha:0≤a∧a≤m):0≤(k:Int)*a∧(k:Int)*a≤n*m:=by
 refine⟨Int.mul_nonneg (by omega) ha.1,Int.mul_le_mul hk ha.2 ha.1 (by omega)⟩
theorem aE5 {w0:World} (r:Ru) (x:Rs) (hw:K.WP r) (k:Nat) (hk:k≤30000) (H:aB) (hx:cN H r x):aH prog (CB w0) 75 [.agg (aE r x),vI k] H fun v H'=>v=.tup [vI (K.aU r k),vI (K.bV r k),vB (fU r k)]∧H'=H:=by
 refine aH.flat rfl ?_
 refine aSi (N:=103) (rs:=[.tmp 4,.tmp 5,.tmp 6]) Tryz.func75 ?_
 rintro e he ⟨g0,g1,-⟩
 unfold aE at g0
 have hst:=hw.start
 have hi:=hw.interval
 have hwk:=hw.wkst
 have sd:=K.pR hw
 have dn:=K.gO (n:=r.start/86400) (by omega)
 have hyo:=eW (n:=r.start/86400) (by omega)
 have hki:=aE4 (n:=30000) (m:=1000) (show (k:Int)≤30000 by omega) (show 0≤r.interval∧r.interval≤1000 by omega)
 have hyb:aK (r.start/86400)≤9000:=by
  rcases Int.lt_or_le (aK (r.start/86400)) 9001 with c|c
  ·omega
  ·have:=K.cK c
   have:aC 9001=3287182:=by decide
   omega
 simp only[go_sem,he,g0,g1,hx.setPos.one,hx.month.one,hx.monthDay.one,hx.yearDay.one,hx.weekNo.one,hx.day.one,hx.hour.one,hx.minute.one,hx.second.one,hx.easter.one]
 refine aI (mZ r.start (by omega) (by omega) _) ?_
 rintro _ _ ⟨rfl,rfl⟩
 simp only[go_sem,he,g0,g1,aA,fM]
 refine aI (xG (r.start/86400) (by omega) (by omega) _) ?_
 rintro _ _ ⟨rfl,rfl⟩
 simp only[go_sem,he,g0,g1,aA]
 obtain⟨y0,hy0⟩:∃y0,y0=aK (r.start/86400):=⟨_,rfl⟩
 obtain⟨m0,hm0⟩:∃m0,m0=(aL (r.start/86400)).1:=⟨_,rfl⟩
 rw[←hm0,←hy0] at dn
 rw[←hy0] at hyb sd
 simp only[←hy0,←hm0]
 refine aF (fun c0=>?_) fun c0=>?_
 ·have q0:r.freq=0:=by have:=odT c0;omega
  simp only[go_sem,he,g0,g1]
  have e1:K.aU r k=aC (y0+k*r.interval):=by unfold K.aU K.bN;rw[if_pos q0,if_pos q0,hy0]
  have e2:K.bV r k=aC (y0+k*r.interval+1)-1:=by unfold K.bV K.bN;rw[if_pos q0,if_pos q0,hy0]
  have e3:fU r k=decide (y0+k*r.interval≤9999):=by unfold fU K.bN;rw[if_pos (by omega),if_pos q0,hy0]
  rw[e1,e2,e3,aJ (n:=(k:Int)*r.interval) (by omega),aJ (by omega)]
  refine aI (cT (y0+k*r.interval) (by omega) (by omega) _) ?_
  rintro _ _ ⟨rfl,rfl⟩
  simp only[go_sem,he,g0,g1,aA]
  rw[aJ (n:=y0+k*r.interval+1) (by omega)]
  refine aI (cT (y0+k*r.interval+1) (by omega) (by omega) _) ?_
  rintro _ _ ⟨rfl,rfl⟩
  simp only[go_sem,he,g0,g1,aA]
  have:=dO (y0+k*r.interval+1)
  rw[aJ (by omega)]
  exact⟨rfl,_,rfl⟩
 have n0:r.freq≠0:=by have:=odF c0;omega
 simp only[go_sem,he,g0,g1]
 refine aF (fun c1=>?_) fun c1=>?_
 ·have q1:r.freq=1:=by have:=odT c1;omega
  simp only[go_sem,he,g0,g1]
  have e1:K.aU r k=aC (y0+(m0-1+k*r.interval)/12)+bA (y0+(m0-1+k*r.interval)/12) ((m0-1+k*r.interval)%12+1-1).toNat:=by unfold K.aU K.bN K.cJ K.dA;rw[if_neg n0,if_pos q1,if_neg n0,hy0,hm0]
  have e2:K.bV r k=K.aU r k+aO (y0+(m0-1+k*r.interval)/12) ((m0-1+k*r.interval)%12+1)-1:=by
   conv=>lhs;unfold K.bV K.bN K.cJ K.dA;rw[if_neg n0,if_pos q1,if_neg n0,←hy0,←hm0]
  have e3:fU r k=decide (y0+(m0-1+k*r.interval)/12≤9999):=by unfold fU K.bN K.dA;rw[if_pos (by omega),if_neg n0,hy0,hm0]
  rw[e2,e1,e3]
  rw[aJ (n:=m0-1) (by omega),aJ (n:=(k:Int)*r.interval) (by omega),aJ (n:=m0-1+k*r.interval) (by omega),Int.tdiv_eq_ediv_of_nonneg (by omega),Int.tmod_eq_emod_of_nonneg (by omega)]
  obtain⟨M,hM⟩:∃M:Int,M=m0-1+k*r.interval:=⟨_,rfl⟩
  rw[←hM]
  have hMb:0≤M∧M≤30000011:=by omega
  rw[aJ (n:=M/12) (by omega),aJ (n:=y0+M/12) (by omega),aJ (n:=M%12+1) (by omega)]
  refine aI (aC2 (y0+M/12) (M%12+1) 1 (by omega) (by omega) (by omega) _) ?_
  rintro _ _ ⟨rfl,rfl⟩
  simp only[go_sem,he,g0,g1,aA]
  refine aI (iY (y0+M/12) (M%12+1) (by omega) _) ?_
  rintro _ _ ⟨rfl,rfl⟩
  simp only[go_sem,he,g0,g1,aA]
  have:=dO (y0+M/12)
  have:=bP (y0+M/12) (M%12+1)
  have:=eX (y0+M/12) (M%12+1-1).toNat
  rw[show aC (y0+M/12)+bA (y0+M/12) (M%12+1-1).toNat+1-1=aC (y0+M/12)+bA (y0+M/12) (M%12+1-1).toNat by omega]
  rw[aJ (n:=aC (y0+M/12)+bA (y0+M/12) (M%12+1-1).toNat+aO (y0+M/12) (M%12+1)) (by omega),aJ (by omega)]
  exact⟨rfl,_,rfl⟩
 have n1:r.freq≠1:=by have:=odF c1;omega
 have e3:fU r k=decide (K.aU r k<aC 10000):=by unfold fU;rw[if_neg (by omega)]
 rw[e3]
 simp only[go_sem,he,g0,g1]
 have b1:aC 10000=3652059:=by decide
 refine aF (fun c2=>?_) fun c2=>?_
 ·have q2:r.freq=2:=by have:=odT c2;omega
  simp only[go_sem,he,g0,g1]
  have e1:K.aU r k=r.start/86400-(r.start/86400%7-r.wkst+7)%7+7*k*r.interval:=by unfold K.aU;rw[if_neg n0,if_neg n1,if_pos q2]
  have e2:K.bV r k=K.aU r k+6:=by conv=>lhs;unfold K.bV;rw[if_neg n0,if_neg n1,if_pos q2]
  rw[e2,e1]
  refine bU [106] bI (by kernel_rfl) ?_
  simp only[go_sem,he,g0,g1]
  refine aS (fun _=>nI (r.start/86400) (by omega) _) ?_
  simp only[go_sem,he,g0,g1,aA]
  rw[aJ (n:=r.start/86400%7-r.wkst) (by omega),aJ (n:=r.start/86400%7-r.wkst+7) (by omega),Int.tmod_eq_emod_of_nonneg (by omega),aJ (n:=r.start/86400-(r.start/86400%7-r.wkst+7)%7) (by omega),aJ (n:=7*(k:Int)) (by omega)]
  have e7:7*(k:Int)*r.interval=7*(k*r.interval):=Int.mul_assoc _ _ _
  rw[aJ (n:=7*(k:Int)*r.interval) (by omega),aJ (by omega)]
  refine aI (cT 10000 (by omega) (by omega) _) ?_
  rintro _ _ ⟨rfl,rfl⟩
  simp only[go_sem,he,g0,g1,aA]
  rw[aJ (by omega)]
  exact⟨rfl,_,rfl⟩
 have n2:r.freq≠2:=by have:=odF c2;omega
 have e1:K.aU r k=r.start/86400+k*r.interval:=by unfold K.aU;rw[if_neg n0,if_neg n1,if_neg n2]
 have e2:K.bV r k=K.aU r k:=by conv=>lhs;unfold K.bV;rw[if_neg n0,if_neg n1,if_neg n2]
 rw[e2,e1]
 simp only[go_sem,he,g0,g1]
 rw[aJ (n:=(k:Int)*r.interval) (by omega),aJ (by omega)]
 refine aI (cT 10000 (by omega) (by omega) _) ?_
 rintro _ _ ⟨rfl,rfl⟩
 simp only[go_sem,he,g0,g1,aA]
 exact⟨_,rfl⟩
def Sec (H h:aB) (x:AV) (L:List Int):Prop:=GrN 2 1 H h x L.length (L.map vI)
theorem Sec.one {H h:aB} {x:AV} {L:List Int} (s:Sec H h x L):x.one=true:=by
 obtain⟨-,-,⟨rfl,-⟩|⟨o,rfl,-⟩⟩:=s<;>rfl
theorem Sec.len {H h:aB} {x:AV} {L:List Int} (s:Sec H h x L) (t:Nat):lenK (some (.slice t)) x=some (vI L.length):=by
 obtain⟨-,-,⟨rfl,e⟩|⟨o,rfl,-⟩⟩:=s
 ·rw[e];rfl
 ·rfl
theorem Sec.push {H h:aB} {x:AV} {L:List Int} (s:Sec H h x L) (t:Int) (hl:L.length≤100000000):∃x' h',cW prog 27 x (.sl true h.length 0 1 1) (h++[aD.own 2 [vI t]])=some (x',h')∧Sec H h' x' (L++[t]):=by
 obtain⟨x',h',a,b,-⟩:=GrN.push aBT (by decide) s (c:=[vI t]) rfl rfl hl
 exact⟨x',h',a,by unfold Sec;rw[List.length_append,List.map_append];exact b⟩
theorem Sec.more {H h:aB} {x:AV} {L:List Int} (s:Sec H h x L) (G:aB):Sec H (h++G) x L:=GrN.more s G
theorem Sec.swap {H P G:aB} {a b:aD} {x:AV} {L:List Int} (s:Sec (H++(P++[a])) (H++(P++a::G)) x L):Sec (H++(P++[b])) (H++(P++b::G)) x L:=by
 obtain⟨-,h2,h3⟩:=s
 refine⟨⟨G,by simp⟩,h2,?_⟩
 rcases h3 with h3|⟨o,h3,h4,h5⟩
 ·exact .inl h3
 ·simp only[List.length_append,List.length_cons,List.length_nil] at h5
  refine .inr ⟨o,h3,?_,by simpa using h5⟩
  rw[List.getElem?_append_right (by omega),List.getElem?_append_right (by omega)] at h4 ⊢
  obtain⟨j,hj⟩:∃j,o-H.length-P.length=j+1:=⟨o-H.length-P.length-1,by omega⟩
  rw[hj] at h4 ⊢
  simpa using h4
theorem Sec.front {H h:aB} {x:AV} {L:List Int} (s:Sec H h x L):∃G,h=H++G:=s.1
theorem Sec.weak {H G h:aB} {x:AV} {L:List Int} (s:Sec (H++G) h x L):Sec H h x L:=GrN.over ⟨G,rfl⟩ s
theorem aIA {n:Int} (h:0≤n):(aK (n+1),aL (n+1))=if aO (aK n) (aL n).1<(aL n).2+1 then (if 12<(aL n).1+1 then (aK n+1,(1,1)) else (aK n,((aL n).1+1,1))) else (aK n,((aL n).1,(aL n).2+1)):=by
 have dn:=K.gO h
 have hy:=eW h
 generalize hY:aK n=y at *
 generalize hM:(aL n).1=m at *
 generalize hD:(aL n).2=d at *
 have hp:=bP y m
 obtain⟨d1,d2,d3,d4,d5⟩:=dn
 unfold K.bR at d5
 have key:∀y' m' d':Int,1≤y'→1≤m'∧m'≤12→1≤d'∧d'≤aO y' m'→n+1=aC y'+bA y' (m'-1).toNat+(d'-1)→(aK (n+1),aL (n+1))=(y',(m',d')):=by
  intro y' m' d' h1 h2 h3 h4
  have hc:=K.aIb h1 h2 h3
  unfold K.bR at hc
  rw[show aC y'+bA y' (m'-1).toNat+d'-1=n+1 by omega] at hc
  rw[hc.1,hc.2]
 split
 ·split
  ·have hm:m=12:=by omega
   subst hm
   refine key _ _ _ (by omega) (by omega) ⟨by omega,by have:=bP (y+1) 1;omega⟩ ?_
   have e3:=K.sS y
   have e4:bA y 12=bA y 11+aO y (11+1):=rfl
   rw[dQ]
   have e5:((12:Int)-1).toNat=11:=rfl
   rw[e5] at d5
   unfold K.cQ at e3
   have e6:(11:Int)+1=12:=rfl
   rw[e6] at e4
   show _=_+bA (y+1) 0+_
   rw[show bA (y+1) 0=0 from rfl]
   split at e3<;>rename_i hl<;>simp only[hl,if_true,if_false,Bool.false_eq_true]<;>omega
  ·refine key _ _ _ (by omega) (by omega) ⟨by omega,by have:=bP y (m+1);omega⟩ ?_
   have e2:(m+1-1).toNat=(m-1).toNat+1:=by omega
   rw[e2]
   show _=_+(bA y (m-1).toNat+aO y (((m-1).toNat:Int)+1))+_
   rw[show (((m-1).toNat:Int)+1)=m by omega]
   omega
 ·exact key _ _ _ (by omega) (by omega) (by omega) (by omega)
structure RW (r:Ru):Prop where
 wp:K.WP r
 sm:zY r
 hourN:r.hour.Nodup
 minuteN:r.minute.Nodup
 secondN:r.second.Nodup
 hourL:r.hour.length≤12
 minuteL:r.minute.length≤12
 secondL:r.second.length≤12
 hour:r.freq<4→r.hour≠[]
 minute:r.freq<5→r.minute≠[]
 second:r.freq<6→r.second≠[]
 weekNo:r.weekNo≠[]→r.freq=0
def f1 (r:Ru) (n h:Int):List Int:=(K.srt r.minute).flatMap fun m=>(K.srt r.second).map fun s=>n*86400+h*3600+m*60+s
theorem aLT (r:Ru) (n:Int):((K.srt r.hour).flatMap fun h=>f1 r n h)=(K.times r).map fun t=>n*86400+t:=by
 unfold K.times f1
 rw[List.map_flatMap]
 congr 1;funext h
 rw[List.map_flatMap]
 congr 1;funext m
 rw[List.map_map]
 congr 1;funext s
 show _=n*86400+(h*3600+m*60+s)
 omega
theorem aE6 {r:Ru} (hw:K.WP r) (k:Nat) (hk:k≤30000) (hf:r.freq<4):0≤K.aU r k∧K.aU r k≤90000000000∧K.aU r k≤K.bV r k∧K.bV r k≤K.aU r k+366∧300≤K.aU r k∧(r.freq=0→365≤K.aU r k)∧(fU r k=true→K.bV r k<aC 10500):=by
 have hst:=hw.start
 have hi:=hw.interval
 have hwk:=hw.wkst
 have sd:=K.pR hw
 have dn:=K.gO (n:=r.start/86400) (by omega)
 have hki:=aE4 (n:=30000) (m:=1000) (show (k:Int)≤30000 by omega) (show 0≤r.interval∧r.interval≤1000 by omega)
 have hyb:aK (r.start/86400)≤9000:=by
  rcases Int.lt_or_le (aK (r.start/86400)) 9001 with c|c
  ·omega
  ·have:=K.cK c
   have:aC 9001=3287182:=by decide
   omega
 have hn:=(K.t8 hw hf k).1
 have b1:aC 10000=3652059:=by decide
 have b2:aC 10500=3834681:=by decide
 have b3:aC 2=365:=by decide
 have hb:∀y:Int,1≤y→y≤40000000→0≤aC y∧aC y≤20000000000:=fun y h1 h2=>by have:=dO y;have:=dG h1;omega
 have hl:∀y:Int,aC (y+1)≤aC y+366:=fun y=>by rw[dQ];split<;>omega
 have hlow:=K.nV hw k
 unfold K.dY at hlow
 rw[if_pos hf] at hlow
 rcases (show r.freq=0∨r.freq=1∨r.freq=2∨r.freq=3 by omega) with q|q|q|q
 ·have e1:K.aU r k=aC (aK (r.start/86400)+k*r.interval):=by unfold K.aU K.bN;rw[if_pos q,if_pos q]
  have e2:K.bV r k=aC (aK (r.start/86400)+k*r.interval+1)-1:=by unfold K.bV K.bN;rw[if_pos q,if_pos q]
  have e3:fU r k=decide (aK (r.start/86400)+k*r.interval≤9999):=by unfold fU K.bN;rw[if_pos (by omega),if_pos q]
  have h2:=K.cK (show (2:Int)≤aK (r.start/86400)+k*r.interval by omega)
  have h3:=hb (aK (r.start/86400)+k*r.interval) (by omega) (by omega)
  have h4:=hl (aK (r.start/86400)+k*r.interval)
  rw[e3,decide_eq_true_eq]
  refine⟨by omega,by omega,by omega,by omega,by omega,fun _=>by omega,fun h=>?_⟩
  have:=K.cK (show aK (r.start/86400)+k*r.interval+1≤10000 by omega)
  omega
 ·have e1:K.aU r k=aC (aK (r.start/86400)+((aL (r.start/86400)).1-1+k*r.interval)/12)+bA (aK (r.start/86400)+((aL (r.start/86400)).1-1+k*r.interval)/12) (((aL (r.start/86400)).1-1+k*r.interval)%12+1-1).toNat:=by unfold K.aU K.bN K.cJ K.dA;rw[if_neg (by omega),if_pos q,if_neg (by omega)]
  have e2:K.bV r k=K.aU r k+aO (K.bN r k) (K.cJ r k)-1:=by
   conv=>lhs;unfold K.bV;rw[if_neg (by omega),if_pos q]
  have e3:fU r k=decide (aK (r.start/86400)+((aL (r.start/86400)).1-1+k*r.interval)/12≤9999):=by unfold fU K.bN K.dA;rw[if_pos (by omega),if_neg (by omega)]
  have m1:=bP (K.bN r k) (K.cJ r k)
  have h2:=K.cK (show (2:Int)≤aK (r.start/86400)+((aL (r.start/86400)).1-1+k*r.interval)/12 by omega)
  have h3:=hb (aK (r.start/86400)+((aL (r.start/86400)).1-1+k*r.interval)/12) (by omega) (by omega)
  have h4:=eX (aK (r.start/86400)+((aL (r.start/86400)).1-1+k*r.interval)/12) (((aL (r.start/86400)).1-1+k*r.interval)%12+1-1).toNat
  rw[e3,decide_eq_true_eq]
  refine⟨by omega,by omega,by omega,by omega,by omega,fun _=>by omega,fun h=>?_⟩
  have:=K.cK (show aK (r.start/86400)+((aL (r.start/86400)).1-1+k*r.interval)/12≤9999 by omega)
  have:aC 9999=3651694:=by decide
  omega
 ·have e1:K.aU r k=r.start/86400-(r.start/86400%7-r.wkst+7)%7+7*k*r.interval:=by unfold K.aU;rw[if_neg (by omega),if_neg (by omega),if_pos q]
  have e2:K.bV r k=K.aU r k+6:=by conv=>lhs;unfold K.bV;rw[if_neg (by omega),if_neg (by omega),if_pos q]
  have e3:fU r k=decide (K.aU r k<aC 10000):=by unfold fU;rw[if_neg (by omega)]
  have e7:7*(k:Int)*r.interval=7*(k*r.interval):=Int.mul_assoc _ _ _
  rw[e3,decide_eq_true_eq]
  exact⟨by omega,by omega,by omega,by omega,by omega,fun _=>by omega,fun h=>by omega⟩
 ·have e1:K.aU r k=r.start/86400+k*r.interval:=by unfold K.aU;rw[if_neg (by omega),if_neg (by omega),if_neg (by omega)]
  have e2:K.bV r k=K.aU r k:=by conv=>lhs;unfold K.bV;rw[if_neg (by omega),if_neg (by omega),if_neg (by omega)]
  have e3:fU r k=decide (K.aU r k<aC 10000):=by unfold fU;rw[if_neg (by omega)]
  rw[e3,decide_eq_true_eq]
  exact⟨by omega,by omega,by omega,by omega,by omega,fun _=>by omega,fun h=>by omega⟩
set_option maxHeartbeats 4000000 in
theorem aLU {w0:World} {r:Ru} {x:Rs} (hr:RW r) (hf:r.freq<4) (k:Nat) (hk:k≤30000) (H:aB) (hx:cN H r x) :
  aH prog (CB w0) 113 [.agg (aE r x),vI k] H fun v H'=>∃y L,v=.tup [y,vB (fU r k)]∧Sec H H' y L∧(fU r k=true→L=K.kG r k∨2000<L.length)∧(fU r k=false→L=[]):=by
 refine aSi (N:=119) (rs:=[.tmp 4,.tmp 5]) Tryz.func113 ?_
 rintro e he ⟨g0,g1,-⟩
 have hw:=hr.wp
 have hlh:=K.p7 hr.hourN
 have hlm:=K.p7 hr.minuteN
 have hls:=K.p7 hr.secondN
 have b1:=hr.hourL;have b2:=hr.minuteL;have b3:=hr.secondL
 have rh:=hw.hour;have rm:=hw.minute;have rs:=hw.second
 unfold aE at g0
 simp only[go_sem,he,g0,g1,hx.setPos.one,hx.month.one,hx.monthDay.one,hx.yearDay.one,hx.weekNo.one,hx.day.one,hx.hour.one,hx.minute.one,hx.second.one,hx.easter.one]
 have hp:=aE5 (w0:=w0) r x hw k hk _ (hx.more [.own 25 (aE r x)])
 unfold aE at hp
 refine aI hp ?_
 rintro _ _ ⟨rfl,rfl⟩
 simp only[go_sem,he,g0,g1,aA]
 refine bF bI (by kernel_rfl) ?_
 simp only[go_sem,he,g0,g1]
 refine aG (pB r.hour hr.hourN b1 (hr.hour hf) x.hour _ (hx.more _).hour) (List.prefix_append _ _) ?_
 simp only[go_sem,he,g0,g1,aA]
 refine aG (pB r.minute hr.minuteN b2 (hr.minute (by omega)) x.minute _ (hx.more _).minute) (List.prefix_append _ _) ?_
 simp only[go_sem,he,g0,g1,aA]
 refine aG (pB r.second hr.secondN b3 (hr.second (by omega)) x.second _ (hx.more _).second) (List.prefix_append _ _) ?_
 simp only[go_sem,he,g0,g1,aA]
 have hper:=aE6 hw k hk hf
 refine aI (xG (max (K.aU r k) 0) (by omega) (by omega) _) ?_
 rintro _ _ ⟨rfl,rfl⟩
 simp only[go_sem,he,g0,g1,aA,List.replicate]
 rw[show max (K.aU r k) 0=K.aU r k by omega]
 obtain⟨la,hla⟩:∃la,la=K.bV r k:=⟨_,rfl⟩
 obtain⟨ok,hok⟩:∃ok,ok=fU r k:=⟨_,rfl⟩
 obtain⟨fi,hfi⟩:∃fi,fi=K.aU r k:=⟨_,rfl⟩
 have hU:K.kG r k=((K.kF fi la).filter (K.eB r)).flatMap fun n=>(K.times r).map fun t=>n*86400+t:=by rw[hfi,hla];rfl
 rw[hU]
 simp only[←hla,←hok,←hfi] at hper ⊢
 refine cF (la-fi+2).toNat (fun k2 e h=>len e=119∧AL.get e 2=.ptr H.length 0∧AL.get e 7=vI la∧AL.get e 8=vB ok∧AL.get e 10=.sl true (H.length+2) 0 r.hour.length 1∧AL.get e 11=.sl true (H.length+4) 0 r.minute.length 1∧AL.get e 12=.sl true (H.length+6) 0 r.second.length 1∧AL.get e 13=.ptr (H.length+7) 0∧∃(n:Int) (y:AV) (L:List Int) (G:aB),AL.get e 9=y∧AL.get e 14=vI n∧fi≤n∧n≤la+1∧k2=(la-n+2).toNat∧h=H++(aD.own 25 (aE r x)::aD.gone::aD.own 3 ((K.srt r.hour).map vI)::aD.gone::aD.own 3 ((K.srt r.minute).map vI)::aD.gone::aD.own 3 ((K.srt r.second).map vI)::aD.own 159 [vI (aK n),vI (aL n).1,vI (aL n).2]::G)∧Sec (H++[aD.own 25 (aE r x),aD.gone,aD.own 3 ((K.srt r.hour).map vI),aD.gone,aD.own 3 ((K.srt r.minute).map vI),aD.gone,aD.own 3 ((K.srt r.second).map vI),aD.own 159 [vI (aK n),vI (aL n).1,vI (aL n).2]]) h y L∧(ok=false→L=[])∧L=((K.kF fi (n-1)).filter (K.eB r)).flatMap fun n=>(K.times r).map fun t=>n*86400+t) (by kernel_rfl) ?_ ?_
 ·simp only[go_sem,he,g0,g1]
  unfold aE
  refine⟨fi,aP,[],[],rfl,rfl,by omega,by omega,rfl,rfl,⟨⟨[],by simp⟩,by simp,.inl ⟨rfl,rfl⟩⟩,fun _=>rfl,?_⟩
  rw[K.aEG (by omega)];rfl
 ·clear he g0 g1
  rintro k2 e h ⟨he,g2,g7,g8,g10,g11,g12,g13,n,y,L,G,g9,g14,hn1,hn2,hk2,rfl,hs,hok0,hL⟩
  have y1:=hs.one
  have yl:=hs.len 2
  simp only[go_sem,he,g2,g7,g8,g10,g11,g12,g13,g14,g9]
  refine bQ (fun e h=>len e=119∧AL.get e 2=.ptr H.length 0∧AL.get e 7=vI la∧AL.get e 8=vB ok∧AL.get e 10=.sl true (H.length+2) 0 r.hour.length 1∧AL.get e 11=.sl true (H.length+4) 0 r.minute.length 1∧AL.get e 12=.sl true (H.length+6) 0 r.second.length 1∧AL.get e 13=.ptr (H.length+7) 0∧AL.get e 14=vI n∧AL.get e 9=y∧AL.get e 53=vB (decide (n≤la)&&ok&&decide ((L.length:Int)≤2000))∧h=H++(aD.own 25 (aE r x)::aD.gone::aD.own 3 ((K.srt r.hour).map vI)::aD.gone::aD.own 3 ((K.srt r.minute).map vI)::aD.gone::aD.own 3 ((K.srt r.second).map vI)::aD.own 159 [vI (aK n),vI (aL n).1,vI (aL n).2]::G)) ?_ ?_
  ·cases hc:decide (n≤la) with
   |false=>simp only[go_sem,he,g2,g7,g8,g10,g11,g12,g13,g14,g9];rfl
   |true=>
    cases ok with
    |false=>simp only[go_sem,he,g2,g7,g8,g10,g11,g12,g13,g14,g9];rfl
    |true=>simp only[go_sem,he,g2,g7,g8,g10,g11,g12,g13,g14,g9,yl];rfl
  clear he g2 g7 g8 g10 g11 g12 g13 g14 g9
  rintro e h ⟨he,g2,g7,g8,g10,g11,g12,g13,g14,g9,g53,rfl⟩
  simp only[go_sem,he,g2,g7,g8,g10,g11,g12,g13,g14,g9,g53]
  refine aF (fun hc=>?_) fun hc=>?_
  ·rw[Bool.and_eq_true,Bool.and_eq_true,decide_eq_true_eq,decide_eq_true_eq] at hc
   obtain⟨⟨hnla,rfl⟩,hLl⟩:=hc
   have hnd:nJ n:=⟨by omega,by have:=hper.2.2.2.2.2.2 rfl;omega⟩
   have hnb:=hnd.b
   have hyb:=hnd.year
   have hdb:=hnd.day
   have hnx:=aIA hnb.1
   have mdp:=bP (aK n) (aL n).1
   simp only[go_sem,he,g2,g7,g8,g10,g11,g12,g13,g14,g9,List.replicate]
   rw[aJ (n:=(aL n).2+1) (by omega)]
   refine bU [117] bI (by kernel_rfl) ?_
   simp only[go_sem,he,g2,g7,g8,g10,g11,g12,g13,g14,g9,List.replicate]
   refine aS (fun _=>iY (aK n) (aL n).1 (by omega) _) ?_
   simp only[go_sem,he,g2,g7,g8,g10,g11,g12,g13,g14,g9,aA]
   refine bC (fun e h=>len e=119∧AL.get e 2=.ptr H.length 0∧AL.get e 7=vI la∧AL.get e 8=vB true∧AL.get e 10=.sl true (H.length+2) 0 r.hour.length 1∧AL.get e 11=.sl true (H.length+4) 0 r.minute.length 1∧AL.get e 12=.sl true (H.length+6) 0 r.second.length 1∧AL.get e 13=.ptr (H.length+7) 0∧AL.get e 14=vI n∧AL.get e 9=y∧AL.get e 15=.ptr (H.length+(G.length+1+1+1+1+1+1+1+1)) 0∧h=H++(aD.own 25 (aE r x)::aD.gone::aD.own 3 ((K.srt r.hour).map vI)::aD.gone::aD.own 3 ((K.srt r.minute).map vI)::aD.gone::aD.own 3 ((K.srt r.second).map vI)::aD.own 159 [vI (aK (n+1)),vI (aL (n+1)).1,vI (aL (n+1)).2]::(G++[aD.own 159 [vI (aK n),vI (aL n).1,vI (aL n).2]]))) (fun hc=>?_) (fun hc=>?_) ?_
   ·rw[if_pos (odT hc)] at hnx
    simp only[go_sem,he,g2,g7,g8,g10,g11,g12,g13,g14,g9]
    rw[aJ (n:=(aL n).1+1) (by omega)]
    refine aF (fun hq=>?_) fun hq=>?_
    ·rw[if_pos (odT hq)] at hnx
     obtain⟨n1,n2⟩:=Prod.mk.inj hnx
     simp only[go_sem,he,g2,g7,g8,g10,g11,g12,g13,g14,g9]
     rw[aJ (by omega),n1,n2]
    ·rw[if_neg (odF hq)] at hnx
     obtain⟨n1,n2⟩:=Prod.mk.inj hnx
     simp only[go_sem,he,g2,g7,g8,g10,g11,g12,g13,g14,g9]
     rw[n1,n2]
   ·rw[if_neg (odF hc)] at hnx
    obtain⟨n1,n2⟩:=Prod.mk.inj hnx
    simp only[go_sem,he,g2,g7,g8,g10,g11,g12,g13,g14,g9]
    rw[n1,n2]
   clear he g2 g7 g8 g10 g11 g12 g13 g14 g9 g53
   rintro e h ⟨he,g2,g7,g8,g10,g11,g12,g13,g14,g9,g15,rfl⟩
   have l18:(aE r x).length=18:=rfl
   have t18:(aE r x).take 18=aE r x:=rfl
   simp only[go_sem,he,g2,g7,g8,g10,g11,g12,g13,g14,g9,g15,l18,t18]
   refine aI (aHi r x hr.sm hw.wkst n hnd (by by_cases hwn:r.weekNo=[];exact .inl hwn;exact .inr (by have:=hper.2.2.2.2.2.1 (hr.weekNo hwn);omega)) _ (hx.more _)) ?_
   rintro _ _ ⟨rfl,rfl⟩
   simp only[go_sem,he,g2,g7,g8,g10,g11,g12,g13,g14,g9,g15,aA]
   have hs1:Sec (H++[aD.own 25 (aE r x),aD.gone,aD.own 3 ((K.srt r.hour).map vI),aD.gone,aD.own 3 ((K.srt r.minute).map vI),aD.gone,aD.own 3 ((K.srt r.second).map vI),aD.own 159 [vI (aK (n+1)),vI (aL (n+1)).1,vI (aL (n+1)).2]]) (H++(aD.own 25 (aE r x)::aD.gone::aD.own 3 ((K.srt r.hour).map vI)::aD.gone::aD.own 3 ((K.srt r.minute).map vI)::aD.gone::aD.own 3 ((K.srt r.second).map vI)::aD.own 159 [vI (aK (n+1)),vI (aL (n+1)).1,vI (aL (n+1)).2]::(G++[aD.own 159 [vI (aK n),vI (aL n).1,vI (aL n).2]]))) y L:=by
    have h1:=(Sec.swap (P:=[aD.own 25 (aE r x),aD.gone,aD.own 3 ((K.srt r.hour).map vI),aD.gone,aD.own 3 ((K.srt r.minute).map vI),aD.gone,aD.own 3 ((K.srt r.second).map vI)]) (b:=aD.own 159 [vI (aK (n+1)),vI (aL (n+1)).1,vI (aL (n+1)).2]) hs).more [aD.own 159 [vI (aK n),vI (aL n).1,vI (aL n).2]]
    rw[List.append_assoc] at h1
    exact h1
   refine aF (fun hst=>?_) fun hst=>?_
   ·rw[Bool.not_eq_true'] at hst
    simp only[go_sem,he,g2,g7,g8,g10,g11,g12,g13,g14,g9,g15]
    rw[aJ (by omega)]
    refine⟨(la-(n+1)+2).toNat,by omega,n+1,y,L,_,rfl,rfl,by omega,by omega,rfl,rfl,hs1, (fun h=>by cases h),?_⟩
    rw[show n+1-1=n by omega,K.wB hn1,List.filter_append,List.flatMap_append,←hL]
    simp[hst]
   ·rw[Bool.not_eq_false'] at hst
    simp only[go_sem,he,g2,g7,g8,g10,g11,g12,g13,g14,g9,g15]
    refine bG r.hour.length (fun k e h=>len e=119∧AL.get e 2=.ptr H.length 0∧AL.get e 7=vI la∧AL.get e 8=vB true∧AL.get e 10=.sl true (H.length+2) 0 r.hour.length 1∧AL.get e 11=.sl true (H.length+4) 0 r.minute.length 1∧AL.get e 12=.sl true (H.length+6) 0 r.second.length 1∧AL.get e 13=.ptr (H.length+7) 0∧AL.get e 14=vI n∧AL.get e 87=.sl true (H.length+2) 0 r.hour.length 1∧AL.get e 88=vI r.hour.length∧∃(i:Nat) (y:AV) (L1:List Int) (G:aB),AL.get e 89=vI i∧i+k=r.hour.length∧AL.get e 9=y∧h=H++(aD.own 25 (aE r x)::aD.gone::aD.own 3 ((K.srt r.hour).map vI)::aD.gone::aD.own 3 ((K.srt r.minute).map vI)::aD.gone::aD.own 3 ((K.srt r.second).map vI)::aD.own 159 [vI (aK (n+1)),vI (aL (n+1)).1,vI (aL (n+1)).2]::G)∧Sec (H++[aD.own 25 (aE r x),aD.gone,aD.own 3 ((K.srt r.hour).map vI),aD.gone,aD.own 3 ((K.srt r.minute).map vI),aD.gone,aD.own 3 ((K.srt r.second).map vI),aD.own 159 [vI (aK (n+1)),vI (aL (n+1)).1,vI (aL (n+1)).2]]) h y L1∧L1=L++((K.srt r.hour).take i).flatMap (f1 r n)∧L1.length≤2000+200*i) (fun e h=>len e=119∧AL.get e 2=.ptr H.length 0∧AL.get e 7=vI la∧AL.get e 8=vB true∧AL.get e 10=.sl true (H.length+2) 0 r.hour.length 1∧AL.get e 11=.sl true (H.length+4) 0 r.minute.length 1∧AL.get e 12=.sl true (H.length+6) 0 r.second.length 1∧AL.get e 13=.ptr (H.length+7) 0∧AL.get e 14=vI n∧∃(y:AV) (G:aB),AL.get e 9=y∧h=H++(aD.own 25 (aE r x)::aD.gone::aD.own 3 ((K.srt r.hour).map vI)::aD.gone::aD.own 3 ((K.srt r.minute).map vI)::aD.gone::aD.own 3 ((K.srt r.second).map vI)::aD.own 159 [vI (aK (n+1)),vI (aL (n+1)).1,vI (aL (n+1)).2]::G)∧Sec (H++[aD.own 25 (aE r x),aD.gone,aD.own 3 ((K.srt r.hour).map vI),aD.gone,aD.own 3 ((K.srt r.minute).map vI),aD.gone,aD.own 3 ((K.srt r.second).map vI),aD.own 159 [vI (aK (n+1)),vI (aL (n+1)).1,vI (aL (n+1)).2]]) h y (L++(K.times r).map fun t=>n*86400+t)) (by kernel_rfl) ?_ ?_ ?_
    ·simp only[go_sem,he,g2,g7,g8,g10,g11,g12,g13,g14,g9,g15]
     exact⟨0,y,L,_,rfl,by omega,rfl,rfl,hs1,by simp,by omega⟩
    ·clear he g2 g7 g8 g10 g11 g12 g13 g14 g9 g15
     rintro k e h ⟨he,g2,g7,g8,g10,g11,g12,g13,g14,g87,g88,i,y,L1,G,g89,hik,g9,rfl,hs,hL1,hLb⟩
     simp only[go_sem,he,g2,g7,g8,g10,g11,g12,g13,g14,g9,g87,g88,g89]
     refine aF (fun hc=>?_) fun hc=>?_
     ·have hc:=odT hc
      have d1:=qK (K.srt r.hour) (i:=i) (by omega)
      have hsn:=eE (l:=K.srt r.hour) (i:=i) (by omega)
      have hh:=rh _ (K.gJ.1 (by rw[List.getD_eq_getElem?_getD,List.getElem?_eq_getElem (show i<(K.srt r.hour).length by omega)];exact List.getElem_mem _):(K.srt r.hour).getD i 0∈r.hour)
      simp only[go_sem,he,g2,g7,g8,g10,g11,g12,g13,g14,g9,g87,g88,g89,Int.toNat_natCast,d1]
      refine⟨by omega,?_⟩
      generalize (K.srt r.hour).getD i 0=hh0 at *
      refine bG r.minute.length (fun k e h=>len e=119∧AL.get e 2=.ptr H.length 0∧AL.get e 7=vI la∧AL.get e 8=vB true∧AL.get e 10=.sl true (H.length+2) 0 r.hour.length 1∧AL.get e 11=.sl true (H.length+4) 0 r.minute.length 1∧AL.get e 12=.sl true (H.length+6) 0 r.second.length 1∧AL.get e 13=.ptr (H.length+7) 0∧AL.get e 14=vI n∧AL.get e 87=.sl true (H.length+2) 0 r.hour.length 1∧AL.get e 88=vI r.hour.length∧AL.get e 89=vI i∧AL.get e 17=vI hh0∧AL.get e 93=.sl true (H.length+4) 0 r.minute.length 1∧AL.get e 94=vI r.minute.length∧∃(j:Nat) (y:AV) (L2:List Int) (G:aB),AL.get e 95=vI j∧j+k=r.minute.length∧AL.get e 9=y∧h=H++(aD.own 25 (aE r x)::aD.gone::aD.own 3 ((K.srt r.hour).map vI)::aD.gone::aD.own 3 ((K.srt r.minute).map vI)::aD.gone::aD.own 3 ((K.srt r.second).map vI)::aD.own 159 [vI (aK (n+1)),vI (aL (n+1)).1,vI (aL (n+1)).2]::G)∧Sec (H++[aD.own 25 (aE r x),aD.gone,aD.own 3 ((K.srt r.hour).map vI),aD.gone,aD.own 3 ((K.srt r.minute).map vI),aD.gone,aD.own 3 ((K.srt r.second).map vI),aD.own 159 [vI (aK (n+1)),vI (aL (n+1)).1,vI (aL (n+1)).2]]) h y L2∧L2=L1++((K.srt r.minute).take j).flatMap (fun m=>(K.srt r.second).map fun s=>n*86400+hh0*3600+m*60+s)∧L2.length≤L1.length+13*j) (fun e h=>len e=119∧AL.get e 2=.ptr H.length 0∧AL.get e 7=vI la∧AL.get e 8=vB true∧AL.get e 10=.sl true (H.length+2) 0 r.hour.length 1∧AL.get e 11=.sl true (H.length+4) 0 r.minute.length 1∧AL.get e 12=.sl true (H.length+6) 0 r.second.length 1∧AL.get e 13=.ptr (H.length+7) 0∧AL.get e 14=vI n∧AL.get e 87=.sl true (H.length+2) 0 r.hour.length 1∧AL.get e 88=vI r.hour.length∧AL.get e 89=vI i∧∃(y:AV) (L2:List Int) (G:aB),AL.get e 9=y∧h=H++(aD.own 25 (aE r x)::aD.gone::aD.own 3 ((K.srt r.hour).map vI)::aD.gone::aD.own 3 ((K.srt r.minute).map vI)::aD.gone::aD.own 3 ((K.srt r.second).map vI)::aD.own 159 [vI (aK (n+1)),vI (aL (n+1)).1,vI (aL (n+1)).2]::G)∧Sec (H++[aD.own 25 (aE r x),aD.gone,aD.own 3 ((K.srt r.hour).map vI),aD.gone,aD.own 3 ((K.srt r.minute).map vI),aD.gone,aD.own 3 ((K.srt r.second).map vI),aD.own 159 [vI (aK (n+1)),vI (aL (n+1)).1,vI (aL (n+1)).2]]) h y L2∧L2=L1++f1 r n hh0∧L2.length≤L1.length+156) (by kernel_rfl) ?_ ?_ ?_
      ·simp only[go_sem,he,g2,g7,g8,g10,g11,g12,g13,g14,g9,g87,g88,g89]
       exact⟨0,y,L1,_,rfl,by omega,rfl,rfl,hs,by simp,by omega⟩
      ·clear he g2 g7 g8 g10 g11 g12 g13 g14 g87 g88 g89 g9 hs
       rintro k e h ⟨he,g2,g7,g8,g10,g11,g12,g13,g14,g87,g88,g89,g17,g93,g94,j,y,L2,G,g95,hjk,g9,rfl,hs,hL2,hLb2⟩
       simp only[go_sem,he,g2,g7,g8,g10,g11,g12,g13,g14,g9,g93,g94,g95]
       refine aF (fun hc=>?_) fun hc=>?_
       ·have hc:=odT hc
        have d1:=qK (K.srt r.minute) (i:=j) (by omega)
        have hm:=rm _ (K.gJ.1 (by rw[List.getD_eq_getElem?_getD,List.getElem?_eq_getElem (show j<(K.srt r.minute).length by omega)];exact List.getElem_mem _):(K.srt r.minute).getD j 0∈r.minute)
        have hsn:=eE (l:=K.srt r.minute) (i:=j) (by omega)
        simp only[go_sem,he,g2,g7,g8,g10,g11,g12,g13,g14,g9,g93,g94,g95,Int.toNat_natCast,d1]
        refine⟨by omega,?_⟩
        generalize (K.srt r.minute).getD j 0=mm0 at *
        refine bG r.second.length (fun k e h=>len e=119∧AL.get e 2=.ptr H.length 0∧AL.get e 7=vI la∧AL.get e 8=vB true∧AL.get e 10=.sl true (H.length+2) 0 r.hour.length 1∧AL.get e 11=.sl true (H.length+4) 0 r.minute.length 1∧AL.get e 12=.sl true (H.length+6) 0 r.second.length 1∧AL.get e 13=.ptr (H.length+7) 0∧AL.get e 14=vI n∧AL.get e 87=.sl true (H.length+2) 0 r.hour.length 1∧AL.get e 88=vI r.hour.length∧AL.get e 89=vI i∧AL.get e 17=vI hh0∧AL.get e 93=.sl true (H.length+4) 0 r.minute.length 1∧AL.get e 94=vI r.minute.length∧AL.get e 95=vI j∧AL.get e 19=vI mm0∧AL.get e 99=.sl true (H.length+6) 0 r.second.length 1∧AL.get e 100=vI r.second.length∧∃(l:Nat) (y:AV) (L3:List Int) (G:aB),AL.get e 101=vI l∧l+k=r.second.length∧AL.get e 9=y∧h=H++(aD.own 25 (aE r x)::aD.gone::aD.own 3 ((K.srt r.hour).map vI)::aD.gone::aD.own 3 ((K.srt r.minute).map vI)::aD.gone::aD.own 3 ((K.srt r.second).map vI)::aD.own 159 [vI (aK (n+1)),vI (aL (n+1)).1,vI (aL (n+1)).2]::G)∧Sec (H++[aD.own 25 (aE r x),aD.gone,aD.own 3 ((K.srt r.hour).map vI),aD.gone,aD.own 3 ((K.srt r.minute).map vI),aD.gone,aD.own 3 ((K.srt r.second).map vI),aD.own 159 [vI (aK (n+1)),vI (aL (n+1)).1,vI (aL (n+1)).2]]) h y L3∧L3=L2++((K.srt r.second).take l).map (fun s=>n*86400+hh0*3600+mm0*60+s)∧L3.length≤L2.length+l) (fun e h=>len e=119∧AL.get e 2=.ptr H.length 0∧AL.get e 7=vI la∧AL.get e 8=vB true∧AL.get e 10=.sl true (H.length+2) 0 r.hour.length 1∧AL.get e 11=.sl true (H.length+4) 0 r.minute.length 1∧AL.get e 12=.sl true (H.length+6) 0 r.second.length 1∧AL.get e 13=.ptr (H.length+7) 0∧AL.get e 14=vI n∧AL.get e 87=.sl true (H.length+2) 0 r.hour.length 1∧AL.get e 88=vI r.hour.length∧AL.get e 89=vI i∧AL.get e 17=vI hh0∧AL.get e 93=.sl true (H.length+4) 0 r.minute.length 1∧AL.get e 94=vI r.minute.length∧AL.get e 95=vI j∧∃(y:AV) (L3:List Int) (G:aB),AL.get e 9=y∧h=H++(aD.own 25 (aE r x)::aD.gone::aD.own 3 ((K.srt r.hour).map vI)::aD.gone::aD.own 3 ((K.srt r.minute).map vI)::aD.gone::aD.own 3 ((K.srt r.second).map vI)::aD.own 159 [vI (aK (n+1)),vI (aL (n+1)).1,vI (aL (n+1)).2]::G)∧Sec (H++[aD.own 25 (aE r x),aD.gone,aD.own 3 ((K.srt r.hour).map vI),aD.gone,aD.own 3 ((K.srt r.minute).map vI),aD.gone,aD.own 3 ((K.srt r.second).map vI),aD.own 159 [vI (aK (n+1)),vI (aL (n+1)).1,vI (aL (n+1)).2]]) h y L3∧L3=L2++(K.srt r.second).map (fun s=>n*86400+hh0*3600+mm0*60+s)∧L3.length≤L2.length+12) (by kernel_rfl) ?_ ?_ ?_
        ·simp only[go_sem,he,g2,g7,g8,g10,g11,g12,g13,g14,g9,g87,g88,g89,g17,g93,g94,g95]
         exact⟨0,y,L2,_,rfl,by omega,rfl,rfl,hs,by simp,by omega⟩
        ·clear he g2 g7 g8 g10 g11 g12 g13 g14 g87 g88 g89 g17 g93 g94 g95 g9 hs
         rintro k e h ⟨he,g2,g7,g8,g10,g11,g12,g13,g14,g87,g88,g89,g17,g93,g94,g95,g19,g99,g100,l,y,L3,G,g101,hlk,g9,rfl,hs,hL3,hLb3⟩
         have y1:=hs.one
         simp only[go_sem,he,g2,g7,g8,g10,g11,g12,g13,g14,g9,g99,g100,g101]
         refine aF (fun hc=>?_) fun hc=>?_
         ·have hc:=odT hc
          have d1:=qK (K.srt r.second) (i:=l) (by omega)
          have hss:=rs _ (K.gJ.1 (by rw[List.getD_eq_getElem?_getD,List.getElem?_eq_getElem (show l<(K.srt r.second).length by omega)];exact List.getElem_mem _):(K.srt r.second).getD l 0∈r.second)
          have hsn:=eE (l:=K.srt r.second) (i:=l) (by omega)
          obtain⟨y',h',hap,hs'⟩:=hs.push (n*86400+hh0*3600+mm0*60+(K.srt r.second).getD l 0) (by omega)
          simp only[go_sem,he,g2,g7,g8,g10,g11,g12,g13,g14,g9,g99,g100,g101,g17,g19,Int.toNat_natCast,d1] at hap ⊢
          refine⟨by omega,aI (aBu n hh0 mm0 _ (by omega) (by omega) (by omega) (by omega) _) ?_⟩
          rintro _ _ ⟨rfl,rfl⟩
          obtain⟨G',hG'⟩:=hs'.front
          rw[List.append_assoc] at hG'
          have wl:i64.wrap ((l:Int)+1)=((l+1:Nat):Int):=by rw[aJ (by omega)];rfl
          simp only[go_sem,he,g2,g7,g8,g10,g11,g12,g13,g14,g9,g87,g88,g89,g93,g94,g95,g99,g100,g101,g17,g19,aA,hap,wl]
          exact⟨k-1,by omega,l+1,y',_,G',rfl,by omega,rfl,hG',hs',by rw[hL3,hsn,List.map_append,←List.append_assoc];rfl,by rw[List.length_append];simp;omega⟩
         ·have hc:=odF hc
          simp only[go_sem,he,g2,g7,g8,g10,g11,g12,g13,g14,g9,g87,g88,g89,g93,g94,g95,g99,g100,g101,g17,g19]
          exact⟨y,L3,G,rfl,rfl,hs,by rw[hL3,List.take_of_length_le (by omega)],by omega⟩
        ·clear he g2 g7 g8 g10 g11 g12 g13 g14 g87 g88 g89 g17 g93 g94 g95 g9 hs
         rintro e h ⟨he,g2,g7,g8,g10,g11,g12,g13,g14,g87,g88,g89,g17,g93,g94,g95,y,L3,G,g9,rfl,hs,hL3,hLb3⟩
         have wl:i64.wrap ((j:Int)+1)=((j+1:Nat):Int):=by rw[aJ (by omega)];rfl
         simp only[go_sem,he,g2,g7,g8,g10,g11,g12,g13,g14,g9,g87,g88,g89,g93,g94,g95,g17,wl]
         exact⟨k-1,by omega,j+1,y,L3,G,rfl,by omega,rfl,rfl,hs,by rw[hL3,hL2,hsn,List.flatMap_append,List.append_assoc];simp,by omega⟩
       ·have hc:=odF hc
        simp only[go_sem,he,g2,g7,g8,g10,g11,g12,g13,g14,g9,g87,g88,g89,g93,g94,g95,g17]
        exact⟨y,L2,G,rfl,rfl,hs,by rw[hL2,List.take_of_length_le (by omega)];rfl,by omega⟩
      ·clear he g2 g7 g8 g10 g11 g12 g13 g14 g87 g88 g89 g9 hs
       rintro e h ⟨he,g2,g7,g8,g10,g11,g12,g13,g14,g87,g88,g89,y,L2,G,g9,rfl,hs,hL2,hLb2⟩
       have wl:i64.wrap ((i:Int)+1)=((i+1:Nat):Int):=by rw[aJ (by omega)];rfl
       simp only[go_sem,he,g2,g7,g8,g10,g11,g12,g13,g14,g9,g87,g88,g89,wl]
       exact⟨k-1,by omega,i+1,y,L2,G,rfl,by omega,rfl,rfl,hs,by rw[hL2,hL1,hsn,List.flatMap_append,List.append_assoc];simp,by omega⟩
     ·have hc:=odF hc
      simp only[go_sem,he,g2,g7,g8,g10,g11,g12,g13,g14,g9,g87,g88,g89]
      refine⟨y,G,rfl,rfl,?_⟩
      rw[hL1,List.take_of_length_le (by omega),aLT] at hs
      exact hs
    ·clear he g2 g7 g8 g10 g11 g12 g13 g14 g9 g15
     rintro e h ⟨he,g2,g7,g8,g10,g11,g12,g13,g14,y,G,g9,rfl,hs⟩
     simp only[go_sem,he,g2,g7,g8,g10,g11,g12,g13,g14,g9]
     rw[aJ (by omega)]
     refine⟨(la-(n+1)+2).toNat,by omega,n+1,y,_,_,rfl,rfl,by omega,by omega,rfl,rfl,hs,(fun h=>by cases h),?_⟩
     rw[show n+1-1=n by omega,K.wB hn1,List.filter_append,List.flatMap_append,←hL]
     simp[hst]
  ·rw[Bool.and_eq_false_iff,Bool.and_eq_false_iff,decide_eq_false_iff_not,decide_eq_false_iff_not] at hc
   simp only[go_sem,he,g2,g7,g8,g10,g11,g12,g13,g14,g9]
   refine⟨y,L,rfl,hs.weak,fun h=>?_,hok0⟩
   rcases hc with (c|c)|c
   ·left;rw[hL,show n-1=la by omega]
   ·rw[h] at c;cases c
   ·right;omega
theorem aPH {w0:World} (r:Ru) (x:Rs) (hs:zY r) (hw:0≤r.wkst∧r.wkst≤6) (n:Int) (hn:nJ n) (h365:r.weekNo=[]∨365≤n) (H:aB) (hx:cN H r x):aH prog (CB w0) 164 [.agg (aE r x),vI n] H fun v H'=>v=vB (K.eB r n)∧H'=H:=by
 refine aH.flat rfl ?_
 refine aSi (N:=10) (rs:=[.tmp 4]) Tryz.func164 ?_
 rintro e he ⟨g0,g1,-⟩
 have hb:=hn.b
 have hst:=fun G1 G2=>aHi (w0:=w0) r x hs hw n hn h365 _ ((hx.more G1).more G2)
 unfold aE at g0 hst
 simp only[go_sem,he,g0,g1,hx.setPos.one,hx.month.one,hx.monthDay.one,hx.yearDay.one,hx.weekNo.one,hx.day.one,hx.hour.one,hx.minute.one,hx.second.one,hx.easter.one]
 refine bU [112,162] bI (by kernel_rfl) ?_
 simp only[go_sem,he,g0,g1]
 refine aS (fun _=>xG n hb.1 (by omega) _) ?_
 simp only[go_sem,he,g0,g1,aA]
 refine aS (fun G=>hst _ G) ?_
 simp only[go_sem,he,g0,g1,aA]
 exact⟨_,rfl⟩
theorem aIB {r:Ru} {k:Nat} (h:K.eB r (K.bK r k/86400)=true) (h2:K.aY r.hour (K.bK r k%86400/3600)=true):K.eU r k=(K.fB r (K.bK r k)).flatMap fun m=>((K.fC r (K.bK r k)).filter fun s=>K.aY r.minute m&&K.aY r.second s).map fun s=>K.bK r k/86400*86400+K.bK r k%86400/3600*3600+m*60+s:=by
 unfold K.eU
 simp only
 rw[if_pos (by rw[h,h2];rfl)]
 rfl
def zZ (r:Ru) (k:Nat):Bool:=decide (K.bK r k/86400<aC 10000)
set_option maxHeartbeats 4000000 in
theorem aKD {w0:World} {r:Ru} {x:Rs} (hr:RW r) (hf:4≤r.freq) (k:Nat) (hk:k≤30000) (H:aB) (hx:cN H r x) :
  aH prog (CB w0) 114 [.agg (aE r x),vI k] H fun v H'=>∃y L,v=.tup [y,vB (zZ r k)]∧Sec H H' y L∧(zZ r k=true→L=K.eU r k)∧(zZ r k=false→L=[]):=by
 refine aSi (N:=108) (rs:=[.tmp 4,.tmp 5]) Tryz.func114 ?_
 rintro e he ⟨g0,g1,-⟩
 have hw:=hr.wp
 have hst:=hw.start
 have hi:=hw.interval
 have hfr:=hw.freq
 have hki:=aE4 (n:=30000) (m:=1000) (show (k:Int)≤30000 by omega) (show 0≤r.interval∧r.interval≤1000 by omega)
 have hlm:=K.p7 hr.minuteN
 have hls:=K.p7 hr.secondN
 have b2:=hr.minuteL;have b3:=hr.secondL
 have rm:=hw.minute;have rs:=hw.second
 have hsm:=hr.sm
 unfold aE at g0
 simp only[go_sem,he,g0,g1,hx.setPos.one,hx.month.one,hx.monthDay.one,hx.yearDay.one,hx.weekNo.one,hx.day.one,hx.hour.one,hx.minute.one,hx.second.one,hx.easter.one]
 refine bC (fun e h=>len e=108∧AL.get e 1=vI k∧AL.get e 2=.ptr H.length 0∧AL.get e 6=vI (K.dV r)∧h=H++[aD.own 25 (aE r x)]) (fun hc=>?_) (fun hc=>?_) ?_
 ·have:=odT hc
  unfold K.dV aE
  simp only[go_sem,he,g0,g1]
  rw[if_neg (by omega),if_pos (by omega)]
 ·have:=odF hc
  unfold K.dV aE
  simp only[go_sem,he,g0,g1]
  refine aF (fun hd=>?_) fun hd=>?_
  ·have:=odT hd
   simp only[go_sem,he,g0,g1]
   rw[if_neg (by omega),if_neg (by omega)]
  ·have:=odF hd
   simp only[go_sem,he,g0,g1]
   rw[if_pos (by omega)]
 clear he g0 g1
 rintro e h ⟨he,g1,g2,g6,rfl⟩
 have hu:K.dV r=3600∨K.dV r=60∨K.dV r=1:=by
  rcases K.fK hw (by omega) with ⟨-,f⟩|⟨-,f⟩|⟨-,f⟩<;>omega
 have hu0:decide (K.dV r=0)=false:=dcF (by omega)
 have hpa:K.bK r k=r.start/K.dV r*K.dV r+k*r.interval*K.dV r:=by unfold K.bK;rw[Int.add_mul]
 have hpb:0≤K.bK r k∧K.bK r k≤1000000000000:=by rw[hpa];rcases hu with h|h|h<;>rw[h]<;>omega
 unfold zZ
 unfold aE
 simp only[go_sem,he,g1,g2,g6]
 refine bF bI (by kernel_rfl) ?_
 have eT:i64.wrap (i64.wrap (i64.wrap (r.start.tdiv (K.dV r))*K.dV r)+i64.wrap (i64.wrap (↑k*r.interval)*K.dV r))=K.bK r k:=by
  rw[hpa];rcases hu with h|h|h<;>rw[h]<;>simp (disch:=omega) only[aJ,Int.tdiv_eq_ediv_of_nonneg]
 simp only[go_sem,he,g1,g2,g6,eT]
 refine⟨by omega,aI (mZ (K.bK r k) hpb.1 (by omega) _) ?_⟩
 rintro _ _ ⟨rfl,rfl⟩
 obtain⟨t,ht⟩:∃t,t=K.bK r k:=⟨_,rfl⟩
 rw[←ht] at hpb ⊢
 simp only[go_sem,he,g1,g2,g6,aA,List.replicate]
 refine bU [65] bI (by kernel_rfl) ?_
 simp only[go_sem,he,g1,g2,g6]
 refine aS (fun _=>cT 10000 (by omega) (by omega) _) ?_
 simp only[go_sem,he,g1,g2,g6,aA]
 have b1:aC 10000=3652059:=by decide
 have b15:aC 10500=3834681:=by decide
 refine aF (fun hc=>?_) fun hc=>?_
 ·have hc:=odT hc
  simp only[go_sem,he,g1,g2,g6]
  have hd:decide (t/86400<aC 10000)=false:=dcF (by omega)
  rw[hd]
  exact⟨aP,[],rfl,⟨⟨_,rfl⟩,rfl,.inl ⟨rfl,rfl⟩⟩,(fun h=>by cases h),fun _=>rfl⟩
 have hc:=odF hc
 have hd:decide (t/86400<aC 10000)=true:=dcT (by omega)
 rw[hd]
 have hlow:=K.kV hw (Nat.zero_le k)
 have hlow0:365≤t/86400:=by
  unfold K.dY at hlow
  rw[if_neg (by omega),if_neg (by omega),←ht] at hlow
  have h0:K.bK r 0=r.start/K.dV r*K.dV r:=by unfold K.bK;rw[Int.natCast_zero,Int.zero_mul,Int.add_zero]
  rw[h0] at hlow
  rcases hu with h|h|h<;>rw[h] at hlow<;>omega
 have hdi:nJ (t/86400):=⟨by omega,by omega⟩
 have hS:=fun G=>aPH (w0:=w0) r x hr.sm hw.wkst (t/86400) hdi (.inr hlow0) _ (hx.more G)
 unfold aE at hS
 simp only[go_sem,he,g1,g2,g6]
 refine aI (hS _) ?_
 rintro _ _ ⟨rfl,rfl⟩
 simp only[go_sem,he,g1,g2,g6,aA]
 cases hst1:K.eB r (t/86400) with
 |false=>
  simp only[go_sem,he,g1,g2,g6]
  refine⟨aP,[],rfl,⟨⟨_,rfl⟩,rfl,.inl ⟨rfl,rfl⟩⟩,(fun _=>?_),fun h=>by cases h⟩
  unfold K.eU
  simp only[←ht]
  rw[hst1];rfl
 |true=>
 simp only[go_sem,he,g1,g2,g6]
 refine aI (xK r.hour (by have:=hsm.hour;omega) _ x.hour _ (hx.more _).hour) ?_
 rintro _ _ ⟨rfl,rfl⟩
 cases hst2:K.aY r.hour (t%86400/3600) with
 |false=>
  simp only[go_sem,he,g1,g2,g6,aA]
  refine⟨aP,[],rfl,⟨⟨_,rfl⟩,rfl,.inl ⟨rfl,rfl⟩⟩,(fun _=>?_),fun h=>by cases h⟩
  unfold K.eU
  simp only[←ht]
  rw[hst2,Bool.and_false];rfl
 |true=>
 simp only[go_sem,he,g1,g2,g6,aA]
 rw[ht] at hst1 hst2
 rw[aIB hst1 hst2,←ht]
 refine fJ (fun e h=>len e=108∧AL.get e 2=.ptr H.length 0∧AL.get e 8=.ptr (H.length+1) 0∧∃mv sv G,AL.get e 9=mv∧AL.get e 10=sv∧h=H++(aD.own 25 (aE r x)::aD.own 154 [vI (t/86400),vI (t%86400/3600),vI (t%86400/60%60),vI (t%86400%60)]::G)∧aQ h mv [t%86400/60%60]∧aQ h sv [t%86400%60]) ?_ ?_
 ·unfold aE
  refine vP [] 2 5 [0,1,2,3,4,5,6,7] [0,1,3,4,5,2,6,7] bI (by kernel_rfl) (by kernel_rfl) rfl (by kernel_rfl) (by kernel_rfl) ?_ ?_
  all_goals
   simp only[go_sem,he,g1,g2,g6,tQ,vO,tP]
   exact⟨_,_,_,rfl,rfl,rfl,oC _ rfl (by rw[bX];rfl),oC _ rfl (by rw[bX];rfl)⟩
 clear he g1 g2 g6
 rintro e h ⟨he,g2,g8,mv,sv,G,g9,g10,rfl,hmv,hsv⟩
 have m1:=hmv.one
 have s1:=hsv.one
 unfold aE
 simp only[go_sem,he,g2,g8,g9,g10]
 have hmi:=K.rH hw t hpb.1
 have hse:=K.rI hw t hpb.1
 have hml:(K.fB r t).length≤12:=by unfold K.fB;split;omega;simp
 have hsl:(K.fC r t).length≤12:=by unfold K.fC;split;omega;simp
 refine bC (fun e h=>len e=108∧AL.get e 2=.ptr H.length 0∧AL.get e 8=.ptr (H.length+1) 0∧∃mv sv G,AL.get e 9=mv∧AL.get e 10=sv∧h=H++(aD.own 25 (aE r x)::aD.own 154 [vI (t/86400),vI (t%86400/3600),vI (t%86400/60%60),vI (t%86400%60)]::G)∧aQ h mv (K.fB r t)∧aQ h sv [t%86400%60]) (fun hc=>?_) (fun hc=>?_) ?_
 ·have hc:=odT hc
  unfold aE K.fB
  rw[if_pos (by omega)]
  simp only[go_sem,he,g2,g8,g9,g10]
  refine aI (pB r.minute hr.minuteN b2 (hr.minute (by omega)) x.minute _ (hx.more _).minute) ?_
  rintro _ _ ⟨rfl,rfl⟩
  have hsv:=hsv.more [.gone,.own 3 ((K.srt r.minute).map vI)]
  unfold aE at hsv
  simp only[go_sem,he,g2,g8,g9,g10,aA] at hsv ⊢
  refine⟨_,sv,_,rfl,rfl,rfl,?_,hsv⟩
  have:=oC (H++(aD.own 25 (aE r x)::aD.own 154 [vI (t/86400),vI (t%86400/3600),vI (t%86400/60%60),vI (t%86400%60)]::G)++[.gone,.own 3 ((K.srt r.minute).map vI)]) hlm (q:=(H++(aD.own 25 (aE r x)::aD.own 154 [vI (t/86400),vI (t%86400/3600),vI (t%86400/60%60),vI (t%86400%60)]::G)).length+1) (by rw[bX];rfl)
  simpa [aE] using this
 ·have hc:=odF hc
  unfold aE K.fB
  rw[if_neg (by omega)]
  unfold aE at hmv hsv
  simp only[go_sem,he,g2,g8,g9,g10]
  exact⟨mv,sv,G,rfl,rfl,rfl,hmv,hsv⟩
 clear he g2 g8 g9 g10 m1 s1 hmv hsv
 rintro e h ⟨he,g2,g8,mv,sv,G,g9,g10,rfl,hmv,hsv⟩
 have m1:=hmv.one
 have s1:=hsv.one
 unfold aE
 simp only[go_sem,he,g2,g8,g9,g10]
 refine bC (fun e h=>len e=108∧AL.get e 2=.ptr H.length 0∧AL.get e 8=.ptr (H.length+1) 0∧∃mv sv G,AL.get e 9=mv∧AL.get e 10=sv∧h=H++(aD.own 25 (aE r x)::aD.own 154 [vI (t/86400),vI (t%86400/3600),vI (t%86400/60%60),vI (t%86400%60)]::G)∧aQ h mv (K.fB r t)∧aQ h sv (K.fC r t)) (fun hc=>?_) (fun hc=>?_) ?_
 ·have hc:=odT hc
  have hmv:=hmv.more [.gone,.own 3 ((K.srt r.second).map vI)]
  unfold aE at hmv ⊢
  unfold K.fC
  rw[if_pos (by omega)]
  simp only[go_sem,he,g2,g8,g9,g10]
  refine aI (pB r.second hr.secondN b3 (hr.second (by omega)) x.second _ (hx.more _).second) ?_
  rintro _ _ ⟨rfl,rfl⟩
  simp only[go_sem,he,g2,g8,g9,g10,aA] at hmv ⊢
  refine⟨mv,_,_,rfl,rfl,rfl,hmv,?_⟩
  have:=oC (H++(aD.own 25 (aE r x)::aD.own 154 [vI (t/86400),vI (t%86400/3600),vI (t%86400/60%60),vI (t%86400%60)]::G)++[.gone,.own 3 ((K.srt r.second).map vI)]) hls (q:=(H++(aD.own 25 (aE r x)::aD.own 154 [vI (t/86400),vI (t%86400/3600),vI (t%86400/60%60),vI (t%86400%60)]::G)).length+1) (by rw[bX];rfl)
  simpa [aE] using this
 ·have hc:=odF hc
  unfold aE at hmv hsv ⊢
  unfold K.fC
  rw[if_neg (by omega)]
  simp only[go_sem,he,g2,g8,g9,g10]
  exact⟨mv,sv,G,rfl,rfl,rfl,hmv,hsv⟩
 clear he g2 g8 g9 g10 m1 s1 hmv hsv
 rintro e h ⟨he,g2,g8,mv,sv,G,g9,g10,hE,hmv,hsv⟩
 have m1:=hmv.one
 have s1:=hsv.one
 have ml:=hmv.len 3
 have sl:=hsv.len 3
 have hxh:cN h r x:=by rw[hE];exact hx.more _
 have hl:H.length+1<h.length:=by rw[hE];simp
 have r0:∀G,(h++G)[H.length]?=some (aD.own 25 (aE r x)):=fun G=>by rw[List.getElem?_append_left (by omega),hE,bB];rfl
 have r1:∀G,(h++G)[H.length+1]?=some (aD.own 154 [vI (t/86400),vI (t%86400/3600),vI (t%86400/60%60),vI (t%86400%60)]):=fun G=>by rw[List.getElem?_append_left (by omega),hE,bX];rfl
 have hpre:∃G,h=H++G:=⟨_,hE⟩
 clear hE
 unfold aE at r0
 simp only[go_sem,he,g2,g8,g9,g10,ml]
 obtain⟨MI,hMI⟩:∃MI,MI=K.fB r t:=⟨_,rfl⟩
 obtain⟨SE,hSE⟩:∃SE,SE=K.fC r t:=⟨_,rfl⟩
 rw[←hMI] at hmv hmi hml ml ⊢
 rw[←hSE] at hsv hse hsl sl ⊢
 have hsmm:=hsm.minute;have hsms:=hsm.second
 refine bG MI.length (fun k e h'=>len e=108∧AL.get e 2=.ptr H.length 0∧AL.get e 8=.ptr (H.length+1) 0∧AL.get e 10=sv∧AL.get e 72=mv∧AL.get e 73=vI MI.length∧∃(i:Nat) (y:AV) (L:List Int) (G:aB),AL.get e 74=vI i∧i+k=MI.length∧AL.get e 11=y∧h'=h++G∧Sec h h' y L∧L=(MI.take i).flatMap (fun m=>(SE.filter fun s=>K.aY r.minute m&&K.aY r.second s).map fun s=>t/86400*86400+t%86400/3600*3600+m*60+s)∧L.length≤13*i) (fun e h'=>len e=108∧∃(y:AV) (L:List Int),AL.get e 11=y∧Sec h h' y L∧L=MI.flatMap (fun m=>(SE.filter fun s=>K.aY r.minute m&&K.aY r.second s).map fun s=>t/86400*86400+t%86400/3600*3600+m*60+s)) (by kernel_rfl) ?_ ?_ ?_
 ·simp only[go_sem,he,g2,g8,g9,g10]
  exact⟨0,aP,[],[],rfl,by omega,rfl,by simp,⟨⟨[],by simp⟩,rfl,.inl ⟨rfl,rfl⟩⟩,rfl,by simp⟩
 ·clear he g2 g8 g9 g10
  rintro k e h' ⟨he,g2,g8,g10,g72,g73,i,y,L,G,g74,hik,g11,rfl,hS,hL,hLb⟩
  simp only[go_sem,he,g2,g8,g10,g11,g72,g73,g74]
  refine aF (fun hc=>?_) fun hc=>?_
  ·have hc:=odT hc
   obtain⟨own,o,off,cs,rfl,hcs,hcell⟩:=aQ.get (hmv.more G) (i:=i) (by omega)
   have hsn:=eE (l:=MI) (i:=i) (by omega)
   have hmm:=hmi.2 (MI.getD i 0) (by rw[List.getD_eq_getElem?_getD,List.getElem?_eq_getElem (show i<MI.length by omega)];exact List.getElem_mem _)
   generalize MI.getD i 0=m at *
   simp only[go_sem,he,g2,g8,g10,g11,g72,g73,g74,Int.toNat_natCast,hcs,hcell,sl]
   refine⟨by omega,?_⟩
   refine bG SE.length (fun k e h'=>len e=108∧AL.get e 2=.ptr H.length 0∧AL.get e 8=.ptr (H.length+1) 0∧AL.get e 10=sv∧AL.get e 72=.sl own o off MI.length 1∧AL.get e 73=vI MI.length∧AL.get e 74=vI i∧AL.get e 13=vI m∧AL.get e 78=sv∧AL.get e 79=vI SE.length∧∃(j:Nat) (y:AV) (L2:List Int) (G:aB),AL.get e 80=vI j∧j+k=SE.length∧AL.get e 11=y∧h'=h++G∧Sec h h' y L2∧L2=L++((SE.take j).filter fun s=>K.aY r.minute m&&K.aY r.second s).map (fun s=>t/86400*86400+t%86400/3600*3600+m*60+s)∧L2.length≤L.length+j) (fun e h'=>len e=108∧AL.get e 2=.ptr H.length 0∧AL.get e 8=.ptr (H.length+1) 0∧AL.get e 10=sv∧AL.get e 72=.sl own o off MI.length 1∧AL.get e 73=vI MI.length∧AL.get e 74=vI i∧∃(y:AV) (L2:List Int) (G:aB),AL.get e 11=y∧h'=h++G∧Sec h h' y L2∧L2=L++(SE.filter fun s=>K.aY r.minute m&&K.aY r.second s).map (fun s=>t/86400*86400+t%86400/3600*3600+m*60+s)∧L2.length≤L.length+13) (by kernel_rfl) ?_ ?_ ?_
   ·simp only[go_sem,he,g2,g8,g10,g11,g72,g73,g74]
    exact⟨0,y,L,G,rfl,by omega,rfl,rfl,hS,by simp,by omega⟩
   ·clear he g2 g8 g10 g72 g73 g74 g11 hS
    rintro k e h' ⟨he,g2,g8,g10,g72,g73,g74,g13,g78,g79,j,y,L2,G,g80,hjk,g11,rfl,hS,hL2,hLb2⟩
    have y1:=hS.one
    simp only[go_sem,he,g2,g8,g10,g11,g72,g73,g74,g13,g78,g79,g80]
    refine aF (fun hc=>?_) fun hc=>?_
    ·have hc:=odT hc
     obtain⟨own2,o2,off2,cs2,rfl,hcs2,hcell2⟩:=aQ.get (hsv.more G) (i:=j) (by omega)
     have hsn2:=eE (l:=SE) (i:=j) (by omega)
     have hss:=hse.2 (SE.getD j 0) (by rw[List.getD_eq_getElem?_getD,List.getElem?_eq_getElem (show j<SE.length by omega)];exact List.getElem_mem _)
     generalize SE.getD j 0=sc at *
     have wl:i64.wrap ((j:Int)+1)=((j+1:Nat):Int):=by rw[aJ (by omega)];rfl
     simp only[go_sem,he,g2,g8,g10,g11,g72,g73,g74,g13,g78,g79,g80,Int.toNat_natCast,hcs2,hcell2,r0]
     refine⟨by omega,aI (xK r.minute (by omega) m x.minute _ (hxh.more _).minute) ?_⟩
     rintro _ _ ⟨rfl,rfl⟩
     cases q1:K.aY r.minute m with
     |false=>
      simp only[go_sem,he,g2,g8,g10,g11,g72,g73,g74,g13,g78,g79,g80,aA,wl]
      exact⟨k-1,by omega,j+1,y,L2,G,rfl,by omega,rfl,rfl,hS,by rw[hL2,hsn2,List.filter_append];simp[q1],by omega⟩
     |true=>
     rw[q1] at hL2
     simp only[go_sem,he,g2,g8,g10,g11,g72,g73,g74,g13,g78,g79,g80,aA,r0]
     refine aI (xK r.second (by omega) sc x.second _ (hxh.more _).second) ?_
     rintro _ _ ⟨rfl,rfl⟩
     cases q2:K.aY r.second sc with
     |false=>
      simp only[go_sem,he,g2,g8,g10,g11,g72,g73,g74,g13,g78,g79,g80,aA,wl]
      exact⟨k-1,by omega,j+1,y,L2,G,rfl,by omega,rfl,rfl,hS,by rw[hL2,hsn2,List.filter_append];simp[q2],by omega⟩
     |true=>
     have hfil:[sc].filter (fun s=>true&&K.aY r.second s)=[sc]:=by simp[q2]
     obtain⟨y',h',hap,hS'⟩:=hS.push (t/86400*86400+t%86400/3600*3600+m*60+sc) (by omega)
     obtain⟨G',hG'⟩:=hS'.front
     simp only[go_sem,he,g2,g8,g10,g11,g72,g73,g74,g13,g78,g79,g80,aA,r0,r1,wl] at hap ⊢
     refine aI (aBu (t/86400) (t%86400/3600) m sc (by omega) (by omega) (by omega) (by omega) _) ?_
     rintro _ _ ⟨rfl,rfl⟩
     simp only[go_sem,he,g2,g8,g10,g11,g72,g73,g74,g13,g78,g79,g80,aA,hap,wl]
     exact⟨k-1,by omega,j+1,y',_,G',rfl,by omega,rfl,hG',hS',by rw[hL2,hsn2,List.filter_append,List.map_append,←List.append_assoc,hfil];rfl,by rw[List.length_append];simp;omega⟩
    ·have hc:=odF hc
     simp only[go_sem,he,g2,g8,g10,g11,g72,g73,g74,g13,g78,g79,g80]
     exact⟨y,L2,G,rfl,rfl,hS,by rw[hL2,List.take_of_length_le (by omega)],by omega⟩
   ·clear he g2 g8 g10 g72 g73 g74 g11 hS
    rintro e h' ⟨he,g2,g8,g10,g72,g73,g74,y,L2,G,g11,rfl,hS,hL2,hLb2⟩
    have wl:i64.wrap ((i:Int)+1)=((i+1:Nat):Int):=by rw[aJ (by omega)];rfl
    simp only[go_sem,he,g2,g8,g10,g11,g72,g73,g74,wl]
    exact⟨k-1,by omega,i+1,y,L2,G,rfl,by omega,rfl,rfl,hS,by rw[hL2,hL,hsn,List.flatMap_append];simp,by omega⟩
  ·have hc:=odF hc
   simp only[go_sem,he,g2,g8,g10,g11,g72,g73,g74]
   exact⟨y,L,rfl,hS,by rw[hL,List.take_of_length_le (by omega)]⟩
 ·clear he g2 g8 g9 g10
  rintro e h' ⟨he,y,L,g11,hS,hL⟩
  have y1:=hS.one
  simp only[go_sem,he,g11]
  obtain⟨G,rfl⟩:=hpre
  exact⟨y,L,rfl,hS.weak,fun _=>hL,fun h=>by cases h⟩
theorem mF {r:Ru} (hc:iC r):zY r:=by
 have h1:=dW hc.setPos;have h2:=dW hc.month;have h3:=dW hc.monthDay;have h4:=dW hc.yearDay;have h5:=dW hc.weekNo
 have h6:=dW hc.hour;have h7:=dW hc.minute;have h8:=dW hc.second;have h9:=dW hc.easter;have h10:=hc.dayLen
 exact⟨by omega,by omega,by omega,by omega,by omega,by omega,by omega,by omega,by omega,by omega⟩
theorem zY.len {r:Ru} (h:zY r):xF r:=⟨Nat.le_trans h.setPos (by decide),Nat.le_trans h.month (by decide),Nat.le_trans h.monthDay (by decide),Nat.le_trans h.yearDay (by decide),Nat.le_trans h.weekNo (by decide),Nat.le_trans h.day (by decide),Nat.le_trans h.hour (by decide),Nat.le_trans h.minute (by decide),Nat.le_trans h.second (by decide),Nat.le_trans h.easter (by decide)⟩
theorem iL {H:aB} {a b c d:aD} {G:aB} {x:AV} {n st:Nat} {f:Nat→AV} (h:fN (H++(a::b::c::d::G)) x n st f) (G':aB):fN (H++(a::b::c::d::(G++G'))) x n st f:=by
 have:=h.more G'
 rw[List.append_assoc] at this
 exact this
set_option maxHeartbeats 4000000 in
theorem aPI {w0:World} (r:Ru) (x:Rs) (hc:iC r) (H:aB) (hx:cN H r x) :
  aH prog (CB w0) 72 [.agg (aE r x)] H fun v H'=>∃x' G,v=.agg (aE (K.whole r) x')∧H'=H++G∧∀H2,H2.length=H.length→cN H2 r x→cN (H2++G) (K.whole r) x':=by
 refine aSi (N:=96) (rs:=[.cell 2 25]) Tryz.func72 ?_
 rintro e he ⟨g0,-⟩
 have hst:=hc.start
 have sd:(365:Int)≤r.start/86400:=by omega
 unfold aE at g0
 simp only[go_sem,he,g0,hx.setPos.one,hx.month.one,hx.monthDay.one,hx.yearDay.one,hx.weekNo.one,hx.day.one,hx.hour.one,hx.minute.one,hx.second.one,hx.easter.one,List.replicate]
 have hwt:(K.whole r).til=if r.hasUntil=true then r.til else r.start+9223372036:=rfl
 refine bC (fun e h=>len e=96∧AL.get e 1=.ptr H.length 0∧AL.get e 2=.ptr (H.length+1) 0∧∃(mo md dy ho mi se:AV) (z:List AV),mo=x.month∧md=x.monthDay∧dy=x.day∧ho=x.hour∧mi=x.minute∧se=x.second∧z.length=18∧h=H++[aD.own 25 [vU r.freq,vB r.hasStart,vI r.start,vI (max 1 r.interval),vI r.wkst,vI r.count,vB true,vI (K.whole r).til,x.setPos,mo,md,x.yearDay,x.weekNo,dy,ho,mi,se,x.easter],aD.own 25 z]) (fun hq=>?_) (fun hq=>?_) ?_
 ·rw[Bool.not_eq_true'] at hq
  rw[hwt,if_neg (by rw[hq];decide)]
  simp only[go_sem,he,g0]
  rw[aJ (n:=r.start+9223372036) (by omega)]
  exact⟨_,_,_,_,_,_,_,rfl,rfl,rfl,rfl,rfl,rfl,rfl,rfl⟩
 ·rw[Bool.not_eq_false'] at hq
  rw[hwt,if_pos hq]
  simp only[go_sem,he,g0]
  rw[hq]
  exact⟨_,_,_,_,_,_,_,rfl,rfl,rfl,rfl,rfl,rfl,rfl,rfl⟩
 clear he g0
 rintro e h ⟨he,g1,g2,mo,md,dy,ho,mi,se,z,e1,e2,e3,e4,e5,e6,hz,rfl⟩
 have k1:∀H2 G,H2.length=H.length→cN H2 r x→aQ (H2++G) mo r.month:=fun H2 G _ hx=>by rw[e1];exact (hx.more _).month
 have k2:∀H2 G,H2.length=H.length→cN H2 r x→aQ (H2++G) md r.monthDay:=fun H2 G _ hx=>by rw[e2];exact (hx.more _).monthDay
 have k3:∀H2 G,H2.length=H.length→cN H2 r x→cU (H2++G) dy r.day:=fun H2 G _ hx=>by rw[e3];exact (hx.more _).day
 have k4:∀H2 G,H2.length=H.length→cN H2 r x→aQ (H2++G) ho r.hour:=fun H2 G _ hx=>by rw[e4];exact (hx.more _).hour
 have k5:∀H2 G,H2.length=H.length→cN H2 r x→aQ (H2++G) mi r.minute:=fun H2 G _ hx=>by rw[e5];exact (hx.more _).minute
 have k6:∀H2 G,H2.length=H.length→cN H2 r x→aQ (H2++G) se r.second:=fun H2 G _ hx=>by rw[e6];exact (hx.more _).second
 clear e1 e2 e3 e4 e5 e6
 have q1:=(k1 H [] rfl hx).one;have q2:=(k2 H [] rfl hx).one;have q3:=(k3 H [] rfl hx).one;have q4:=(k4 H [] rfl hx).one;have q5:=(k5 H [] rfl hx).one;have q6:=(k6 H [] rfl hx).one
 simp only[go_sem,he,g1,g2]
 refine aI (mZ r.start (by omega) (by omega) _) ?_
 rintro _ _ ⟨rfl,rfl⟩
 simp only[go_sem,he,g1,g2,aA,List.replicate]
 refine aI (xG (r.start/86400) (by omega) (by omega) _) ?_
 rintro _ _ ⟨rfl,rfl⟩
 simp only[go_sem,he,g1,g2,aA,List.replicate]
 have hsl:=(mF hc).len
 have hd:=aHd (w0:=w0) {r with interval:=max 1 r.interval,hasUntil:=true,til:=(K.whole r).til} {x with month:=mo,monthDay:=md,day:=dy,hour:=ho,minute:=mi,second:=se} ⟨hsl.1,hsl.2,hsl.3,hsl.4,hsl.5,hsl.6,hsl.7,hsl.8,hsl.9,hsl.10⟩ (H++[aD.own 25 [vU r.freq,vB r.hasStart,vI r.start,vI (max 1 r.interval),vI r.wkst,vI r.count,vB true,vI (K.whole r).til,x.setPos,mo,md,x.yearDay,x.weekNo,dy,ho,mi,se,x.easter],aD.own 25 z,aD.own 154 [vI (r.start/86400),vI (r.start%86400/3600),vI (r.start%86400/60%60),vI (r.start%86400%60)],aD.own 159 [vI (aK (r.start/86400)),vI (aL (r.start/86400)).1,vI (aL (r.start/86400)).2]]) ⟨(hx.more _).setPos,k1 H _ rfl hx,k2 H _ rfl hx,(hx.more _).yearDay,(hx.more _).weekNo,k3 H _ rfl hx,k4 H _ rfl hx,k5 H _ rfl hx,k6 H _ rfl hx,(hx.more _).easter⟩
 have hde:dJ {r with interval:=max 1 r.interval,hasUntil:=true,til:=(K.whole r).til}=dJ r:=rfl
 rw[hde] at hd
 unfold aE at hd
 refine aI hd ?_
 rintro _ _ ⟨rfl,rfl⟩
 simp only[go_sem,he,g1,g2,aA]
 have w1:(K.whole r).month=if dJ r=false∧r.freq=0∧r.month=[] then [(aL (r.start/86400)).1] else r.month:=rfl
 have w2:(K.whole r).monthDay=if dJ r=false∧r.freq≤1 then [(aL (r.start/86400)).2] else r.monthDay:=rfl
 have w3:(K.whole r).day=if dJ r=false∧r.freq=2 then [(r.start/86400%7,0)] else r.day:=rfl
 refine bC (fun e h=>len e=96∧AL.get e 1=.ptr H.length 0∧AL.get e 2=.ptr (H.length+1) 0∧AL.get e 3=.ptr (H.length+2) 0∧AL.get e 4=.ptr (H.length+3) 0∧∃(mo md dy:AV) (G:aB),h=H++(aD.own 25 [vU r.freq,vB r.hasStart,vI r.start,vI (max 1 r.interval),vI r.wkst,vI r.count,vB true,vI (K.whole r).til,x.setPos,mo,md,x.yearDay,x.weekNo,dy,ho,mi,se,x.easter]::aD.own 25 z::aD.own 154 [vI (r.start/86400),vI (r.start%86400/3600),vI (r.start%86400/60%60),vI (r.start%86400%60)]::aD.own 159 [vI (aK (r.start/86400)),vI (aL (r.start/86400)).1,vI (aL (r.start/86400)).2]::G)∧(∀H2 c d,H2.length=H.length→cN H2 r x→aQ (H2++(c::d::aD.own 154 [vI (r.start/86400),vI (r.start%86400/3600),vI (r.start%86400/60%60),vI (r.start%86400%60)]::aD.own 159 [vI (aK (r.start/86400)),vI (aL (r.start/86400)).1,vI (aL (r.start/86400)).2]::G)) mo (K.whole r).month)∧(∀H2 c d,H2.length=H.length→cN H2 r x→aQ (H2++(c::d::aD.own 154 [vI (r.start/86400),vI (r.start%86400/3600),vI (r.start%86400/60%60),vI (r.start%86400%60)]::aD.own 159 [vI (aK (r.start/86400)),vI (aL (r.start/86400)).1,vI (aL (r.start/86400)).2]::G)) md (K.whole r).monthDay)∧(∀H2 c d,H2.length=H.length→cN H2 r x→cU (H2++(c::d::aD.own 154 [vI (r.start/86400),vI (r.start%86400/3600),vI (r.start%86400/60%60),vI (r.start%86400%60)]::aD.own 159 [vI (aK (r.start/86400)),vI (aL (r.start/86400)).1,vI (aL (r.start/86400)).2]::G)) dy (K.whole r).day)) (fun hq=>?_) (fun hq=>?_) ?_
 ·rw[Bool.not_eq_true'] at hq
  simp only[go_sem,he,g1,g2]
  refine aF (fun c0=>?_) fun c0=>?_
  ·have f0:r.freq=0:=by have:=odT c0;omega
   have ml:=(k1 H [] rfl hx).len 3
   rw[w2,if_pos ⟨hq,by omega⟩,w3,if_neg (by omega)]
   simp only[go_sem,he,g1,g2,ml]
   refine aF (fun c1=>?_) fun c1=>?_
   ·have hm:r.month=[]:=List.length_eq_zero_iff.1 (by have:=odT c1;omega)
    rw[w1,if_pos ⟨hq,f0,hm⟩]
    simp only[go_sem,he,g1,g2]
    exact⟨_,_,dy,_,rfl,(fun _ _ _ hl _=>f9 (by rw[←hl,bX];rfl)),(fun _ _ _ hl _=>f9 (by rw[←hl,bX];rfl)),fun H2 _ _ hl h2=>k3 H2 _ hl h2⟩
   ·have hm:r.month≠[]:=fun h=>by rw[h] at c1;cases c1
    rw[w1,if_neg fun h=>hm h.2.2]
    simp only[go_sem,he,g1,g2]
    exact⟨mo,_,dy,_,rfl,(fun H2 _ _ hl h2=>k1 H2 _ hl h2),(fun _ _ _ hl _=>f9 (by rw[←hl,bX];rfl)),fun H2 _ _ hl h2=>k3 H2 _ hl h2⟩
  have n0:r.freq≠0:=by have:=odF c0;omega
  rw[w1,if_neg fun h=>n0 h.2.1]
  simp only[go_sem,he,g1,g2]
  refine aF (fun c1=>?_) fun c1=>?_
  ·have f1:r.freq=1:=by have:=odT c1;omega
   rw[w2,if_pos ⟨hq,by omega⟩,w3,if_neg (by omega)]
   simp only[go_sem,he,g1,g2]
   exact⟨mo,_,dy,_,rfl,(fun H2 _ _ hl h2=>k1 H2 _ hl h2),(fun _ _ _ hl _=>f9 (by rw[←hl,bX];rfl)),fun H2 _ _ hl h2=>k3 H2 _ hl h2⟩
  have n1:r.freq≠1:=by have:=odF c1;omega
  rw[w2,if_neg (by omega)]
  simp only[go_sem,he,g1,g2]
  refine aF (fun c2=>?_) fun c2=>?_
  ·have f2:r.freq=2:=by have:=odT c2;omega
   rw[w3,if_pos ⟨hq,f2⟩]
   simp only[go_sem,he,g1,g2]
   refine aI (nI (r.start/86400) (by omega) _) ?_
   rintro _ _ ⟨rfl,rfl⟩
   simp only[go_sem,he,g1,g2,aA]
   refine⟨mo,md,_,_,rfl,(fun H2 _ _ hl h2=>k1 H2 _ hl h2),(fun H2 _ _ hl h2=>k2 H2 _ hl h2),fun _ _ _ hl _=>.inr ⟨true,_,0,[vI (r.start/86400%7),vI 0],rfl,by rw[←hl,bX];rfl,fun i hi=>?_⟩⟩
   rcases (show i=0∨i=1 by simp at hi;omega) with rfl|rfl<;>rfl
  ·have n2:r.freq≠2:=by have:=odF c2;omega
   rw[w3,if_neg (by omega)]
   simp only[go_sem,he,g1,g2]
   exact⟨mo,md,dy,[],rfl,(fun H2 _ _ hl h2=>k1 H2 _ hl h2),(fun H2 _ _ hl h2=>k2 H2 _ hl h2),fun H2 _ _ hl h2=>k3 H2 _ hl h2⟩
 ·rw[Bool.not_eq_false'] at hq
  simp only[go_sem,he,g1,g2]
  rw[w1,w2,w3,if_neg (by rw[hq];simp),if_neg (by rw[hq];simp),if_neg (by rw[hq];simp)]
  exact⟨mo,md,dy,[],rfl,(fun H2 _ _ hl h2=>k1 H2 _ hl h2),(fun H2 _ _ hl h2=>k2 H2 _ hl h2),fun H2 _ _ hl h2=>k3 H2 _ hl h2⟩
 clear he g1 g2 k1 k2 k3 q1 q2 q3 hd w1 w2 w3
 rintro e h ⟨he,g1,g2,g3,g4,mo,md,dy,G,rfl,k1,k2,k3⟩
 have q1:=(k1 H .gone .gone rfl hx).one;have q2:=(k2 H .gone .gone rfl hx).one;have q3:=(k3 H .gone .gone rfl hx).one
 have hl:=(k4 H [] rfl hx).len 3
 have wh:(K.whole r).hour=if r.hour=[]∧r.freq<4 then [r.start%86400/3600] else r.hour:=rfl
 simp only[go_sem,he,g1,g2,g3,g4,hl]
 refine bQ (fun e h=>len e=96∧AL.get e 1=.ptr H.length 0∧AL.get e 2=.ptr (H.length+1) 0∧AL.get e 3=.ptr (H.length+2) 0∧AL.get e 4=.ptr (H.length+3) 0∧AL.get e 64=vB (decide (r.hour=[]∧r.freq<4))∧h=H++(aD.own 25 [vU r.freq,vB r.hasStart,vI r.start,vI (max 1 r.interval),vI r.wkst,vI r.count,vB true,vI (K.whole r).til,x.setPos,mo,md,x.yearDay,x.weekNo,dy,ho,mi,se,x.easter]::aD.own 25 z::aD.own 154 [vI (r.start/86400),vI (r.start%86400/3600),vI (r.start%86400/60%60),vI (r.start%86400%60)]::aD.own 159 [vI (aK (r.start/86400)),vI (aL (r.start/86400)).1,vI (aL (r.start/86400)).2]::G)) ?_ ?_
 ·cases hq:decide ((r.hour.length:Int)=0) with
  |true=>
   have hq:=List.length_eq_zero_iff.1 (by have:=odT hq;omega:r.hour.length=0)
   simp only[go_sem,he,g1,g2,g3,g4]
   congr 1
   exact decide_eq_decide.2 ⟨fun h=>⟨hq,by omega⟩,fun h=>by omega⟩
  |false=>
   have hq:=odF hq
   simp only[go_sem,he,g1,g2,g3,g4]
   rw[dcF fun h=>hq (by rw[h.1];rfl)]
 clear he g1 g2 g3 g4 hl
 rintro e h ⟨he,g1,g2,g3,g4,gq,rfl⟩
 simp only[go_sem,he,g1,g2,g3,g4,gq]
 refine bC (fun e h=>len e=96∧AL.get e 1=.ptr H.length 0∧AL.get e 2=.ptr (H.length+1) 0∧AL.get e 3=.ptr (H.length+2) 0∧AL.get e 4=.ptr (H.length+3) 0∧∃(mo md dy ho:AV) (G:aB),h=H++(aD.own 25 [vU r.freq,vB r.hasStart,vI r.start,vI (max 1 r.interval),vI r.wkst,vI r.count,vB true,vI (K.whole r).til,x.setPos,mo,md,x.yearDay,x.weekNo,dy,ho,mi,se,x.easter]::aD.own 25 z::aD.own 154 [vI (r.start/86400),vI (r.start%86400/3600),vI (r.start%86400/60%60),vI (r.start%86400%60)]::aD.own 159 [vI (aK (r.start/86400)),vI (aL (r.start/86400)).1,vI (aL (r.start/86400)).2]::G)∧(∀H2 c d,H2.length=H.length→cN H2 r x→aQ (H2++(c::d::aD.own 154 [vI (r.start/86400),vI (r.start%86400/3600),vI (r.start%86400/60%60),vI (r.start%86400%60)]::aD.own 159 [vI (aK (r.start/86400)),vI (aL (r.start/86400)).1,vI (aL (r.start/86400)).2]::G)) mo (K.whole r).month)∧(∀H2 c d,H2.length=H.length→cN H2 r x→aQ (H2++(c::d::aD.own 154 [vI (r.start/86400),vI (r.start%86400/3600),vI (r.start%86400/60%60),vI (r.start%86400%60)]::aD.own 159 [vI (aK (r.start/86400)),vI (aL (r.start/86400)).1,vI (aL (r.start/86400)).2]::G)) md (K.whole r).monthDay)∧(∀H2 c d,H2.length=H.length→cN H2 r x→cU (H2++(c::d::aD.own 154 [vI (r.start/86400),vI (r.start%86400/3600),vI (r.start%86400/60%60),vI (r.start%86400%60)]::aD.own 159 [vI (aK (r.start/86400)),vI (aL (r.start/86400)).1,vI (aL (r.start/86400)).2]::G)) dy (K.whole r).day)∧(∀H2 c d,H2.length=H.length→cN H2 r x→aQ (H2++(c::d::aD.own 154 [vI (r.start/86400),vI (r.start%86400/3600),vI (r.start%86400/60%60),vI (r.start%86400%60)]::aD.own 159 [vI (aK (r.start/86400)),vI (aL (r.start/86400)).1,vI (aL (r.start/86400)).2]::G)) ho (K.whole r).hour)) (fun hq=>?_) (fun hq=>?_) ?_
 ·rw[wh,if_pos (odT hq)]
  simp only[go_sem,he,g1,g2,g3,g4]
  exact⟨mo,md,dy,_,_,rfl,(fun H2 c d hl h2=>iL (k1 H2 c d hl h2) _),(fun H2 c d hl h2=>iL (k2 H2 c d hl h2) _),(fun H2 c d hl h2=>iL (k3 H2 c d hl h2) _),fun _ _ _ hl _=>f9 (by rw[←hl,bX];simp)⟩
 ·rw[wh,if_neg (odF hq)]
  simp only[go_sem,he,g1,g2,g3,g4]
  exact⟨mo,md,dy,ho,G,rfl,k1,k2,k3,fun H2 _ _ hl h2=>k4 H2 _ hl h2⟩
 clear he g1 g2 g3 g4 gq wh k1 k2 k3 k4 q1 q2 q3 q4
 rintro e h ⟨he,g1,g2,g3,g4,mo,md,dy,ho,G,rfl,k1,k2,k3,k4⟩
 have q1:=(k1 H .gone .gone rfl hx).one
 have q2:=(k2 H .gone .gone rfl hx).one
 have q3:=(k3 H .gone .gone rfl hx).one
 have q4:=(k4 H .gone .gone rfl hx).one
 have hl:=(k5 H [] rfl hx).len 3
 have wh:(K.whole r).minute=if r.minute=[]∧r.freq<5 then [r.start%86400/60%60] else r.minute:=rfl
 simp only[go_sem,he,g1,g2,g3,g4,hl]
 refine bQ (fun e h=>len e=96∧AL.get e 1=.ptr H.length 0∧AL.get e 2=.ptr (H.length+1) 0∧AL.get e 3=.ptr (H.length+2) 0∧AL.get e 4=.ptr (H.length+3) 0∧AL.get e 77=vB (decide (r.minute=[]∧r.freq<5))∧h=H++(aD.own 25 [vU r.freq,vB r.hasStart,vI r.start,vI (max 1 r.interval),vI r.wkst,vI r.count,vB true,vI (K.whole r).til,x.setPos,mo,md,x.yearDay,x.weekNo,dy,ho,mi,se,x.easter]::aD.own 25 z::aD.own 154 [vI (r.start/86400),vI (r.start%86400/3600),vI (r.start%86400/60%60),vI (r.start%86400%60)]::aD.own 159 [vI (aK (r.start/86400)),vI (aL (r.start/86400)).1,vI (aL (r.start/86400)).2]::G)) ?_ ?_
 ·cases hq:decide ((r.minute.length:Int)=0) with
  |true=>
   have hq:=List.length_eq_zero_iff.1 (by have:=odT hq;omega:r.minute.length=0)
   simp only[go_sem,he,g1,g2,g3,g4]
   congr 1
   exact decide_eq_decide.2 ⟨fun h=>⟨hq,by omega⟩,fun h=>by omega⟩
  |false=>
   have hq:=odF hq
   simp only[go_sem,he,g1,g2,g3,g4]
   rw[dcF fun h=>hq (by rw[h.1];rfl)]
 clear he g1 g2 g3 g4 hl
 rintro e h ⟨he,g1,g2,g3,g4,gq,rfl⟩
 simp only[go_sem,he,g1,g2,g3,g4,gq]
 refine bC (fun e h=>len e=96∧AL.get e 1=.ptr H.length 0∧AL.get e 2=.ptr (H.length+1) 0∧AL.get e 3=.ptr (H.length+2) 0∧AL.get e 4=.ptr (H.length+3) 0∧∃(mo md dy ho mi:AV) (G:aB),h=H++(aD.own 25 [vU r.freq,vB r.hasStart,vI r.start,vI (max 1 r.interval),vI r.wkst,vI r.count,vB true,vI (K.whole r).til,x.setPos,mo,md,x.yearDay,x.weekNo,dy,ho,mi,se,x.easter]::aD.own 25 z::aD.own 154 [vI (r.start/86400),vI (r.start%86400/3600),vI (r.start%86400/60%60),vI (r.start%86400%60)]::aD.own 159 [vI (aK (r.start/86400)),vI (aL (r.start/86400)).1,vI (aL (r.start/86400)).2]::G)∧(∀H2 c d,H2.length=H.length→cN H2 r x→aQ (H2++(c::d::aD.own 154 [vI (r.start/86400),vI (r.start%86400/3600),vI (r.start%86400/60%60),vI (r.start%86400%60)]::aD.own 159 [vI (aK (r.start/86400)),vI (aL (r.start/86400)).1,vI (aL (r.start/86400)).2]::G)) mo (K.whole r).month)∧(∀H2 c d,H2.length=H.length→cN H2 r x→aQ (H2++(c::d::aD.own 154 [vI (r.start/86400),vI (r.start%86400/3600),vI (r.start%86400/60%60),vI (r.start%86400%60)]::aD.own 159 [vI (aK (r.start/86400)),vI (aL (r.start/86400)).1,vI (aL (r.start/86400)).2]::G)) md (K.whole r).monthDay)∧(∀H2 c d,H2.length=H.length→cN H2 r x→cU (H2++(c::d::aD.own 154 [vI (r.start/86400),vI (r.start%86400/3600),vI (r.start%86400/60%60),vI (r.start%86400%60)]::aD.own 159 [vI (aK (r.start/86400)),vI (aL (r.start/86400)).1,vI (aL (r.start/86400)).2]::G)) dy (K.whole r).day)∧(∀H2 c d,H2.length=H.length→cN H2 r x→aQ (H2++(c::d::aD.own 154 [vI (r.start/86400),vI (r.start%86400/3600),vI (r.start%86400/60%60),vI (r.start%86400%60)]::aD.own 159 [vI (aK (r.start/86400)),vI (aL (r.start/86400)).1,vI (aL (r.start/86400)).2]::G)) ho (K.whole r).hour)∧(∀H2 c d,H2.length=H.length→cN H2 r x→aQ (H2++(c::d::aD.own 154 [vI (r.start/86400),vI (r.start%86400/3600),vI (r.start%86400/60%60),vI (r.start%86400%60)]::aD.own 159 [vI (aK (r.start/86400)),vI (aL (r.start/86400)).1,vI (aL (r.start/86400)).2]::G)) mi (K.whole r).minute)) (fun hq=>?_) (fun hq=>?_) ?_
 ·rw[wh,if_pos (odT hq)]
  simp only[go_sem,he,g1,g2,g3,g4]
  exact⟨mo,md,dy,ho,_,_,rfl,(fun H2 c d hl h2=>iL (k1 H2 c d hl h2) _),(fun H2 c d hl h2=>iL (k2 H2 c d hl h2) _),(fun H2 c d hl h2=>iL (k3 H2 c d hl h2) _),(fun H2 c d hl h2=>iL (k4 H2 c d hl h2) _),fun _ _ _ hl _=>f9 (by rw[←hl,bX];simp)⟩
 ·rw[wh,if_neg (odF hq)]
  simp only[go_sem,he,g1,g2,g3,g4]
  exact⟨mo,md,dy,ho,mi,G,rfl,k1,k2,k3,k4,fun H2 _ _ hl h2=>k5 H2 _ hl h2⟩
 clear he g1 g2 g3 g4 gq wh k1 k2 k3 k4 k5 q1 q2 q3 q4 q5
 rintro e h ⟨he,g1,g2,g3,g4,mo,md,dy,ho,mi,G,rfl,k1,k2,k3,k4,k5⟩
 have q1:=(k1 H .gone .gone rfl hx).one
 have q2:=(k2 H .gone .gone rfl hx).one
 have q3:=(k3 H .gone .gone rfl hx).one
 have q4:=(k4 H .gone .gone rfl hx).one
 have q5:=(k5 H .gone .gone rfl hx).one
 have hl:=(k6 H [] rfl hx).len 3
 have wh:(K.whole r).second=if r.second=[]∧r.freq<6 then [r.start%86400%60] else r.second:=rfl
 simp only[go_sem,he,g1,g2,g3,g4,hl]
 refine bQ (fun e h=>len e=96∧AL.get e 1=.ptr H.length 0∧AL.get e 2=.ptr (H.length+1) 0∧AL.get e 3=.ptr (H.length+2) 0∧AL.get e 4=.ptr (H.length+3) 0∧AL.get e 90=vB (decide (r.second=[]∧r.freq<6))∧h=H++(aD.own 25 [vU r.freq,vB r.hasStart,vI r.start,vI (max 1 r.interval),vI r.wkst,vI r.count,vB true,vI (K.whole r).til,x.setPos,mo,md,x.yearDay,x.weekNo,dy,ho,mi,se,x.easter]::aD.own 25 z::aD.own 154 [vI (r.start/86400),vI (r.start%86400/3600),vI (r.start%86400/60%60),vI (r.start%86400%60)]::aD.own 159 [vI (aK (r.start/86400)),vI (aL (r.start/86400)).1,vI (aL (r.start/86400)).2]::G)) ?_ ?_
 ·cases hq:decide ((r.second.length:Int)=0) with
  |true=>
   have hq:=List.length_eq_zero_iff.1 (by have:=odT hq;omega:r.second.length=0)
   simp only[go_sem,he,g1,g2,g3,g4]
   congr 1
   exact decide_eq_decide.2 ⟨fun h=>⟨hq,by omega⟩,fun h=>by omega⟩
  |false=>
   have hq:=odF hq
   simp only[go_sem,he,g1,g2,g3,g4]
   rw[dcF fun h=>hq (by rw[h.1];rfl)]
 clear he g1 g2 g3 g4 hl
 rintro e h ⟨he,g1,g2,g3,g4,gq,rfl⟩
 simp only[go_sem,he,g1,g2,g3,g4,gq]
 refine bC (fun e h=>len e=96∧AL.get e 1=.ptr H.length 0∧AL.get e 2=.ptr (H.length+1) 0∧AL.get e 3=.ptr (H.length+2) 0∧AL.get e 4=.ptr (H.length+3) 0∧∃(mo md dy ho mi se:AV) (G:aB),h=H++(aD.own 25 [vU r.freq,vB r.hasStart,vI r.start,vI (max 1 r.interval),vI r.wkst,vI r.count,vB true,vI (K.whole r).til,x.setPos,mo,md,x.yearDay,x.weekNo,dy,ho,mi,se,x.easter]::aD.own 25 z::aD.own 154 [vI (r.start/86400),vI (r.start%86400/3600),vI (r.start%86400/60%60),vI (r.start%86400%60)]::aD.own 159 [vI (aK (r.start/86400)),vI (aL (r.start/86400)).1,vI (aL (r.start/86400)).2]::G)∧(∀H2 c d,H2.length=H.length→cN H2 r x→aQ (H2++(c::d::aD.own 154 [vI (r.start/86400),vI (r.start%86400/3600),vI (r.start%86400/60%60),vI (r.start%86400%60)]::aD.own 159 [vI (aK (r.start/86400)),vI (aL (r.start/86400)).1,vI (aL (r.start/86400)).2]::G)) mo (K.whole r).month)∧(∀H2 c d,H2.length=H.length→cN H2 r x→aQ (H2++(c::d::aD.own 154 [vI (r.start/86400),vI (r.start%86400/3600),vI (r.start%86400/60%60),vI (r.start%86400%60)]::aD.own 159 [vI (aK (r.start/86400)),vI (aL (r.start/86400)).1,vI (aL (r.start/86400)).2]::G)) md (K.whole r).monthDay)∧(∀H2 c d,H2.length=H.length→cN H2 r x→cU (H2++(c::d::aD.own 154 [vI (r.start/86400),vI (r.start%86400/3600),vI (r.start%86400/60%60),vI (r.start%86400%60)]::aD.own 159 [vI (aK (r.start/86400)),vI (aL (r.start/86400)).1,vI (aL (r.start/86400)).2]::G)) dy (K.whole r).day)∧(∀H2 c d,H2.length=H.length→cN H2 r x→aQ (H2++(c::d::aD.own 154 [vI (r.start/86400),vI (r.start%86400/3600),vI (r.start%86400/60%60),vI (r.start%86400%60)]::aD.own 159 [vI (aK (r.start/86400)),vI (aL (r.start/86400)).1,vI (aL (r.start/86400)).2]::G)) ho (K.whole r).hour)∧(∀H2 c d,H2.length=H.length→cN H2 r x→aQ (H2++(c::d::aD.own 154 [vI (r.start/86400),vI (r.start%86400/3600),vI (r.start%86400/60%60),vI (r.start%86400%60)]::aD.own 159 [vI (aK (r.start/86400)),vI (aL (r.start/86400)).1,vI (aL (r.start/86400)).2]::G)) mi (K.whole r).minute)∧(∀H2 c d,H2.length=H.length→cN H2 r x→aQ (H2++(c::d::aD.own 154 [vI (r.start/86400),vI (r.start%86400/3600),vI (r.start%86400/60%60),vI (r.start%86400%60)]::aD.own 159 [vI (aK (r.start/86400)),vI (aL (r.start/86400)).1,vI (aL (r.start/86400)).2]::G)) se (K.whole r).second)) (fun hq=>?_) (fun hq=>?_) ?_
 ·rw[wh,if_pos (odT hq)]
  simp only[go_sem,he,g1,g2,g3,g4]
  exact⟨mo,md,dy,ho,mi,_,_,rfl,(fun H2 c d hl h2=>iL (k1 H2 c d hl h2) _),(fun H2 c d hl h2=>iL (k2 H2 c d hl h2) _),(fun H2 c d hl h2=>iL (k3 H2 c d hl h2) _),(fun H2 c d hl h2=>iL (k4 H2 c d hl h2) _),(fun H2 c d hl h2=>iL (k5 H2 c d hl h2) _),fun _ _ _ hl _=>f9 (by rw[←hl,bX];simp)⟩
 ·rw[wh,if_neg (odF hq)]
  simp only[go_sem,he,g1,g2,g3,g4]
  exact⟨mo,md,dy,ho,mi,se,G,rfl,k1,k2,k3,k4,k5,fun H2 _ _ hl h2=>k6 H2 _ hl h2⟩
 clear he g1 g2 g3 g4 gq wh k1 k2 k3 k4 k5 k6 q1 q2 q3 q4 q5 q6
 rintro e h ⟨he,g1,g2,g3,g4,mo,md,dy,ho,mi,se,G,rfl,k1,k2,k3,k4,k5,k6⟩
 have q1:=(k1 H .gone .gone rfl hx).one
 have q2:=(k2 H .gone .gone rfl hx).one
 have q3:=(k3 H .gone .gone rfl hx).one
 have q4:=(k4 H .gone .gone rfl hx).one
 have q5:=(k5 H .gone .gone rfl hx).one
 have q6:=(k6 H .gone .gone rfl hx).one
 have sp:=hx.setPos.one;have yd:=hx.yearDay.one;have wn:=hx.weekNo.one;have ea:=hx.easter.one
 have hz2:z.drop 18=[]:=List.drop_eq_nil_of_le (by omega)
 simp only[go_sem,he,g1,g2,g3,g4,hz,hz2,q1,q2,q3,q4,q5,q6,sp,yd,wn,ea]
 exact⟨{x with month:=mo,monthDay:=md,day:=dy,hour:=ho,minute:=mi,second:=se},_,rfl,rfl,fun H2 hl h2=>⟨(h2.more _).setPos,k1 H2 _ _ hl h2,k2 H2 _ _ hl h2,(h2.more _).yearDay,(h2.more _).weekNo,k3 H2 _ _ hl h2,k4 H2 _ _ hl h2,k5 H2 _ _ hl h2,k6 H2 _ _ hl h2,(h2.more _).easter⟩⟩
def eO (h:aB) (y:AV):Prop:=∃l:List Int,l.length≤1000∧∀G,aQ (h++G) y l
theorem eO.of {h:aB} {y:AV} {l:List Int} (hy:aQ h y l) (hl:l.length≤1000):eO h y:=⟨l,hl,fun G=>hy.more G⟩
theorem eO.more {h:aB} {y:AV} (s:eO h y) (G:aB):eO (h++G) y:=by
 obtain⟨l,hl,hs⟩:=s
 exact⟨l,hl,fun G'=>(hs G).more G'⟩
theorem jK {H:aB} {x:AV} {l:List Int} (hx:aQ H x l) {i:Nat} (hi:i<l.length):∃p q cs,qX prog 22 x (vI i)=some (.ptr p q)∧iP H[p]?=some cs∧cs[q]?=some (vI (l.getD i 0)):=by
 obtain⟨own,o,off,cs,rfl,hcs,hcell⟩:=aQ.get hx hi
 refine⟨o,off+i,cs,?_,hcs,hcell⟩
 rw[qF,mW,mU,if_pos ⟨by omega,by omega,rfl⟩,Int.toNat_natCast,Nat.mul_one]
theorem aLV {o:Nat} {a b:Int} {t:Bool} {H:aB}:p5 (.mp o) (.agg [vI a,vI b]) (vB t) H=(nR H[o]?).map fun es=>H.set o (.mapI (nQ (a,b) t es)):=rfl
theorem aKE {o:Nat} {a b:Int} {H:aB}:iH (.mp o) (.agg [vI a,vI b]) false H=(nR H[o]?).map fun es=>.val (.bool ((oG (a,b) es).getD false)):=rfl
theorem aPJ {es:List ((Int×Int)×Bool)}:nR (some (.mapI es))=some es:=rfl
theorem aE7 {w0:World} (l:List Int) (hl:l.length≤1000) (n:Nat) (hn:n≤100) (x:AV) (H:aB) (hx:aQ H x l):aH prog (CB w0) 160 [x,vI n] H fun r H'=>eO H' r∧∃G,H'=H++G:=by
 refine aSi (N:=21) (rs:=[.tmp 4]) Tryz.func160 ?_
 rintro e he ⟨g0,g1,-⟩
 have x1:=hx.one
 have xl:=hx.len 3
 simp only[go_sem,he,g0,g1,x1,xl]
 refine aF (fun hc=>?_) fun hc=>?_
 ·simp only[go_sem,he,g0,g1,x1,xl]
  exact⟨.of hx hl,[],by simp⟩
 ·simp only[go_sem,he,g0,g1,x1,xl]
  refine cF n (fun k e h=>len e=21∧AL.get e 11=vI n∧∃(i:Nat) (y:AV) (L:List Int),AL.get e 12=vI i∧i+k=n∧AL.get e 5=y∧New H h y L∧L.length≤i) (by kernel_rfl) ?_ ?_
  ·simp only[go_sem,he,g0,g1]
   exact⟨0,aP,[],rfl,by omega,rfl,⟨⟨[],by simp⟩,rfl,.inl ⟨rfl,rfl⟩⟩,by simp⟩
  ·clear he g0 g1
   rintro k e h ⟨he,g11,i,y,L,g12,hik,g5,hN,hL⟩
   have y1:=hN.at.one
   simp only[go_sem,he,g11,g12,g5]
   refine aF (fun hc=>?_) fun hc=>?_
   ·have hc:=odT hc
    obtain⟨y',h',ha,hb,-⟩:=GrN.push mW (by decide) hN (c:=[vI i]) rfl rfl (by omega)
    have wi:i64.wrap ((i:Int)+1)=((i+1:Nat):Int):=by rw[aJ (by omega)];rfl
    simp only[go_sem,he,g11,g12,g5,ha,wi]
    exact⟨k-1,by omega,i+1,y',L++[(i:Int)],rfl,by omega,rfl,by unfold New;rw[List.length_append,List.map_append];exact hb,by rw[List.length_append];simp;omega⟩
   ·have hc:=odF hc
    simp only[go_sem,he,g11,g12,g5,y1]
    exact⟨.of hN.at (by omega),hN.grown⟩
set_option maxHeartbeats 4000000 in
theorem aRT {w0:World} (r:Ru) (x:Rs) (hc:iC r) (H:aB) (hx:cN H r x) :
  aH prog (CB w0) 111 [.agg (aE r x)] H fun v H'=>(∃b,v=vB b)∧∃G,H'=H++G:=by
 refine aSi (N:=160) (rs:=[.tmp 2]) Tryz.func111 ?_
 rintro e he ⟨g0,-⟩
 have hst:=hc.start
 have hs:=mF hc
 have h1l:=hx.hour.len 3;have h2l:=hx.minute.len 3;have h3l:=hx.second.len 3
 unfold aE at g0
 simp only[go_sem,he,g0,hx.setPos.one,hx.month.one,hx.monthDay.one,hx.yearDay.one,hx.weekNo.one,hx.day.one,hx.hour.one,hx.minute.one,hx.second.one,hx.easter.one]
 refine bQ (fun e h=>len e=160∧AL.get e 1=.ptr H.length 0∧(∃b,AL.get e 38=vB b)∧h=H++[aD.own 25 (aE r x)]) ?_ ?_
 ·unfold aE
  cases hq:decide ((r.freq:Int)<4) with
  |true=>simp only[go_sem,he,g0];exact⟨_,rfl⟩
  |false=>simp only[go_sem,he,g0,h1l,h2l,h3l];exact⟨_,rfl⟩
 clear he g0
 rintro e h ⟨he,g1,⟨b,g38⟩,rfl⟩
 unfold aE
 simp only[go_sem,he,g1,g38]
 refine aF (fun hq=>?_) fun hq=>?_
 ·simp only[go_sem,he,g1,g38]
  exact⟨⟨_,rfl⟩,_,rfl⟩
 simp only[go_sem,he,g1,g38]
 refine aI (mZ r.start (by omega) (by omega) _) ?_
 rintro _ _ ⟨rfl,rfl⟩
 simp only[go_sem,he,g1,aA,List.replicate]
 refine aI (aE7 r.hour (by have:=hs.hour;omega) 24 (by omega) x.hour _ (hx.more _).hour) ?_
 rintro v1 _ ⟨hv1,G1,rfl⟩
 simp only[go_sem,he,g1,aA]
 have z1:∀G:aB,eO (H++(aD.own 25 (aE r x)::aD.own 154 [vI (r.start/86400),vI (r.start%86400/3600),vI (r.start%86400/60%60),vI (r.start%86400%60)]::(G++[aD.own 3 [vI 0],aD.own 3 [vI 0]]))) (.sl true (H.length+(G.length+1+1)) 0 1 1):=fun G=>.of (l:=[0]) (oC _ rfl (by rw[bX];simp)) (by simp)
 have z2:∀G:aB,eO (H++(aD.own 25 (aE r x)::aD.own 154 [vI (r.start/86400),vI (r.start%86400/3600),vI (r.start%86400/60%60),vI (r.start%86400%60)]::(G++[aD.own 3 [vI 0],aD.own 3 [vI 0]]))) (.sl true (H.length+(G.length+1+1+1)) 0 1 1):=fun G=>.of (l:=[0]) (oC _ rfl (by rw[bX];simp)) (by simp)
 refine fJ (fun e h=>len e=160∧AL.get e 1=.ptr H.length 0∧AL.get e 3=.ptr (H.length+1) 0∧(∃u:Int,AL.get e 7=vI u∧(u=3600∨u=60∨u=1))∧(∃s,AL.get e 8=vI s)∧∃(y4 y5 y6:AV) (G:aB),AL.get e 4=y4∧AL.get e 5=y5∧AL.get e 6=y6∧h=H++(aD.own 25 (aE r x)::aD.own 154 [vI (r.start/86400),vI (r.start%86400/3600),vI (r.start%86400/60%60),vI (r.start%86400%60)]::G)∧eO h y4∧eO h y5∧eO h y6) ?_ ?_
 ·refine bF bI (by kernel_rfl) ?_
  have hv2:=hv1.more [aD.own 3 [vI 0],aD.own 3 [vI 0]]
  unfold aE at z1 z2 ⊢
  simp only[go_sem,he,g1] at hv2 ⊢
  refine⟨⟨_,rfl,.inl rfl⟩,⟨_,rfl⟩,v1,_,_,_,rfl,rfl,rfl,rfl,hv2,z1 G1,z2 G1⟩
 clear he g1 g38
 rintro e h ⟨he,g1,g3,⟨u,g7,hu⟩,⟨st,g8⟩,y4,y5,y6,G,g4,g5,g6,rfl,s4,s5,s6⟩
 unfold aE
 simp only[go_sem,he,g1,g3,g4,g5,g6,g7,g8]
 have hne:∀(H:aB) (y:AV),∃r H',eO H' r∧∃G,H'=H++G:=fun H y=>⟨aP,H,⟨[],by simp,fun G=>.inl ⟨rfl,rfl⟩⟩,[],by simp⟩
 refine bC (fun e h=>len e=160∧AL.get e 1=.ptr H.length 0∧AL.get e 3=.ptr (H.length+1) 0∧(∃u:Int,AL.get e 7=vI u∧(u=3600∨u=60∨u=1))∧(∃s,AL.get e 8=vI s)∧∃(y4 y5 y6:AV) (G:aB),AL.get e 4=y4∧AL.get e 5=y5∧AL.get e 6=y6∧h=H++(aD.own 25 (aE r x)::aD.own 154 [vI (r.start/86400),vI (r.start%86400/3600),vI (r.start%86400/60%60),vI (r.start%86400%60)]::G)∧eO h y4∧eO h y5∧eO h y6) (fun hq=>?_) (fun hq=>?_) ?_
 ·refine bF bI (by kernel_rfl) ?_
  unfold aE at s4 s6 ⊢
  simp only[go_sem,he,g1,g3,g4,g5,g6,g7,g8]
  refine kR (aE7 r.minute (by have:=hs.minute;omega) 60 (by omega) x.minute _ (hx.more _).minute) (fun _ _ h=>by obtain⟨-,G,e⟩:=h;exact⟨G,e.symm⟩) (hne _ aP) ?_
  rintro v2 _ ⟨hv2,G2,rfl⟩
  have s4:=s4.more G2
  have s6:=s6.more G2
  simp only[go_sem,he,g1,g3,g4,g5,g6,g7,g8,aA] at s4 s6 hv2 ⊢
  exact⟨⟨_,rfl,.inr (.inl rfl)⟩,⟨_,rfl⟩,y4,v2,y6,_,rfl,rfl,rfl,rfl,s4,hv2,s6⟩
 ·unfold aE at s4 s5 s6 ⊢
  simp only[go_sem,he,g1,g3,g4,g5,g6,g7,g8]
  exact⟨⟨u,rfl,hu⟩,⟨_,rfl⟩,y4,y5,y6,_,rfl,rfl,rfl,rfl,s4,s5,s6⟩
 clear he g1 g3 g7 hu g8 g4 g5 g6 s4 s5 s6
 rintro e h ⟨he,g1,g3,⟨u,g7,hu⟩,⟨st,g8⟩,y4,y5,y6,G,g4,g5,g6,rfl,s4,s5,s6⟩
 unfold aE
 simp only[go_sem,he,g1,g3,g4,g5,g6,g7,g8]
 refine bC (fun e h=>len e=160∧AL.get e 1=.ptr H.length 0∧AL.get e 3=.ptr (H.length+1) 0∧(∃u:Int,AL.get e 7=vI u∧(u=3600∨u=60∨u=1))∧(∃s,AL.get e 8=vI s)∧∃(y4 y5 y6:AV) (G:aB),AL.get e 4=y4∧AL.get e 5=y5∧AL.get e 6=y6∧h=H++(aD.own 25 (aE r x)::aD.own 154 [vI (r.start/86400),vI (r.start%86400/3600),vI (r.start%86400/60%60),vI (r.start%86400%60)]::G)∧eO h y4∧eO h y5∧eO h y6) (fun hq=>?_) (fun hq=>?_) ?_
 ·refine bF bI (by kernel_rfl) ?_
  unfold aE at s4 s5 ⊢
  simp only[go_sem,he,g1,g3,g4,g5,g6,g7,g8]
  refine kR (aE7 r.second (by have:=hs.second;omega) 60 (by omega) x.second _ (hx.more _).second) (fun _ _ h=>by obtain⟨-,G,e⟩:=h;exact⟨G,e.symm⟩) (hne _ aP) ?_
  rintro v2 _ ⟨hv2,G2,rfl⟩
  have s4:=s4.more G2
  have s5:=s5.more G2
  simp only[go_sem,he,g1,g3,g4,g5,g6,g7,g8,aA] at s4 s5 hv2 ⊢
  exact⟨⟨_,rfl,.inr (.inr rfl)⟩,⟨_,rfl⟩,y4,y5,v2,_,rfl,rfl,rfl,rfl,s4,s5,hv2⟩
 ·unfold aE at s4 s5 s6 ⊢
  simp only[go_sem,he,g1,g3,g4,g5,g6,g7,g8]
  exact⟨⟨u,rfl,hu⟩,⟨_,rfl⟩,y4,y5,y6,_,rfl,rfl,rfl,rfl,s4,s5,s6⟩
 clear he g1 g3 g7 hu g8 g4 g5 g6 s4 s5 s6
 rintro e h ⟨he,g1,g3,⟨u,g7,hu⟩,⟨st,g8⟩,y4,y5,y6,G,g4,g5,g6,hE,s4,s5,s6⟩
 have hxh:cN h r x:=by rw[hE];exact hx.more _
 have r0:h[H.length]?=some (aD.own 25 (aE r x)):=by rw[hE,bB];rfl
 have r0':∀G,(h++G)[H.length]?=some (aD.own 25 (aE r x)):=fun G=>aZ r0
 have hpre:∃G,h=H++G:=⟨_,hE⟩
 clear hE
 have hci:=hc.interval
 have hmx:i64.wrap (max 1 r.interval*u)=max 1 r.interval*u:=by rcases hu with rfl|rfl|rfl<;>rw[aJ (by omega)]
 have hmp:0<max 1 r.interval*u:=by rcases hu with rfl|rfl|rfl<;>omega
 unfold aE at r0 r0'
 simp only[go_sem,he,g1,g3,g4,g5,g6,g7,g8,r0,hmx]
 refine bG 86401 (fun k e h'=>len e=160∧AL.get e 1=.ptr H.length 0∧AL.get e 8=vI st∧AL.get e 4=y4∧AL.get e 5=y5∧AL.get e 6=y6∧h'=h∧∃a b:Int,AL.get e 9=vI a∧AL.get e 10=vI b∧0<a∧0≤b∧b+1=k) (fun e h'=>len e=160∧AL.get e 1=.ptr H.length 0∧AL.get e 8=vI st∧AL.get e 4=y4∧AL.get e 5=y5∧AL.get e 6=y6∧h'=h∧∃a:Int,AL.get e 9=vI a∧0<a) (by kernel_rfl) ?_ ?_ ?_
 ·simp only[go_sem,he,g1,g3,g4,g5,g6,g7,g8]
  exact⟨_,86400,rfl,rfl,hmp,by omega,by omega⟩
 ·clear he g1 g8 g4 g5 g6 g3 g7
  rintro k e h' ⟨he,g1,g8,g4,g5,g6,rfl,a,b,g9,g10,ha,hb,hbk⟩
  simp only[go_sem,he,g1,g4,g5,g6,g8,g9,g10]
  refine aF (fun hq=>?_) fun hq=>?_
  ·have hq:=odT hq
   simp only[go_sem,he,g1,g4,g5,g6,g8,g9,g10]
   refine bF bI (by kernel_rfl) ?_
   simp only[go_sem,he,g1,g4,g5,g6,g8,g9,g10]
   rw[Int.tmod_eq_emod_of_nonneg (by omega)]
   have m1:=Int.emod_nonneg a (show b≠0 by omega)
   have m2:=Int.emod_lt_of_pos a hq
   exact⟨by omega,(a%b).toNat+1,by omega,_,_,rfl,rfl,hq,m1,by omega⟩
  ·simp only[go_sem,he,g1,g4,g5,g6,g8,g9,g10]
   exact⟨a,rfl,ha⟩
 clear he g1 g8 g4 g5 g6 g3 g7
 rintro e h' ⟨he,g1,g8,g4,g5,g6,rfl,a,g9,ha⟩
 simp only[go_sem,he,g1,g4,g5,g6,g8,g9]
 obtain⟨l4,b4,k4⟩:=s4
 obtain⟨l5,b5,k5⟩:=s5
 obtain⟨l6,b6,k6⟩:=s6
 have m4:=(k4 []).len 3;have m5:=(k5 []).len 3;have m6:=(k6 []).len 3
 have pm:kC prog 199=true:=by kernel_rfl
 have hw0:i64.wrap 0=0:=rfl
 simp only[go_sem,he,g1,g4,g5,g6,g8,g9,m4]
 refine bG l4.length (fun k e hh=>len e=160∧AL.get e 1=.ptr H.length 0∧AL.get e 8=vI st∧AL.get e 4=y4∧AL.get e 5=y5∧AL.get e 6=y6∧AL.get e 9=vI a∧AL.get e 11=.mp h'.length∧AL.get e 83=y4∧AL.get e 84=vI l4.length∧∃(i:Nat) (o:aD) (es:List ((Int×Int)×Bool)),AL.get e 85=vI i∧i+k=l4.length∧hh=h'++[o]∧nR (some o)=some es) (fun e hh=>len e=160∧AL.get e 1=.ptr H.length 0∧AL.get e 11=.mp h'.length∧∃(o:aD) (es:List ((Int×Int)×Bool)),hh=h'++[o]∧nR (some o)=some es) (by kernel_rfl) ?_ ?_ ?_
 ·simp only[go_sem,he,g1,g4,g5,g6,g8,g9]
  exact⟨0,_,_,rfl,by omega,rfl,rfl⟩
 ·clear he g1 g4 g5 g6 g8 g9
  rintro k e hh ⟨he,g1,g8,g4,g5,g6,g9,g11,g83,g84,i,o,es,g85,hik,rfl,hes⟩
  simp only[go_sem,he,g1,g4,g5,g6,g8,g9,g11,g83,g84,g85]
  refine aF (fun hq=>?_) fun hq=>?_
  ·have hq:=odT hq
   obtain⟨pp,qq,cs,hsl,hcs,hcell⟩:=jK (k4 [o]) (i:=i) (by omega)
   have n5:=m5
   simp only[go_sem,he,g1,g4,g5,g6,g8,g9,g11,g83,g84,g85,hsl,hcs,hcell,n5]
   generalize l4.getD i 0=v4
   refine bG l5.length (fun k e hh=>len e=160∧AL.get e 1=.ptr H.length 0∧AL.get e 8=vI st∧AL.get e 4=y4∧AL.get e 5=y5∧AL.get e 6=y6∧AL.get e 9=vI a∧AL.get e 11=.mp h'.length∧AL.get e 83=y4∧AL.get e 84=vI l4.length∧AL.get e 85=vI i∧AL.get e 13=vI v4∧AL.get e 89=y5∧AL.get e 90=vI l5.length∧∃(j:Nat) (o:aD) (es:List ((Int×Int)×Bool)),AL.get e 91=vI j∧j+k=l5.length∧hh=h'++[o]∧nR (some o)=some es) (fun e hh=>len e=160∧AL.get e 1=.ptr H.length 0∧AL.get e 8=vI st∧AL.get e 4=y4∧AL.get e 5=y5∧AL.get e 6=y6∧AL.get e 9=vI a∧AL.get e 11=.mp h'.length∧AL.get e 83=y4∧AL.get e 84=vI l4.length∧AL.get e 85=vI i∧∃(o:aD) (es:List ((Int×Int)×Bool)),hh=h'++[o]∧nR (some o)=some es) (by kernel_rfl) ?_ ?_ ?_
   ·simp only[go_sem,he,g1,g4,g5,g6,g8,g9,g11,g83,g84,g85]
    exact⟨0,_,_,rfl,by omega,rfl,hes⟩
   ·clear he g1 g4 g5 g6 g8 g9 g11 g83 g84 g85 hes
    rintro k e hh ⟨he,g1,g8,g4,g5,g6,g9,g11,g83,g84,g85,g13,g89,g90,j,o,es,g91,hjk,rfl,hes⟩
    simp only[go_sem,he,g1,g4,g5,g6,g8,g9,g11,g83,g84,g85,g13,g89,g90,g91]
    refine aF (fun hq=>?_) fun hq=>?_
    ·have hq:=odT hq
     obtain⟨pp2,qq2,cs2,hsl2,hcs2,hcell2⟩:=jK (k5 [o]) (i:=j) (by omega)
     simp only[go_sem,he,g1,g4,g5,g6,g8,g9,g11,g83,g84,g85,g13,g89,g90,g91,hsl2,hcs2,hcell2,m6]
     generalize l5.getD j 0=v5
     refine bG l6.length (fun k e hh=>len e=160∧AL.get e 1=.ptr H.length 0∧AL.get e 8=vI st∧AL.get e 4=y4∧AL.get e 5=y5∧AL.get e 6=y6∧AL.get e 9=vI a∧AL.get e 11=.mp h'.length∧AL.get e 83=y4∧AL.get e 84=vI l4.length∧AL.get e 85=vI i∧AL.get e 13=vI v4∧AL.get e 89=y5∧AL.get e 90=vI l5.length∧AL.get e 91=vI j∧AL.get e 15=vI v5∧AL.get e 95=y6∧AL.get e 96=vI l6.length∧∃(l:Nat) (o:aD) (es:List ((Int×Int)×Bool)),AL.get e 97=vI l∧l+k=l6.length∧hh=h'++[o]∧nR (some o)=some es) (fun e hh=>len e=160∧AL.get e 1=.ptr H.length 0∧AL.get e 8=vI st∧AL.get e 4=y4∧AL.get e 5=y5∧AL.get e 6=y6∧AL.get e 9=vI a∧AL.get e 11=.mp h'.length∧AL.get e 83=y4∧AL.get e 84=vI l4.length∧AL.get e 85=vI i∧AL.get e 13=vI v4∧AL.get e 89=y5∧AL.get e 90=vI l5.length∧AL.get e 91=vI j∧∃(o:aD) (es:List ((Int×Int)×Bool)),hh=h'++[o]∧nR (some o)=some es) (by kernel_rfl) ?_ ?_ ?_
     ·simp only[go_sem,he,g1,g4,g5,g6,g8,g9,g11,g83,g84,g85,g13,g89,g90,g91]
      exact⟨0,_,_,rfl,by omega,rfl,hes⟩
     ·clear he g1 g4 g5 g6 g8 g9 g11 g83 g84 g85 g13 g89 g90 g91 hes
      rintro k e hh ⟨he,g1,g8,g4,g5,g6,g9,g11,g83,g84,g85,g13,g89,g90,g91,g15,g95,g96,l,o,es,g97,hlk,rfl,hes⟩
      simp only[go_sem,he,g1,g4,g5,g6,g8,g9,g11,g83,g84,g85,g13,g89,g90,g91,g15,g95,g96,g97]
      refine aF (fun hq=>?_) fun hq=>?_
      ·have hq:=odT hq
       obtain⟨pp3,qq3,cs3,hsl3,hcs3,hcell3⟩:=jK (k6 [o]) (i:=l) (by omega)
       have wl:i64.wrap ((l:Int)+1)=((l+1:Nat):Int):=by rw[aJ (by omega)];rfl
       simp only[go_sem,he,g1,g4,g5,g6,g8,g9,g11,g83,g84,g85,g13,g89,g90,g91,g15,g95,g96,g97,hsl3,hcs3,hcell3]
       refine⟨by omega,?_⟩
       refine aF (fun hq=>?_) fun hq=>?_
       ·simp only[go_sem,he,g1,g4,g5,g6,g8,g9,g11,g83,g84,g85,g13,g89,g90,g91,g15,g95,g96,g97,pm,aLV,hes,aPJ,wl]
        exact⟨k-1,by omega,l+1,_,_,rfl,by omega,rfl,rfl⟩
       ·simp only[go_sem,he,g1,g4,g5,g6,g8,g9,g11,g83,g84,g85,g13,g89,g90,g91,g15,g95,g96,g97,wl]
        exact⟨k-1,by omega,l+1,o,es,rfl,by omega,rfl,hes⟩
      ·have hq:=odF hq
       simp only[go_sem,he,g1,g4,g5,g6,g8,g9,g11,g83,g84,g85,g13,g89,g90,g91]
       exact⟨o,es,rfl,hes⟩
     ·clear he g1 g4 g5 g6 g8 g9 g11 g83 g84 g85 g13 g89 g90 g91 hes
      rintro e hh ⟨he,g1,g8,g4,g5,g6,g9,g11,g83,g84,g85,g13,g89,g90,g91,o,es,rfl,hes⟩
      have wl:i64.wrap ((j:Int)+1)=((j+1:Nat):Int):=by rw[aJ (by omega)];rfl
      simp only[go_sem,he,g1,g4,g5,g6,g8,g9,g11,g83,g84,g85,g13,g89,g90,g91,wl]
      exact⟨k-1,by omega,j+1,o,es,rfl,by omega,rfl,hes⟩
    ·have hq:=odF hq
     simp only[go_sem,he,g1,g4,g5,g6,g8,g9,g11,g83,g84,g85]
     exact⟨o,es,rfl,hes⟩
   ·clear he g1 g4 g5 g6 g8 g9 g11 g83 g84 g85 hes
    rintro e hh ⟨he,g1,g8,g4,g5,g6,g9,g11,g83,g84,g85,o,es,rfl,hes⟩
    have wl:i64.wrap ((i:Int)+1)=((i+1:Nat):Int):=by rw[aJ (by omega)];rfl
    simp only[go_sem,he,g1,g4,g5,g6,g8,g9,g11,g83,g84,g85,wl]
    exact⟨k-1,by omega,i+1,o,es,rfl,by omega,rfl,hes⟩
  ·have hq:=odF hq
   simp only[go_sem,he,g1,g4,g5,g6,g8,g9,g11]
   exact⟨o,es,rfl,hes⟩
 clear he g1 g4 g5 g6 g8 g9
 rintro e hh ⟨he,g1,g11,o,es,rfl,hes⟩
 have c1:=aN hx.hour.one;have c2:=aN hx.minute.one;have c3:=aN hx.second.one
 have kx:∀G,aQ (h'++G) x.hour r.hour:=fun G=>(hxh.more G).hour
 have ky:∀G,aQ (h'++G) x.minute r.minute:=fun G=>(hxh.more G).minute
 have kz:∀G,aQ (h'++G) x.second r.second:=fun G=>(hxh.more G).second
 simp only[go_sem,he,g1,g11,r0',c1,c2,c3]
 refine cF 3 (fun k e hh=>len e=160∧AL.get e 1=.ptr H.length 0∧AL.get e 11=.mp h'.length∧AL.get e 131=.sl true (h'.length+1) 0 3 1∧AL.get e 132=vI 3∧∃i:Nat,AL.get e 133=vI i∧i+k=3∧hh=h'++[o,.own 22 [x.hour,x.minute,x.second]]) (by kernel_rfl) ?_ ?_
 ·simp only[go_sem,he,g1,g11]
  exact⟨rfl,0,rfl,by omega⟩
 ·clear he g1 g11
  rintro k e hh ⟨he,g1,g11,g131,g132,i,g133,hik,rfl⟩
  simp only[go_sem,he,g1,g11,g131,g132,g133]
  refine aF (fun hq=>?_) fun hq=>?_
  ·have hq:=odT hq
   obtain⟨y,ly,hy0,hyl,hy1⟩:∃(y:AV) (ly:List Int),[x.hour,x.minute,x.second][i]?=some y∧ly.length≤1000∧∀G,aQ (h'++G) y ly:=by
    rcases (show i=0∨i=1∨i=2 by omega) with rfl|rfl|rfl
    ·exact⟨_,_,rfl,hs.hour,kx⟩
    ·exact⟨_,_,rfl,hs.minute,ky⟩
    ·exact⟨_,_,rfl,hs.second,kz⟩
   have yl:=(hy1 []).len 3
   have wi:i64.wrap ((i:Int)+1)=((i+1:Nat):Int):=by rw[aJ (by omega)];rfl
   simp only[go_sem,he,g1,g11,g131,g132,g133,Int.toNat_natCast,hy0,yl]
   refine⟨by omega,?_⟩
   have r9:=r0' [o,.own 22 [x.hour,x.minute,x.second]]
   refine bG ly.length (fun k e hh=>len e=160∧AL.get e 1=.ptr H.length 0∧AL.get e 11=.mp h'.length∧AL.get e 131=.sl true (h'.length+1) 0 3 1∧AL.get e 132=vI 3∧AL.get e 133=vI i∧AL.get e 18=vI i∧AL.get e 138=y∧AL.get e 139=vI ly.length∧hh=h'++[o,.own 22 [x.hour,x.minute,x.second]]∧∃j:Nat,AL.get e 140=vI j∧j+k=ly.length) (fun e hh=>len e=160∧AL.get e 1=.ptr H.length 0∧AL.get e 11=.mp h'.length∧AL.get e 131=.sl true (h'.length+1) 0 3 1∧AL.get e 132=vI 3∧AL.get e 133=vI i∧hh=h'++[o,.own 22 [x.hour,x.minute,x.second]]) (by kernel_rfl) ?_ ?_ ?_
   ·simp only[go_sem,he,g1,g11,g131,g132,g133]
    exact⟨0,rfl,by omega⟩
   ·clear he g1 g11 g131 g132 g133
    rintro k e hh ⟨he,g1,g11,g131,g132,g133,g18,g138,g139,rfl,j,g140,hjk⟩
    simp only[go_sem,he,g1,g11,g131,g132,g133,g18,g138,g139,g140]
    refine aF (fun hq=>?_) fun hq=>?_
    ·have hq:=odT hq
     obtain⟨pp,qq,cs,hsl,hcs,hcell⟩:=jK (hy1 [o,.own 22 [x.hour,x.minute,x.second]]) (i:=j) (by omega)
     have wl:i64.wrap ((j:Int)+1)=((j+1:Nat):Int):=by rw[aJ (by omega)];rfl
     have cv:∀k,gU prog 5 3 (.val (.int .u8 k))=some (vI (i64.wrap k)):=fun k=>dL Tryz.underlying5 Tryz.underlying3
     simp only[go_sem,he,g1,g11,g131,g132,g133,g18,g138,g139,g140,hsl,hcs,hcell,r9,cv]
     generalize decide ((i:Int)≤i64.wrap (u8.wrap ((r.freq:Int)-4)))=bb
     cases bb with
     |false=>
      simp only[go_sem,he,g1,g11,g131,g132,g133,g18,g138,g139,g140,wl]
      exact⟨k-1,by omega,j+1,rfl,by omega⟩
     |true=>
      simp only[go_sem,he,g1,g11,g131,g132,g133,g18,g138,g139,g140,pm,aKE,hes]
      refine aF (fun hz=>?_) fun hz=>?_
      ·simp only[go_sem,he,g1,g11,g131,g132,g133,g18,g138,g139,g140]
       obtain⟨G,rfl⟩:=hpre
       exact⟨⟨_,rfl⟩,_,List.append_assoc _ _ _⟩
      ·simp only[go_sem,he,g1,g11,g131,g132,g133,g18,g138,g139,g140,wl]
       exact⟨k-1,by omega,j+1,rfl,by omega⟩
    ·simp only[go_sem,he,g1,g11,g131,g132,g133]
   ·clear he g1 g11 g131 g132 g133
    rintro e hh ⟨he,g1,g11,g131,g132,g133,rfl⟩
    simp only[go_sem,he,g1,g11,g131,g132,g133,wi]
    exact⟨k-1,by omega,i+1,rfl,by omega⟩
  ·simp only[go_sem,he,g1,g11,g131,g132,g133]
   obtain⟨G,rfl⟩:=hpre
   exact⟨⟨_,rfl⟩,_,List.append_assoc _ _ _⟩
theorem aKF {w0:World} (d:Int×Int) (H:aB):aH prog (CB w0) 109 [vD d] H fun v H'=>v=vB (!decide (d.2=0))∧H'=H:=by
 refine aH.flat rfl ?_
 refine aSi (N:=6) (rs:=[.tmp 2]) Tryz.func109 ?_
 rintro e he ⟨g0,-⟩
 simp only[go_sem,he,g0]
 exact⟨_,rfl⟩
theorem aKG {w0:World} (d:Int×Int) (H:aB):aH prog (CB w0) 110 [vD d] H fun v H'=>v=vB (decide (d.2=0))∧H'=H:=by
 refine aH.flat rfl ?_
 refine aSi (N:=6) (rs:=[.tmp 2]) Tryz.func110 ?_
 rintro e he ⟨g0,-⟩
 simp only[go_sem,he,g0]
 exact⟨_,rfl⟩
set_option maxHeartbeats 4000000 in
theorem aLW {w0:World} (r:Ru) (x:Rs) (hc:iC r) (H:aB) (hx:cN H r x) :
  aH prog (CB w0) 71 [.agg (aE r x)] H fun v H'=>(∃b,v=vB b∧(b=false→K.uH r))∧∃G,H'=H++G:=by
 refine aSi (N:=104) (rs:=[.tmp 2]) Tryz.func71 ?_
 rintro e he ⟨g0,-⟩
 have hst:=hc.start
 have hs:=mF hc
 have s4:=hs.weekNo;have s6:=hs.day
 have l2:=hx.monthDay.len 3;have l3:=hx.yearDay.len 3;have l4:=hx.weekNo.len 3;have l5:=hx.setPos.len 3
 have l6:=hx.day.len 41
 unfold aE at g0
 simp only[go_sem,he,g0,hx.setPos.one,hx.month.one,hx.monthDay.one,hx.yearDay.one,hx.weekNo.one,hx.day.one,hx.hour.one,hx.minute.one,hx.second.one,hx.easter.one,l4]
 have yes:∀(H':aB),(∃G,H'=H++G)→(∃b,vB true=vB b∧(b=false→K.uH r))∧∃G,H'=H++G:=fun H' h=>⟨⟨true,rfl,fun h=>by cases h⟩,h⟩
 refine bC (fun e h=>len e=104∧AL.get e 1=.ptr H.length 0∧h=H++[aD.own 25 (aE r x)]∧K.uH r) (fun hq=>?_) (fun hq=>?_) ?_
 ·simp only[go_sem,he,g0,l6]
  refine bQ (fun e h=>len e=104∧AL.get e 1=.ptr H.length 0∧(∃b,AL.get e 24=vB b)∧h=H++[aD.own 25 (aE r x)]) ?_ ?_
  ·unfold aE
   cases hd:decide ((r.day.length:Int)=0) with
   |true=>simp only[go_sem,he,g0];exact⟨_,rfl⟩
   |false=>simp only[go_sem,he,g0,l2,l3];exact⟨_,rfl⟩
  clear he g0
  rintro e h ⟨he,g1,⟨b,g24⟩,rfl⟩
  simp only[go_sem,he,g1,g24]
  refine aF (fun hb=>?_) fun hb=>?_
  ·simp only[go_sem,he,g1,g24];exact yes _ ⟨_,rfl⟩
  have r0:(H++[aD.own 25 (aE r x)])[H.length]?=some (aD.own 25 (aE r x)):=by rw[bB];rfl
  unfold aE at r0 ⊢
  simp only[go_sem,he,g1,g24,l4]
  refine cF r.weekNo.length (fun k e h=>len e=104∧AL.get e 1=.ptr H.length 0∧AL.get e 26=x.weekNo∧AL.get e 27=vI r.weekNo.length∧h=H++[aD.own 25 (aE r x)]∧∃i:Nat,AL.get e 28=vI i∧i+k=r.weekNo.length∧∀j,j<i→-51≤r.weekNo.getD j 0∧r.weekNo.getD j 0≤51) (by kernel_rfl) ?_ ?_
  ·simp only[go_sem,he,g1]
   exact⟨rfl,0,rfl,by omega,fun j hj=>by omega⟩
  ·clear he g1 g24
   rintro k e h ⟨he,g1,g26,g27,rfl,i,g28,hik,hall⟩
   simp only[go_sem,he,g1,g26,g27,g28]
   refine aF (fun hq=>?_) fun hq=>?_
   ·have hq:=odT hq
    obtain⟨pp,qq,cs,hsl,hcs,hcell⟩:=jK ((hx.more [aD.own 25 (aE r x)]).weekNo) (i:=i) (by omega)
    have wi:i64.wrap ((i:Int)+1)=((i+1:Nat):Int):=by rw[aJ (by omega)];rfl
    obtain⟨v,hv⟩:∃v,v=r.weekNo.getD i 0:=⟨_,rfl⟩
    rw[←hv] at hcell
    simp only[go_sem,he,g1,g26,g27,g28,hsl,hcs,hcell]
    have nx:-51≤v→v≤51→∀j,j<i+1→-51≤r.weekNo.getD j 0∧r.weekNo.getD j 0≤51:=fun h1 h2 j hj=>by
     rcases Nat.lt_or_ge j i with c|c
     ·exact hall j c
     ·have:j=i:=by omega
      subst this
      rw[←hv];exact⟨h1,h2⟩
    unfold aE
    cases d1:decide (52≤v) with
    |true=>simp only[go_sem,he,g1,g26,g27,g28];exact yes _ ⟨_,rfl⟩
    |false=>
     simp only[go_sem,he,g1,g26,g27,g28]
     refine aF (fun d2=>?_) fun d2=>?_
     ·simp only[go_sem,he,g1,g26,g27,g28];exact yes _ ⟨_,rfl⟩
     have d1:=odF d1
     have d2:=odF d2
     have nx:=nx (by omega) (by omega)
     simp only[go_sem,he,g1,g26,g27,g28]
     refine bQ (fun e h=>len e=104∧AL.get e 1=.ptr H.length 0∧AL.get e 26=x.weekNo∧AL.get e 27=vI r.weekNo.length∧AL.get e 28=vI i∧(∃b,AL.get e 54=vB b)∧h=H++[aD.own 25 (aE r x)]) ?_ ?_
     ·unfold aE
      have fin:True:=trivial
      cases d3:decide (v=1)<;>simp only[go_sem,he,g1,g26,g27,g28]
      ·cases d4:decide (v=-1)<;>simp only[go_sem,he,g1,g26,g27,g28]
       ·exact⟨_,rfl⟩
       ·cases d5:decide (1<r.interval)<;>simp only[go_sem,he,g1,g26,g27,g28,l5]
        ·exact⟨_,rfl⟩
        ·exact⟨_,rfl⟩
      ·cases d5:decide (1<r.interval)<;>simp only[go_sem,he,g1,g26,g27,g28,l5]
       ·exact⟨_,rfl⟩
       ·exact⟨_,rfl⟩
     clear he g1 g26 g27 g28
     rintro e h ⟨he,g1,g26,g27,g28,⟨b,g54⟩,rfl⟩
     simp only[go_sem,he,g1,g26,g27,g28,g54]
     refine aF (fun hb=>?_) fun hb=>?_
     ·simp only[go_sem,he,g1,g26,g27,g28];exact yes _ ⟨_,rfl⟩
     ·simp only[go_sem,he,g1,g26,g27,g28,wi]
      exact⟨k-1,by omega,rfl,i+1,rfl,by omega,nx⟩
   ·have hq:=odF hq
    simp only[go_sem,he,g1,g26,g27,g28]
    refine⟨rfl,⟨fun n hn=>?_⟩⟩
    obtain⟨j,hj,e⟩:=List.getElem_of_mem hn
    have:=hall j (by omega)
    rw[List.getD_eq_getElem?_getD,List.getElem?_eq_getElem hj] at this
    rw[←e];exact this
 ·have hq:=odF hq
  unfold aE
  simp only[go_sem,he,g0]
  refine⟨fun n hn=>?_⟩
  have:r.weekNo=[]:=List.length_eq_zero_iff.1 (by omega)
  rw[this] at hn;cases hn
 clear he g0
 rintro e h ⟨he,g1,rfl,hS⟩
 have no:∀(b:Bool) (H':aB),(∃G,H'=H++G)→(∃b',vB b=vB b'∧(b'=false→K.uH r))∧∃G,H'=H++G:=fun b H' h=>⟨⟨b,rfl,fun _=>hS⟩,h⟩
 simp only[go_sem,he,g1]
 refine fJ (fun e h=>len e=104∧AL.get e 1=.ptr H.length 0∧(∃b,AL.get e 74=vB b)∧h=H++[aD.own 25 (aE r x)]) ?_ ?_
 ·refine bU [107,106] bI (by kernel_rfl) ?_
  unfold aE
  simp only[go_sem,he,g1]
  cases d1:decide ((r.freq:Int)=2) with
  |false=>simp only[go_sem,he,g1];exact⟨_,rfl⟩
  |true=>
   simp only[go_sem,he,g1,l5]
   cases d2:decide (0<(r.setPos.length:Int)) with
   |false=>simp only[go_sem,he,g1];exact⟨_,rfl⟩
   |true=>
    simp only[go_sem,he,g1]
    refine aS (fun _=>mZ r.start (by omega) (by omega) _) ?_
    simp only[go_sem,he,g1,aA,fM]
    refine aS (fun _=>nI (r.start/86400) (by omega) _) ?_
    simp only[go_sem,he,g1,aA]
    exact⟨_,rfl⟩
 clear he g1
 rintro e h ⟨he,g1,⟨b,g74⟩,rfl⟩
 simp only[go_sem,he,g1,g74]
 refine aF (fun hb=>?_) fun hb=>?_
 ·simp only[go_sem,he,g1,g74];exact no _ _ ⟨_,rfl⟩
 unfold aE
 simp only[go_sem,he,g1,g74]
 refine aI (aE3 r.day (by omega) x.day _ _ (fun d=>!decide (d.2=0)) _ (hx.more _).day fun d _ G=>aKF d _) ?_
 rintro _ _ ⟨rfl,rfl⟩
 simp only[go_sem,he,g1,aA]
 refine aI (aE3 r.day (by omega) x.day _ _ (fun d=>decide (d.2=0)) _ (hx.more _).day fun d _ G=>aKG d _) ?_
 rintro _ _ ⟨rfl,rfl⟩
 simp only[go_sem,he,g1,aA]
 refine bQ (fun e h=>len e=104∧(∃b,AL.get e 2=vB b)∧∃G,h=H++G) ?_ ?_
 ·have hmet:=aRT (w0:=w0) r x hc _ (hx.more [aD.own 25 (aE r x)])
  unfold aE at hmet
  generalize (r.day.any fun d=>!decide (d.2=0))=p1
  generalize (r.day.any fun d=>decide (d.2=0))=p2
  cases p1 with
  |false=>
   simp only[go_sem,he,g1]
   refine aI hmet ?_
   rintro _ _ ⟨⟨b,rfl⟩,G,rfl⟩
   simp only[go_sem,he,g1,aA]
   exact⟨⟨_,rfl⟩,_,rfl⟩
  |true=>
   cases p2 with
   |true=>
    simp only[go_sem,he,g1]
    exact⟨⟨_,rfl⟩,_,rfl⟩
   |false=>
    simp only[go_sem,he,g1,l2,l3,l4]
    generalize decide (0<i64.wrap (i64.wrap ((r.monthDay.length:Int)+(r.yearDay.length:Int))+(r.weekNo.length:Int)))=p3
    cases p3 with
    |true=>
     simp only[go_sem,he,g1]
     exact⟨⟨_,rfl⟩,_,rfl⟩
    |false=>
     simp only[go_sem,he,g1]
     refine aI hmet ?_
     rintro _ _ ⟨⟨b,rfl⟩,G,rfl⟩
     simp only[go_sem,he,g1,aA]
     exact⟨⟨_,rfl⟩,_,rfl⟩
 rintro e h ⟨he,⟨b,g2⟩,G,rfl⟩
 simp only[go_sem,he,g2]
 exact no _ _ ⟨_,rfl⟩
end F
namespace AL
open Go.RowKit
def aIC (P:Program) (ts:Array TypeId) (ty:TypeId) (x y:AV):Option AV:=(plains [x,y]).bind fun vs=>(aT P (Builtin.min_ ts ty vs.toArray)).map .val
section
variable {P:Program} {C:dC} {d:Option (List Nat)} {ops:Array Oper} {rest:List Oper} {env:Env} {H:aB} {K:Env→aB→Prop} {dst:Option Nat} {ty:TypeId} {p:String} {af:Array Edge}
theorem aLX {x y:Operand} {ts:Array TypeId}:bJ P C d ops (⟨dst,.call ⟨.builtin .min,List.toArray [x,y],ts⟩,ty,p,af,none⟩::rest) env H K=eJ (aIC P ts ty (opA env x) (opA env y)) H P C d ops rest env dst K:=by
 refine (dF rfl (by intro c h;cases h;exact⟨rfl,rfl⟩)).trans (ofV ?_)
 have e:fE P .min ty [opA env x,opA env y] ts H=(plains [opA env x,opA env y]).bind fun vs=>(aT P (Builtin.min_ ts ty vs.toArray)).map fun v=>(AV.val v,H):=by
  unfold fE
  split<;>simp_all
 show fE P .min ty [opA env x,opA env y] ts H=_
 rw[e]
 unfold aIC
 cases plains [opA env x,opA env y] with
 |none=>rfl
 |some vs=>
  simp only[Option.bind_some]
  cases aT P (Builtin.min_ ts ty vs.toArray)<;>rfl
theorem aPK {ts:Array TypeId} {k:IntKind} {a b:Int}:aIC P ts ty (.val (.int k a)) (.val (.int k b))=some (.val (.int k (min a b))):=by
 unfold aIC
 simp only[plains,plain,Option.bind_some,Option.map_some]
 have:aT P (Builtin.min_ ts ty (List.toArray [.int k a,.int k b]))=some (.int k (min a b)):=by
  show some (Value.int k (if b<a then b else a))=_
  congr 2
  split<;>omega
 rw[this];rfl
end
end AL
namespace F
open Go.RowKit Go.Proofs.YtnoppodfngkoeaaGreat.AL
theorem Sec.at {H h:aB} {x:AV} {L:List Int} (s:Sec H h x L):aQ h x L:=by
 obtain⟨-,-,⟨rfl,e⟩|⟨o,rfl,ho,-⟩⟩:=s
 ·exact .inl ⟨rfl,e⟩
 ·refine .inr ⟨true,o,0,L.map vI,rfl,by rw[ho];rfl,fun i hi=>?_⟩
  rw[Nat.mul_one] at hi
  rw[Nat.zero_add,List.getElem?_map,fF hi];rfl
theorem oO {H:aB} {x:AV} {l:List Int} (hx:aQ H x l) {i:Nat} (hi:i<l.length):∃p q cs,qX prog 27 x (vI i)=some (.ptr p q)∧iP H[p]?=some cs∧cs[q]?=some (vI (l.getD i 0)):=by
 obtain⟨own,o,off,cs,rfl,hcs,hcell⟩:=aQ.get hx hi
 refine⟨o,off+i,cs,?_,hcs,hcell⟩
 rw[qF,aBT,mU,if_pos ⟨by omega,by omega,rfl⟩,Int.toNat_natCast,Nat.mul_one]
theorem aLY {w0:World} (L pos:List Int) (hL:L.length≤100000) (hp:pos.length≤1000) (x y:AV) (H:aB) (hx:aQ H x L) (hy:aQ H y pos):aH prog (CB w0) 115 [x,y] H fun v H'=>(pos=[]∧v=x∧H'=H)∨(pos≠[]∧Sec H H' v (K.dU L pos)):=by
 refine aSi (N:=37) (rs:=[.tmp 4]) Tryz.func115 ?_
 rintro e he ⟨g0,g1,-⟩
 have x1:=hx.one;have y1:=hy.one
 have xl:=hx.len 2;have yl:=hy.len 3
 simp only[go_sem,he,g0,g1,x1,y1,xl,yl]
 refine aF (fun hc=>?_) fun hc=>?_
 ·have hc:=odT hc
  simp only[go_sem,he,g0,g1,x1,y1,xl,yl]
  exact .inl (List.length_eq_zero_iff.1 (by omega))
 ·have hc:=odF hc
  have hne:pos≠[]:=fun h=>hc (by rw[h];rfl)
  obtain⟨q,hq⟩:∃q:Nat→Bool,q=fun i:Nat=>pos.contains ((i:Int)+1)||pos.contains ((i:Int)-L.length):=⟨_,rfl⟩
  have hcho:K.dU L pos=((List.range L.length).filter q).map fun i=>L.getD i 0:=by unfold K.dU;rw[if_neg hne,hq]
  simp only[go_sem,he,g0,g1,x1,y1,xl,yl]
  refine cF L.length (fun k e h=>len e=37∧AL.get e 0=x∧AL.get e 1=y∧AL.get e 12=x∧AL.get e 13=vI L.length∧∃(i:Nat) (z:AV) (M:List Int),AL.get e 14=vI i∧i+k=L.length∧AL.get e 5=z∧Sec H h z M∧M=((List.range i).filter q).map (fun i=>L.getD i 0)∧M.length≤i) (by kernel_rfl) ?_ ?_
  ·simp only[go_sem,he,g0,g1]
   exact⟨0,aP,[],rfl,by omega,rfl,⟨⟨[],by simp⟩,rfl,.inl ⟨rfl,rfl⟩⟩,rfl,by simp⟩
  ·clear he g0 g1
   rintro k e h ⟨he,g0,g1,g12,g13,i,z,M,g14,hik,g5,hS,hM,hMl⟩
   obtain⟨G,rfl⟩:=hS.front
   have z1:=hS.one
   simp only[go_sem,he,g0,g1,g12,g13,g14,g5]
   refine aF (fun hd=>?_) fun hd=>?_
   ·have hd:=odT hd
    obtain⟨pp,qq,cs,hsl,hcs,hcell⟩:=oO (hx.more G) (i:=i) (by omega)
    have wi:i64.wrap ((i:Int)+1)=((i+1:Nat):Int):=by rw[aJ (by omega)];rfl
    have wj:i64.wrap ((i:Int)-L.length)=(i:Int)-L.length:=aJ (by omega)
    have hrs:(List.range (i+1)).filter q=(List.range i).filter q++(if q i then [i] else []):=by
     rw[List.range_succ,List.filter_append];cases h:q i<;>simp[List.filter_cons,h]
    simp only[go_sem,he,g0,g1,g12,g13,g14,g5,hsl,hcs,hcell,wi]
    refine aI (gC pos (by omega) _ y _ (hy.more G)) ?_
    rintro _ _ ⟨rfl,rfl⟩
    have yes:q i=true→∃z' h',cW prog 27 z (.sl true (H++G).length 0 1 1) ((H++G)++[aD.own 2 [vI (L.getD i 0)]])=some (z',h')∧Sec H h' z' (M++[L.getD i 0])∧M++[L.getD i 0]=((List.range (i+1)).filter q).map (fun i=>L.getD i 0)∧(M++[L.getD i 0]).length≤i+1:=fun hqi=>by
     obtain⟨z',h',ha,hb⟩:=hS.push (L.getD i 0) (by omega)
     refine⟨z',h',ha,hb,?_,by rw[List.length_append];simp;omega⟩
     rw[hrs,hqi,if_pos rfl,List.map_append,←hM];rfl
    cases q1:pos.contains (((i+1:Nat):Int)) with
    |true=>
     obtain⟨z',h',ha,hb,hc',hd'⟩:=yes (by rw[hq];show (pos.contains ((i:Int)+1)||_)=true;rw[show ((i:Int)+1)=((i+1:Nat):Int) from rfl,q1];rfl)
     simp only[go_sem,he,g0,g1,g12,g13,g14,g5,aA,wi] at ha ⊢
     rw[ha]
     simp only[go_sem,he,g0,g1,g12,g13,g14,g5,aA,wi]
     exact⟨k-1,by omega,i+1,z',_,rfl,by omega,rfl,hb,hc',hd'⟩
    |false=>
     simp only[go_sem,he,g0,g1,g12,g13,g14,g5,aA,wi,xl,wj]
     refine aI (gC pos (by omega) _ y _ (hy.more G)) ?_
     rintro _ _ ⟨rfl,rfl⟩
     simp only[go_sem,he,g0,g1,g12,g13,g14,g5,aA]
     have hqi:q i=pos.contains ((i:Int)-L.length):=by rw[hq];show (pos.contains ((i:Int)+1)||_)=_;rw[show ((i:Int)+1)=((i+1:Nat):Int) from rfl,q1];rfl
     refine aF (fun q2=>?_) fun q2=>?_
     ·obtain⟨z',h',ha,hb,hc',hd'⟩:=yes (by rw[hqi,q2])
      simp only[go_sem,he,g0,g1,g12,g13,g14,g5,wi] at ha ⊢
      rw[ha]
      simp only[go_sem,he,g0,g1,g12,g13,g14,g5,wi]
      exact⟨k-1,by omega,i+1,z',_,rfl,by omega,rfl,hb,hc',hd'⟩
     ·simp only[go_sem,he,g0,g1,g12,g13,g14,g5,wi]
      exact⟨k-1,by omega,i+1,z,M,rfl,by omega,rfl,hS,by rw[hrs,hqi,q2,hM];simp,by omega⟩
   ·have hd:=odF hd
    simp only[go_sem,he,g0,g1,g12,g13,g14,g5]
    refine .inr ⟨hne,?_⟩
    have:i=L.length:=by omega
    subst this
    rw[hcho,←hM];exact hS
def iOk (r:Ru) (k:Nat):Bool:=if r.freq<4 then fU r k else zZ r k
theorem aID {w0:World} {r:Ru} {x:Rs} (hr:RW r) (k:Nat) (hk:k≤30000) (H:aB) (hx:cN H r x) :
  aH prog (CB w0) 74 [.agg (aE r x),vI k] H fun v H'=>∃y L,v=.tup [y,vB (iOk r k)]∧Sec H H' y L∧(iOk r k=true→L=K.dN r k∨2000<L.length)∧(iOk r k=false→L=[]):=by
 refine aSi (N:=33) (rs:=[.tmp 4,.tmp 5]) Tryz.func74 ?_
 rintro e he ⟨g0,g1,-⟩
 have sp:=hr.sm.setPos
 unfold aE at g0
 simp only[go_sem,he,g0,g1,hx.setPos.one,hx.month.one,hx.monthDay.one,hx.yearDay.one,hx.weekNo.one,hx.day.one,hx.hour.one,hx.minute.one,hx.second.one,hx.easter.one]
 refine bC (fun e h=>len e=33∧AL.get e 2=.ptr H.length 0∧∃y L,AL.get e 6=y∧AL.get e 7=vB (iOk r k)∧Sec (H++[aD.own 25 (aE r x)]) h y L∧(iOk r k=true→L=(if r.freq<4 then K.kG r k else K.eU r k)∨2000<L.length)∧(iOk r k=false→L=[])) (fun hq=>?_) (fun hq=>?_) ?_
 ·have hf:r.freq<4:=by have:=odT hq;omega
  have hc:=aLU (w0:=w0) hr hf k hk _ (hx.more [aD.own 25 (aE r x)])
  have hio:iOk r k=fU r k:=by unfold iOk;rw[if_pos hf]
  unfold aE at hc ⊢
  simp only[go_sem,he,g0,g1]
  refine aI hc ?_
  rintro _ _ ⟨y,L,rfl,h1,h2,h3⟩
  simp only[go_sem,he,g0,g1,aA]
  rw[hio,if_pos hf]
  exact⟨y,L,rfl,rfl,h1,h2,h3⟩
 ·have hf:¬r.freq<4:=by have:=odF hq;omega
  have hc:=aKD (w0:=w0) hr (by omega) k hk _ (hx.more [aD.own 25 (aE r x)])
  have hio:iOk r k=zZ r k:=by unfold iOk;rw[if_neg hf]
  unfold aE at hc ⊢
  simp only[go_sem,he,g0,g1]
  refine aI hc ?_
  rintro _ _ ⟨y,L,rfl,h1,h2,h3⟩
  simp only[go_sem,he,g0,g1,aA]
  rw[hio,if_neg hf]
  exact⟨y,L,rfl,rfl,h1,(fun h=>.inl (h2 h)),h3⟩
 clear he g0 g1
 rintro e h ⟨he,g2,y,L,g6,g7,hS,h1,h2⟩
 have y1:=hS.one
 have yl:=hS.len 2
 simp only[go_sem,he,g2,g6,g7,yl]
 refine aF (fun hc=>?_) fun hc=>?_
 ·have hc:=odT hc
  simp only[go_sem,he,g2,g6,g7]
  exact⟨y,L,rfl,hS.weak,(fun _=>.inr (by omega)),h2⟩
 ·have hc:=odF hc
  have hsat:=hS.at
  obtain⟨G,hG⟩:=hS.front
  have hx2:cN h r x:=by rw[hG];exact (hx.more _).more _
  have r0:h[H.length]?=some (aD.own 25 (aE r x)):=by rw[hG,List.append_assoc,bB];rfl
  unfold aE at r0
  simp only[go_sem,he,g2,g6,g7,r0]
  refine aI (aLY L r.setPos (by omega) sp y x.setPos _ hsat hx2.setPos) ?_
  rintro v H2 (⟨hp,rfl,rfl⟩|⟨hp,hS2⟩)
  ·simp only[go_sem,he,g2,g6,g7,aA]
   refine⟨_,L,rfl,hS.weak,(fun h=>?_),h2⟩
   rcases h1 h with e|e
   ·left;rw[K.nW,hp];unfold K.dU;rw[if_pos rfl];exact e
   ·exact absurd e (by omega)
  ·simp only[go_sem,he,g2,g6,g7,aA]
   refine⟨v,K.dU L r.setPos,rfl,?_,(fun h=>?_),(fun h=>?_)⟩
   ·rw[hG] at hS2;exact hS2.weak.weak
   ·rcases h1 h with e|e
    ·left;rw[K.nW,e];rfl
    ·exact absurd e (by omega)
   ·rw[h2 h];unfold K.dU;split<;>rfl
theorem aR7 {r:Ru} (g:K.pF r):RW (K.whole r):=by
 have hc:=g.clean
 have hs:=mF hc
 have nd:∀{l:List Int} {a b c:Int} {z:Bool},cP l a b c z=true→l.Nodup:=fun h=>K.nD h
 have l1:=dW hc.hour;have l2:=dW hc.minute;have l3:=dW hc.second
 have d2:=hc.dayLen
 have f:∀{P:Prop} [Decidable P] (a:Int) (l:List Int),l.length≤12→(if P then [a] else l).length≤12:=fun a l h=>by split<;>simp_all
 have f2:∀{P:Prop} [Decidable P] (a:Int) (l:List Int),l.Nodup→(if P then [a] else l).Nodup:=fun a l h=>by split<;>simp_all
 have f3:∀{α:Type} {P:Prop} [Decidable P] (a:α) (l:List α),l.length≤1000→(if P then [a] else l).length≤1000:=fun a l h=>by split<;>simp_all
 refine⟨K.zO hc,⟨hs.setPos,f3 _ _ hs.month,f3 _ _ hs.monthDay,hs.yearDay,hs.weekNo,f3 _ _ hs.day,f3 _ _ hs.hour,f3 _ _ hs.minute,f3 _ _ hs.second,hs.easter⟩,f2 _ _ (nd hc.hour),f2 _ _ (nd hc.minute),f2 _ _ (nd hc.second),f _ _ (by omega),f _ _ (by omega),f _ _ (by omega),?_,?_,?_,?_⟩
 ·intro hf he
  have hf:r.freq<4:=hf
  have he:(if r.hour=[]∧r.freq<4 then [r.start%86400/3600] else r.hour)=[]:=he
  split at he
  ·cases he
  ·rename_i hn;exact hn ⟨he,hf⟩
 ·intro hf he
  have hf:r.freq<5:=hf
  have he:(if r.minute=[]∧r.freq<5 then [r.start%86400/60%60] else r.minute)=[]:=he
  split at he
  ·cases he
  ·rename_i hn;exact hn ⟨he,hf⟩
 ·intro hf he
  have hf:r.freq<6:=hf
  have he:(if r.second=[]∧r.freq<6 then [r.start%86400%60] else r.second)=[]:=he
  split at he
  ·cases he
  ·rename_i hn;exact hn ⟨he,hf⟩
 ·intro h
  have h:r.weekNo≠[]:=h
  exact hc.weekYear (by cases hw:r.weekNo with|nil=>exact absurd hw h|cons a l=>simp)
theorem aLZ (f:Nat):xL f≤30000:=by unfold xL;split<;>(try split)<;>(try split)<;>omega
def aB2 (r:Ru) (n:Nat):Nat:=if 0<r.count then min n r.count.toNat else n
theorem aIE (r:Ru) (n:Nat):(K.gK r).take n=(K.gE (K.whole r)).take (aB2 r n):=K.aIh n
theorem aRU {w:Ru} (hw:K.WP w) {k:Nat} (h:iOk w k=false):K.rest w k=[]:=by
 refine K.nZ hw ?_
 have ht:=hw.til
 have b1:aC 10000=3652059:=by decide
 unfold iOk at h
 unfold K.dY
 split at h
 ·rename_i hf
  rw[if_pos hf]
  have:aC 10000≤K.aU w k:=by
   unfold fU at h
   split at h
   ·rename_i h1
    have hy:=odF h
    have hm:=K.cK (show (10000:Int)≤K.bN w k by omega)
    rcases (show w.freq=0∨w.freq=1 by omega) with q|q
    ·unfold K.aU;rw[if_pos q];exact hm
    ·have:=eX (K.bN w k) (K.cJ w k-1).toNat
     unfold K.aU;rw[if_neg (by omega),if_pos q];omega
   ·have:=odF h;omega
  omega
 ·rename_i hf
  rw[if_neg hf]
  unfold zZ at h
  have:=odF h
  omega
theorem aKH {P:Program} {t o st:Nat} {x x':AV} {H h':aB} (h:cW P t x (.sl true o 0 1 st) H=some (x',h')):∃n st',x'=.sl true H.length 0 n st':=by
 unfold cW at h
 repeat' split at h
 all_goals first
  |(cases h;done)
  |(rename_i he _;cases he;done)
  |(rename_i he _ _ _ _;cases he;done)
  |(rename_i he _ _ _ hn;cases he;cases hn;done)
  |(simp only[Option.some.injEq,Prod.mk.injEq] at h;exact⟨_,_,h.1.symm⟩)
  |skip
 all_goals (exfalso;simp_all)
theorem Sec.push2 {H h:aB} {x z:AV} {L Z:List Int} (s:Sec H h x L) (hz:aQ h z Z) (hd:∀q n own off,x=.sl true q 0 n 1→z≠.sl own q off Z.length 1) (t:Int) (hl:L.length≤100000000):∃x' h',cW prog 27 x (.sl true h.length 0 1 1) (h++[aD.own 2 [vI t]])=some (x',h')∧Sec H h' x' (L++[t])∧aQ h' z Z∧∀q n own off,x'=.sl true q 0 n 1→z≠.sl own q off Z.length 1:=by
 obtain⟨x',h',a,b,c⟩:=GrN.push aBT (by decide) s (c:=[vI t]) rfl rfl hl
 refine⟨x',h',a,by unfold Sec;rw[List.length_append,List.map_append];exact b,?_,?_⟩
 ·rcases hz with hz|⟨own,o,off,cs,rfl,hcs,hcell⟩
  ·exact .inl hz
  ·refine .inr ⟨own,o,off,cs,rfl,?_,hcell⟩
   cases ho:h[o]? with
   |none=>rw[ho] at hcs;cases hcs
   |some y=>
    rw[c o y ho fun q hq=>fun e=>hd q _ own off hq (by rw[e])]
    rw[ho] at hcs;exact hcs
 ·intro q n own off hq hz'
  obtain⟨n2,st2,e⟩:=aKH a
  rw[e] at hq
  cases hq
  rcases hz with ⟨hz,-⟩|⟨own,o,off,cs,hz,hcs,-⟩
  ·rw[hz] at hz';cases hz'
  ·rw[hz] at hz';cases hz'
   have:(h++[aD.own 2 [vI t]]).length=h.length+1:=by simp
   rw[List.getElem?_eq_none (by omega)] at hcs;cases hcs
theorem aL0 {w:Ru} {k j M:Nat} {t:Int} {l:List Int} (hl:l=(K.got w k j).take M) (hi:(K.dN w k)[j]?=some t) (h1:w.start≤t) (h2:t≤w.til) (hM:l.length<M):l++[t]=(K.got w k (j+1)).take M:=by
 rw[K.aKp hi h1 h2]
 have:(K.got w k j).length<M:=by rw[hl,List.length_take] at hM;omega
 rw[hl,List.take_of_length_le (by omega),List.take_of_length_le (by rw[List.length_append];simp;omega)]
theorem aKI {w:Ru} {k j M:Nat} {t:Int} {l:List Int} (hl:l=(K.got w k j).take M) (hi:(K.dN w k)[j]?=some t) (h1:w.start≤t) (h2:t≤w.til) (hM:¬l.length<M):l=(K.got w k (j+1)).take M:=by
 rw[K.aKp hi h1 h2]
 have:M≤(K.got w k j).length:=by rw[hl,List.length_take] at hM;omega
 rw[hl,List.take_append_of_le_length this]
set_option maxHeartbeats 4000000 in
theorem aPL {w0:World} (r:Ru) (x:Rs) (hn:aA7 r) (hc:iC r) (hcl:clean r=true) (hleft:K.aDo r) (n:Nat) (hnn:n≤1000) (H:aB) (hx:cN H r x) :
  aH prog (CB w0) 49 [.agg (aE r x),vI n] H fun v H'=>∃y l op,v=.tup [y,vB op]∧Sec H H' y l∧(op=false→K.uH r∧l=(K.gK r).take n):=by
 refine aSi (N:=110) (rs:=[.tmp 4,.tmp 5]) Tryz.func49 ?_
 rintro e he ⟨g0,g1,-⟩
 have hs:=mF hc
 have hcn:=hc.count
 unfold aE at g0
 simp only[go_sem,he,g0,g1,hx.setPos.one,hx.month.one,hx.monthDay.one,hx.yearDay.one,hx.weekNo.one,hx.day.one,hx.hour.one,hx.minute.one,hx.second.one,hx.easter.one]
 have c1:=aHe (w0:=w0) r x hs.len hn _ (hx.more [aD.own 25 (aE r x)])
 rw[hcl] at c1
 have c2:=aLW (w0:=w0) r x hc _ (hx.more [aD.own 25 (aE r x)])
 unfold aE at c1 c2
 refine aI c1 ?_
 rintro _ _ ⟨rfl,rfl⟩
 simp only[go_sem,he,g0,g1,aA]
 refine aI c2 ?_
 rintro _ _ ⟨⟨b,rfl,hsd⟩,G1,rfl⟩
 simp only[go_sem,he,g0,g1,aA]
 refine aF (fun hb=>?_) fun hb=>?_
 ·simp only[go_sem,he,g0,g1]
  exact⟨aP,[],true,rfl,⟨⟨_,rfl⟩,rfl,.inl ⟨rfl,rfl⟩⟩,fun h=>by cases h⟩
 have hsd:=hsd hb
 have g:K.pF r:=⟨hc,hleft,hsd⟩
 have hG:=K.nE g
 have hw:=hG.toWP
 have hRW:=aR7 g
 rw[aIE]
 obtain⟨M,hM⟩:∃M,M=aB2 r n:=⟨_,rfl⟩
 rw[←hM]
 have hM2:=hM
 unfold aB2 at hM2
 have hMn:M≤1000:=by rw[hM2];split<;>omega
 simp only[go_sem,he,g0,g1]
 refine bC (fun e h=>len e=110∧AL.get e 1=vI M∧AL.get e 2=.ptr H.length 0∧AL.get e 4=aP∧h=H++(aD.own 25 (aE r x)::G1)) (fun hq=>?_) (fun hq=>?_) ?_
 ·have hq:=odT hq
  rw[if_pos hq] at hM2
  unfold aE
  simp only[go_sem,he,g0,g1,aLX,aPK]
  congr 2
  omega
 ·have hq:=odF hq
  rw[if_neg hq] at hM2
  unfold aE
  simp only[go_sem,he,g0,g1]
  congr 2
  omega
 clear he g0 g1
 rintro e h ⟨he,g1,g2,g4,rfl⟩
 have c3:=aPI (w0:=w0) r x hc _ (hx.more (aD.own 25 (aE r x)::G1))
 unfold aE at c3
 unfold aE
 simp only[go_sem,he,g1,g2]
 refine aI c3 ?_
 rintro _ _ ⟨x',G2,rfl,rfl,hx'⟩
 have hx2:cN (H++(aD.own 25 (aE (K.whole r) x')::G1)++G2) (K.whole r) x':=hx' _ (by simp) (hx.more _)
 have o1:=hx2.setPos.one;have o2:=hx2.month.one;have o3:=hx2.monthDay.one;have o4:=hx2.yearDay.one;have o5:=hx2.weekNo.one;have o6:=hx2.day.one;have o7:=hx2.hour.one;have o8:=hx2.minute.one;have o9:=hx2.second.one;have o10:=hx2.easter.one
 simp only[go_sem,he,g1,g2,aA,List.replicate,o1,o2,o3,o4,o5,o6,o7,o8,o9,o10]
 have hx3:=hx2.more [aD.own 25 (aE (K.whole r) x')]
 have r0:∀G,(H++(aD.own 25 (aE (K.whole r) x')::(G1++(G2++[aD.own 25 (aE (K.whole r) x')])))++G)[H.length]?=some (aD.own 25 (aE (K.whole r) x')):=fun G=>by rw[List.append_assoc,bB];rfl
 have r6:∀G,(H++(aD.own 25 (aE (K.whole r) x')::(G1++(G2++[aD.own 25 (aE (K.whole r) x')])))++G)[H.length+(G1.length+G2.length+1)]?=some (aD.own 25 (aE (K.whole r) x')):=fun G=>by
  rw[List.append_assoc,bX]
  show ((G1++(G2++[aD.own 25 (aE (K.whole r) x')]))++G)[G1.length+G2.length]?=_
  rw[List.append_assoc,List.getElem?_append_right (by omega),List.append_assoc,List.getElem?_append_right (by omega),show G1.length+G2.length-G1.length-G2.length=0 by omega];rfl
 have e1:H++(aD.own 25 (aE (K.whole r) x')::G1)++G2++[aD.own 25 (aE (K.whole r) x')]=H++(aD.own 25 (aE (K.whole r) x')::(G1++(G2++[aD.own 25 (aE (K.whole r) x')]))):=by simp
 rw[e1] at hx3
 unfold aE at r0 r6 hx3
 have hpre:∃G,H++(aD.own 25 (aE (K.whole r) x')::(G1++(G2++[aD.own 25 (aE (K.whole r) x')])))=H++G:=⟨_,rfl⟩
 unfold aE at hpre
 generalize H++(aD.own 25 [vU (K.whole r).freq,vB (K.whole r).hasStart,vI (K.whole r).start,vI (K.whole r).interval,vI (K.whole r).wkst,vI (K.whole r).count,vB (K.whole r).hasUntil,vI (K.whole r).til,x'.setPos,x'.month,x'.monthDay,x'.yearDay,x'.weekNo,x'.day,x'.hour,x'.minute,x'.second,x'.easter]::(G1++(G2++[aD.own 25 [vU (K.whole r).freq,vB (K.whole r).hasStart,vI (K.whole r).start,vI (K.whole r).interval,vI (K.whole r).wkst,vI (K.whole r).count,vB (K.whole r).hasUntil,vI (K.whole r).til,x'.setPos,x'.month,x'.monthDay,x'.yearDay,x'.weekNo,x'.day,x'.hour,x'.minute,x'.second,x'.easter]])))=h0 at *
 generalize H.length+(G1.length+G2.length+1)=p6 at *
 have hun:(K.whole r).hasUntil=true:=rfl
 have hfq:(K.whole r).freq≤6:=hw.freq
 generalize K.whole r=w at *
 clear c1 c2 c3 hx' hx2 e1
 have hcs:∀k:Nat,k≤30000→∀G,aH prog (CB w0) 74 [.agg (aE w x'),vI k] (h0++G) _:=fun k hk G=>aID (w0:=w0) hRW k hk _ (hx3.more G)
 have hps:∀k:Nat,k≤30000→∀G,aH prog (CB w0) 75 [.agg (aE w x'),vI k] (h0++G) _:=fun k hk G=>aE5 (w0:=w0) w x' hw k hk _ (hx3.more G)
 unfold aE at hcs hps
 have hfin:∀{h:aB} {y:AV} {l:List Int} {op:Bool},Sec h0 h y l→(op=false→l=(K.gE w).take M)→∃y' l' op',AV.tup [y,vB op]=.tup [y',vB op']∧Sec H h y' l'∧(op'=false→K.uH r∧l'=(K.gE w).take M):=fun hS hl=>by
  obtain⟨G,rfl⟩:=hpre
  exact⟨_,_,_,rfl,hS.weak,fun h=>⟨hsd,hl h⟩⟩
 have hmw:=aLZ w.freq
 refine cF (xL w.freq+1) (fun kk e h=>len e=110∧AL.get e 1=vI M∧AL.get e 2=.ptr H.length 0∧AL.get e 6=.ptr p6 0∧∃(k:Nat) (y:AV) (l:List Int),AL.get e 7=vI k∧AL.get e 4=y∧Sec h0 h y l∧l=(K.got w k 0).take M∧k+kk=xL w.freq+1) (by kernel_rfl) ?_ ?_
 ·simp only[go_sem,he,g1,g2,g4]
  exact⟨0,aP,[],rfl,rfl,⟨⟨[],by simp⟩,rfl,.inl ⟨rfl,rfl⟩⟩,by simp[K.got,K.iG,K.keep],by omega⟩
 ·clear he g1 g2 g4
  rintro kk e h ⟨he,g1,g2,g6,k,y,l,g7,g4,hS,hl,hkk⟩
  have hlM:l.length≤M:=by rw[hl,List.length_take];omega
  obtain⟨G,rfl⟩:=hS.front
  have y1:=hS.one
  have yl:=hS.len 2
  simp only[go_sem,he,g1,g2,g6,g7,g4,yl]
  refine aF (fun hc=>?_) fun hc=>?_
  ·have hc:=odT hc
   simp only[go_sem,he,g1,g2,g6,g7,g4,r0]
   refine aI (aIx w.freq hfq _) ?_
   rintro _ _ ⟨rfl,rfl⟩
   simp only[go_sem,he,g1,g2,g6,g7,g4,aA]
   refine aF (fun hd=>?_) fun hd=>?_
   ·simp only[go_sem,he,g1,g2,g6,g7,g4]
    exact hfin hS fun h=>by cases h
   ·have hd:=odF hd
    simp only[go_sem,he,g1,g2,g6,g7,g4,r6]
    refine aI (hcs k (by omega) G) ?_
    rintro _ _ ⟨z,L,rfl,hz,hok1,hok2⟩
    have z1:=hz.one
    have zl:=hz.len 2
    have hzat:=hz.at
    have hzd:∀q n own off,y=.sl true q 0 n 1→z≠.sl own q off L.length 1:=fun q n own off hq hzq=>by
     obtain⟨-,-,⟨e,-⟩|⟨o,e,ho,-⟩⟩:=hS
     ·rw[e] at hq;cases hq
     ·rw[e] at hq;cases hq
      obtain⟨-,-,⟨e2,-⟩|⟨o2,e2,ho2,hl2⟩⟩:=hz
      ·rw[e2] at hzq;cases hzq
      ·rw[e2] at hzq;cases hzq
       have:=(List.getElem?_eq_some_iff.1 ho).1
       omega
    obtain⟨G3,rfl⟩:=hz.front
    have hS:=hS.more G3
    rw[List.append_assoc] at hS hzat
    simp only[go_sem,he,g1,g2,g6,g7,g4,aA,zl]
    refine aF (fun hb=>?_) fun hb=>?_
    ·simp only[go_sem,he,g1,g2,g6,g7,g4]
     exact hfin hS fun h=>by cases h
    have hb:=odF hb
    simp only[go_sem,he,g1,g2,g6,g7,g4]
    cases hio:iOk w k with
    |false=>
     simp only[go_sem,he,g1,g2,g6,g7,g4]
     refine hfin hS fun _=>?_
     rw[K.aHg hw (aRU hw hio)];exact hl
    |true=>
    have hLi:L=K.dN w k:=by rcases hok1 hio with h|h;exact h;omega
    subst hLi
    simp only[go_sem,he,g1,g2,g6,g7,g4,zl]
    refine bG (K.dN w k).length (fun k3 e h=>len e=110∧AL.get e 1=vI M∧AL.get e 2=.ptr H.length 0∧AL.get e 6=.ptr p6 0∧AL.get e 7=vI k∧AL.get e 57=z∧AL.get e 58=vI (K.dN w k).length∧∃(j:Nat) (y:AV) (l:List Int),AL.get e 59=vI j∧j+k3=(K.dN w k).length∧AL.get e 4=y∧Sec h0 h y l∧l=(K.got w k j).take M∧aQ h z (K.dN w k)∧∀q n own off,y=.sl true q 0 n 1→z≠.sl own q off (K.dN w k).length 1) (fun e h=>len e=110∧AL.get e 1=vI M∧AL.get e 2=.ptr H.length 0∧AL.get e 6=.ptr p6 0∧AL.get e 7=vI k∧∃(y:AV) (l:List Int),AL.get e 4=y∧Sec h0 h y l∧l=(K.got w (k+1) 0).take M) (by kernel_rfl) ?_ ?_ ?_
    ·simp only[go_sem,he,g1,g2,g6,g7,g4]
     exact⟨0,y,l,rfl,by omega,rfl,hS,hl,hzat,hzd⟩
    ·clear he g1 g2 g6 g7 g4 hS hl hzat hzd y1 yl
     rintro k3 e h ⟨he,g1,g2,g6,g7,g57,g58,j,y,l,g59,hjk,g4,hS,hl,hzat,hzd⟩
     have hlM:l.length≤M:=by rw[hl,List.length_take];omega
     obtain⟨G,rfl⟩:=hS.front
     have y1:=hS.one
     have yl:=hS.len 2
     simp only[go_sem,he,g1,g2,g6,g7,g4,g57,g58,g59]
     refine aF (fun hc=>?_) fun hc=>?_
     ·have hc:=odT hc
      have wj:i64.wrap ((j:Int)+1)=((j+1:Nat):Int):=by rw[aJ (by omega)];rfl
      obtain⟨pp,qq,cs,hsl,hcs2,hcell⟩:=oO hzat (i:=j) (by omega)
      obtain⟨t,ht⟩:∃t,t=(K.dN w k).getD j 0:=⟨_,rfl⟩
      have hit:(K.dN w k)[j]?=some t:=by rw[ht];exact fF (by omega)
      rw[←ht] at hcell
      simp only[go_sem,he,g1,g2,g6,g7,g4,g57,g58,g59,hsl,hcs2,hcell,r0,hun]
      refine aF (fun hd=>?_) fun hd=>?_
      ·have hd:=odT hd
       simp only[go_sem,he,g1,g2,g6,g7,g4]
       refine hfin hS fun _=>?_
       rw[K.aLA hw hit hd];exact hl
      ·have hd:=odF hd
       simp only[go_sem,he,g1,g2,g6,g7,g4,g57,g58,g59,r0]
       cases hs1:decide (w.start≤t) with
       |false=>
        have hs1:=odF hs1
        simp only[go_sem,he,g1,g2,g6,g7,g4,g57,g58,g59,wj]
        exact⟨k3-1,by omega,j+1,y,l,rfl,by omega,rfl,hS,by rw[K.aKq hit (by omega)];exact hl,hzat,hzd⟩
       |true=>
        have hs1:=odT hs1
        simp only[go_sem,he,g1,g2,g6,g7,g4,g57,g58,g59,yl]
        refine aF (fun hs2=>?_) fun hs2=>?_
        ·have hs2:=odT hs2
         obtain⟨y',h',hap,hS',hzat',hzd'⟩:=hS.push2 hzat hzd t (by omega)
         simp only[go_sem,he,g1,g2,g6,g7,g4,g57,g58,g59] at hap ⊢
         rw[hap]
         simp only[go_sem,he,g1,g2,g6,g7,g4,g57,g58,g59,wj]
         exact⟨k3-1,by omega,j+1,y',_,rfl,by omega,rfl,hS',aL0 hl hit hs1 (by omega) (by omega),hzat',hzd'⟩
        ·have hs2:=odF hs2
         simp only[go_sem,he,g1,g2,g6,g7,g4,g57,g58,g59,wj]
         exact⟨k3-1,by omega,j+1,y,l,rfl,by omega,rfl,hS,aKI hl hit hs1 (by omega) (by omega),hzat,hzd⟩
     ·have hc:=odF hc
      simp only[go_sem,he,g1,g2,g6,g7,g4]
      exact⟨y,l,rfl,hS,by rw[←K.aLB k j (by omega)];exact hl⟩
    ·clear he g1 g2 g6 g7 g4 hS hl hzat hzd y1 yl
     rintro e h ⟨he,g1,g2,g6,g7,y,l,g4,hS,hl⟩
     have hlM:l.length≤M:=by rw[hl,List.length_take];omega
     obtain⟨G,rfl⟩:=hS.front
     have y1:=hS.one
     have wk:i64.wrap ((k:Int)+1)=((k+1:Nat):Int):=by rw[aJ (by omega)];rfl
     simp only[go_sem,he,g1,g2,g6,g7,g4,r6]
     refine aI (hps k (by omega) G) ?_
     rintro _ _ ⟨rfl,rfl⟩
     simp only[go_sem,he,g1,g2,g6,g7,g4,aA,r0,hun]
     have ht:=hw.til
     have hst:=hw.start
     have w86:i64.wrap (w.til.tdiv 86400)=w.til/86400:=by rw[Int.tdiv_eq_ediv_of_nonneg (by omega),aJ (by omega)]
     cases hf4:decide ((w.freq:Int)<4) with
     |false=>
      simp only[go_sem,he,g1,g2,g6,g7,g4,wk]
      exact⟨kk-1,by omega,k+1,y,l,rfl,rfl,hS,hl,by omega⟩
     |true=>
      have hf4:=odT hf4
      simp only[go_sem,he,g1,g2,g6,g7,g4,r0,w86]
      refine aF (fun hq=>?_) fun hq=>?_
      ·have hq:=odT hq
       simp only[go_sem,he,g1,g2,g6,g7,g4]
       refine hfin hS fun _=>?_
       rw[K.aHg hw (K.aIg hw (by omega) hq)];exact hl
      ·simp only[go_sem,he,g1,g2,g6,g7,g4,wk]
       exact⟨kk-1,by omega,k+1,y,l,rfl,rfl,hS,hl,by omega⟩
  ·have hc:=odF hc
   simp only[go_sem,he,g1,g2,g6,g7,g4]
   refine hfin hS fun _=>?_
   rw[K.aLz hw (k:=k) (i:=0) (by rw[←hl];omega),hl]
theorem aIF {w0:World} (l:List Int) (hl:l.length≤1000000) (a:Int) (x:AV) (H:aB) (hx:aQ H x l):aH prog (CB w0) 105 [x,vI a] H fun r H'=>r=vB (K.aY l a)∧H'=H:=by
 refine aSi (N:=13) (rs:=[.tmp 4]) Tryz.func105 ?_
 rintro e he ⟨g0,g1,-⟩
 have hlen:=hx.len 3
 have x1:=hx.one
 cases l with
 |nil=>
  simp only[List.length_nil,Int.ofNat_zero,Int.cast_ofNat_Int] at hlen
  simp only[go_sem,he,g0,g1,hlen,x1]
  rfl
 |cons b l=>
  have hne:decide (((l.length+1:Nat):Int)=0)=false:=dcF (by omega)
  simp only[go_sem,he,g0,g1,hlen,x1,hne]
  refine aSh (gC (b::l) (by omega) a x H hx) ?_
  simp only[go_sem,he,g0,g1,aA]
  rfl
theorem wT {l:List Int} {a b c:Int} {z:Bool} (h:cP l a b c z=true) {i:Nat} (hi:i<l.length):b≤l.getD i 0∧l.getD i 0≤c:=by
 unfold cP at h
 rw[Bool.and_eq_true] at h
 have:=List.all_eq_true.1 h.2 i (List.mem_range.2 hi)
 unfold fZ at this
 simp only[Bool.not_eq_true',Bool.or_eq_false_iff,decide_eq_false_iff_not] at this
 omega
def aR8 (r:Ru) (U u g t:Int):Prop:=0≤t∧t<U∧(t-r.start%86400/u)%g=0∧K.aY r.hour (t*u/3600)=true∧(5≤r.freq→K.aY r.minute (t*u/60%60)=true)∧(r.freq=6→K.aY r.second (t*u%60)=true)
def j4 (n:Nat) (l:List Bool) (P:Int→Prop):Prop:=l.length=n∧∀i,l.getD i false=true→P i
theorem wU (d:List Bool) {i:Nat} (hi:i<d.length):(d.map vB)[i]?=some (vB (d.getD i false)):=by
 rw[List.getElem?_map,List.getElem?_eq_getElem hi,List.getD_eq_getElem?_getD,List.getElem?_eq_getElem hi];rfl
theorem wV (d:List Bool) (y:Bool) {j:Nat} (hj:j<d.length):(d.map vB).take j++vB y::(d.map vB).drop (j+1)=(d.set j y).map vB:=by
 rw[List.map_set,List.set_eq_take_append_cons_drop,if_pos (by simpa using hj)]
theorem j4.put {n:Nat} {l:List Bool} {P:Int→Prop} (h:j4 n l P) {j:Nat} (hj:P j):j4 n (l.set j true) P:=by
 refine⟨by rw[List.length_set];exact h.1,fun i hi=>?_⟩
 rw[List.getD_eq_getElem?_getD,List.getElem?_set] at hi
 split at hi
 ·rename_i e;subst e;exact hj
 ·exact h.2 i (by rw[List.getD_eq_getElem?_getD];exact hi)
theorem uK (n:Nat) (P:Int→Prop):j4 n (List.replicate n false) P:=⟨by simp,fun i hi=>by
 rw[List.getD_eq_getElem?_getD,List.getElem?_replicate] at hi
 split at hi<;>simp at hi⟩
set_option maxHeartbeats 4000000 in
theorem aR9 {w0:World} (r:Ru) (x:Rs) (hc:iC r) (hI:4≤r.freq→r.interval≤24) (H:aB) (hx:cN H r x) :
  aH prog (CB w0) 70 [.agg (aE r x)] H fun v H'=>(∃b,v=vB b∧(b=true→K.wG r))∧∃G,H'=H++G:=by
 refine aSi (N:=157) (rs:=[.tmp 2]) Tryz.func70 ?_
 rintro e he ⟨g0,-⟩
 have hs:=mF hc
 have hst:=hc.start
 have hci:=hc.interval
 have hfr:=hc.freq
 have s1:=hs.hour;have s2:=hs.minute;have s3:=hs.second
 have l1:=hx.hour.len 3;have l2:=hx.minute.len 3;have l3:=hx.second.len 3
 unfold aE at g0
 simp only[go_sem,he,g0,hx.setPos.one,hx.month.one,hx.monthDay.one,hx.yearDay.one,hx.weekNo.one,hx.day.one,hx.hour.one,hx.minute.one,hx.second.one,hx.easter.one]
 refine aF (fun hq=>?_) fun hq=>?_
 ·have hq:=odT hq
  simp only[go_sem,he,g0]
  exact⟨⟨_,rfl,fun _=>fun h=>by omega⟩,_,rfl⟩
 have hq:=odF hq
 have hI:=hI (by omega)
 obtain⟨k,U,u,hk,hkU,hu,hUu,hpd⟩:∃(k:Nat) (U:Nat) (u:Int),(r.freq:Int)=4+k∧([vI 24,vI 1440,vI 86400]:List AV)[k]?=some (vI U)∧K.dV r=u∧((k=0∧U=24∧u=3600)∨(k=1∧U=1440∧u=60)∨(k=2∧U=86400∧u=1))∧K.bD r=U:=by
  unfold K.dV K.bD
  rcases (show r.freq=4∨r.freq=5∨r.freq=6 by omega) with f|f|f
  ·exact⟨0,24,3600,by omega,rfl,by rw[if_pos f],.inl ⟨rfl,rfl,rfl⟩,by rw[if_pos f];rfl⟩
  ·exact⟨1,1440,60,by omega,rfl,by rw[if_neg (by omega),if_pos f],.inr (.inl ⟨rfl,rfl,rfl⟩),by rw[if_neg (by omega),if_pos f];rfl⟩
  ·exact⟨2,86400,1,by omega,rfl,by rw[if_neg (by omega),if_neg (by omega)],.inr (.inr ⟨rfl,rfl,rfl⟩),by rw[if_neg (by omega),if_neg (by omega)];rfl⟩
 have cv:gU prog 5 3 (.val (.int .u8 (u8.wrap ((r.freq:Int)-4))))=some (vI k):=by
  rw[dL (P:=prog) Tryz.underlying5 Tryz.underlying3,wU8 (n:=(r.freq:Int)-4) (by omega),aJ (by omega)]
  congr 3;omega
 have hk2:k≤2:=by omega
 simp only[go_sem,he,g0,cv]
 refine bF bI (by kernel_rfl) ?_
 simp only[go_sem,he,g0,Int.toNat_natCast,hkU]
 refine⟨by omega,?_⟩
 obtain⟨I,hIE⟩:∃I:Nat,max 1 r.interval=I:=⟨(max 1 r.interval).toNat,by omega⟩
 obtain⟨g,hg⟩:∃g:Nat,g=Nat.gcd I U:=⟨_,rfl⟩
 have hUp:0<U:=by omega
 rw[hIE]
 have r0:∀G:aB,(H++(aD.own 25 (aE r x)::aD.own 3 [vI 24,vI 1440,vI 86400]::G))[H.length]?=some (aD.own 25 (aE r x)):=fun G=>by rw[bB];rfl
 refine bG (U+1) (fun kk e h=>len e=157∧AL.get e 1=.ptr H.length 0∧AL.get e 3=.sl true (H.length+1) 0 3 1∧AL.get e 4=vI k∧h=H++[aD.own 25 (aE r x),aD.own 3 [vI 24,vI 1440,vI 86400]]∧∃a b:Nat,AL.get e 5=vI a∧AL.get e 6=vI b∧b+1=kk∧0<a∧Nat.gcd a b=g) (fun e h=>len e=157∧AL.get e 1=.ptr H.length 0∧AL.get e 3=.sl true (H.length+1) 0 3 1∧AL.get e 4=vI k∧AL.get e 5=vI g∧0<g∧h=H++[aD.own 25 (aE r x),aD.own 3 [vI 24,vI 1440,vI 86400]]) (by kernel_rfl) ?_ ?_ ?_
 ·unfold aE
  simp only[go_sem,he,g0]
  exact⟨I,U,rfl,rfl,rfl,by omega,hg.symm⟩
 ·clear he g0
  rintro kk e h ⟨he,g1,g3,g4,rfl,a,b,g5,g6,hbk,ha,hgc⟩
  simp only[go_sem,he,g1,g3,g4,g5,g6]
  refine aF (fun hd=>?_) fun hd=>?_
  ·have hd:=odT hd
   simp only[go_sem,he,g1,g3,g4,g5,g6]
   refine bF bI (by kernel_rfl) ?_
   have e1:((a:Int)).tmod b=((a%b:Nat):Int):=by rw[Int.tmod_eq_emod_of_nonneg (by omega)];rfl
   simp only[go_sem,he,g1,g3,g4,g5,g6,e1]
   have hm:=Nat.mod_lt a (show 0<b by omega)
   exact⟨by omega,a%b+1,by omega,b,a%b,rfl,rfl,rfl,by omega,by rw[Nat.gcd_comm,←Nat.gcd_rec,Nat.gcd_comm];exact hgc⟩
  ·have hd:=odF hd
   simp only[go_sem,he,g1,g3,g4,g5,g6]
   have hb0:b=0:=by omega
   rw[hb0,Nat.gcd_zero_right] at hgc
   subst hgc
   exact⟨rfl,ha⟩
 clear he g0
 rintro e h ⟨he,g1,g3,g4,g5,hgp,rfl⟩
 have hgI:g≤24:=by
  have:g∣I:=by rw[hg];exact Nat.gcd_dvd_left I U
  have:=Nat.le_of_dvd (by omega) this
  omega
 have e49:i64.wrap ((86400:Int).tdiv U)=u:=by rcases hUu with ⟨-,rfl,rfl⟩|⟨-,rfl,rfl⟩|⟨-,rfl,rfl⟩<;>rfl
 obtain⟨s0,hs0⟩:∃s0:Int,s0=r.start%86400/u:=⟨_,rfl⟩
 have e54:i64.wrap ((r.start.tmod 86400).tdiv u)=s0:=by
  rw[Int.tmod_eq_emod_of_nonneg (by omega),hs0]
  rcases hUu with ⟨-,-,rfl⟩|⟨-,-,rfl⟩|⟨-,-,rfl⟩<;>rw[Int.tdiv_eq_ediv_of_nonneg (by omega),aJ (by omega)]
 have hs0b:0≤s0∧s0<86400:=by rw[hs0];rcases hUu with ⟨-,-,rfl⟩|⟨-,-,rfl⟩|⟨-,-,rfl⟩<;>omega
 have e57:s0.tmod g=s0%g:=Int.tmod_eq_emod_of_nonneg hs0b.1
 have hsg:0≤s0%g∧s0%g<g:=⟨Int.emod_nonneg _ (by omega),Int.emod_lt_of_pos _ (by omega)⟩
 unfold aE
 simp only[go_sem,he,g1,g3,g4,g5,Int.toNat_natCast,hkU,e49,e54,e57]
 refine⟨by omega,by omega,by omega,by omega,?_⟩
 obtain⟨Q,hQ⟩:∃Q:Prop,Q=∃t,aR8 r U u g t:=⟨_,rfl⟩
 refine bG 90000 (fun kk e h=>len e=157∧AL.get e 1=.ptr H.length 0∧AL.get e 3=.sl true (H.length+1) 0 3 1∧AL.get e 4=vI k∧AL.get e 9=.ptr (H.length+2) 0∧AL.get e 10=.ptr (H.length+3) 0∧AL.get e 11=.ptr (H.length+4) 0∧AL.get e 5=vI g∧AL.get e 7=vI u∧AL.get e 12=.fn (.func 105) [] []∧∃(t:Int) (hs ms ss:List Bool),AL.get e 13=vI t∧0≤t∧(t-s0)%g=0∧t+kk=90000+s0%g∧h=H++[aD.own 25 (aE r x),aD.own 3 [vI 24,vI 1440,vI 86400],aD.own 151 (hs.map vB),aD.own 152 (ms.map vB),aD.own 152 (ss.map vB)]∧j4 24 hs (fun _=>Q)∧j4 60 ms (fun _=>Q)∧j4 60 ss (fun _=>Q)) (fun e h=>len e=157∧AL.get e 1=.ptr H.length 0∧AL.get e 3=.sl true (H.length+1) 0 3 1∧AL.get e 4=vI k∧AL.get e 9=.ptr (H.length+2) 0∧AL.get e 10=.ptr (H.length+3) 0∧AL.get e 11=.ptr (H.length+4) 0∧∃(hs ms ss:List Bool),h=H++[aD.own 25 (aE r x),aD.own 3 [vI 24,vI 1440,vI 86400],aD.own 151 (hs.map vB),aD.own 152 (ms.map vB),aD.own 152 (ss.map vB)]∧j4 24 hs (fun _=>Q)∧j4 60 ms (fun _=>Q)∧j4 60 ss (fun _=>Q)) (by kernel_rfl) ?_ ?_ ?_
 ·simp only[go_sem,he,g1,g3,g4,g5]
  unfold aE
  refine⟨_,List.replicate 24 false,List.replicate 60 false,List.replicate 60 false,rfl,hsg.1,?_,by omega,rfl,uK _ _,uK _ _,uK _ _⟩
  rw[Int.emod_sub_emod,Int.sub_self];rfl
 ·clear he g1 g3 g4 g5
  rintro kk e h ⟨he,g1,g3,g4,g9,g10,g11,g5,g7,g12,t,hs,ms,ss,g13,ht0,htg,htk,rfl,ah,am,ac⟩
  unfold aE
  simp only[go_sem,he,g1,g3,g4,g9,g10,g11,g5,g7,g12,g13,Int.toNat_natCast,hkU]
  refine⟨by omega,?_⟩
  refine aF (fun hd=>?_) fun hd=>?_
  ·have hd:=odT hd
   have htu:i64.wrap (t*u)=t*u∧0≤t*u∧t*u<86400:=by
    rcases hUu with ⟨-,rfl,rfl⟩|⟨-,rfl,rfl⟩|⟨-,rfl,rfl⟩<;>refine⟨aJ (by omega),by omega,by omega⟩
   obtain⟨m,hm⟩:∃m,m=t*u:=⟨_,rfl⟩
   rw[←hm] at htu
   have w1:i64.wrap (m.tdiv 3600)=m/3600:=by rw[Int.tdiv_eq_ediv_of_nonneg htu.2.1,aJ (by omega)]
   have w2:(i64.wrap (m.tdiv 60)).tmod 60=m/60%60:=by rw[Int.tdiv_eq_ediv_of_nonneg htu.2.1,aJ (by omega),Int.tmod_eq_emod_of_nonneg (by omega)]
   have w3:m.tmod 60=m%60:=Int.tmod_eq_emod_of_nonneg htu.2.1
   have w4:i64.wrap (t+g)=t+g:=aJ (by omega)
   have hnext:(t+g-s0)%g=0:=by rw[show t+(g:Int)-s0=t-s0+g by omega,Int.add_emod_right];exact htg
   have hmet:K.aY r.hour (m/3600)=true→(5≤r.freq→K.aY r.minute (m/60%60)=true)→(r.freq=6→K.aY r.second (m%60)=true)→Q:=fun a1 a2 a3=>by
    rw[hQ]
    exact⟨t,ht0,hd,by rw[←hs0];exact htg,by rw[←hm];exact a1,by rw[←hm];exact a2,by rw[←hm];exact a3⟩
   simp only[go_sem,he,g1,g3,g4,g9,g10,g11,g5,g7,g12,g13,←hm,htu.1,w1,w2,w3]
   refine aI (aIF r.hour (by omega) _ x.hour _ (hx.more _).hour) ?_
   rintro _ _ ⟨rfl,rfl⟩
   simp only[go_sem,he,g1,g3,g4,g9,g10,g11,g5,g7,g12,g13,aA]
   refine bQ (fun e h=>len e=157∧AL.get e 1=.ptr H.length 0∧AL.get e 3=.sl true (H.length+1) 0 3 1∧AL.get e 4=vI k∧AL.get e 9=.ptr (H.length+2) 0∧AL.get e 10=.ptr (H.length+3) 0∧AL.get e 11=.ptr (H.length+4) 0∧AL.get e 5=vI g∧AL.get e 7=vI u∧AL.get e 12=.fn (.func 105) [] []∧AL.get e 13=vI t∧AL.get e 15=vI (m/3600)∧AL.get e 16=vI (m/60%60)∧AL.get e 17=vI (m%60)∧(∃bb,AL.get e 106=vB bb∧(bb=false→Q))∧h=H++[aD.own 25 (aE r x),aD.own 3 [vI 24,vI 1440,vI 86400],aD.own 151 (hs.map vB),aD.own 152 (ms.map vB),aD.own 152 (ss.map vB)]) ?_ ?_
   ·unfold aE
    have fin:∀b:Bool,b=true→Q→(∃bb,vB (!b)=vB bb∧(bb=false→Q)):=fun b _ q=>⟨_,rfl,fun _=>q⟩
    cases a1:K.aY r.hour (m/3600) with
    |false=>simp only[go_sem,he,g1,g3,g4,g9,g10,g11,g5,g7,g12,g13];exact⟨true,rfl,fun h=>by cases h⟩
    |true=>
     have key3:(5≤r.freq→K.aY r.minute (m/60%60)=true)→Q∨K.aY r.second (m%60)=false∧r.freq=6:=fun h2=>by
      cases a3:K.aY r.second (m%60) with
      |true=>exact .inl (hmet a1 h2 fun _=>a3)
      |false=>
       by_cases f6:r.freq=6
       ·exact .inr ⟨rfl,f6⟩
       ·exact .inl (hmet a1 h2 fun h=>absurd h f6)
     cases d1:decide ((0:Int)<k) with
     |false=>
      have d1':=odF d1
      have d2:decide ((1:Int)<k)=false:=dcF (by omega)
      simp only[go_sem,he,g1,g3,g4,g9,g10,g11,g5,g7,g12,g13,d1,d2]
      refine⟨_,rfl,fun _=>?_⟩
      rcases key3 (fun h=>by omega) with h|h
      ·exact h
      ·omega
     |true=>
      have d1':=odT d1
      simp only[go_sem,he,g1,g3,g4,g9,g10,g11,g5,g7,g12,g13,d1]
      refine aI (aIF r.minute (by omega) _ x.minute _ (hx.more _).minute) ?_
      rintro _ _ ⟨rfl,rfl⟩
      cases a2:K.aY r.minute (m/60%60) with
      |false=>simp only[go_sem,he,g1,g3,g4,g9,g10,g11,g5,g7,g12,g13,aA];exact⟨true,rfl,fun h=>by cases h⟩
      |true=>
       cases d2:decide ((1:Int)<k) with
       |false=>
        have d2':=odF d2
        simp only[go_sem,he,g1,g3,g4,g9,g10,g11,g5,g7,g12,g13,aA,d2]
        refine⟨_,rfl,fun _=>?_⟩
        rcases key3 (fun _=>a2) with h|h
        ·exact h
        ·omega
       |true=>
        simp only[go_sem,he,g1,g3,g4,g9,g10,g11,g5,g7,g12,g13,aA,d2]
        refine aI (aIF r.second (by omega) _ x.second _ (hx.more _).second) ?_
        rintro _ _ ⟨rfl,rfl⟩
        cases a3:K.aY r.second (m%60) with
        |false=>simp only[go_sem,he,g1,g3,g4,g9,g10,g11,g5,g7,g12,g13,aA];exact⟨true,rfl,fun h=>by cases h⟩
        |true=>simp only[go_sem,he,g1,g3,g4,g9,g10,g11,g5,g7,g12,g13,aA];exact⟨false,rfl,fun _=>hmet a1 (fun _=>a2) fun _=>a3⟩
   ·clear he g1 g3 g4 g9 g10 g11 g5 g7 g12 g13
    rintro e h ⟨he,g1,g3,g4,g9,g10,g11,g5,g7,g12,g13,g15,g16,g17,⟨bb,g106,hbb⟩,rfl⟩
    unfold aE
    simp only[go_sem,he,g1,g3,g4,g9,g10,g11,g5,g7,g12,g13,g15,g16,g17,g106]
    refine aF (fun hb=>?_) fun hb=>?_
    ·simp only[go_sem,he,g1,g3,g4,g9,g10,g11,g5,g7,g12,g13,w4]
     exact⟨kk-g,by omega,t+g,hs,ms,ss,rfl,by omega,hnext,by omega,rfl,ah,am,ac⟩
    ·have hq:=hbb hb
     obtain⟨i1,hi1⟩:∃i1:Nat,m/3600=i1:=⟨(m/3600).toNat,by omega⟩
     obtain⟨i2,hi2⟩:∃i2:Nat,m/60%60=i2:=⟨(m/60%60).toNat,by omega⟩
     obtain⟨i3,hi3⟩:∃i3:Nat,m%60=i3:=⟨(m%60).toNat,by omega⟩
     have p1:=wV hs true (j:=i1) (by rw[ah.1];omega)
     have p2:=wV ms true (j:=i2) (by rw[am.1];omega)
     have p3:=wV ss true (j:=i3) (by rw[ac.1];omega)
     have q1:(hs.map vB).length=24:=by rw[List.length_map];exact ah.1
     have q2:(ms.map vB).length=60:=by rw[List.length_map];exact am.1
     have q3:(ss.map vB).length=60:=by rw[List.length_map];exact ac.1
     simp only[go_sem,he,g1,g3,g4,g9,g10,g11,g5,g7,g12,g13,g15,g16,g17,hi1,hi2,hi3,Int.toNat_natCast,p1,p2,p3,q1,q2,q3,w4]
     refine⟨by omega,by omega,by omega,by omega,by omega,by omega,?_⟩
     exact⟨kk-g,by omega,t+g,_,_,_,rfl,by omega,hnext,by omega,rfl,ah.put hq,am.put hq,ac.put hq⟩
  ·simp only[go_sem,he,g1,g3,g4,g9,g10,g11]
   exact⟨hs,ms,ss,rfl,ah,am,ac⟩
 clear he g1 g3 g4 g5
 rintro e h ⟨he,g1,g3,g4,g9,g10,g11,hs,ms,ss,rfl,ah,am,ac⟩
 have no:∀(h:aB),(∃G,h=H++G)→(∃b,vB false=vB b∧(b=true→K.wG r))∧∃G,h=H++G:=fun h hh=>⟨⟨false,rfl,fun h=>by cases h⟩,hh⟩
 unfold aE
 simp only[go_sem,he,g1,g3,g4,g9,g10,g11,l1]
 refine bG r.hour.length (fun kk e h=>len e=157∧AL.get e 1=.ptr H.length 0∧AL.get e 3=.sl true (H.length+1) 0 3 1∧AL.get e 4=vI k∧AL.get e 9=.ptr (H.length+2) 0∧AL.get e 10=.ptr (H.length+3) 0∧AL.get e 11=.ptr (H.length+4) 0∧AL.get e 114=x.hour∧AL.get e 115=vI r.hour.length∧h=H++[aD.own 25 (aE r x),aD.own 3 [vI 24,vI 1440,vI 86400],aD.own 151 (hs.map vB),aD.own 152 (ms.map vB),aD.own 152 (ss.map vB)]∧∃i:Nat,AL.get e 116=vI i∧i+kk=r.hour.length∧(0<i→Q)) (fun e h=>len e=157∧AL.get e 1=.ptr H.length 0∧AL.get e 3=.sl true (H.length+1) 0 3 1∧AL.get e 4=vI k∧AL.get e 9=.ptr (H.length+2) 0∧AL.get e 10=.ptr (H.length+3) 0∧AL.get e 11=.ptr (H.length+4) 0∧h=H++[aD.own 25 (aE r x),aD.own 3 [vI 24,vI 1440,vI 86400],aD.own 151 (hs.map vB),aD.own 152 (ms.map vB),aD.own 152 (ss.map vB)]∧(r.hour≠[]→Q)) (by kernel_rfl) ?_ ?_ ?_
 ·unfold aE
  simp only[go_sem,he,g1,g3,g4,g9,g10,g11]
  exact⟨0,rfl,by omega,fun h=>by omega⟩
 ·clear he g1 g3 g4 g9 g10 g11
  rintro kk e h ⟨he,g1,g3,g4,g9,g10,g11,g114,g115,rfl,i,g116,hik,hQi⟩
  unfold aE
  simp only[go_sem,he,g1,g3,g4,g9,g10,g11,g114,g115,g116]
  refine aF (fun hd=>?_) fun hd=>?_
  ·have hd:=odT hd
   obtain⟨pp,qq,cs,hsl,hcs,hcell⟩:=jK ((hx.more [aD.own 25 (aE r x),aD.own 3 [vI 24,vI 1440,vI 86400],aD.own 151 (hs.map vB),aD.own 152 (ms.map vB),aD.own 152 (ss.map vB)]).hour) (i:=i) (by omega)
   have wi:i64.wrap ((i:Int)+1)=((i+1:Nat):Int):=by rw[aJ (by omega)];rfl
   obtain⟨v,hv,hvb⟩:∃v:Nat,r.hour.getD i 0=v∧v<24:=by
    have:=wT hc.hour (show i<r.hour.length by omega)
    exact⟨(r.hour.getD i 0).toNat,by omega,by omega⟩
   have hb:=wU hs (i:=v) (by rw[ah.1];omega)
   unfold aE at hcs
   simp only[go_sem,he,g1,g3,g4,g9,g10,g11,g114,g115,g116,hsl,hcs,hcell,hv,Int.toNat_natCast,hb]
   refine⟨by omega,?_⟩
   refine aF (fun hz=>?_) fun hz=>?_
   ·simp only[go_sem,he,g1,g3,g4,g9,g10,g11,g114,g115,g116]
    exact no _ ⟨_,rfl⟩
   ·rw[Bool.not_eq_false'] at hz
    simp only[go_sem,he,g1,g3,g4,g9,g10,g11,g114,g115,g116,wi]
    exact⟨kk-1,by omega,i+1,rfl,by omega,fun _=>ah.2 v hz⟩
  ·have hd:=odF hd
   simp only[go_sem,he,g1,g3,g4,g9,g10,g11]
   refine fun hne=>hQi ?_
   cases hh:r.hour with
   |nil=>exact absurd hh hne
   |cons a l=>rw[hh] at hik hd;simp at hik hd;omega
 clear he g1 g3 g4 g9 g10 g11
 rintro e h ⟨he,g1,g3,g4,g9,g10,g11,rfl,hQ1⟩
 unfold aE
 simp only[go_sem,he,g1,g3,g4,g9,g10,g11,l2]
 refine bG r.minute.length (fun kk e h=>len e=157∧AL.get e 1=.ptr H.length 0∧AL.get e 3=.sl true (H.length+1) 0 3 1∧AL.get e 4=vI k∧AL.get e 9=.ptr (H.length+2) 0∧AL.get e 10=.ptr (H.length+3) 0∧AL.get e 11=.ptr (H.length+4) 0∧AL.get e 126=x.minute∧AL.get e 127=vI r.minute.length∧h=H++[aD.own 25 (aE r x),aD.own 3 [vI 24,vI 1440,vI 86400],aD.own 151 (hs.map vB),aD.own 152 (ms.map vB),aD.own 152 (ss.map vB)]∧∃i:Nat,AL.get e 128=vI i∧i+kk=r.minute.length∧(0<i→0<k→Q)) (fun e h=>len e=157∧AL.get e 1=.ptr H.length 0∧AL.get e 3=.sl true (H.length+1) 0 3 1∧AL.get e 4=vI k∧AL.get e 9=.ptr (H.length+2) 0∧AL.get e 10=.ptr (H.length+3) 0∧AL.get e 11=.ptr (H.length+4) 0∧h=H++[aD.own 25 (aE r x),aD.own 3 [vI 24,vI 1440,vI 86400],aD.own 151 (hs.map vB),aD.own 152 (ms.map vB),aD.own 152 (ss.map vB)]∧(r.minute≠[]→0<k→Q)) (by kernel_rfl) ?_ ?_ ?_
 ·unfold aE
  simp only[go_sem,he,g1,g3,g4,g9,g10,g11]
  exact⟨0,rfl,by omega,fun h=>by omega⟩
 ·clear he g1 g3 g4 g9 g10 g11
  rintro kk e h ⟨he,g1,g3,g4,g9,g10,g11,g126,g127,rfl,i,g128,hik,hQi⟩
  unfold aE
  simp only[go_sem,he,g1,g3,g4,g9,g10,g11,g126,g127,g128]
  refine aF (fun hd=>?_) fun hd=>?_
  ·have hd:=odT hd
   obtain⟨pp,qq,cs,hsl,hcs,hcell⟩:=jK ((hx.more [aD.own 25 (aE r x),aD.own 3 [vI 24,vI 1440,vI 86400],aD.own 151 (hs.map vB),aD.own 152 (ms.map vB),aD.own 152 (ss.map vB)]).minute) (i:=i) (by omega)
   have wi:i64.wrap ((i:Int)+1)=((i+1:Nat):Int):=by rw[aJ (by omega)];rfl
   obtain⟨v,hv,hvb⟩:∃v:Nat,r.minute.getD i 0=v∧v<60:=by
    have:=wT hc.minute (show i<r.minute.length by omega)
    exact⟨(r.minute.getD i 0).toNat,by omega,by omega⟩
   have hb:=wU ms (i:=v) (by rw[am.1];omega)
   unfold aE at hcs
   simp only[go_sem,he,g1,g3,g4,g9,g10,g11,g126,g127,g128,hsl,hcs,hcell,hv]
   cases hk0:decide ((0:Int)<k) with
   |false=>
    have hk0':=odF hk0
    simp only[go_sem,he,g1,g3,g4,g9,g10,g11,g126,g127,g128,wi,hk0]
    exact⟨kk-1,by omega,i+1,rfl,by omega,fun _ h=>by omega⟩
   |true=>
    simp only[go_sem,he,g1,g3,g4,g9,g10,g11,g126,g127,g128,hk0,Int.toNat_natCast,hb]
    refine⟨by omega,?_⟩
    refine aF (fun hz=>?_) fun hz=>?_
    ·simp only[go_sem,he,g1,g3,g4,g9,g10,g11,g126,g127,g128]
     exact no _ ⟨_,rfl⟩
    ·rw[Bool.not_eq_false'] at hz
     simp only[go_sem,he,g1,g3,g4,g9,g10,g11,g126,g127,g128,wi]
     exact⟨kk-1,by omega,i+1,rfl,by omega,fun _ _=>am.2 v hz⟩
  ·have hd:=odF hd
   simp only[go_sem,he,g1,g3,g4,g9,g10,g11]
   refine fun hne hk=>hQi ?_ hk
   cases hh:r.minute with
   |nil=>exact absurd hh hne
   |cons a l=>rw[hh] at hik hd;simp at hik hd;omega
 clear he g1 g3 g4 g9 g10 g11
 rintro e h ⟨he,g1,g3,g4,g9,g10,g11,rfl,hQ2⟩
 unfold aE
 simp only[go_sem,he,g1,g3,g4,g9,g10,g11,l3]
 refine bG r.second.length (fun kk e h=>len e=157∧AL.get e 1=.ptr H.length 0∧AL.get e 3=.sl true (H.length+1) 0 3 1∧AL.get e 4=vI k∧AL.get e 9=.ptr (H.length+2) 0∧AL.get e 10=.ptr (H.length+3) 0∧AL.get e 11=.ptr (H.length+4) 0∧AL.get e 142=x.second∧AL.get e 143=vI r.second.length∧h=H++[aD.own 25 (aE r x),aD.own 3 [vI 24,vI 1440,vI 86400],aD.own 151 (hs.map vB),aD.own 152 (ms.map vB),aD.own 152 (ss.map vB)]∧∃i:Nat,AL.get e 144=vI i∧i+kk=r.second.length∧(0<i→1<k→Q)) (fun e h=>len e=157∧AL.get e 1=.ptr H.length 0∧AL.get e 3=.sl true (H.length+1) 0 3 1∧AL.get e 4=vI k∧AL.get e 9=.ptr (H.length+2) 0∧AL.get e 10=.ptr (H.length+3) 0∧AL.get e 11=.ptr (H.length+4) 0∧h=H++[aD.own 25 (aE r x),aD.own 3 [vI 24,vI 1440,vI 86400],aD.own 151 (hs.map vB),aD.own 152 (ms.map vB),aD.own 152 (ss.map vB)]∧(r.second≠[]→1<k→Q)) (by kernel_rfl) ?_ ?_ ?_
 ·unfold aE
  simp only[go_sem,he,g1,g3,g4,g9,g10,g11]
  exact⟨0,rfl,by omega,fun h=>by omega⟩
 ·clear he g1 g3 g4 g9 g10 g11
  rintro kk e h ⟨he,g1,g3,g4,g9,g10,g11,g142,g143,rfl,i,g144,hik,hQi⟩
  unfold aE
  simp only[go_sem,he,g1,g3,g4,g9,g10,g11,g142,g143,g144]
  refine aF (fun hd=>?_) fun hd=>?_
  ·have hd:=odT hd
   obtain⟨pp,qq,cs,hsl,hcs,hcell⟩:=jK ((hx.more [aD.own 25 (aE r x),aD.own 3 [vI 24,vI 1440,vI 86400],aD.own 151 (hs.map vB),aD.own 152 (ms.map vB),aD.own 152 (ss.map vB)]).second) (i:=i) (by omega)
   have wi:i64.wrap ((i:Int)+1)=((i+1:Nat):Int):=by rw[aJ (by omega)];rfl
   obtain⟨v,hv,hvb⟩:∃v:Nat,r.second.getD i 0=v∧v<60:=by
    have:=wT hc.second (show i<r.second.length by omega)
    exact⟨(r.second.getD i 0).toNat,by omega,by omega⟩
   have hb:=wU ss (i:=v) (by rw[ac.1];omega)
   unfold aE at hcs
   simp only[go_sem,he,g1,g3,g4,g9,g10,g11,g142,g143,g144,hsl,hcs,hcell,hv]
   cases hk0:decide ((1:Int)<k) with
   |false=>
    have hk0':=odF hk0
    simp only[go_sem,he,g1,g3,g4,g9,g10,g11,g142,g143,g144,wi,hk0]
    exact⟨kk-1,by omega,i+1,rfl,by omega,fun _ h=>by omega⟩
   |true=>
    simp only[go_sem,he,g1,g3,g4,g9,g10,g11,g142,g143,g144,hk0,Int.toNat_natCast,hb]
    refine⟨by omega,?_⟩
    refine aF (fun hz=>?_) fun hz=>?_
    ·simp only[go_sem,he,g1,g3,g4,g9,g10,g11,g142,g143,g144]
     exact no _ ⟨_,rfl⟩
    ·rw[Bool.not_eq_false'] at hz
     simp only[go_sem,he,g1,g3,g4,g9,g10,g11,g142,g143,g144,wi]
     exact⟨kk-1,by omega,i+1,rfl,by omega,fun _ _=>ac.2 v hz⟩
  ·have hd:=odF hd
   simp only[go_sem,he,g1,g3,g4,g9,g10,g11]
   refine fun hne hk=>hQi ?_ hk
   cases hh:r.second with
   |nil=>exact absurd hh hne
   |cons a l=>rw[hh] at hik hd;simp at hik hd;omega
 clear he g1 g3 g4 g9 g10 g11
 rintro e h ⟨he,g1,g3,g4,g9,g10,g11,rfl,hQ3⟩
 unfold aE
 simp only[go_sem,he,g1,g3,g4,g9,g10,g11]
 refine⟨⟨true,rfl,fun _=>?_⟩,_,rfl⟩
 intro h4 hor
 have hq:Q:=by
  rcases hor with h|⟨h5,h⟩|⟨h6,h⟩
  ·exact hQ1 h
  ·exact hQ2 h (by omega)
  ·exact hQ3 h (by omega)
 rw[hQ] at hq
 obtain⟨t,t0,tU,tg,a1,a2,a3⟩:=hq
 refine⟨t,t0,by rw[hpd];exact tU,?_,by rw[hu];exact a1,by rw[hu];exact a2,by rw[hu];exact a3⟩
 rw[hu,hpd,hIE]
 show (t-r.start%86400/u)%((Nat.gcd I U:Nat):Int)=0
 rw[←hg];exact tg
def qL (l:List (Int×Int)):Nat:=(l.filter fun d=>!decide (d.2=0)).length
theorem aKJ (l:List (Int×Int)) (d:Int×Int):qL (l++[d])=qL l+(if d.2=0 then 0 else 1):=by
 unfold qL
 rw[List.filter_append,List.length_append]
 by_cases h:d.2=0<;>simp[h]
theorem aHj (l:List (Int×Int)):qL l≤l.length:=List.length_filter_le ..
theorem aKK {l:List (Int×Int)} (h:qL l=0):∀d∈l,d.2=0:=by
 intro d hd
 have:=List.filter_eq_nil_iff.1 (List.length_eq_zero_iff.1 h) d hd
 simpa using this
theorem aL1 {l:List (Int×Int)} (h:qL l=l.length):∀d∈l,d.2≠0:=by
 intro d hd
 have:=List.length_filter_eq_length_iff.1 h d hd
 simpa using this
set_option maxHeartbeats 4000000 in
theorem aKL {w0:World} (r:Ru) (x:Rs) (hc:iC r) (H:aB) (hx:cN H r x) :
  aH prog (CB w0) 48 [.agg (aE r x)] H fun v H'=>(∃b,v=vB b∧(b=false→K.aDo r))∧∃G,H'=H++G:=by
 refine aSi (N:=107) (rs:=[.tmp 2]) Tryz.func48 ?_
 rintro e he ⟨g0,-⟩
 have hs:=mF hc
 have hst:=hc.start
 have hfr:=hc.freq
 have s1:=hs.day;have s2:=hs.weekNo;have s3:=hs.setPos;have s4:=hs.month;have s5:=hs.monthDay;have s6:=hs.yearDay
 have dl:=hx.day.len 41
 have l1:=hx.setPos.len 3;have l2:=hx.month.len 3;have l3:=hx.monthDay.len 3;have l4:=hx.yearDay.len 3
 have yes:∀(h:aB),(∃G,h=H++G)→(∃b,vB true=vB b∧(b=false→K.aDo r))∧∃G,h=H++G:=fun h hh=>⟨⟨true,rfl,fun h=>by cases h⟩,hh⟩
 have r0:∀G:aB,(H++(aD.own 25 (aE r x)::G))[H.length]?=some (aD.own 25 (aE r x)):=fun G=>by rw[bB];rfl
 unfold aE at g0
 simp only[go_sem,he,g0,hx.setPos.one,hx.month.one,hx.monthDay.one,hx.yearDay.one,hx.weekNo.one,hx.day.one,hx.hour.one,hx.minute.one,hx.second.one,hx.easter.one]
 refine bQ (fun e h=>len e=107∧AL.get e 1=.ptr H.length 0∧(∃b,AL.get e 14=vB b)∧h=H++[aD.own 25 (aE r x)]) ?_ ?_
 ·unfold aE
  cases hu:r.hasUntil<;>simp only[go_sem,he,g0]<;>exact⟨_,rfl⟩
 clear he g0
 rintro e h ⟨he,g1,⟨b,g14⟩,rfl⟩
 unfold aE
 simp only[go_sem,he,g1,g14]
 refine aF (fun hb=>?_) fun hb=>?_
 ·simp only[go_sem,he,g1,g14];exact yes _ ⟨_,rfl⟩
 simp only[go_sem,he,g1,g14,dl]
 refine bG r.day.length (fun k e h=>len e=107∧AL.get e 1=.ptr H.length 0∧AL.get e 16=x.day∧AL.get e 17=vI r.day.length∧(∃G,h=H++(aD.own 25 (aE r x)::G))∧∃i:Nat,AL.get e 18=vI i∧i+k=r.day.length∧AL.get e 3=vI (qL (r.day.take i))) (fun e h=>len e=107∧AL.get e 1=.ptr H.length 0∧(∃G,h=H++(aD.own 25 (aE r x)::G))∧AL.get e 3=vI (qL r.day)) (by kernel_rfl) ?_ ?_ ?_
 ·simp only[go_sem,he,g1,g14]
  unfold aE
  exact⟨⟨[],rfl⟩,0,rfl,by omega,rfl⟩
 ·clear he g1 g14
  rintro k e h ⟨he,g1,g16,g17,⟨G,rfl⟩,i,g18,hik,g3⟩
  unfold aE
  simp only[go_sem,he,g1,g16,g17,g18,g3]
  refine aF (fun hd=>?_) fun hd=>?_
  ·have hd:=odT hd
   obtain⟨own,o,off,cs,hxd,hcs,h1,h2⟩:=cU.get ((hx.more (aD.own 25 (aE r x)::G)).day) (i:=i) (by omega)
   have hsl:qX prog 23 x.day (vI i)=some (.ptr o (off+i*2)):=by
    rw[hxd,qF,aLd,mU,if_pos ⟨by omega,by omega,rfl⟩,Int.toNat_natCast]
   have hgi:r.day[i]?=some (r.day.getD i (0,0)):=by rw[List.getD_eq_getElem?_getD,List.getElem?_eq_getElem (by omega)];rfl
   have htk:r.day.take (i+1)=r.day.take i++[r.day.getD i (0,0)]:=by rw[List.take_add_one,hgi];rfl
   have hnl:=aHj (r.day.take i)
   rw[List.length_take] at hnl
   have wi:i64.wrap ((i:Int)+1)=((i+1:Nat):Int):=by rw[aJ (by omega)];rfl
   have wn:i64.wrap ((qL (r.day.take i):Int)+1)=((qL (r.day.take i)+1:Nat):Int):=by rw[aJ (by omega)];rfl
   have hsn:=aKJ (r.day.take i) (r.day.getD i (0,0))
   rw[←htk] at hsn
   generalize r.day.getD i (0,0)=d at *
   unfold aE at hcs
   simp only[go_sem,he,g1,g16,g17,g18,g3,hsl,hcs,h1,h2,List.replicate]
   refine aF (fun hq=>?_) fun hq=>?_
   ·rw[Bool.not_eq_true'] at hq
    have hq:=odF hq
    simp only[go_sem,he,g1,g16,g17,g18,g3,wn,wi]
    rw[if_neg hq] at hsn
    exact⟨k-1,by omega,⟨_,rfl⟩,i+1,rfl,by omega,by rw[hsn]⟩
   ·rw[Bool.not_eq_false'] at hq
    have hq:=odT hq
    simp only[go_sem,he,g1,g16,g17,g18,g3,wi]
    rw[if_pos hq] at hsn
    exact⟨k-1,by omega,⟨_,rfl⟩,i+1,rfl,by omega,by rw[hsn];rfl⟩
  ·have hd:=odF hd
   simp only[go_sem,he,g1,g3]
   exact⟨⟨_,rfl⟩,by rw[List.take_of_length_le (by omega)]⟩
 clear he g1 g14
 rintro e h ⟨he,g1,⟨G,rfl⟩,g3⟩
 have hnl:=aHj r.day
 unfold aE
 simp only[go_sem,he,g1,g3]
 refine bQ (fun e h=>len e=107∧AL.get e 1=.ptr H.length 0∧(∃b,AL.get e 41=vB b∧(b=false→r.freq≤1→(∀d∈r.day,d.2=0)∨(∀d∈r.day,d.2≠0)))∧h=H++(aD.own 25 (aE r x)::G)) ?_ ?_
 ·unfold aE
  cases d1:decide ((r.freq:Int)≤1) with
  |false=>
   have d1:=odF d1
   simp only[go_sem,he,g1,g3]
   exact⟨_,rfl,fun _ h=>by omega⟩
  |true=>
   cases d2:decide (0<(qL r.day:Int)) with
   |false=>
    have d2':=odF d2
    simp only[go_sem,he,g1,g3,d2]
    exact⟨_,rfl,fun _ _=>.inl (aKK (by omega))⟩
   |true=>
    simp only[go_sem,he,g1,g3,d2,dl]
    exact⟨_,rfl,fun h _=>.inr (aL1 (by have:=odF h;omega))⟩
 clear he g1 g3
 rintro e h ⟨he,g1,⟨b,g41,hk⟩,rfl⟩
 simp only[go_sem,he,g1,g41]
 refine aF (fun hb=>?_) fun hb=>?_
 ·simp only[go_sem,he,g1,g41];exact yes _ ⟨_,rfl⟩
 have hk:=hk hb
 unfold aE
 simp only[go_sem,he,g1,g41]
 have cw:∀(a:Int) (G:aB),aH prog (CB w0) 69 [x.weekNo,vI a] (H++G) fun r' H'=>r'=vB (r.weekNo.contains a)∧H'=H++G:=fun a G=>gC r.weekNo (by omega) a x.weekNo _ (hx.more G).weekNo
 refine aI (cw (-52) _) ?_
 rintro _ _ ⟨rfl,rfl⟩
 simp only[go_sem,he,g1,aA]
 refine bQ (fun e h=>len e=107∧AL.get e 1=.ptr H.length 0∧(∃b,AL.get e 59=vB b)∧h=H++(aD.own 25 (aE r x)::G)) ?_ ?_
 ·unfold aE
  generalize r.weekNo.contains (-52)=b1
  cases b1 with
  |false=>simp only[go_sem,he,g1];exact⟨_,rfl⟩
  |true=>
   simp only[go_sem,he,g1]
   refine aI (cw 52 _) ?_
   rintro _ _ ⟨rfl,rfl⟩
   generalize r.weekNo.contains 52=b2
   cases b2 with
   |true=>simp only[go_sem,he,g1,aA];exact⟨_,rfl⟩
   |false=>
    simp only[go_sem,he,g1,aA]
    refine aI (cw 53 _) ?_
    rintro _ _ ⟨rfl,rfl⟩
    generalize r.weekNo.contains 53=b3
    cases b3 with
    |true=>simp only[go_sem,he,g1,aA];exact⟨_,rfl⟩
    |false=>
     simp only[go_sem,he,g1,aA]
     refine aI (cw (-53) _) ?_
     rintro _ _ ⟨rfl,rfl⟩
     simp only[go_sem,he,g1,aA]
     exact⟨_,rfl⟩
 clear he g1 g41
 rintro e h ⟨he,g1,⟨b,g59⟩,rfl⟩
 simp only[go_sem,he,g1,g59]
 refine aF (fun hb=>?_) fun hb=>?_
 ·simp only[go_sem,he,g1,g59];exact yes _ ⟨_,rfl⟩
 unfold aE
 simp only[go_sem,he,g1,g59]
 refine bQ (fun e h=>len e=107∧AL.get e 1=.ptr H.length 0∧(∃b,AL.get e 77=vB b∧(b=false→r.freq=2→r.setPos≠[]→r.start/86400%7=r.wkst))∧h=H++(aD.own 25 (aE r x)::G)) ?_ ?_
 ·unfold aE
  have w7:(i64.wrap (r.start.tdiv 86400)).tmod 7=r.start/86400%7:=by rw[Int.tdiv_eq_ediv_of_nonneg (by omega),aJ (by omega),Int.tmod_eq_emod_of_nonneg (by omega)]
  cases d1:decide ((r.freq:Int)=2) with
  |false=>
   have d1:=odF d1
   simp only[go_sem,he,g1]
   exact⟨_,rfl,fun _ h=>by omega⟩
  |true=>
   simp only[go_sem,he,g1,l1]
   cases d2:decide (0<(r.setPos.length:Int)) with
   |false=>
    have d2:=odF d2
    simp only[go_sem,he,g1]
    exact⟨_,rfl,fun _ _ h=>absurd (List.length_eq_zero_iff.1 (by omega)) h⟩
   |true=>
    simp only[go_sem,he,g1,w7]
    refine⟨_,rfl,fun h _ _=>?_⟩
    rw[Bool.not_eq_false'] at h
    exact odT h
 clear he g1 g59
 rintro e h ⟨he,g1,⟨b,g77,hwp⟩,rfl⟩
 simp only[go_sem,he,g1,g77]
 refine aF (fun hb=>?_) fun hb=>?_
 ·simp only[go_sem,he,g1,g77];exact yes _ ⟨_,rfl⟩
 have hwp:=hwp hb
 unfold aE
 simp only[go_sem,he,g1,g77]
 refine bQ (fun e h=>len e=107∧AL.get e 1=.ptr H.length 0∧(∃b,AL.get e 103=vB b∧(b=false→4≤r.freq→r.setPos=[]∧r.month=[]∧r.monthDay=[]∧r.yearDay=[]∧r.interval≤24))∧h=H++(aD.own 25 (aE r x)::G)) ?_ ?_
 ·unfold aE
  cases d1:decide ((4:Int)≤(r.freq:Int)) with
  |false=>
   have d1:=odF d1
   simp only[go_sem,he,g1]
   exact⟨_,rfl,fun _ h=>by omega⟩
  |true=>
   simp only[go_sem,he,g1,l1,l2,l3,l4]
   rw[aJ (n:=(r.setPos.length:Int)+(r.month.length:Int)) (by omega),aJ (n:=(r.setPos.length:Int)+(r.month.length:Int)+(r.monthDay.length:Int)) (by omega),aJ (n:=(r.setPos.length:Int)+(r.month.length:Int)+(r.monthDay.length:Int)+(r.yearDay.length:Int)) (by omega)]
   cases d2:decide (0<(r.setPos.length:Int)+(r.month.length:Int)+(r.monthDay.length:Int)+(r.yearDay.length:Int)) with
   |true=>simp only[go_sem,he,g1];exact⟨_,rfl,fun h=>by cases h⟩
   |false=>
    have d2:=odF d2
    simp only[go_sem,he,g1]
    exact⟨_,rfl,fun h _=>⟨List.length_eq_zero_iff.1 (by omega),List.length_eq_zero_iff.1 (by omega),List.length_eq_zero_iff.1 (by omega),List.length_eq_zero_iff.1 (by omega),by have:=odF h;omega⟩⟩
 clear he g1 g77
 rintro e h ⟨he,g1,⟨b,g103,hsm⟩,rfl⟩
 simp only[go_sem,he,g1,g103]
 refine aF (fun hb=>?_) fun hb=>?_
 ·simp only[go_sem,he,g1,g103];exact yes _ ⟨_,rfl⟩
 have hsm:=hsm hb
 have hm:=aR9 (w0:=w0) r x hc (fun h=>(hsm h).2.2.2.2) _ (hx.more (aD.own 25 (aE r x)::G))
 unfold aE at hm ⊢
 simp only[go_sem,he,g1,g103]
 refine aI hm ?_
 rintro _ _ ⟨⟨b,rfl,hme⟩,G2,rfl⟩
 simp only[go_sem,he,g1,aA]
 exact⟨⟨_,rfl,fun h=>⟨hk,hwp,hsm,hme (by simpa using h)⟩⟩,_,rfl⟩
set_option maxHeartbeats 1000000 in
theorem aPM {w0:World} (r:Ru) (x:Rs) (hl:xF r) (hn:aA7 r) (n:Nat) (hnn:n≤1000) (H:aB) (hx:cN H r x) :
  aH prog (CB w0) 21 [.agg (aE r x),vI n] H fun v H'=>∃y l ok,v=.tup [y,vB ok]∧Sec H H' y l∧(ok=true→K.pF r∧l=(K.gK r).take n):=by
 refine aSi (N:=43) (rs:=[.tmp 4,.tmp 5]) Tryz.func21 ?_
 rintro e he ⟨g0,g1,-⟩
 have l1:=hx.hour.len 3;have l2:=hx.minute.len 3;have l3:=hx.second.len 3
 have c1:=aHe (w0:=w0) r x hl hn _ (hx.more [aD.own 25 (aE r x)])
 unfold aE at g0 c1
 have no:∀(h:aB),(∃G,h=H++G)→∃y l ok,AV.tup [aP,vB false]=.tup [y,vB ok]∧Sec H h y l∧(ok=true→K.pF r∧l=(K.gK r).take n):=fun h hh=>⟨aP,[],false,rfl,⟨hh,rfl,.inl ⟨rfl,rfl⟩⟩,fun h=>by cases h⟩
 simp only[go_sem,he,g0,g1,hx.setPos.one,hx.month.one,hx.monthDay.one,hx.yearDay.one,hx.weekNo.one,hx.day.one,hx.hour.one,hx.minute.one,hx.second.one,hx.easter.one,l1,l2,l3]
 refine aI c1 ?_
 rintro _ _ ⟨rfl,rfl⟩
 cases hc:clean r with
 |false=>
  simp only[go_sem,he,g0,g1,aA]
  exact no _ ⟨_,rfl⟩
 |true=>
 have hcp:=aA8 hc
 simp only[go_sem,he,g0,g1,aA]
 generalize decide ((60:Int)<_)=b1
 cases b1 with
 |true=>
  simp only[go_sem,he,g0,g1]
  exact no _ ⟨_,rfl⟩
 |false=>
 have c2:=aKL (w0:=w0) r x hcp _ (hx.more [aD.own 25 (aE r x)])
 unfold aE at c2
 simp only[go_sem,he,g0,g1]
 refine aI c2 ?_
 rintro _ _ ⟨⟨b2,rfl,hleft⟩,G,rfl⟩
 cases b2 with
 |true=>
  simp only[go_sem,he,g0,g1,aA]
  exact no _ ⟨_,rfl⟩
 |false=>
 have c3:=aPL (w0:=w0) r x hn hcp hc (hleft rfl) n hnn _ (hx.more (aD.own 25 (aE r x)::G))
 unfold aE at c3
 simp only[go_sem,he,g0,g1,aA]
 refine aI c3 ?_
 rintro _ H2 ⟨y,l,op,rfl,hS,hop⟩
 have y1:=hS.one
 simp only[go_sem,he,g0,g1,aA]
 exact⟨y,l,!op,rfl,hS.weak,fun h=>by have:=hop (by simpa using h);exact⟨⟨hcp,hleft rfl,this.1⟩,this.2⟩⟩
end F
namespace K
open Go.Proofs.YtnoppodfngkoeaaGreat.F
theorem aC3 {l:List Int} {x:Int}:x∈eQ l↔x∈l:=by unfold eQ;exact List.mem_mergeSort
theorem aC4 {l:List Int} (hn:l.Nodup):Asc (eQ l):=by
 have h1:List.Pairwise (fun x y:Int=>(!decide (y<x))=true) (eQ l):=by
  unfold eQ
  refine List.pairwise_mergeSort ?_ ?_ l
  ·intro a b c h1 h2;simp at *;omega
  ·intro a b;simp;omega
 have h2:(eQ l).Nodup:=(List.mergeSort_perm l _).nodup_iff.2 hn
 unfold Asc
 refine (h1.and h2).imp ?_
 rintro a b ⟨h1,h2⟩
 simp at h1
 omega
theorem aL2 {hs ms ss:List Int} {t:Int}:t∈cA hs ms ss↔∃h∈hs,∃m∈ms,∃s∈ss,t=h*3600+m*60+s:=by
 unfold cA
 simp only[List.mem_flatMap,List.mem_map]
 constructor
 ·rintro ⟨h,h1,m,h2,s,h3,rfl⟩;exact⟨h,h1,m,h2,s,h3,rfl⟩
 ·rintro ⟨h,h1,m,h2,s,h3,rfl⟩;exact⟨h,h1,m,h2,s,h3,rfl⟩
theorem aIG {hs ms ss:List Int} (h1:hs.Nodup) (h2:ms.Nodup) (h3:ss.Nodup) (b2:∀m∈ms,0≤m∧m≤59) (b3:∀s∈ss,0≤s∧s≤59):(cA hs ms ss).Nodup:=by
 unfold cA List.Nodup
 rw[List.pairwise_flatMap]
 refine⟨fun h hh=>?_,?_⟩
 ·rw[List.pairwise_flatMap]
  refine⟨fun m hm=>?_,?_⟩
  ·rw[List.pairwise_map]
   exact h3.imp fun h=>by omega
  ·refine List.Pairwise.imp_of_mem (R:=(·≠ ·)) ?_ h2
   intro a b ha hb hab x hx y hy
   obtain⟨s,hs,rfl⟩:=List.mem_map.1 hx
   obtain⟨s',hs',rfl⟩:=List.mem_map.1 hy
   have:=b3 s hs;have:=b3 s' hs'
   omega
 ·refine List.Pairwise.imp_of_mem (R:=(·≠ ·)) ?_ h1
  intro a b ha hb hab x hx y hy
  obtain⟨m,hm,hx⟩:=List.mem_flatMap.1 hx
  obtain⟨m',hm',hy⟩:=List.mem_flatMap.1 hy
  obtain⟨s,hs,rfl⟩:=List.mem_map.1 hx
  obtain⟨s',hs',rfl⟩:=List.mem_map.1 hy
  have:=b3 s hs;have:=b3 s' hs';have:=b2 m hm;have:=b2 m' hm'
  omega
theorem oP {r:Ru} (h:WP r) (hn:r.hour.Nodup∧r.minute.Nodup∧r.second.Nodup):eQ (cA r.hour r.minute r.second)=times r:=
 Asc.ext (aC4 (aIG hn.1 hn.2.1 hn.2.2 h.minute h.second)) (aCV h) fun t=>by rw[aC3,aL2,wD]
theorem tC (a:Int):srt [a]=[a]:=rfl
theorem aHk {r:Ru} (h:WP r) {hh:Int} (b:0≤hh∧hh≤23):WP {r with hour:=[hh]}:=
 ⟨h.freq,h.start,h.interval,h.wkst,h.til,fun x hx=>by have:=List.mem_singleton.1 hx;omega,h.minute,h.second⟩
theorem aKM {r:Ru} (h:WP r) {mm:Int} (b:0≤mm∧mm≤59):WP {r with minute:=[mm]}:=
 ⟨h.freq,h.start,h.interval,h.wkst,h.til,h.hour,fun x hx=>by have:=List.mem_singleton.1 hx;omega,h.second⟩
theorem aHl {r:Ru} (h:WP r) (hn:r.minute.Nodup∧r.second.Nodup) (hf:r.freq=4) (k:Nat):eQ (cA [bK r k%86400/3600] r.minute r.second)=fI r k:=by
 have e:=oP (aHk h (hh:=bK r k%86400/3600) (by omega)) ⟨by simp,hn.1,hn.2⟩
 refine e.trans ?_
 unfold times fI fB fC
 simp only[tC,List.flatMap_cons,List.flatMap_nil,List.append_nil]
 rw[if_pos hf,if_pos (show r.freq<6 by omega)]
theorem aHm {r:Ru} (h:WP r) (hn:r.second.Nodup) (hf:r.freq=5) (k:Nat):eQ (cA [bK r k%86400/3600] [bK r k%86400/60%60] r.second)=fI r k:=by
 have e:=oP (aKM (aHk h (hh:=bK r k%86400/3600) (by omega)) (mm:=bK r k%86400/60%60) (by omega)) ⟨by simp,by simp,hn⟩
 refine e.trans ?_
 unfold times fI fB fC
 simp only[tC,List.flatMap_cons,List.flatMap_nil,List.append_nil]
 rw[if_neg (show ¬r.freq=4 by omega),if_pos (show r.freq<6 by omega)]
 simp only[List.flatMap_cons,List.flatMap_nil,List.append_nil]
theorem aHn {r:Ru} (hf:r.freq=6) (k:Nat):[bK r k%86400/3600*3600+bK r k%86400/60%60*60+bK r k%86400%60]=fI r k:=by
 unfold fI fB fC
 rw[if_neg (show ¬r.freq=4 by omega),if_neg (show ¬r.freq<6 by omega)]
 simp
def eR (L:List Int) (i:Nat):Nat→List Int
 |0=>L
 |t+1=>eR (L.set i 1) (i+1) t
theorem jV:∀(t:Nat) (L:List Int) (i:Nat),(eR L i t).length=L.length
 |0,L,i=>rfl
 |t+1,L,i=>by rw[eR,jV t,List.length_set]
theorem pW:∀(t:Nat) (L:List Int) (i x:Nat),x<L.length→(eR L i t)[x]?=if i≤x∧x<i+t then some 1 else L[x]?
 |0,L,i,x,h=>by rw[eR,if_neg (by omega)]
 |t+1,L,i,x,h=>by
  rw[eR,pW t (L.set i 1) (i+1) x (by rw[List.length_set];exact h)]
  by_cases e:i=x
  ·subst e
   rw[if_neg (by omega),if_pos (by omega),List.getElem?_set_self h]
  ·rw[List.getElem?_set_ne e]
   by_cases hc:i+1≤x∧x<i+1+t
   ·rw[if_pos hc,if_pos (by omega)]
   ·rw[if_neg hc,if_neg (by omega)]
theorem oQ:∀(t:Nat) (L:List Int) (i:Nat),eR L i (t+1)=(eR L i t).set (i+t) 1
 |0,L,i=>rfl
 |t+1,L,i=>by
  rw[eR,oQ t (L.set i 1) (i+1),eR]
  congr 1
  omega
def fV (w k i:Int):Int:=7-(w+i-k)%7
def gL (w k n:Int):Int:=if 1<n then dH w k+(n-1)*7 else (if dH w k<0 then 0 else dH w k)
theorem aE8 {w k n x:Int} (hw:0≤w∧w≤6) (hk:0≤k∧k≤6) (hn:1≤n) (hx:0≤x):(gL w k n≤x∧x<gL w k n+fV w k (gL w k n))↔(dH w k≤x∧(x-dH w k)/7+1=n):=by
 have hm:(w+dH w k-k)%7=0:=by unfold dH;split<;>omega
 have hb:=fO w k
 unfold gL fV
 generalize dH w k=a at *
 split
 ·omega
 ·split
  ·obtain rfl:n=1:=by omega
   omega
  ·obtain rfl:n=1:=by omega
   omega
theorem zA {w k n:Int} (hw:0≤w∧w≤6) (hk:0≤k∧k≤6) (hn:1≤n) :
  gL w k n=(if 1<n then (if 4≤(7-w+k)%7 then 0+(n-1)*7-(7-(7-w+k)%7) else (7-w+k)%7+(n-1)*7) else (if 4≤(7-w+k)%7 then 0 else (7-w+k)%7)):=by
 unfold gL
 rw[rF hw hk]
 (repeat' split)<;>omega
theorem uX {w k n:Int} (hw:0≤w∧w≤6) (hk:0≤k∧k≤6) (hn:1≤n):0≤gL w k n∧gL w k n≤3+(n-1)*7:=by
 have hb:=fO w k
 unfold gL
 (repeat' split)<;>omega
theorem nK (w k i:Int):1≤fV w k i∧fV w k i≤7:=by unfold fV;omega
theorem uL {w k i j:Int} (hk:0≤k∧k≤6) (hj:0≤j∧j<fV w k i):((w+(i+j+1))%7=k)↔j+1=fV w k i:=by
 unfold fV at *
 omega
theorem aKN {r:Ru} {y:Int} (hk:0≤r.wkst∧r.wkst≤6) (hn:∀n∈r.weekNo,-51≤n∧n≤51∧n≠0) {x:Nat} {N:Int} (hN:N=(fw r.wkst (y+1)-fw r.wkst y)/7) :
  rZ r y x=true↔((∃n∈r.weekNo,(1≤(if n<0 then n+(N+1) else n)∧(if n<0 then n+(N+1) else n)≤N)∧dH (aC y%7) r.wkst≤x∧((x:Int)-dH (aC y%7) r.wkst)/7+1=(if n<0 then n+(N+1) else n))∨(1∈r.weekNo∧fw r.wkst (y+1)≤aC y+x))∨((x:Int)<dH (aC y%7) r.wkst∧-1∈r.weekNo):=by
 have e1:fw r.wkst y=aC y+dH (aC y%7) r.wkst:=rfl
 have m1:=kE r.wkst y
 have m2:=kE r.wkst (y+1)
 have hb:=fO (aC y%7) r.wkst
 unfold rZ
 rw[←hN]
 generalize hF:fw r.wkst (y+1)=F at *
 rw[e1] at m1 hN
 generalize dH (aC y%7) r.wkst=a at *
 generalize aC y=b at *
 have hF7:F=b+a+7*N:=by omega
 simp only[Bool.or_eq_true,Bool.and_eq_true,decide_eq_true_eq,List.contains_iff_mem]
 constructor
 ·rintro ((⟨h1,h2⟩|⟨⟨h1,h2⟩,h3⟩)|⟨h1,h2⟩)
  ·exact .inr ⟨h1,h2⟩
  ·left;left
   rcases h3 with h3|h3
   ·have:=hn _ h3
    refine⟨_,h3,?_,h1,?_⟩<;>rw[if_neg (by omega)]<;>omega
   ·have:=hn _ h3
    refine⟨_,h3,?_,h1,?_⟩<;>rw[if_pos (by omega)]<;>omega
  ·left;right;exact⟨h2,h1⟩
 ·rintro ((⟨n,hm,h1,h2,h3⟩|⟨h1,h2⟩)|⟨h1,h2⟩)
  ·left;right
   have hb2:=hn n hm
   by_cases hn0:n<0
   ·rw[if_pos hn0] at h1 h3
    refine⟨⟨h2,by omega⟩,.inr ?_⟩
    rw[show ((x:Int)-a)/7+1-N-1=n by omega];exact hm
   ·rw[if_neg hn0] at h1 h3
    refine⟨⟨h2,by omega⟩,.inl ?_⟩
    rw[h3];exact hm
  ·right;exact⟨h2,h1⟩
  ·left;left;exact⟨h1,h2⟩
theorem mK (y:Int) {k:Nat} (hk:k≤12):(eI (aR y))[k]?=some (bA y k):=by
 match k,hk with
 |0,_=>cases aR y<;>rfl
 |1,_=>cases h:aR y<;>simp[eI,bA,aO,h]
 |2,_=>cases h:aR y<;>simp[eI,bA,aO,h]
 |3,_=>cases h:aR y<;>simp[eI,bA,aO,h]
 |4,_=>cases h:aR y<;>simp[eI,bA,aO,h]
 |5,_=>cases h:aR y<;>simp[eI,bA,aO,h]
 |6,_=>cases h:aR y<;>simp[eI,bA,aO,h]
 |7,_=>cases h:aR y<;>simp[eI,bA,aO,h]
 |8,_=>cases h:aR y<;>simp[eI,bA,aO,h]
 |9,_=>cases h:aR y<;>simp[eI,bA,aO,h]
 |10,_=>cases h:aR y<;>simp[eI,bA,aO,h]
 |11,_=>cases h:aR y<;>simp[eI,bA,aO,h]
 |12,_=>cases h:aR y<;>simp[eI,bA,aO,h]
theorem uM (lp:Bool):(eI lp).length=13:=by cases lp<;>rfl
def nL (first last:Int) (x:Int×Int):Int:=if x.2<0 then last+(x.2+1)*7 else first+(x.2-1)*7
theorem aL3 (wd first last:Int) (x:Int×Int):oL wd first last x=if x.2<0 then nL first last x-((wd+nL first last x)%7-x.1)%7 else nL first last x+(7-(wd+nL first last x)%7+x.1)%7:=by
 unfold oL nL
 split<;>rfl
theorem aB3 {y:Int} {j k:Nat} (h:j≤k) (hk:k≤12):0≤bA y j∧bA y j≤bA y k∧bA y k≤aM (aR y):=by
 have h1:=eX y j
 have h2:=kJ y h
 have h3:=kJ y hk
 have h4:=sS y
 unfold cQ at h4
 unfold aM
 cases hl:aR y<;>rw[hl] at h4<;>simp at h4 ⊢<;>omega
structure aL4 (y:Int) (g:Int×Int):Prop where
 lo:0≤g.1
 le:g.1+28≤g.2
 hi:g.2≤aM (aR y)
 l31:31≤g.2
theorem aBx {y m:Int} (hm:1≤m∧m≤12):aL4 y (bA y (m-1).toNat,bA y m.toNat):=by
 have h1:=aB3 (y:=y) (show (m-1).toNat≤m.toNat by omega) (by omega)
 have e:bA y ((m-1).toNat+1)=bA y (m-1).toNat+aO y (((m-1).toNat:Int)+1):=rfl
 have h2:=bP y (((m-1).toNat:Int)+1)
 rw[show (m-1).toNat+1=m.toNat by omega] at e
 have h3:=(aB3 (y:=y) (show 1≤m.toNat by omega) (by omega)).2.1
 have h4:bA y 1=31:=rfl
 exact⟨h1.1,by simp only;omega,h1.2.2,by simp only;omega⟩
theorem aKO (y:Int):aL4 y (0,(aM (aR y):Int)):=by
 refine⟨by simp,?_,Int.le_refl _,?_⟩<;>(unfold aM;simp only;split<;>omega)
theorem aC5 {r:Ru} (h:GP r) {y mo:Int} (hm:1≤mo∧mo≤12):∀g∈jF r y mo,aL4 y g:=by
 intro g hg
 unfold jF at hg
 split at hg
 ·split at hg
  ·rw[List.mem_singleton.1 hg];exact aKO y
  ·obtain⟨m,h1,rfl⟩:=List.mem_map.1 hg
   exact aBx (h.month m h1)
 ·rw[List.mem_singleton.1 hg];exact aBx hm
theorem rL {r:Ru} (h:GP r) {x:Int×Int} (hx:x∈cX r):r.freq≤1∧(0≤x.1∧x.1≤6)∧x.2≠0∧(-53≤x.2∧x.2≤53)∧((r.freq=1∨r.month≠[])→-5≤x.2∧x.2≤5):=by
 unfold cX at hx
 obtain⟨h1,h2⟩:=List.mem_filter.1 hx
 unfold nC at h2
 simp only[Bool.not_eq_true',Bool.or_eq_false_iff,decide_eq_false_iff_not] at h2
 have h3:=h.day x h1
 exact⟨by omega,⟨h3.1,h3.2.1⟩,h2.1,⟨h3.2.2.1,h3.2.2.2⟩,fun f=>h.dayMonth f x h1⟩
theorem aPN {r:Ru} (h:GP r) {y mo:Int} (hm:1≤mo∧mo≤12) {g:Int×Int} (hg:g∈jF r y mo) {x:Int×Int} (hx:x∈cX r):0≤nL g.1 (g.2-1) x∧nL g.1 (g.2-1) x≤371:=by
 obtain⟨x1,x2,x3,x4,x5⟩:=rL h hx
 have ho:=aC5 h hm g hg
 obtain⟨o1,o2,o3,o4⟩:=ho
 have hyl:(aM (aR y):Int)=365∨(aM (aR y):Int)=366:=by unfold aM;split<;>simp
 unfold nL
 by_cases hmo:r.freq=1∨r.month≠[]
 ·have:=x5 hmo
  split<;>omega
 ·have e1:r.freq=0:=by omega
  have e2:r.month=[]:=Classical.byContradiction fun e=>hmo (.inr e)
  unfold jF at hg
  rw[if_pos e1,if_pos e2] at hg
  obtain rfl:=List.mem_singleton.1 hg
  simp only
  split<;>omega
theorem aRV {L:List Int} {B:Nat→Bool} (hL:∀j,j<L.length→L[j]?=some (if B j then 1 else 0)) {a b i:Int} (ha:0≤a) (hb:b≤L.length) :
  ∀j,j<L.length→(if a≤i∧i≤b-1 then L.set i.toNat 1 else L)[j]?=some (if B j||(decide (a≤(j:Int))&&decide ((j:Int)≤b-1)&&decide ((j:Int)=i)) then 1 else 0):=by
 intro j hj
 split
 ·rename_i h
  rw[List.getElem?_set]
  by_cases e:i.toNat=j
  ·rw[if_pos e,if_pos (by omega),dcT (show a≤(j:Int) by omega),dcT (show (j:Int)≤b-1 by omega),dcT (show (j:Int)=i by omega)]
   simp
  ·rw[if_neg e,hL j hj,dcF (show ¬(j:Int)=i by omega)]
   simp
 ·rename_i h
  rw[hL j hj]
  congr 1
  by_cases e:(j:Int)=i
  ·have:(decide (a≤(j:Int))&&decide ((j:Int)≤b-1))=false:=by
    rw[Bool.and_eq_false_iff,decide_eq_false_iff_not,decide_eq_false_iff_not]
    by_cases e2:a≤(j:Int)
    ·exact .inr fun e3=>h ⟨by omega,by omega⟩
    ·exact .inl e2
   rw[this];simp
  ·rw[dcF e];simp
theorem aKP (y:Int):80≤cS y-aC y∧cS y-aC y≤116:=by
 unfold cS
 simp only
 have h0:0≤(19*(y%19)+y/100-y/100/4-(8*(y/100)+13)/25+15)%30:=Int.emod_nonneg _ (by omega)
 have h1:(19*(y%19)+y/100-y/100/4-(8*(y/100)+13)/25+15)%30<30:=Int.emod_lt_of_pos _ (by omega)
 generalize (19*(y%19)+y/100-y/100/4-(8*(y/100)+13)/25+15)%30=h at *
 have hg:(21-y%19)/11=0∨(21-y%19)/11=1:=by omega
 generalize (21-y%19)/11=g at *
 have key:0≤h-h/28*(1-h/28*(29/(h+1))*g)∧h-h/28*(1-h/28*(29/(h+1))*g)≤29:=by
  rcases (show h<28∨h=28∨h=29 by omega) with c|c|c
  ·have q:h/28=0:=by omega
   rw[q];omega
  ·subst c
   rcases hg with rfl|rfl<;>decide
  ·subst c
   rcases hg with rfl|rfl<;>decide
 generalize h-h/28*(1-h/28*(29/(h+1))*g)=f at *
 have e:bA y 2=59∨bA y 2=60:=by cases hl:aR y<;>simp[bA,aO,hl]
 omega
theorem aRW {L:List Int} {l:List Int} {E:Int} (hL:∀j,j<L.length→L[j]?=some (if l.contains ((j:Int)-E) then 1 else 0)) {x:Int} (h0:0≤E+x) (h1:E+x<L.length) :
  ∀j,j<L.length→(L.set (E+x).toNat 1)[j]?=some (if (l++[x]).contains ((j:Int)-E) then 1 else 0):=by
 intro j hj
 rw[List.getElem?_set]
 have ec:(l++[x]).contains ((j:Int)-E)=(l.contains ((j:Int)-E)||decide ((j:Int)=E+x)):=by
  rw[Bool.eq_iff_iff]
  simp only[List.contains_iff_mem,List.mem_append,List.mem_singleton,Bool.or_eq_true,decide_eq_true_eq]
  constructor
  ·rintro (a|a)
   ·exact .inl a
   ·exact .inr (by omega)
  ·rintro (a|a)
   ·exact .inl a
   ·exact .inr (by omega)
 rw[ec]
 by_cases e:(E+x).toNat=j
 ·rw[if_pos e,if_pos (by omega),dcT (show (j:Int)=E+x by omega)];simp
 ·rw[if_neg e,hL j hj,dcF (show ¬(j:Int)=E+x by omega),Bool.or_false]
end K
end Go.Proofs.YtnoppodfngkoeaaGreat
