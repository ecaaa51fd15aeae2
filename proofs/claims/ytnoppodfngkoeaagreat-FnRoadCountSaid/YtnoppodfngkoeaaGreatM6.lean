/- Merged texts of one proof. -/
import Derived.Test.YtnoppodfngkoeaaGreatM5
import Derived.Test.YtnoppodfngkoeaaGreatRows
import Derived.WalkKit
import Derived.ProofKit
import Derived.Deep.SlicePairs
import Derived.Deep.Fields
import Derived.ChangeSlices
import Derived.LaidMore
import Derived.OpenShut
import Derived.ChangeOld
import Derived.ChangeSame
import Derived.Below
import Derived.Carry
import Derived.HandedShaped
import Derived.FnData
set_option linter.unusedVariables false
set_option linter.unusedSimpArgs false
set_option maxRecDepth 20000
namespace Go.Proofs.YtnoppodfngkoeaaGreat
open Go.Proofs.Tryz Go.IntKind
namespace F
open Go.RowKit Go.Proofs.YtnoppodfngkoeaaGreat.AL
end F
open Go.RowKit Go.Proofs.YtnoppodfngkoeaaGreat.AL Go.Proofs.YtnoppodfngkoeaaGreat.F
attribute [local irreducible] bJ cB gT eJ mP gI jM aDi aAC aAE aDS lT gR aBQ lY oI rV rA kT tX AWp cW aDk
attribute [local go_sem] aDZ vO tQ tP tO gD vJ aAl rS aAm aCi aAn iW aCj aDI xV aDJ aBR aBS aDK vR aAT aCF mT aAU aCG aAo xW aCk aCl aDM aDN aDO aDL aPW aAs aAt xX xY vK xZ aCm yA aCn uR aAu aCo vL sG sH aAv aAw vM aAx oX uS aAy aCp yB aAz aDP qY sI vN aAA yC sJ aDQ yD aCq aFL aCh aAk aDH aI9 aDG aFJ aFK aDF Nat.reduceLT Nat.reduceBEq List.map_cons List.map_nil Option.map_some Option.map_none aAB aDR yE aCr aAD aDT aDU aCs aCt aFN aFO aFP aFQ aFR aFS aFT aFU aFV aFW aFX aFY aD2 aD3 yF yG tV aAG yH yI aAJ aAH aAI aEe aEf aEg aF4 aJe aJf aJg aD4 aD5 aFZ aAK aCw aD6 aCH aCI aCJ qF mU aCK aAV aCL aCM aAW aCN aAX aAY aAZ aEb mkS aAL aCx aCy aAM aCz aAN aAP aAQ yJ aD7 bB bX qZ tW aD8 yK aD9 aEa aCA aCB aCC aCD aCE List.length_cons List.length_nil List.getElem?_cons_zero List.getElem?_cons_succ List.set_cons_zero List.set_cons_succ List.cons_append List.nil_append List.append_assoc Nat.reduceAdd Nat.zero_add Nat.add_zero Int.reduceBEq List.all_cons List.all_nil Value.oneCell' Bool.and_true Bool.and_self if_true if_false Bool.false_eq_true hZ aAq lG pH Option.bind_some fQ List.drop_succ_cons List.drop_zero List.take_succ_cons List.take_zero List.take_nil List.drop_nil Nat.reduceLeDiff and_self and_true true_and reduceIte Option.some.injEq Nat.reduceEqDiff ne_eq Int.reduceEq Int.reduceLE Int.reduceLT Int.reduceNe not_false_eq_true Option.map_map List.getElem?_toArray beq_self_eq_true Bool.true_beq Bool.false_beq Bool.not_true Bool.not_false decide_true decide_false beq_true Nat.reduceMul Nat.mul_one Nat.one_mul Nat.zero_mul bsA gW iM List.append_nil Nat.reduceSub Int.reduceToNat Int.toNat_natCast Int.toNat_zero aK9 sM aF0 aJh aJi aF1 aJj yL yM uT vV yN aA0 aA1 yO aA2 aEc aF2 gF jY aAr nO aA4 aEh aEd kd1 sz1 zc1 if1 kd2 sz2 zc2 if2 kd3 sz3 zc3 if3 kd4 sz4 zc4 if4 kd5 sz5 zc5 if5 kd7 sz7 zc7 fp7 aMj aMk aMl aMm if7 kd9 sz9 zc9 if9 aPZ aP0 aP1 aP2 aP3 aP4 aP5 aP6 aJm aJn aP7 aP8 aP9 aQa aQb aJo aQc aQd aQe aQf aQg aQh aQi aQj aQk aQl aQm mW aQn aQo aQp aQq aLd aQr aQs aQt aQu aQv aJp aJq aJr aJs aJt aJu aJv aJw aJx aJy aF5 aF6 aF7 aF8 aF9 aGa aGb aGc aQw aQx aQy aQz aBT aQA aQB aQC aQD aLe aQE aQF aQG aQH aQI aJz aJA aJB aJC aJD aJE aJF aJG aJH aJI aGd aGe aGf aGg aGh aGi aGj aGk aQJ aQK aQL aQM aQN aJJ aJK aJL aQO aQP aQQ aQR aQS aQT aQU aQV aQW aQX aQY aQZ aQ0 aQ1 aQ2 aQ3 aJM aJN aJO aQ4 aQ5 aQ6 aQ7 aQ8 aJP aJQ aJR aQ9 aRa aRb aRc aH1 aRd aRe aRf aRg aRh aJS aJT aJU aJV aJW aJX aJY aJZ aJ0 aJ1 aGl aGm aGn aGo aGp aGq aRi aRj aRk aRl aRm aRn aRo aRp aRq aJ2 aJ3 aJ4 aRr aRs aRt aRu aRv aRw aRx aRy vW aRz aMn aMo aMp aMq aGr aGs aGt aGu aGv aGw aGx aGy aGz aGA aEi aEj aEk aEl aEm aEn aEo aEp aEq aEr aEs aEt aMr aMs aMt aMu aMv aMw aMx aMy aMz aGB aGC aGD aGE aGF aGG aGH aGI aGJ aGK aEu aEv aEw aEx aEy aMA aMB aMC aMD aME aGL aGM aMF aMG aMH aMI aA5 aMJ aMK aML aMM aMN aGN aGO aGP aGQ aGR aGS aGT aGU aGV aGW aEz aEA aEB aEC aMO aMP aMQ aMR aMS aMT aMU aMV aMW aMX aMY aMZ aM0 aM1 aM2 aM3 aM4 aM5 aM6 aM7 aM8 aM9 aNa aNb aNc aJ5 aNd aNe aNf aNg aNh aNi aJ6 aNj aNk aNl aNm aNn aNo aGX aGY aGZ aG0 aNp aNq aNr aNs aNt aNu aNv aNw aNx aG1 aG2 aG3 aNy aNz aNA aNB aNC aG4 aG5 aG6 aG7 aND aNE aNF aNG aNH aNI aNJ aNK aNL aNM aNN aNO aNP aNQ aNR aNS aNT aNU aNV aNW aNX aNY aNZ aN0 aN1 aN2 aN3 aH2 aN4 aN5 aN6 aN7 aN8 aN9 aOa aOb aOc aOd aOe aOf aOg aOh aOi aOj aOk aJ7 aOl aOm aOn aOo aOp aOq aOr aOs aOt aOu aG8 aOv aOw aOx aOy aOz aOA aOB aOC aOD aOE aOF aOG aG9 aHa aOH aOI aOJ aOK aOL aOM aON aOO aOP aOQ aOR aOS aOT aOU aOV aOW aOX Tryz.underlying1 Tryz.underlying2 Tryz.underlying3 Tryz.underlying4 Tryz.underlying5 Tryz.underlying7 Tryz.underlying9 Tryz.underlying12 Tryz.underlying13 Tryz.underlying18 Tryz.underlying20 Tryz.underlying21 Tryz.underlying22 Tryz.underlying23 Tryz.underlying25 Tryz.underlying27 Tryz.underlying32 Tryz.underlying34 Tryz.underlying41 Tryz.underlying71 Tryz.underlying73 Tryz.underlying76 Tryz.underlying78 Tryz.underlying80 Tryz.underlying81 Tryz.underlying83 Tryz.underlying86 Tryz.underlying90 Tryz.underlying95 Tryz.underlying99 Tryz.underlying112 Tryz.underlying115 Tryz.underlying117 Tryz.underlying119 Tryz.underlying120 Tryz.underlying122 Tryz.underlying128 Tryz.underlying132 Tryz.underlying134 Tryz.underlying143 Tryz.underlying145 Tryz.underlying151 Tryz.underlying152 Tryz.underlying154 Tryz.underlying157 Tryz.underlying159 Tryz.underlying164 Tryz.underlying165 Tryz.underlying169 Tryz.underlying174 Tryz.underlying177 Tryz.underlying182 Tryz.underlying186 Tryz.underlying189 Tryz.underlying194 Tryz.underlying199 Tryz.underlying200 Tryz.underlying205 Tryz.underlying207 Tryz.underlying210 Tryz.underlying214 Tryz.underlying219 Tryz.underlying226 Tryz.underlying232 Tryz.underlying240 Tryz.underlying251
attribute [local go_sem_proc] Nat.reduceLT Nat.reduceBEq Nat.reduceAdd Int.reduceBEq Nat.reduceLeDiff reduceIte Nat.reduceEqDiff Int.reduceEq Int.reduceLE Int.reduceLT Int.reduceNe Nat.reduceMul Nat.reduceSub Int.reduceToNat
namespace F
open Go.RowKit Go.Proofs.YtnoppodfngkoeaaGreat.AL
structure pX (I I':It):Prop where
 st:I'.st=I.st
 bk:I'.bk=I.bk
 cnt:I'.cnt=I.cnt
 fin:I'.fin=I.fin
structure aFd (r:Ru) (k:Nat) (I':It) (T':List Int) (fx:Bool) (k':Nat):Prop where
 rest:K.rest r (k+1)=K.rest r k'
 le:k+1≤k'
 tim:T'=cG r k'
 ly:I'.ly=I'.year
 lm:I'.lm=I'.month
 pos:(r.freq<2∧fx=false∧K.At r k' I'.year I'.month I'.day I'.hour I'.minute I'.second I'.weekday)∨(2≤r.freq∧K.Mv r k' I'.year I'.month I'.day I'.hour I'.minute I'.second I'.weekday∧(fx=false→I'.day≤aO I'.year I'.month)∧I'.day≤200000)
set_option maxHeartbeats 8000000 in
theorem aPS {w0:World} {h1 hk:aB} {rr ob:Nat} {r:Ru} {sp mo p n yd wn bw nw ho mi se ea ts:AV} {I:It} {A T:List Int} {k:Nat} (hs:qO h1 r sp mo p n yd wn bw nw ho mi se ea ts) (hG:K.GP r) (hM:K.wG r) (q:ItQ h1 hk rr ob r sp mo p n yd wn bw nw ho mi se ea ts I A T) (hT:T=cG r k) (hat:K.At r k I.year I.month I.day I.hour I.minute I.second I.weekday) (hly:I.ly=I.year) (hlm:I.lm=I.month)
  (e:Env) (he:len e=1418) (g0:AL.get e 0=.ptr ob 0) (g2:AL.get e 2=.ptr rr 0) (fl:Bool) (g6:AL.get e 6=vB fl) (hfl:4≤r.freq→fl=!K.eB r (K.bK r k/86400)) (g42:AL.get e 42=vB false) (Q:Exit→Env→aB→Prop)
  (hN:∀e' hk' I' T' fx k',len e'=1418→AL.get e' 0=.ptr ob 0→AL.get e' 2=.ptr rr 0→AL.get e' 42=vB fx→ItQ h1 hk' rr ob r sp mo p n yd wn bw nw ho mi se ea ts I' A T'→Stp h1.length rr ob I hk I' hk'→pX I I'→aFd r k I' T' fx k'→Q .normal (mk e' []) hk')
  (hR:∀e' hk' I',ItC h1 hk' rr ob r sp mo p n yd wn bw nw ho mi se ea ts I' A→I'.fin=true→Stp h1.length rr ob I hk I' hk'→K.rest r (k+1)=[]→Q .ret e' hk') :
  cB prog (CB w0) aO3 (mk e []) hk Q:=by
 have hw:=hG.toWP
 have hf6:=hw.freq
 have hiv:=hw.interval
 have hwk:=hw.wkst
 obtain⟨cs,hru,hc⟩:=q.rule
 have hcl:=hc.len
 have hci:=hc.interval
 rw[show max 1 r.interval=r.interval by omega] at hci
 have hne:=q.ne
 have hxI:∀I':It,I'.rr=.ptr rr 0→I'.cells=[vI I'.year,vI I'.month,vI I'.day,vI I'.hour,vI I'.minute,vI I'.second,vI I'.weekday,.ptr rr 0,vI I'.ly,vI I'.lm,vI I'.yl,vI I'.nyl,vI I'.fy,vI 0,vI I'.yw,I'.mm,I'.mr,I'.md,I'.nmd,I'.wd,I'.wno,I'.nwd,I'.ea,I'.ts,vI I'.tot,vI I'.cnt,I'.st,I'.bk,vB I'.fin,I'.ds]:=fun I' h=>by rw[←h];rfl
 have hob:=q.obj
 rw[hxI I q.ptr] at hob
 have hltB:=(List.getElem?_eq_some_iff.1 hob).1
 have hO2:∀Z,(hk.set ob Z)[ob]?=some Z:=fun Z=>List.getElem?_set_self hltB
 have hO3:∀Z,(hk.set ob Z)[rr]?=some (.own 112 cs):=fun Z=>by rw[List.getElem?_set_ne (fun e=>hne e.symm)];exact hru
 have hO4:∀Y Z,((hk.set ob Y).set rr Z)[ob]?=some Y:=fun Y Z=>by rw[List.getElem?_set_ne hne];exact hO2 Y
 have hput:∀v:AV,List.take 59 cs++v::List.drop 60 cs=cs.set 59 v:=fun v=>by rw[List.set_eq_take_append_cons_drop,if_pos (by omega)]
 have hyr:=hat.yr
 have hmo:=hat.mo
 have hdd:=hat.dd
 have hend:∀(I1:It),I1={I with year:=I1.year,month:=I1.month,day:=I1.day,hour:=I1.hour,minute:=I1.minute,second:=I1.second,weekday:=I1.weekday}→K.rest r (k+1)=[]→∀e',Q .ret e' (((hk.set ob (.own 122 I1.cells)).set rr (.own 112 (cs.set 59 (vI I.tot)))).set ob (.own 122 {I1 with fin:=true}.cells)):=fun I1 h1' hr e'=>by
  have q1:=q.setI (I':=I1) (by rw[h1'])
  have q2:=q1.1.setL hc (vI I.tot)
  have q3:=q2.1.setI (I':={I1 with fin:=true}) rfl
  exact hR e' _ _ q3.1.toItC rfl ((q1.2.trans q2.2).trans q3.2) hr
 have hreb:∀(I1:It),I1={I with year:=I1.year,month:=I1.month}→2≤I1.year∧I1.year≤9999→1≤I1.month∧I1.month≤12→aH prog (CB w0) 83 [.ptr ob 7,vI I1.year,vI I1.month] (hk.set ob (.own 122 I1.cells)) fun r' h'=>r'=.tup []∧∃(I2:It) (G:aB),h'=(hk.set ob (.own 122 I1.cells)).set ob (.own 122 I2.cells)++G∧aE9 h' I2 r I1.year I1.month∧I1.same I2:=fun I1 h1' hy hm=>by
  have q1:=(q.setI (I':=I1) (by rw[h1'])).1
  refine wW (w0:=w0) I1 ob rr h1 _ r cs ⟨q1.front,q1.obj,q1.ptr,hO3 _,q1.obB⟩ hc I1.year I1.month hy hm hG hs.wn hs.mo hs.nw hs.ea (fun e=>?_) ⟨fun e=>?_,fun e=>?_⟩
  ·rw[←e]
   exact⟨q1.yt,q1.wno,fun e2=>by rw[←e2];exact q1.nwm⟩
  ·rcases q1.nwm with h|h
   ·exact h.2
   ·exact absurd e h.1
  ·rcases q1.eam with h|h
   ·exact h.2
   ·exact absurd e h.1
 conv=>
  arg 3
  whnf
 refine fJ (fun e hk'=>len e=1418∧AL.get e 0=.ptr ob 0∧AL.get e 2=.ptr rr 0∧∃(I':It) (T':List Int) (fx:Bool) (k':Nat),AL.get e 42=vB fx∧ItQ h1 hk' rr ob r sp mo p n yd wn bw nw ho mi se ea ts I' A T'∧Stp h1.length rr ob I hk I' hk'∧pX I I'∧aFd r k I' T' fx k') ?_ fun e' hk' hJ=>by
  obtain⟨a1,a2,a3,I',T',fx,k',a4,a5,a6,a7,a8⟩:=hJ
  exact hN e' hk' I' T' fx k' a1 a2 a3 a4 a5 a6 a7 a8
 simp only[go_sem,he,g0,g2,g6,g42,hru,hcl,hc.freq]
 refine aF (fun hf0=>?_) fun hf0=>?_
 ·
  have hf0:r.freq=0:=by have:=odT hf0;omega
  have mv:=K.mv0 hw hf0 hat
  have wy:i64.wrap (I.year+r.interval)=I.year+r.interval:=aJ (by omega)
  simp only[go_sem,he,g0,g2,g6,g42]
  refine bF bI (by kernel_rfl) ?_
  simp only[go_sem,he,g0,g2,g6,g42,hru,hcl,hob,hci,wy,hO2,hO3]
  obtain⟨I1,hI1⟩:∃I1:It,I1={I with year:=I.year+r.interval}:=⟨_,rfl⟩
  have hI1c:I1.cells=[vI (I.year+r.interval),vI I.month,vI I.day,vI I.hour,vI I.minute,vI I.second,vI I.weekday,.ptr rr 0,vI I.ly,vI I.lm,vI I.yl,vI I.nyl,vI I.fy,vI 0,vI I.yw,I.mm,I.mr,I.md,I.nmd,I.wd,I.wno,I.nwd,I.ea,I.ts,vI I.tot,vI I.cnt,I.st,I.bk,vB I.fin,I.ds]:=by rw[hI1];exact hxI _ q.ptr
  refine aF (fun hy9=>?_) fun hy9=>?_
  ·have hy9:=odT hy9
   have hfin:=hend I1 (by rw[hI1]) (mv.1 (by omega))
   rw[hxI {I1 with fin:=true} (by rw[hI1];exact q.ptr),hI1c,hI1] at hfin
   simp only[go_sem,he,g0,g2,g6,g42,hru,hcl,hO2,hO3,hO4]
   rw[hput]
   exact hfin _
  ·have hy9:=odF hy9
   have hrb:=hreb I1 (by rw[hI1]) (by rw[hI1];simp only;omega) (by rw[hI1];exact hmo)
   have e1:I1.year=I.year+r.interval:=by rw[hI1]
   have e2:I1.month=I.month:=by rw[hI1]
   rw[e1,e2,hI1c] at hrb
   simp only[go_sem,he,g0,g2,g6,g42]
   refine fT [] 11 bI (by kernel_rfl) (by kernel_rfl) (by kernel_rfl) ?_
   simp only[go_sem,he,g0,g2,g6,g42,hO2,hO3]
   refine aI hrb ?_
   rintro r' h' ⟨rfl,I2,G,rfl,ht,hsm⟩
   have q1:=q.setI (I':=I1) (by rw[hI1])
   rw[hI1c] at q1
   have q2:=q1.1.reb ht hsm
   have hsm':=hsm
   unfold It.same at hsm
   rw[hI1] at hsm
   simp only[go_sem,he,g0,g2,g6,g42,bL,aA]
   have f1:I2.year=I.year+r.interval:=by rw[hsm]
   have f2:I2.month=I.month:=by rw[hsm]
   refine⟨I2,T,false,k+1,rfl,q2.1,q1.2.trans q2.2,⟨by rw[hsm],by rw[hsm],by rw[hsm],by rw[hsm]⟩,⟨rfl,Nat.le_refl _,?_,by rw[f1];exact ht.ly,by rw[f2];exact ht.lm,.inl ⟨by omega,rfl,?_⟩⟩⟩
   ·rw[hT];unfold cG;rw[if_pos (by omega),if_pos (by omega)]
   ·have:=mv.2 (by omega)
    rw[hsm];exact this
 ·have hf0:¬r.freq=0:=by have:=odF hf0;omega
  simp only[go_sem,he,g0,g2,g6,g42,hru,hcl,hc.freq]
  refine aF (fun hf1=>?_) fun hf1=>?_
  ·
   have hf1:r.freq=1:=by have:=odT hf1;omega
   obtain⟨ad1,ad2,ad3⟩:=K.aKm hw hf1 k
   obtain⟨ay,am⟩:=hat.y1 hf1
   rw[←ay,←am] at ad1 ad2 ad3
   have hpm:=K.yT r (k+1)
   have wm:i64.wrap (I.month+r.interval)=I.month+r.interval:=aJ (by omega)
   simp only[go_sem,he,g0,g2,g6,g42]
   refine bF bI (by kernel_rfl) ?_
   simp only[go_sem,he,g0,g2,g6,g42,hru,hcl,hob,hci,wm,hO2,hO3]
   have hgo:∀(Y M:Int),Y=K.bN r (k+1)→M=K.cJ r (k+1)→I.year≤Y→Y≤9999→∀(I2:It) (G:aB),aE9 ((hk.set ob (.own 122 {I with year:=Y,month:=M}.cells)).set ob (.own 122 I2.cells)++G) I2 r Y M→({I with year:=Y,month:=M}:It).same I2→
     ∃(I':It) (T':List Int) (fx:Bool) (k':Nat),vB false=vB fx∧ItQ h1 ((hk.set ob (.own 122 {I with year:=Y,month:=M}.cells)).set ob (.own 122 I2.cells)++G) rr ob r sp mo p n yd wn bw nw ho mi se ea ts I' A T'∧Stp h1.length rr ob I hk I' ((hk.set ob (.own 122 {I with year:=Y,month:=M}.cells)).set ob (.own 122 I2.cells)++G)∧pX I I'∧aFd r k I' T' fx k':=fun Y M eY eM h2 h9 I2 G ht hsm=>by
    have q1:=q.setI (I':={I with year:=Y,month:=M}) rfl
    have q2:=q1.1.reb ht hsm
    unfold It.same at hsm
    have f1:I2.year=Y:=by rw[hsm]
    have f2:I2.month=M:=by rw[hsm]
    refine⟨I2,T,false,k+1,rfl,q2.1,q1.2.trans q2.2,⟨by rw[hsm],by rw[hsm],by rw[hsm],by rw[hsm]⟩,⟨rfl,Nat.le_refl _,?_,by rw[f1];exact ht.ly,by rw[f2];exact ht.lm,.inl ⟨by omega,rfl,?_⟩⟩⟩
    ·rw[hT];unfold cG;rw[if_pos (by omega),if_pos (by omega)]
    ·have:=K.mv1 hw hf1 hat eY eM h9 (by omega)
     rw[hsm];exact this
   refine aF (fun hm12=>?_) fun hm12=>?_
   ·have hm12:=odT hm12
    simp only[go_sem,he,g0,g2,g6,g42,hO2]
    refine aSh (i4 (I.month+r.interval) 12 (by omega) (by omega) _) ?_
    have wy:i64.wrap (I.year+(I.month+r.interval)/12)=I.year+(I.month+r.interval)/12:=aJ (by omega)
    simp only[go_sem,he,g0,g2,g6,g42,aA,hO2,List.set_set,wy]
    obtain⟨Y,hYE⟩:∃Y,Y=K.bN r (k+1):=⟨_,rfl⟩
    obtain⟨M,hME⟩:∃M,M=K.cJ r (k+1):=⟨_,rfl⟩
    rw[←hYE,←hME] at ad1 ad2 ad3
    rw[←hME] at hpm
    refine bC (fun e hk'=>len e=1418∧AL.get e 0=.ptr ob 0∧AL.get e 2=.ptr rr 0∧AL.get e 42=vB false∧hk'=hk.set ob (.own 122 {I with year:=Y,month:=M}.cells)) (fun hz=>?_) (fun hz=>?_) ?_
    ·have hz:=odT hz
     obtain⟨b1,b2⟩:=ad2 hm12 hz
     have wy2:i64.wrap (I.year+(I.month+r.interval)/12-1)=Y:=by rw[aJ (by omega),b2]
     simp only[go_sem,he,g0,g2,g6,g42,hO2,List.set_set,wy2]
     rw[hxI {I with year:=Y,month:=M} q.ptr,b1]
    ·have hz:=odF hz
     obtain⟨b1,b2⟩:=ad3 hm12 hz
     simp only[go_sem,he,g0,g2,g6,g42]
     rw[hxI {I with year:=Y,month:=M} q.ptr,b1,b2]
    clear he g0 g2 g6 g42
    rintro e hk' ⟨he,g0,g2,g42,rfl⟩
    have hYl:I.year≤Y:=by
     by_cases hz:(I.month+r.interval)%12=0
     ·have:=(ad2 hm12 hz).2;omega
     ·have:=(ad3 hm12 hz).2;omega
    have hI1c:=hxI {I with year:=Y,month:=M} q.ptr
    rw[hI1c]
    simp only[go_sem,he,g0,g2,g42,hO2]
    refine aF (fun hy9=>?_) fun hy9=>?_
    ·have hy9:=odT hy9
     have hfin:=hend {I with year:=Y,month:=M} rfl (K.aPP hw hf1 hYE (by omega))
     rw[hxI {I with year:=Y,month:=M,fin:=true} q.ptr,hI1c] at hfin
     simp only[go_sem,he,g0,g2,g42,hru,hcl,hO2,hO3,hO4]
     rw[hput]
     exact hfin _
    ·have hy9:=odF hy9
     have hrb:=hreb {I with year:=Y,month:=M} rfl (by simp only;omega) (by simp only;omega)
     have hgo1:=hgo Y M hYE hME hYl (by omega)
     rw[hI1c] at hrb hgo1
     simp only[go_sem,he,g0,g2,g42]
     refine fT [] 11 bI (by kernel_rfl) (by kernel_rfl) (by kernel_rfl) ?_
     simp only[go_sem,he,g0,g2,g42,hO2,hO3]
     refine aI hrb ?_
     rintro r' h' ⟨rfl,I2,G,rfl,ht,hsm⟩
     simp only[go_sem,he,g0,g2,g42,bL,aA]
     exact hgo1 I2 G ht hsm
   ·have hm12:=odF hm12
    obtain⟨b1,b2⟩:=ad1 (by omega)
    have hI1c:=hxI {I with year:=I.year,month:=I.month+r.interval} q.ptr
    have hrb:=hreb {I with year:=I.year,month:=I.month+r.interval} rfl (by simp only;omega) (by simp only;omega)
    have hgo1:=hgo I.year (I.month+r.interval) b2.symm b1.symm (Int.le_refl _) (by omega)
    rw[hI1c] at hrb hgo1
    simp only[go_sem,he,g0,g2,g6,g42]
    refine fT [] 11 bI (by kernel_rfl) (by kernel_rfl) (by kernel_rfl) ?_
    simp only[go_sem,he,g0,g2,g6,g42,hO2,hO3]
    refine aI hrb ?_
    rintro r' h' ⟨rfl,I2,G,rfl,ht,hsm⟩
    simp only[go_sem,he,g0,g2,g6,g42,bL,aA]
    exact hgo1 I2 G ht hsm
  ·have hf1:¬r.freq=1:=by have:=odF hf1;omega
   have hf2':2≤r.freq:=by omega
   simp only[go_sem,he,g0,g2,g6,g42,hru,hcl,hc.freq]
   have hday:∀(d wd:Int),r.freq<4→K.Mv r (k+1) I.year I.month d I.hour I.minute I.second wd→d≤200000→
     ∃(I':It) (T':List Int) (fx:Bool) (k':Nat),vB true=vB fx∧ItQ h1 (hk.set ob (.own 122 {I with day:=d,weekday:=wd}.cells)) rr ob r sp mo p n yd wn bw nw ho mi se ea ts I' A T'∧Stp h1.length rr ob I hk I' (hk.set ob (.own 122 {I with day:=d,weekday:=wd}.cells))∧pX I I'∧aFd r k I' T' fx k':=fun d wd hf4 hmv hd2=>by
    have q1:=q.setI (I':={I with day:=d,weekday:=wd}) rfl
    refine⟨{I with day:=d,weekday:=wd},T,true,k+1,rfl,q1.1,q1.2,⟨rfl,rfl,rfl,rfl⟩,⟨rfl,Nat.le_refl _,?_,hly,hlm,.inr ⟨hf2',hmv,(fun h=>by cases h),hd2⟩⟩⟩
    rw[hT];unfold cG;rw[if_pos hf4,if_pos hf4]
   have w7:i64.wrap (r.interval*7)=r.interval*7:=aJ (by omega)
   refine aF (fun hf2=>?_) fun hf2=>?_
   ·
    have hf2:r.freq=2:=by have:=odT hf2;omega
    have hwd:=hat.wk hf2
    have hci5:=hc.wkst
    simp only[go_sem,he,g0,g2,g6,g42]
    refine bF bI (by kernel_rfl) ?_
    simp only[go_sem,he,g0,g2,g6,g42,hru,hcl,hob,hci5]
    obtain⟨X,hX⟩:∃X:Int,X=(if I.weekday<r.wkst then -(I.weekday+1+(6-r.wkst)) else -(I.weekday-r.wkst))+r.interval*7:=⟨_,rfl⟩
    have hmv:=K.mv2 hw hf2 hat hX
    have hXb:-20≤X∧X≤7020:=by split at hX<;>omega
    have hgo:=hday (I.day+X) r.wkst (by omega) hmv (by omega)
    rw[hxI {I with day:=I.day+X,weekday:=r.wkst} q.ptr] at hgo
    refine bC (fun e hk'=>len e=1418∧AL.get e 0=.ptr ob 0∧AL.get e 2=.ptr rr 0∧hk'=hk.set ob (.own 122 {I with day:=I.day+X}.cells)) (fun hz=>?_) (fun hz=>?_) ?_
    ·have hz:=odT hz
     rw[if_pos hz] at hX
     have w1:i64.wrap (I.weekday+1)=I.weekday+1:=aJ (by omega)
     have w2:i64.wrap (6-r.wkst)=6-r.wkst:=aJ (by omega)
     have w3:i64.wrap (I.weekday+1+(6-r.wkst))=I.weekday+1+(6-r.wkst):=aJ (by omega)
     have w4:i64.wrap (0-(I.weekday+1+(6-r.wkst)))=-(I.weekday+1+(6-r.wkst)):=by rw[aJ (by omega)];omega
     have w5:i64.wrap (-(I.weekday+1+(6-r.wkst))+r.interval*7)=X:=by rw[aJ (by omega),hX]
     have w6:i64.wrap (I.day+X)=I.day+X:=aJ (by omega)
     refine bF bI (by kernel_rfl) ?_
     simp only[go_sem,he,g0,g2,g6,g42,hru,hcl,hob,hci5,hci,w1,w2,w3,w4,w7,w5,w6]
     rw[hxI {I with day:=I.day+X} q.ptr]
    ·have hz:=odF hz
     rw[if_neg hz] at hX
     have w2:i64.wrap (I.weekday-r.wkst)=I.weekday-r.wkst:=aJ (by omega)
     have w4:i64.wrap (0-(I.weekday-r.wkst))=-(I.weekday-r.wkst):=by rw[aJ (by omega)];omega
     have w5:i64.wrap (-(I.weekday-r.wkst)+r.interval*7)=X:=by rw[aJ (by omega),hX]
     have w6:i64.wrap (I.day+X)=I.day+X:=aJ (by omega)
     refine bF bI (by kernel_rfl) ?_
     simp only[go_sem,he,g0,g2,g6,g42,hru,hcl,hob,hci5,hci,w2,w4,w7,w5,w6]
     rw[hxI {I with day:=I.day+X} q.ptr]
    clear he g0 g2 g6 g42
    rintro e hk' ⟨he,g0,g2,rfl⟩
    rw[hxI {I with day:=I.day+X} q.ptr]
    simp only[go_sem,he,g0,g2,hO2,hO3,hcl,hci5,List.set_set]
    exact hgo
   ·have hf2:¬r.freq=2:=by have:=odF hf2;omega
    simp only[go_sem,he,g0,g2,g6,g42,hru,hcl,hc.freq]
    refine aF (fun hf3=>?_) fun hf3=>?_
    ·
     have hf3:r.freq=3:=by have:=odT hf3;omega
     have hmv:=K.mv3 hw hf3 hat
     have hgo:=hday (I.day+r.interval) I.weekday (by omega) hmv (by omega)
     rw[hxI {I with day:=I.day+r.interval,weekday:=I.weekday} q.ptr] at hgo
     have w6:i64.wrap (I.day+r.interval)=I.day+r.interval:=aJ (by omega)
     simp only[go_sem,he,g0,g2,g6,g42]
     refine bF bI (by kernel_rfl) ?_
     simp only[go_sem,he,g0,g2,g6,g42,hru,hcl,hob,hci,w6]
     exact hgo
    ·have hf3:¬r.freq=3:=by have:=odF hf3;omega
     have hf4:4≤r.freq:=by omega
     have hflE:=hfl hf4
     have hst24:=hG.small hf4
     have htm:=hat.tm
     have hdy:=hat.dy (by omega)
     have hself:hk.set ob (.own 122 I.cells)=hk:=by
      apply List.ext_getElem?
      intro z
      by_cases e:ob=z
      ·subst e;rw[List.getElem?_set_self hltB];exact q.obj.symm
      ·rw[List.getElem?_set_ne e]
     have hq1:=fun (d hh mm ss:Int)=>q.setI (I':={I with day:=d,hour:=hh,minute:=mm,second:=ss}) rfl
     have hcE:=fun (d hh mm ss:Int)=>hxI {I with day:=d,hour:=hh,minute:=mm,second:=ss} q.ptr
     have hHO:∀Z:aD,aQ (hk.set ob Z) ho r.hour:=fun Z=>by
      obtain⟨G,e⟩:=q.front
      rw[e,eZ q.obB];exact hs.ho.more _
     have hMI:∀Z:aD,aQ (hk.set ob Z) mi r.minute:=fun Z=>by
      obtain⟨G,e⟩:=q.front
      rw[e,eZ q.obB];exact hs.mi.more _
     have hSE:∀Z:aD,aQ (hk.set ob Z) se r.second:=fun Z=>by
      obtain⟨G,e⟩:=q.front
      rw[e,eZ q.obB];exact hs.se.more _
     have hlH:lenK (some (.slice 3)) ho=some (vI r.hour.length):=hs.ho.len 3
     have hlMi:lenK (some (.slice 3)) mi=some (vI r.minute.length):=hs.mi.len 3
     have hlSe:lenK (some (.slice 3)) se=some (vI r.second.length):=hs.se.len 3
     have ho1:=hs.ho.one
     have mi1:=hs.mi.one
     have se1:=hs.se.one
     have hlens:=hG.lens
     have LL:∀l:List Int,(decide ((l.length:Int)=0)=true∧l=[])∨(decide ((l.length:Int)=0)=false∧l≠[]):=fun l=>by
      by_cases h:l=[]
      ·exact .inl ⟨by rw[h];rfl,h⟩
      ·exact .inr ⟨dcF fun e=>h (List.length_eq_zero_iff.1 (by omega)),h⟩
     have NE:∀l:List Int,l≠[]→l.isEmpty=false:=fun l h=>List.isEmpty_eq_false_iff.2 h
     have hfill:∀(d hh mm ss:Int) (k':Nat),K.Tm hh mm ss→K.tick r k'=K.bR I.year I.month d*K.bD r+K.ofD r hh mm ss→aH prog (CB w0) 85 [.ptr ob 7,.ptr ob 23,vI r.freq,vI hh,vI mm,vI ss] (hk.set ob (.own 122 {I with day:=d,hour:=hh,minute:=mm,second:=ss}.cells)) fun r' h'=>r'=.tup []∧∃x',i5 {I with day:=d,hour:=hh,minute:=mm,second:=ss} ob h1.length (hk.set ob (.own 122 {I with day:=d,hour:=hh,minute:=mm,second:=ss}.cells)) h' x' (K.fI r k').length (bE (K.fI r k')):=fun d hh mm ss k' tm tk=>by
      have q1:=(hq1 d hh mm ss).1
      refine aHr (w0:=w0) _ ob rr h1.length h1 _ r cs ⟨q1.front,q1.obj,q1.ptr,hO3 _,⟨T.length,_,q1.ts5 hf4,by have:=q1.tl;omega⟩,q1.obB,Nat.le_refl _,?_⟩ hc hs hG hf4 k' tm tk
      obtain⟨G,e⟩:=q1.front
      rw[e,List.length_append];omega
     have hfin:∀(d hh mm ss:Int) (fx:Bool) (j0 j:Nat) (V:Int) (dP:Int) (h':aB) (x':AV),K.i6 r k j0 j I.year I.month dP V→K.Tm hh mm ss→K.tick r (k+(j+1))=K.bR I.year I.month d*K.bD r+K.ofD r hh mm ss→K.dM r (k+(j+1))=true→(fx=false→d=I.day)→1≤d→d≤200000→i5 {I with day:=d,hour:=hh,minute:=mm,second:=ss} ob h1.length (hk.set ob (.own 122 {I with day:=d,hour:=hh,minute:=mm,second:=ss}.cells)) h' x' (K.fI r (k+(j+1))).length (bE (K.fI r (k+(j+1))))→
       ∃(I':It) (T':List Int) (fx':Bool) (k':Nat),vB fx=vB fx'∧ItQ h1 h' rr ob r sp mo p n yd wn bw nw ho mi se ea ts I' A T'∧Stp h1.length rr ob I hk I' h'∧pX I I'∧aFd r k I' T' fx' k':=fun d hh mm ss fx j0 j V dP h' x' g tm tk hok hfx d1 d2 hT2=>by
      have q1:=hq1 d hh mm ss
      have htE:cG r (k+(j+1))=K.fI r (k+(j+1)):=by unfold cG;rw[if_neg (by omega),if_pos hok]
      have hlE:=aBy hG (k+(j+1))
      rw[htE] at hlE
      have q2:=q1.1.tim hf4 hT2 hlE
      refine⟨_,K.fI r (k+(j+1)),fx,k+(j+1),rfl,q2.1,q1.2.trans q2.2,⟨rfl,rfl,rfl,rfl⟩,⟨g.done hG hf4,by omega,htE.symm,hly,hlm,.inr ⟨by omega,K.mv4 hw hf4 hyr hmo d1 tm tk,fun e=>?_,d2⟩⟩⟩
      show d≤_
      rw[hfx e];exact hdy.1
     simp only[go_sem,he,g0,g2,g6,g42,hru,hcl,hc.freq]
     refine aF (fun hf4e=>?_) fun hf4e=>?_
     ·
      have hf4e:r.freq=4:=by have:=odT hf4e;omega
      have hpd:K.bD r=24:=by simp[K.bD,hf4e]
      have hof:∀hh mm ss,K.ofD r hh mm ss=hh:=fun hh mm ss=>by simp[K.ofD,hf4e]
      have hmin:=htm.mi
      have hsec:=htm.ss
      simp only[go_sem,he,g0,g2,g6,g42]
      refine bC (fun e hk'=>len e=1418∧AL.get e 0=.ptr ob 0∧AL.get e 2=.ptr rr 0∧AL.get e 42=vB false∧∃(j0:Nat) (h0:Int),hk'=hk.set ob (.own 122 {I with day:=I.day,hour:=h0,minute:=I.minute,second:=I.second}.cells)∧K.i6 r k j0 j0 I.year I.month I.day h0∧0≤h0∧h0≤23) (fun hq=>?_) (fun hq=>?_) ?_
      ·rw[hq] at hflE
       have hst:=hflE
       obtain⟨j0,b1,b2,b3⟩:=K.wY hw hf4 hat (by simpa using hflE.symm)
       rw[hpd,hof] at b1 b2
       rw[hof] at b3
       have hh0:=htm.hh
       have wq:i64.wrap (23-I.hour)=23-I.hour:=aJ (by omega)
       have wd1:i64.wrap (Int.tdiv (23-I.hour) r.interval)=j0:=by rw[Int.tdiv_eq_ediv_of_nonneg (by omega),show (23:Int)-I.hour=24-1-I.hour by omega,←b1,aJ (by have:(j0:Int)≤23:=by {rw[b1];have:=(jD (24-1-I.hour) r.interval (by omega)).1 (by omega);omega};omega)]
       have hjn:(0:Int)≤(j0:Int)*r.interval:=Int.mul_nonneg (by omega) (by omega)
       have wm1:i64.wrap ((j0:Int)*r.interval)=(j0:Int)*r.interval:=aJ (by omega)
       have wm2:i64.wrap (I.hour+(j0:Int)*r.interval)=I.hour+(j0:Int)*r.interval:=aJ (by omega)
       have hz:¬r.interval=0:=by omega
       refine bF bI (by kernel_rfl) ?_
       simp only[go_sem,he,g0,g2,g6,g42,hru,hcl,hob,hci,wq,wd1,wm1,wm2]
       exact⟨hz,j0,I.hour+j0*r.interval,by rw[hcE],b3,by omega,by omega⟩
      ·simp only[go_sem,he,g0,g2,g6,g42]
       refine⟨0,I.hour,?_,?_,htm.hh.1,htm.hh.2⟩
       ·exact hself.symm
       ·have:=K.wX hf4 hat
        rw[hof] at this;exact this
      clear he g0 g2 g6 g42
      rintro e hk' ⟨he,g0,g2,g42,j0,h0,rfl,hg0,hb1,hb2⟩
      obtain⟨n,n1,n2,hok⟩:=K.aIf hw hf4 hst24.2 hM (k+j0)
      rw[Nat.add_assoc] at hok
      rw[hpd] at n2
      simp only[go_sem,he,g0,g2,g42]
      refine bG n (fun k2 e hk'=>len e=1418∧AL.get e 0=.ptr ob 0∧AL.get e 2=.ptr rr 0∧∃(j:Nat) (d hh:Int) (fx:Bool),AL.get e 42=vB fx∧hk'=hk.set ob (.own 122 {I with day:=d,hour:=hh,minute:=I.minute,second:=I.second}.cells)∧K.i6 r k j0 j I.year I.month d hh∧0≤hh∧hh≤23∧(fx=false→d=I.day)∧I.day≤d∧d≤I.day+2*(j-j0:Nat)∧j+k2=j0+n) (fun e hk'=>len e=1418∧AL.get e 0=.ptr ob 0∧AL.get e 2=.ptr rr 0∧∃(j:Nat) (d hh:Int) (fx:Bool) (dP V:Int),AL.get e 42=vB fx∧hk'=hk.set ob (.own 122 {I with day:=d,hour:=hh,minute:=I.minute,second:=I.second}.cells)∧K.i6 r k j0 j I.year I.month dP V∧K.dM r (k+(j+1))=true∧K.Tm hh I.minute I.second∧K.tick r (k+(j+1))=K.bR I.year I.month d*K.bD r+K.ofD r hh I.minute I.second∧(fx=false→d=I.day)∧1≤d∧d≤200000) (by kernel_rfl) ?_ ?_ ?_
      ·simp only[go_sem,he,g0,g2,g42]
       exact⟨j0,I.day,h0,false,rfl,rfl,hg0,hb1,hb2,fun _=>rfl,Int.le_refl _,by omega,by omega⟩
      ·clear he g0 g2 g42
       rintro k2 e hk' ⟨he,g0,g2,j,d,hh,fx,g42,rfl,hg,c1,c2,hfx,d1,d2,hjk⟩
       have hlt:=hg.lt (N:=j0+n) (by omega) hok
       have hle:=hg.le
       rw[hcE]
       have w1:i64.wrap (hh+r.interval)=hh+r.interval:=aJ (by omega)
       simp only[go_sem,he,g0,g2,g42]
       refine bF bI (by kernel_rfl) ?_
       simp only[go_sem,he,g0,g2,g42,hO2,hO3,hcl,hci,w1,List.set_set]
       refine aSh (i4 (hh+r.interval) 24 (by omega) (by omega) _) ?_
       obtain⟨h2,hh2⟩:∃h2,h2=(hh+r.interval)%24:=⟨_,rfl⟩
       obtain⟨dx,hdx⟩:∃dx,dx=(hh+r.interval)/24:=⟨_,rfl⟩
       rw[←hh2,←hdx]
       have hdx2:0≤dx∧dx≤1:=by omega
       have wd2:i64.wrap (d+dx)=d+dx:=aJ (by omega)
       simp only[go_sem,he,g0,g2,g42,aA]
       refine bC (fun e hk'=>len e=1418∧AL.get e 0=.ptr ob 0∧AL.get e 2=.ptr rr 0∧∃fx2:Bool,AL.get e 42=vB fx2∧hk'=hk.set ob (.own 122 {I with day:=d+dx,hour:=h2,minute:=I.minute,second:=I.second}.cells)∧(fx2=false→d+dx=I.day)) (fun hz=>?_) (fun hz=>?_) ?_
       ·simp only[go_sem,he,g0,g2,g42,hO2,hO3,List.set_set,wd2]
        exact⟨true,rfl,by rw[hcE],fun h=>by cases h⟩
       ·have hz:dx=0:=by simpa using hz
        have e1:hh+r.interval=h2:=by omega
        simp only[go_sem,he,g0,g2,g42]
        refine⟨fx,rfl,by rw[hcE,e1,hz,Int.add_zero],fun h=>by rw[hz,Int.add_zero];exact hfx h⟩
       clear he g0 g2 g42
       rintro e hk' ⟨he,g0,g2,fx2,g42,rfl,hfx2⟩
       have tm2:K.Tm h2 I.minute I.second:=⟨by omega,hmin,hsec⟩
       have heq:K.bR I.year I.month (d+dx)*K.bD r+h2=K.bR I.year I.month d*K.bD r+hh+r.interval:=by rw[K.pC,hpd];omega
       have htk:=hg.tick heq
       have hha:=K.xN hw hf4 tm2 (by rw[hof];exact htk)
       rw[dcT (show r.freq<5 by omega),dcT (show r.freq<6 by omega),Bool.true_or,Bool.true_or,Bool.and_true,Bool.and_true] at hha
       rw[hcE]
       have hHO2:=hHO (.own 122 [vI I.year,vI I.month,vI (d+dx),vI h2,vI I.minute,vI I.second,vI I.weekday,.ptr rr 0,vI I.ly,vI I.lm,vI I.yl,vI I.nyl,vI I.fy,vI 0,vI I.yw,I.mm,I.mr,I.md,I.nmd,I.wd,I.wno,I.nwd,I.ea,I.ts,vI I.tot,vI I.cnt,I.st,I.bk,vB I.fin,I.ds])
       simp only[go_sem,he,g0,g2,g42]
       refine bU [84] bI (by kernel_rfl) ?_
       simp only[go_sem,he,g0,g2,g42,hO3,hcl,hc.hour,hlH]
       refine bQ (fun e hk'=>len e=1418∧AL.get e 0=.ptr ob 0∧AL.get e 2=.ptr rr 0∧AL.get e 42=vB fx2∧AL.get e 956=vB (K.dM r (k+(j+1)))∧hk'=hk.set ob (.own 122 {I with day:=d+dx,hour:=h2,minute:=I.minute,second:=I.second}.cells)) ?_ ?_
       ·rw[hcE]
        rcases LL r.hour with ⟨l1,m1⟩|⟨l1,m1⟩
        ·have:K.dM r (k+(j+1))=true:=by rw[hha,m1];rfl
         rw[this]
         simp only[go_sem,he,g0,g2,g42,hO3,hcl,hc.hour,hlH,l1]
        ·have:K.dM r (k+(j+1))=r.hour.contains h2:=by rw[hha];unfold K.aY;rw[NE _ m1,Bool.false_or]
         rw[this]
         simp only[go_sem,he,g0,g2,g42,hO2,hO3,hcl,hc.hour,hlH,l1]
         refine aS (fun _=>bO r.hour (by omega) h2 ho _ (hHO2.more _)) ?_
         simp only[go_sem,he,g0,g2,g42,hO2,hO3,hcl,hc.hour,hlH,l1,aA]
       clear he g0 g2 g42
       rintro e hk' ⟨he,g0,g2,g42,g956,rfl⟩
       simp only[go_sem,he,g0,g2,g42,g956]
       refine aF (fun hy=>?_) fun hy=>?_
       ·simp only[go_sem,he,g0,g2,g42]
        exact⟨j,d+dx,h2,fx2,d,hh,rfl,rfl,hg,hy,tm2,by rw[hof];exact htk,hfx2,by omega,by omega⟩
       ·simp only[go_sem,he,g0,g2,g42]
        refine⟨k2-1,by omega,j+1,d+dx,h2,fx2,rfl,rfl,hg.next heq hy,by omega,by omega,hfx2,by omega,by omega,by omega⟩
      ·clear he g0 g2 g42
       rintro e hk' ⟨he,g0,g2,j,d,hh,fx,dP,V,g42,rfl,hg,hok2,tm2,htk,hfx,d1,d2⟩
       have hf1':=hfill d hh I.minute I.second (k+(j+1)) tm2 htk
       have hfi':=fun h' x' hT2=>hfin d hh I.minute I.second fx j0 j V dP h' x' hg tm2 htk hok2 hfx d1 d2 hT2
       rw[hcE] at hf1' hfi' ⊢
       simp only[go_sem,he,g0,g2,g42]
       refine fT [] 22 bI (by kernel_rfl) (by kernel_rfl) (by kernel_rfl) ?_
       simp only[go_sem,he,g0,g2,g42,hO2,hO3,hcl,hc.freq]
       refine aI hf1' ?_
       rintro r' h' ⟨rfl,x',hT2⟩
       simp only[go_sem,he,g0,g2,g42,bL,aA]
       exact hfi' h' x' hT2
     ·have hf4e:¬r.freq=4:=by have:=odF hf4e;omega
      simp only[go_sem,he,g0,g2,g6,g42,hru,hcl,hc.freq]
      refine aF (fun hf5e=>?_) fun hf5e=>?_
      ·
       have hf5e:r.freq=5:=by have:=odT hf5e;omega
       have hpd:K.bD r=1440:=by simp[K.bD,hf5e]
       have hof:∀hh mm ss,K.ofD r hh mm ss=hh*60+mm:=fun hh mm ss=>by simp[K.ofD,hf5e]
       have hhou:=htm.hh
       have hmin:=htm.mi
       have hsec:=htm.ss
       simp only[go_sem,he,g0,g2,g6,g42]
       refine bC (fun e hk'=>len e=1418∧AL.get e 0=.ptr ob 0∧AL.get e 2=.ptr rr 0∧AL.get e 42=vB false∧∃(j0:Nat) (m0:Int),hk'=hk.set ob (.own 122 {I with day:=I.day,hour:=I.hour,minute:=m0,second:=I.second}.cells)∧K.i6 r k j0 j0 I.year I.month I.day (I.hour*60+m0)∧0≤m0∧m0≤1439) (fun hq=>?_) (fun hq=>?_) ?_
       ·rw[hq] at hflE
        obtain⟨j0,b1,b2,b3⟩:=K.wY hw hf4 hat (by simpa using hflE.symm)
        rw[hpd,hof] at b1 b2
        rw[hof] at b3
        have wa:i64.wrap (I.hour*60)=I.hour*60:=aJ (by omega)
        have wb:i64.wrap (I.hour*60+I.minute)=I.hour*60+I.minute:=aJ (by omega)
        have wq:i64.wrap (1439-(I.hour*60+I.minute))=1439-(I.hour*60+I.minute):=aJ (by omega)
        have hj0b:(j0:Int)≤1439:=by rw[b1];have:=(jD (1440-1-(I.hour*60+I.minute)) r.interval (by omega)).1 (by omega);omega
        have wd1:i64.wrap (Int.tdiv (1439-(I.hour*60+I.minute)) r.interval)=j0:=by rw[Int.tdiv_eq_ediv_of_nonneg (by omega),show (1439:Int)-(I.hour*60+I.minute)=1440-1-(I.hour*60+I.minute) by omega,←b1,aJ (by omega)]
        have hjn:(0:Int)≤(j0:Int)*r.interval:=Int.mul_nonneg (by omega) (by omega)
        have wm1:i64.wrap ((j0:Int)*r.interval)=(j0:Int)*r.interval:=aJ (by omega)
        have wm2:i64.wrap (I.minute+(j0:Int)*r.interval)=I.minute+(j0:Int)*r.interval:=aJ (by omega)
        have hz:¬r.interval=0:=by omega
        refine bF bI (by kernel_rfl) ?_
        simp only[go_sem,he,g0,g2,g6,g42,hru,hcl,hob,hci,wa,wb,wq,wd1,wm1,wm2]
        exact⟨hz,j0,I.minute+j0*r.interval,by rw[hcE],by rw[←Int.add_assoc];exact b3,by omega,by omega⟩
       ·simp only[go_sem,he,g0,g2,g6,g42]
        refine⟨0,I.minute,?_,?_,hmin.1,by omega⟩
        ·exact hself.symm
        ·have:=K.wX hf4 hat
         rw[hof] at this;exact this
       clear he g0 g2 g6 g42
       rintro e hk' ⟨he,g0,g2,g42,j0,m0,rfl,hg0,hb1,hb2⟩
       obtain⟨n,n1,n2,hok⟩:=K.aIf hw hf4 hst24.2 hM (k+j0)
       rw[Nat.add_assoc] at hok
       rw[hpd] at n2
       simp only[go_sem,he,g0,g2,g42]
       refine bG n (fun k2 e hk'=>len e=1418∧AL.get e 0=.ptr ob 0∧AL.get e 2=.ptr rr 0∧∃(j:Nat) (d hh mm:Int) (fx:Bool),AL.get e 42=vB fx∧hk'=hk.set ob (.own 122 {I with day:=d,hour:=hh,minute:=mm,second:=I.second}.cells)∧K.i6 r k j0 j I.year I.month d (hh*60+mm)∧(0≤hh∧hh≤23)∧(0≤mm∧mm≤1439)∧(fx=false→d=I.day)∧I.day≤d∧d≤I.day+2*(j-j0:Nat)∧j+k2=j0+n) (fun e hk'=>len e=1418∧AL.get e 0=.ptr ob 0∧AL.get e 2=.ptr rr 0∧∃(j:Nat) (d hh mm:Int) (fx:Bool) (dP V:Int),AL.get e 42=vB fx∧hk'=hk.set ob (.own 122 {I with day:=d,hour:=hh,minute:=mm,second:=I.second}.cells)∧K.i6 r k j0 j I.year I.month dP V∧K.dM r (k+(j+1))=true∧K.Tm hh mm I.second∧K.tick r (k+(j+1))=K.bR I.year I.month d*K.bD r+K.ofD r hh mm I.second∧(fx=false→d=I.day)∧1≤d∧d≤200000) (by kernel_rfl) ?_ ?_ ?_
       ·simp only[go_sem,he,g0,g2,g42]
        exact⟨j0,I.day,I.hour,m0,false,rfl,rfl,hg0,hhou,⟨hb1,hb2⟩,fun _=>rfl,Int.le_refl _,by omega,by omega⟩
       ·clear he g0 g2 g42
        rintro k2 e hk' ⟨he,g0,g2,j,d,hh,mm,fx,g42,rfl,hg,⟨c1,c2⟩,⟨c3,c4⟩,hfx,d1,d2,hjk⟩
        have hlt:=hg.lt (N:=j0+n) (by omega) hok
        have hle:=hg.le
        rw[hcE]
        have w1:i64.wrap (mm+r.interval)=mm+r.interval:=aJ (by omega)
        simp only[go_sem,he,g0,g2,g42]
        refine bF bI (by kernel_rfl) ?_
        simp only[go_sem,he,g0,g2,g42,hO2,hO3,hcl,hci,w1,List.set_set]
        refine aSh (i4 (mm+r.interval) 60 (by omega) (by omega) _) ?_
        obtain⟨m2,hm2⟩:∃m2,m2=(mm+r.interval)%60:=⟨_,rfl⟩
        obtain⟨q1,hq1'⟩:∃q1,q1=(mm+r.interval)/60:=⟨_,rfl⟩
        obtain⟨h2,hh2⟩:∃h2,h2=(hh+q1)%24:=⟨_,rfl⟩
        obtain⟨q2,hq2'⟩:∃q2,q2=(hh+q1)/24:=⟨_,rfl⟩
        rw[←hm2,←hq1']
        have hq1b:0≤q1∧q1≤24:=by omega
        have hq2b:0≤q2∧q2≤1:=by omega
        have wh:i64.wrap (hh+q1)=hh+q1:=aJ (by omega)
        have wd2:i64.wrap (d+q2)=d+q2:=aJ (by omega)
        simp only[go_sem,he,g0,g2,g42,aA]
        refine bC (fun e hk'=>len e=1418∧AL.get e 0=.ptr ob 0∧AL.get e 2=.ptr rr 0∧∃fx2:Bool,AL.get e 42=vB fx2∧hk'=hk.set ob (.own 122 {I with day:=d+q2,hour:=h2,minute:=m2,second:=I.second}.cells)∧(fx2=false→d+q2=I.day)) (fun hz=>?_) (fun hz=>?_) ?_
        ·simp only[go_sem,he,g0,g2,g42,hO2,hO3,List.set_set,wh]
         refine aSh (i4 (hh+q1) 24 (by omega) (by omega) _) ?_
         rw[←hh2,←hq2']
         simp only[go_sem,he,g0,g2,g42,aA]
         refine aF (fun hz2=>?_) fun hz2=>?_
         ·simp only[go_sem,he,g0,g2,g42,hO2,hO3,List.set_set,wd2]
          exact⟨true,rfl,by rw[hcE],fun h=>by cases h⟩
         ·have hz2:q2=0:=by simpa using hz2
          have e1:hh+q1=h2:=by omega
          simp only[go_sem,he,g0,g2,g42]
          exact⟨fx,rfl,by rw[hcE,e1,hz2,Int.add_zero],fun h=>by rw[hz2,Int.add_zero];exact hfx h⟩
        ·have hz:q1=0:=by simpa using hz
         have e1:mm+r.interval=m2:=by omega
         have e2:hh=h2:=by omega
         have e3:q2=0:=by omega
         simp only[go_sem,he,g0,g2,g42]
         exact⟨fx,rfl,by rw[hcE,e1,e3,Int.add_zero,←e2],fun h=>by rw[e3,Int.add_zero];exact hfx h⟩
        clear he g0 g2 g42
        rintro e hk' ⟨he,g0,g2,fx2,g42,rfl,hfx2⟩
        have tm2:K.Tm h2 m2 I.second:=⟨by omega,by omega,hsec⟩
        have heq:K.bR I.year I.month (d+q2)*K.bD r+(h2*60+m2)=K.bR I.year I.month d*K.bD r+(hh*60+mm)+r.interval:=by rw[K.pC,hpd];omega
        have htk:=hg.tick heq
        have hha:=K.xN hw hf4 tm2 (by rw[hof];exact htk)
        rw[dcF (show ¬r.freq<5 by omega),dcT (show r.freq<6 by omega),Bool.false_or,Bool.true_or,Bool.and_true] at hha
        rw[hcE]
        have hHO2:=hHO (.own 122 [vI I.year,vI I.month,vI (d+q2),vI h2,vI m2,vI I.second,vI I.weekday,.ptr rr 0,vI I.ly,vI I.lm,vI I.yl,vI I.nyl,vI I.fy,vI 0,vI I.yw,I.mm,I.mr,I.md,I.nmd,I.wd,I.wno,I.nwd,I.ea,I.ts,vI I.tot,vI I.cnt,I.st,I.bk,vB I.fin,I.ds])
        have hMI2:=hMI (.own 122 [vI I.year,vI I.month,vI (d+q2),vI h2,vI m2,vI I.second,vI I.weekday,.ptr rr 0,vI I.ly,vI I.lm,vI I.yl,vI I.nyl,vI I.fy,vI 0,vI I.yw,I.mm,I.mr,I.md,I.nmd,I.wd,I.wno,I.nwd,I.ea,I.ts,vI I.tot,vI I.cnt,I.st,I.bk,vB I.fin,I.ds])
        simp only[go_sem,he,g0,g2,g42]
        refine bU [84] bI (by kernel_rfl) ?_
        simp only[go_sem,he,g0,g2,g42,hO2,hO3,hcl,hc.hour,hlH,hc.minute,hlMi]
        refine bQ (fun e hk'=>len e=1418∧AL.get e 0=.ptr ob 0∧AL.get e 2=.ptr rr 0∧AL.get e 42=vB fx2∧AL.get e 1104=vB (K.dM r (k+(j+1)))∧hk'=hk.set ob (.own 122 {I with day:=d+q2,hour:=h2,minute:=m2,second:=I.second}.cells)) ?_ ?_
        ·rw[hcE]
         rcases LL r.hour with ⟨l1,n1'⟩|⟨l1,n1'⟩
         ·rcases LL r.minute with ⟨l2,n2'⟩|⟨l2,n2'⟩
          ·have:K.dM r (k+(j+1))=true:=by rw[hha,n1',n2'];rfl
           rw[this]
           simp only[go_sem,he,g0,g2,g42,hO2,hO3,hcl,hc.hour,hlH,hc.minute,hlMi,l1,l2]
          ·have:K.dM r (k+(j+1))=r.minute.contains m2:=by rw[hha,n1'];unfold K.aY;rw[NE _ n2',Bool.false_or];rfl
           rw[this]
           simp only[go_sem,he,g0,g2,g42,hO2,hO3,hcl,hc.hour,hlH,hc.minute,hlMi,l1,l2]
           refine aS (fun _=>bO r.minute (by omega) m2 mi _ (hMI2.more _)) ?_
           simp only[go_sem,he,g0,g2,g42,hO2,hO3,hcl,hc.hour,hlH,hc.minute,hlMi,l1,l2,aA]
         ·have hh1:K.aY r.hour h2=r.hour.contains h2:=by unfold K.aY;rw[NE _ n1',Bool.false_or]
          rw[hh1] at hha
          simp only[go_sem,he,g0,g2,g42,hO2,hO3,hcl,hc.hour,hlH,hc.minute,hlMi,l1]
          refine aS (fun _=>bO r.hour (by omega) h2 ho _ (hHO2.more _)) ?_
          cases hcp:r.hour.contains h2 with
          |false=>
           have:K.dM r (k+(j+1))=false:=by rw[hha,hcp];rfl
           rw[this]
           simp only[go_sem,he,g0,g2,g42,hO2,hO3,hcl,hc.hour,hlH,hc.minute,hlMi,l1,aA]
          |true=>
           rw[hcp,Bool.true_and] at hha
           rcases LL r.minute with ⟨l2,n2'⟩|⟨l2,n2'⟩
           ·have:K.dM r (k+(j+1))=true:=by rw[hha,n2'];rfl
            rw[this]
            simp only[go_sem,he,g0,g2,g42,hO2,hO3,hcl,hc.hour,hlH,hc.minute,hlMi,l1,l2,aA]
           ·have:K.dM r (k+(j+1))=r.minute.contains m2:=by rw[hha];unfold K.aY;rw[NE _ n2',Bool.false_or]
            rw[this]
            simp only[go_sem,he,g0,g2,g42,hO2,hO3,hcl,hc.hour,hlH,hc.minute,hlMi,l1,l2,aA]
            refine aS (fun _=>bO r.minute (by omega) m2 mi _ (hMI2.more _)) ?_
            simp only[go_sem,he,g0,g2,g42,hO2,hO3,hcl,hc.hour,hlH,hc.minute,hlMi,l1,l2,aA]
        clear he g0 g2 g42
        rintro e hk' ⟨he,g0,g2,g42,g956,rfl⟩
        simp only[go_sem,he,g0,g2,g42,g956]
        refine aF (fun hy=>?_) fun hy=>?_
        ·simp only[go_sem,he,g0,g2,g42]
         exact⟨j,d+q2,h2,m2,fx2,d,hh*60+mm,rfl,rfl,hg,hy,tm2,by rw[hof];exact htk,hfx2,by omega,by omega⟩
        ·simp only[go_sem,he,g0,g2,g42]
         refine⟨k2-1,by omega,j+1,d+q2,h2,m2,fx2,rfl,rfl,hg.next heq hy,⟨by omega,by omega⟩,⟨by omega,by omega⟩,hfx2,by omega,by omega,by omega⟩
       ·clear he g0 g2 g42
        rintro e hk' ⟨he,g0,g2,j,d,hh,mm,fx,dP,V,g42,rfl,hg,hok2,tm2,htk,hfx,d1,d2⟩
        have hf1':=hfill d hh mm I.second (k+(j+1)) tm2 htk
        have hfi':=fun h' x' hT2=>hfin d hh mm I.second fx j0 j V dP h' x' hg tm2 htk hok2 hfx d1 d2 hT2
        rw[hcE] at hf1' hfi' ⊢
        simp only[go_sem,he,g0,g2,g42]
        refine fT [] 22 bI (by kernel_rfl) (by kernel_rfl) (by kernel_rfl) ?_
        simp only[go_sem,he,g0,g2,g42,hO2,hO3,hcl,hc.freq]
        refine aI hf1' ?_
        rintro r' h' ⟨rfl,x',hT2⟩
        simp only[go_sem,he,g0,g2,g42,bL,aA]
        exact hfi' h' x' hT2
      ·have hf5e:r.freq=6:=by have:=odF hf5e;omega
       have d6:decide ((r.freq:Int)=6)=true:=dcT (by omega)
       simp only[go_sem,he,g0,g2,g6,g42,hru,hcl,hc.freq,d6]
       have hpd:K.bD r=86400:=by simp[K.bD,hf5e]
       have hof:∀hh mm ss,K.ofD r hh mm ss=hh*3600+mm*60+ss:=fun hh mm ss=>by simp[K.ofD,hf5e]
       have hhou:=htm.hh
       have hmin:=htm.mi
       have hsec:=htm.ss
       refine bC (fun e hk'=>len e=1418∧AL.get e 0=.ptr ob 0∧AL.get e 2=.ptr rr 0∧AL.get e 42=vB false∧∃(j0:Nat) (m0:Int),hk'=hk.set ob (.own 122 {I with day:=I.day,hour:=I.hour,minute:=I.minute,second:=m0}.cells)∧K.i6 r k j0 j0 I.year I.month I.day (I.hour*3600+I.minute*60+m0)∧0≤m0∧m0≤86399) (fun hq=>?_) (fun hq=>?_) ?_
       ·rw[hq] at hflE
        obtain⟨j0,b1,b2,b3⟩:=K.wY hw hf4 hat (by simpa using hflE.symm)
        rw[hpd,hof] at b1 b2
        rw[hof] at b3
        have wa:i64.wrap (I.hour*3600)=I.hour*3600:=aJ (by omega)
        have wb:i64.wrap (I.minute*60)=I.minute*60:=aJ (by omega)
        have wc:i64.wrap (I.hour*3600+I.minute*60)=I.hour*3600+I.minute*60:=aJ (by omega)
        have wd:i64.wrap (I.hour*3600+I.minute*60+I.second)=I.hour*3600+I.minute*60+I.second:=aJ (by omega)
        have wq:i64.wrap (86399-(I.hour*3600+I.minute*60+I.second))=86399-(I.hour*3600+I.minute*60+I.second):=aJ (by omega)
        have hj0b:(j0:Int)≤86399:=by rw[b1];have:=(jD (86400-1-(I.hour*3600+I.minute*60+I.second)) r.interval (by omega)).1 (by omega);omega
        have wd1:i64.wrap (Int.tdiv (86399-(I.hour*3600+I.minute*60+I.second)) r.interval)=j0:=by rw[Int.tdiv_eq_ediv_of_nonneg (by omega),show (86399:Int)-(I.hour*3600+I.minute*60+I.second)=86400-1-(I.hour*3600+I.minute*60+I.second) by omega,←b1,aJ (by omega)]
        have hjn:(0:Int)≤(j0:Int)*r.interval:=Int.mul_nonneg (by omega) (by omega)
        have wm1:i64.wrap ((j0:Int)*r.interval)=(j0:Int)*r.interval:=aJ (by omega)
        have wm2:i64.wrap (I.second+(j0:Int)*r.interval)=I.second+(j0:Int)*r.interval:=aJ (by omega)
        have hz:¬r.interval=0:=by omega
        refine bF bI (by kernel_rfl) ?_
        simp only[go_sem,he,g0,g2,g6,g42,hru,hcl,hob,hci,wa,wb,wc,wd,wq,wd1,wm1,wm2]
        exact⟨hz,j0,I.second+j0*r.interval,by rw[hcE],by rw[←Int.add_assoc];exact b3,by omega,by omega⟩
       ·simp only[go_sem,he,g0,g2,g6,g42]
        refine⟨0,I.second,?_,?_,hsec.1,by omega⟩
        ·exact hself.symm
        ·have:=K.wX hf4 hat
         rw[hof] at this;exact this
       clear he g0 g2 g6 g42
       rintro e hk' ⟨he,g0,g2,g42,j0,m0,rfl,hg0,hb1,hb2⟩
       obtain⟨n,n1,n2,hok⟩:=K.aIf hw hf4 hst24.2 hM (k+j0)
       rw[Nat.add_assoc] at hok
       rw[hpd] at n2
       simp only[go_sem,he,g0,g2,g42]
       refine bG n (fun k2 e hk'=>len e=1418∧AL.get e 0=.ptr ob 0∧AL.get e 2=.ptr rr 0∧∃(j:Nat) (d hh mm ss:Int) (fx:Bool),AL.get e 42=vB fx∧hk'=hk.set ob (.own 122 {I with day:=d,hour:=hh,minute:=mm,second:=ss}.cells)∧K.i6 r k j0 j I.year I.month d (hh*3600+mm*60+ss)∧(0≤hh∧hh≤23)∧(0≤mm∧mm≤59)∧(0≤ss∧ss≤86399)∧(fx=false→d=I.day)∧I.day≤d∧d≤I.day+2*(j-j0:Nat)∧j+k2=j0+n) (fun e hk'=>len e=1418∧AL.get e 0=.ptr ob 0∧AL.get e 2=.ptr rr 0∧∃(j:Nat) (d hh mm ss:Int) (fx:Bool) (dP V:Int),AL.get e 42=vB fx∧hk'=hk.set ob (.own 122 {I with day:=d,hour:=hh,minute:=mm,second:=ss}.cells)∧K.i6 r k j0 j I.year I.month dP V∧K.dM r (k+(j+1))=true∧K.Tm hh mm ss∧K.tick r (k+(j+1))=K.bR I.year I.month d*K.bD r+K.ofD r hh mm ss∧(fx=false→d=I.day)∧1≤d∧d≤200000) (by kernel_rfl) ?_ ?_ ?_
       ·simp only[go_sem,he,g0,g2,g42]
        exact⟨j0,I.day,I.hour,I.minute,m0,false,rfl,rfl,hg0,hhou,hmin,⟨hb1,hb2⟩,fun _=>rfl,Int.le_refl _,by omega,by omega⟩
       ·clear he g0 g2 g42
        rintro k2 e hk' ⟨he,g0,g2,j,d,hh,mm,ss,fx,g42,rfl,hg,⟨c1,c2⟩,⟨c3,c4⟩,⟨c5,c6⟩,hfx,d1,d2,hjk⟩
        have hlt:=hg.lt (N:=j0+n) (by omega) hok
        have hle:=hg.le
        rw[hcE]
        have w1:i64.wrap (ss+r.interval)=ss+r.interval:=aJ (by omega)
        simp only[go_sem,he,g0,g2,g42]
        refine bF bI (by kernel_rfl) ?_
        simp only[go_sem,he,g0,g2,g42,hO2,hO3,hcl,hci,w1,List.set_set]
        refine aSh (i4 (ss+r.interval) 60 (by omega) (by omega) _) ?_
        obtain⟨s2,hs2⟩:∃s2,s2=(ss+r.interval)%60:=⟨_,rfl⟩
        obtain⟨q1,hq1'⟩:∃q1,q1=(ss+r.interval)/60:=⟨_,rfl⟩
        obtain⟨m2,hm2⟩:∃m2,m2=(mm+q1)%60:=⟨_,rfl⟩
        obtain⟨q2,hq2'⟩:∃q2,q2=(mm+q1)/60:=⟨_,rfl⟩
        obtain⟨h2,hh2⟩:∃h2,h2=(hh+q2)%24:=⟨_,rfl⟩
        obtain⟨q3,hq3'⟩:∃q3,q3=(hh+q2)/24:=⟨_,rfl⟩
        rw[←hs2,←hq1']
        have hq1b:0≤q1∧q1≤1441:=by omega
        have hq2b:0≤q2∧q2≤25:=by omega
        have hq3b:0≤q3∧q3≤2:=by omega
        have wm:i64.wrap (mm+q1)=mm+q1:=aJ (by omega)
        have wh:i64.wrap (hh+q2)=hh+q2:=aJ (by omega)
        have wd2:i64.wrap (d+q3)=d+q3:=aJ (by omega)
        simp only[go_sem,he,g0,g2,g42,aA]
        refine bC (fun e hk'=>len e=1418∧AL.get e 0=.ptr ob 0∧AL.get e 2=.ptr rr 0∧∃fx2:Bool,AL.get e 42=vB fx2∧hk'=hk.set ob (.own 122 {I with day:=d+q3,hour:=h2,minute:=m2,second:=s2}.cells)∧(fx2=false→d+q3=I.day)) (fun hz=>?_) (fun hz=>?_) ?_
        ·simp only[go_sem,he,g0,g2,g42,hO2,hO3,List.set_set,wm]
         refine aSh (i4 (mm+q1) 60 (by omega) (by omega) _) ?_
         rw[←hm2,←hq2']
         simp only[go_sem,he,g0,g2,g42,aA]
         refine aF (fun hz2=>?_) fun hz2=>?_
         ·simp only[go_sem,he,g0,g2,g42,hO2,hO3,List.set_set,wh]
          refine aSh (i4 (hh+q2) 24 (by omega) (by omega) _) ?_
          rw[←hh2,←hq3']
          simp only[go_sem,he,g0,g2,g42,aA]
          refine aF (fun hz3=>?_) fun hz3=>?_
          ·simp only[go_sem,he,g0,g2,g42,hO2,hO3,List.set_set,wd2]
           exact⟨true,rfl,by rw[hcE],fun h=>by cases h⟩
          ·have hz3:q3=0:=by simpa using hz3
           have e1:hh+q2=h2:=by omega
           simp only[go_sem,he,g0,g2,g42]
           exact⟨fx,rfl,by rw[hcE,e1,hz3,Int.add_zero],fun h=>by rw[hz3,Int.add_zero];exact hfx h⟩
         ·have hz2:q2=0:=by simpa using hz2
          have e1:mm+q1=m2:=by omega
          have e2:hh=h2:=by omega
          have e3:q3=0:=by omega
          simp only[go_sem,he,g0,g2,g42]
          exact⟨fx,rfl,by rw[hcE,e1,e3,Int.add_zero,←e2],fun h=>by rw[e3,Int.add_zero];exact hfx h⟩
        ·have hz:q1=0:=by simpa using hz
         have e1:ss+r.interval=s2:=by omega
         have e4:mm=m2:=by omega
         have e2:hh=h2:=by omega
         have e3:q3=0:=by omega
         simp only[go_sem,he,g0,g2,g42]
         exact⟨fx,rfl,by rw[hcE,e1,e3,Int.add_zero,←e2,←e4],fun h=>by rw[e3,Int.add_zero];exact hfx h⟩
        clear he g0 g2 g42
        rintro e hk' ⟨he,g0,g2,fx2,g42,rfl,hfx2⟩
        have tm2:K.Tm h2 m2 s2:=⟨by omega,by omega,by omega⟩
        have hq3c:q3≤1:=by omega
        have heq:K.bR I.year I.month (d+q3)*K.bD r+(h2*3600+m2*60+s2)=K.bR I.year I.month d*K.bD r+(hh*3600+mm*60+ss)+r.interval:=by rw[K.pC,hpd];omega
        have htk:=hg.tick heq
        have hha:=K.xN hw hf4 tm2 (by rw[hof];exact htk)
        rw[dcF (show ¬r.freq<5 by omega),dcF (show ¬r.freq<6 by omega),Bool.false_or,Bool.false_or,Bool.and_assoc] at hha
        rw[hcE]
        have hHO2:=hHO (.own 122 [vI I.year,vI I.month,vI (d+q3),vI h2,vI m2,vI s2,vI I.weekday,.ptr rr 0,vI I.ly,vI I.lm,vI I.yl,vI I.nyl,vI I.fy,vI 0,vI I.yw,I.mm,I.mr,I.md,I.nmd,I.wd,I.wno,I.nwd,I.ea,I.ts,vI I.tot,vI I.cnt,I.st,I.bk,vB I.fin,I.ds])
        have hMI2:=hMI (.own 122 [vI I.year,vI I.month,vI (d+q3),vI h2,vI m2,vI s2,vI I.weekday,.ptr rr 0,vI I.ly,vI I.lm,vI I.yl,vI I.nyl,vI I.fy,vI 0,vI I.yw,I.mm,I.mr,I.md,I.nmd,I.wd,I.wno,I.nwd,I.ea,I.ts,vI I.tot,vI I.cnt,I.st,I.bk,vB I.fin,I.ds])
        have hSE2:=hSE (.own 122 [vI I.year,vI I.month,vI (d+q3),vI h2,vI m2,vI s2,vI I.weekday,.ptr rr 0,vI I.ly,vI I.lm,vI I.yl,vI I.nyl,vI I.fy,vI 0,vI I.yw,I.mm,I.mr,I.md,I.nmd,I.wd,I.wno,I.nwd,I.ea,I.ts,vI I.tot,vI I.cnt,I.st,I.bk,vB I.fin,I.ds])
        simp only[go_sem,he,g0,g2,g42]
        refine bU [84] bI (by kernel_rfl) ?_
        simp only[go_sem,he,g0,g2,g42,hO2,hO3,hcl,hc.hour,hlH,hc.minute,hlMi,hc.second,hlSe]
        refine bQ (fun e hk'=>len e=1418∧AL.get e 0=.ptr ob 0∧AL.get e 2=.ptr rr 0∧AL.get e 42=vB fx2∧AL.get e 1299=vB (K.dM r (k+(j+1)))∧hk'=hk.set ob (.own 122 {I with day:=d+q3,hour:=h2,minute:=m2,second:=s2}.cells)) ?_ ?_
        ·rw[hcE]
         rcases LL r.hour with ⟨l1,u1⟩|⟨l1,u1⟩
         ·have q1':K.aY r.hour h2=true:=by rw[u1];rfl
          rw[q1',Bool.true_and] at hha
          rcases LL r.minute with ⟨l2,u2⟩|⟨l2,u2⟩
          ·have q2':K.aY r.minute m2=true:=by rw[u2];rfl
           rw[q2',Bool.true_and] at hha
           rcases LL r.second with ⟨l3,u3⟩|⟨l3,u3⟩
           ·have q3':K.aY r.second s2=true:=by rw[u3];rfl
            rw[q3'] at hha
            rw[hha]
            simp only[go_sem,he,g0,g2,g42,hO2,hO3,hcl,hc.hour,hlH,hc.minute,hlMi,hc.second,hlSe,l1,l2,l3,aA]
           ·have q3':K.aY r.second s2=r.second.contains s2:=by unfold K.aY;rw[NE _ u3,Bool.false_or]
            rw[q3'] at hha
            simp only[go_sem,he,g0,g2,g42,hO2,hO3,hcl,hc.hour,hlH,hc.minute,hlMi,hc.second,hlSe,l1,l2,l3,aA]
            refine aS (fun _=>bO r.second (by omega) s2 se _ (hSE2.more _)) ?_
            cases hcp3:r.second.contains s2 with
            |false=>
             rw[hcp3] at hha
             rw[hha]
             simp only[go_sem,he,g0,g2,g42,hO2,hO3,hcl,hc.hour,hlH,hc.minute,hlMi,hc.second,hlSe,l1,l2,l3,aA]
            |true=>
             rw[hcp3] at hha
             rw[hha]
             simp only[go_sem,he,g0,g2,g42,hO2,hO3,hcl,hc.hour,hlH,hc.minute,hlMi,hc.second,hlSe,l1,l2,l3,aA]
          ·have q2':K.aY r.minute m2=r.minute.contains m2:=by unfold K.aY;rw[NE _ u2,Bool.false_or]
           rw[q2'] at hha
           simp only[go_sem,he,g0,g2,g42,hO2,hO3,hcl,hc.hour,hlH,hc.minute,hlMi,hc.second,hlSe,l1,l2,aA]
           refine aS (fun _=>bO r.minute (by omega) m2 mi _ (hMI2.more _)) ?_
           cases hcp2:r.minute.contains m2 with
           |false=>
            rw[hcp2,Bool.false_and] at hha
            rw[hha]
            simp only[go_sem,he,g0,g2,g42,hO2,hO3,hcl,hc.hour,hlH,hc.minute,hlMi,hc.second,hlSe,l1,l2,aA]
           |true=>
            rw[hcp2,Bool.true_and] at hha
            rcases LL r.second with ⟨l3,u3⟩|⟨l3,u3⟩
            ·have q3':K.aY r.second s2=true:=by rw[u3];rfl
             rw[q3'] at hha
             rw[hha]
             simp only[go_sem,he,g0,g2,g42,hO2,hO3,hcl,hc.hour,hlH,hc.minute,hlMi,hc.second,hlSe,l1,l2,l3,aA]
            ·have q3':K.aY r.second s2=r.second.contains s2:=by unfold K.aY;rw[NE _ u3,Bool.false_or]
             rw[q3'] at hha
             simp only[go_sem,he,g0,g2,g42,hO2,hO3,hcl,hc.hour,hlH,hc.minute,hlMi,hc.second,hlSe,l1,l2,l3,aA]
             refine aS (fun _=>bO r.second (by omega) s2 se _ (hSE2.more _)) ?_
             cases hcp3:r.second.contains s2 with
             |false=>
              rw[hcp3] at hha
              rw[hha]
              simp only[go_sem,he,g0,g2,g42,hO2,hO3,hcl,hc.hour,hlH,hc.minute,hlMi,hc.second,hlSe,l1,l2,l3,aA]
             |true=>
              rw[hcp3] at hha
              rw[hha]
              simp only[go_sem,he,g0,g2,g42,hO2,hO3,hcl,hc.hour,hlH,hc.minute,hlMi,hc.second,hlSe,l1,l2,l3,aA]
         ·have q1':K.aY r.hour h2=r.hour.contains h2:=by unfold K.aY;rw[NE _ u1,Bool.false_or]
          rw[q1'] at hha
          simp only[go_sem,he,g0,g2,g42,hO2,hO3,hcl,hc.hour,hlH,hc.minute,hlMi,hc.second,hlSe,l1,aA]
          refine aS (fun _=>bO r.hour (by omega) h2 ho _ (hHO2.more _)) ?_
          cases hcp1:r.hour.contains h2 with
          |false=>
           rw[hcp1,Bool.false_and] at hha
           rw[hha]
           simp only[go_sem,he,g0,g2,g42,hO2,hO3,hcl,hc.hour,hlH,hc.minute,hlMi,hc.second,hlSe,l1,aA]
          |true=>
           rw[hcp1,Bool.true_and] at hha
           rcases LL r.minute with ⟨l2,u2⟩|⟨l2,u2⟩
           ·have q2':K.aY r.minute m2=true:=by rw[u2];rfl
            rw[q2',Bool.true_and] at hha
            rcases LL r.second with ⟨l3,u3⟩|⟨l3,u3⟩
            ·have q3':K.aY r.second s2=true:=by rw[u3];rfl
             rw[q3'] at hha
             rw[hha]
             simp only[go_sem,he,g0,g2,g42,hO2,hO3,hcl,hc.hour,hlH,hc.minute,hlMi,hc.second,hlSe,l1,l2,l3,aA]
            ·have q3':K.aY r.second s2=r.second.contains s2:=by unfold K.aY;rw[NE _ u3,Bool.false_or]
             rw[q3'] at hha
             simp only[go_sem,he,g0,g2,g42,hO2,hO3,hcl,hc.hour,hlH,hc.minute,hlMi,hc.second,hlSe,l1,l2,l3,aA]
             refine aS (fun _=>bO r.second (by omega) s2 se _ (hSE2.more _)) ?_
             cases hcp3:r.second.contains s2 with
             |false=>
              rw[hcp3] at hha
              rw[hha]
              simp only[go_sem,he,g0,g2,g42,hO2,hO3,hcl,hc.hour,hlH,hc.minute,hlMi,hc.second,hlSe,l1,l2,l3,aA]
             |true=>
              rw[hcp3] at hha
              rw[hha]
              simp only[go_sem,he,g0,g2,g42,hO2,hO3,hcl,hc.hour,hlH,hc.minute,hlMi,hc.second,hlSe,l1,l2,l3,aA]
           ·have q2':K.aY r.minute m2=r.minute.contains m2:=by unfold K.aY;rw[NE _ u2,Bool.false_or]
            rw[q2'] at hha
            simp only[go_sem,he,g0,g2,g42,hO2,hO3,hcl,hc.hour,hlH,hc.minute,hlMi,hc.second,hlSe,l1,l2,aA]
            refine aS (fun _=>bO r.minute (by omega) m2 mi _ (hMI2.more _)) ?_
            cases hcp2:r.minute.contains m2 with
            |false=>
             rw[hcp2,Bool.false_and] at hha
             rw[hha]
             simp only[go_sem,he,g0,g2,g42,hO2,hO3,hcl,hc.hour,hlH,hc.minute,hlMi,hc.second,hlSe,l1,l2,aA]
            |true=>
             rw[hcp2,Bool.true_and] at hha
             rcases LL r.second with ⟨l3,u3⟩|⟨l3,u3⟩
             ·have q3':K.aY r.second s2=true:=by rw[u3];rfl
              rw[q3'] at hha
              rw[hha]
              simp only[go_sem,he,g0,g2,g42,hO2,hO3,hcl,hc.hour,hlH,hc.minute,hlMi,hc.second,hlSe,l1,l2,l3,aA]
             ·have q3':K.aY r.second s2=r.second.contains s2:=by unfold K.aY;rw[NE _ u3,Bool.false_or]
              rw[q3'] at hha
              simp only[go_sem,he,g0,g2,g42,hO2,hO3,hcl,hc.hour,hlH,hc.minute,hlMi,hc.second,hlSe,l1,l2,l3,aA]
              refine aS (fun _=>bO r.second (by omega) s2 se _ (hSE2.more _)) ?_
              cases hcp3:r.second.contains s2 with
              |false=>
               rw[hcp3] at hha
               rw[hha]
               simp only[go_sem,he,g0,g2,g42,hO2,hO3,hcl,hc.hour,hlH,hc.minute,hlMi,hc.second,hlSe,l1,l2,l3,aA]
              |true=>
               rw[hcp3] at hha
               rw[hha]
               simp only[go_sem,he,g0,g2,g42,hO2,hO3,hcl,hc.hour,hlH,hc.minute,hlMi,hc.second,hlSe,l1,l2,l3,aA]
        clear he g0 g2 g42
        rintro e hk' ⟨he,g0,g2,g42,g956,rfl⟩
        simp only[go_sem,he,g0,g2,g42,g956]
        refine aF (fun hy=>?_) fun hy=>?_
        ·simp only[go_sem,he,g0,g2,g42]
         exact⟨j,d+q3,h2,m2,s2,fx2,d,hh*3600+mm*60+ss,rfl,rfl,hg,hy,tm2,by rw[hof];exact htk,hfx2,by omega,by omega⟩
        ·simp only[go_sem,he,g0,g2,g42]
         refine⟨k2-1,by omega,j+1,d+q3,h2,m2,s2,fx2,rfl,rfl,hg.next heq hy,⟨by omega,by omega⟩,⟨by omega,by omega⟩,⟨by omega,by omega⟩,hfx2,by omega,by omega,by omega⟩
       ·clear he g0 g2 g42
        rintro e hk' ⟨he,g0,g2,j,d,hh,mm,ss,fx,dP,V,g42,rfl,hg,hok2,tm2,htk,hfx,d1,d2⟩
        have hf1':=hfill d hh mm ss (k+(j+1)) tm2 htk
        have hfi':=fun h' x' hT2=>hfin d hh mm ss fx j0 j V dP h' x' hg tm2 htk hok2 hfx d1 d2 hT2
        rw[hcE] at hf1' hfi' ⊢
        simp only[go_sem,he,g0,g2,g42]
        refine fT [] 22 bI (by kernel_rfl) (by kernel_rfl) (by kernel_rfl) ?_
        simp only[go_sem,he,g0,g2,g42,hO2,hO3,hcl,hc.freq]
        refine aI hf1' ?_
        rintro r' h' ⟨rfl,x',hT2⟩
        simp only[go_sem,he,g0,g2,g42,bL,aA]
        exact hfi' h' x' hT2
theorem YT.cast {h:aB} {I:It} {a b:Int} (t:YT h I a) (e:a=b):YT h I b:=e▸t
theorem j8.cast {h:aB} {I:It} {r:Ru} {a b:Int} (t:j8 h I r a) (e:a=b):j8 h I r b:=e▸t
theorem pG.cast {h:aB} {I:It} {r:Ru} {a b m m':Int} (t:pG h I r a m) (e:a=b) (e2:m=m'):pG h I r b m':=e▸e2▸t
set_option maxHeartbeats 8000000 in
theorem aMa {w0:World} {h1 hk:aB} {rr ob:Nat} {r:Ru} {sp mo p n yd wn bw nw ho mi se ea ts:AV} {I:It} {A T:List Int} {k':Nat} (hs:qO h1 r sp mo p n yd wn bw nw ho mi se ea ts) (hG:K.GP r) (q:ItQ h1 hk rr ob r sp mo p n yd wn bw nw ho mi se ea ts I A T) (hk1:1≤k') (hly:I.ly=I.year) (hlm:I.lm=I.month) (fx:Bool)
  (hpos:(r.freq<2∧fx=false∧K.At r k' I.year I.month I.day I.hour I.minute I.second I.weekday)∨(2≤r.freq∧K.Mv r k' I.year I.month I.day I.hour I.minute I.second I.weekday∧(fx=false→I.day≤aO I.year I.month)∧I.day≤200000))
  (e:Env) (he:len e=1418) (g0:AL.get e 0=.ptr ob 0) (g2:AL.get e 2=.ptr rr 0) (g42:AL.get e 42=vB fx) (Q:Exit→Env→aB→Prop)
  (hN:∀e' hk' I',len e'=1418→AL.get e' 0=.ptr ob 0→AL.get e' 2=.ptr rr 0→ItQ h1 hk' rr ob r sp mo p n yd wn bw nw ho mi se ea ts I' A T→Stp h1.length rr ob I hk I' hk'→pX I I'→K.At r k' I'.year I'.month I'.day I'.hour I'.minute I'.second I'.weekday→I'.ly=I'.year→I'.lm=I'.month→Q .normal (mk e' []) hk')
  (hR:∀e' hk' I',ItC h1 hk' rr ob r sp mo p n yd wn bw nw ho mi se ea ts I' A→I'.fin=true→Stp h1.length rr ob I hk I' hk'→K.rest r k'=[]→Q .ret e' hk') :
  cB prog (CB w0) aKT (mk e []) hk Q:=by
 have hw:=hG.toWP
 obtain⟨cs,hru,hc⟩:=q.rule
 have hcl:=hc.len
 have hne:=q.ne
 have hxI:∀I':It,I'.rr=.ptr rr 0→I'.cells=[vI I'.year,vI I'.month,vI I'.day,vI I'.hour,vI I'.minute,vI I'.second,vI I'.weekday,.ptr rr 0,vI I'.ly,vI I'.lm,vI I'.yl,vI I'.nyl,vI I'.fy,vI 0,vI I'.yw,I'.mm,I'.mr,I'.md,I'.nmd,I'.wd,I'.wno,I'.nwd,I'.ea,I'.ts,vI I'.tot,vI I'.cnt,I'.st,I'.bk,vB I'.fin,I'.ds]:=fun I' h=>by rw[←h];rfl
 have hob:=q.obj
 rw[hxI I q.ptr] at hob
 have hltB:=(List.getElem?_eq_some_iff.1 hob).1
 have hO2:∀Z,(hk.set ob Z)[ob]?=some Z:=fun Z=>List.getElem?_set_self hltB
 have hO3:∀Z,(hk.set ob Z)[rr]?=some (.own 112 cs):=fun Z=>by rw[List.getElem?_set_ne (fun e=>hne e.symm)];exact hru
 have hO4:∀Y Z,((hk.set ob Y).set rr Z)[ob]?=some Y:=fun Y Z=>by rw[List.getElem?_set_ne hne];exact hO2 Y
 have hput:∀v:AV,List.take 59 cs++v::List.drop 60 cs=cs.set 59 v:=fun v=>by rw[List.set_eq_take_append_cons_drop,if_pos (by omega)]
 have hself:hk.set ob (.own 122 I.cells)=hk:=by
  apply List.ext_getElem?
  intro z
  by_cases e:ob=z
  ·subst e;rw[List.getElem?_set_self hltB];exact q.obj.symm
  ·rw[List.getElem?_set_ne e]
 have hend:∀(I1:It),I1={I with year:=I1.year,month:=I1.month,day:=I1.day,hour:=I1.hour,minute:=I1.minute,second:=I1.second,weekday:=I1.weekday}→K.rest r k'=[]→∀e',Q .ret e' (((hk.set ob (.own 122 I1.cells)).set rr (.own 112 (cs.set 59 (vI I.tot)))).set ob (.own 122 {I1 with fin:=true}.cells)):=fun I1 h1' hr e'=>by
  have q1:=q.setI (I':=I1) (by rw[h1'])
  have q2:=q1.1.setL hc (vI I.tot)
  have q3:=q2.1.setI (I':={I1 with fin:=true}) rfl
  exact hR e' _ _ q3.1.toItC rfl ((q1.2.trans q2.2).trans q3.2) hr
 have hcE:=fun (y m d:Int)=>hxI {I with year:=y,month:=m,day:=d} q.ptr
 conv=>
  arg 3
  whnf
 refine fJ (fun e hk'=>len e=1418∧AL.get e 0=.ptr ob 0∧AL.get e 2=.ptr rr 0∧∃I':It,ItQ h1 hk' rr ob r sp mo p n yd wn bw nw ho mi se ea ts I' A T∧Stp h1.length rr ob I hk I' hk'∧pX I I'∧K.At r k' I'.year I'.month I'.day I'.hour I'.minute I'.second I'.weekday∧I'.ly=I'.year∧I'.lm=I'.month) ?_ fun e' hk' hJ=>by
  obtain⟨a1,a2,a3,I',a5,a6,a7,a8,a9,a10⟩:=hJ
  exact hN e' hk' I' a1 a2 a3 a5 a6 a7 a8 a9 a10
 have hstay:K.At r k' I.year I.month I.day I.hour I.minute I.second I.weekday→∃I':It,ItQ h1 hk rr ob r sp mo p n yd wn bw nw ho mi se ea ts I' A T∧Stp h1.length rr ob I hk I' hk∧pX I I'∧K.At r k' I'.year I'.month I'.day I'.hour I'.minute I'.second I'.weekday∧I'.ly=I'.year∧I'.lm=I'.month:=fun ha=>
  ⟨I,q,Stp.refl _ _ _ _ _,⟨rfl,rfl,rfl,rfl⟩,ha,hly,hlm⟩
 have hmd0:=bP I.year I.month
 simp only[go_sem,he,g0,g2,g42]
 refine bQ (fun e hk'=>len e=1418∧AL.get e 0=.ptr ob 0∧AL.get e 2=.ptr rr 0∧AL.get e 1330=vB (fx&&decide (28<I.day))∧hk'=hk) ?_ ?_
 ·cases fx with
  |true=>simp only[go_sem,he,g0,g2,g42,hob,Bool.true_and]
  |false=>simp only[go_sem,he,g0,g2,g42,hob,Bool.false_and]
 clear he g0 g2 g42
 rintro e hk' ⟨he,g0,g2,g1330,hkE⟩
 rw[hkE]
 simp only[go_sem,he,g0,g2,g1330]
 refine aF (fun hq=>?_) fun hq=>?_
 ·rw[Bool.and_eq_true,decide_eq_true_eq] at hq
  obtain⟨hfx,hd28⟩:=hq
  rcases hpos with ⟨_,h,_⟩|⟨hf2,hmv,-,hdb⟩
  ·rw[h] at hfx;cases hfx
  have hmo:=hmv.mo
  have hyr:=hmv.yr
  simp only[go_sem,he,g0,g2]
  refine bU [183] bI (by kernel_rfl) ?_
  simp only[go_sem,he,g0,g2,hob]
  refine aS (fun _=>aER I.month I.year hmo (by omega) _) ?_
  simp only[go_sem,he,g0,g2,hob,aA]
  refine aF (fun hq2=>?_) fun hq2=>?_
  ·have hq2:=odT hq2
   simp only[go_sem,he,g0,g2]
   refine bG I.day.toNat (fun k2 e hk'=>len e=1418∧AL.get e 0=.ptr ob 0∧AL.get e 2=.ptr rr 0∧∃(y m d:Int),AL.get e 51=vI (aO y m)∧hk'=hk.set ob (.own 122 {I with year:=y,month:=m,day:=d}.cells)∧K.Mv r k' y m d I.hour I.minute I.second I.weekday∧d.toNat=k2∧d≤200000) (fun e hk'=>len e=1418∧AL.get e 0=.ptr ob 0∧AL.get e 2=.ptr rr 0∧∃(y m d:Int),hk'=hk.set ob (.own 122 {I with year:=y,month:=m,day:=d}.cells)∧K.At r k' y m d I.hour I.minute I.second I.weekday) (by kernel_rfl) ?_ ?_ ?_
   ·simp only[go_sem,he,g0,g2]
    exact⟨I.year,I.month,I.day,rfl,hself.symm,hmv,rfl,hdb⟩
   ·clear he g0 g2 g1330
    rintro k2 e hk' ⟨he,g0,g2,y,m,d,g51,rfl,hmv,hdk,hdb⟩
    have hmo:=hmv.mo
    have hyr:=hmv.yr
    have hd1:=hmv.d1
    have hmd:=bP y m
    rw[hcE]
    simp only[go_sem,he,g0,g2,g51,hO2]
    refine aF (fun hq3=>?_) fun hq3=>?_
    ·have hq3:=odT hq3
     have w1:i64.wrap (d-aO y m)=d-aO y m:=aJ (by omega)
     have w2:i64.wrap (m+1)=m+1:=aJ (by omega)
     simp only[go_sem,he,g0,g2,g51,hO2,List.set_set,w1,w2]
     refine bC (fun e hk'=>len e=1418∧AL.get e 0=.ptr ob 0∧AL.get e 2=.ptr rr 0∧∃(y' m':Int),hk'=hk.set ob (.own 122 {I with year:=y',month:=m',day:=d-aO y m}.cells)∧K.Mv r k' y' m' (d-aO y m) I.hour I.minute I.second I.weekday) (fun hz=>?_) (fun hz=>?_) ?_
     ·have hz:=odT hz
      obtain rfl:m=12:=by omega
      have w3:i64.wrap (y+1)=y+1:=aJ (by omega)
      simp only[go_sem,he,g0,g2,g51,hO2,List.set_set,w3]
      refine aF (fun hy9=>?_) fun hy9=>?_
      ·have hy9:=odT hy9
       have hfin:=hend {I with year:=y+1,month:=1,day:=d-aO y 12} rfl (hmv.end12 hw hq3 hy9 hk1)
       rw[hxI {I with year:=y+1,month:=1,day:=d-aO y 12,fin:=true} q.ptr,hcE] at hfin
       simp only[go_sem,he,g0,g2,hru,hcl,hO2,hO3,hO4]
       rw[hput]
       exact hfin _
      ·have hy9:=odF hy9
       simp only[go_sem,he,g0,g2]
       exact⟨y+1,1,by rw[hcE],hmv.up12 hq3 (by omega)⟩
     ·have hz:=odF hz
      simp only[go_sem,he,g0,g2]
      exact⟨y,m+1,by rw[hcE],hmv.up hq3 (by omega)⟩
     clear he g0 g2 g51
     rintro e hk' ⟨he,g0,g2,y',m',rfl,hmv'⟩
     have hmo':=hmv'.mo
     have hyr':=hmv'.yr
     rw[hcE]
     simp only[go_sem,he,g0,g2]
     refine bU [183] bI (by kernel_rfl) ?_
     simp only[go_sem,he,g0,g2,hO2]
     refine aS (fun _=>aER m' y' hmo' (by omega) _) ?_
     simp only[go_sem,he,g0,g2,hO2,aA]
     exact⟨(d-aO y m).toNat,by omega,y',m',d-aO y m,rfl,by rw[hcE],hmv',rfl,by omega⟩
    ·have hq3:=odF hq3
     simp only[go_sem,he,g0,g2]
     exact⟨y,m,d,by rw[hcE],hmv.at (by omega)⟩
   ·clear he g0 g2 g1330
    rintro e hk' ⟨he,g0,g2,y,m,d,rfl,hat⟩
    have q1:=q.setI (I':={I with year:=y,month:=m,day:=d}) rfl
    have hrb:=wW (w0:=w0) {I with year:=y,month:=m,day:=d} ob rr h1 _ r cs ⟨q1.1.front,q1.1.obj,q1.1.ptr,hO3 _,q1.1.obB⟩ hc y m hat.yr hat.mo hG hs.wn hs.mo hs.nw hs.ea (fun e=>⟨q1.1.yt.cast e,q1.1.wno.cast e,fun e2=>q1.1.nwm.cast e e2⟩) ⟨fun e=>by
     rcases q1.1.nwm with h|h
     ·exact h.2
     ·exact absurd e h.1,fun e=>by
     rcases q1.1.eam with h|h
     ·exact h.2
     ·exact absurd e h.1⟩
    have hgo:∀(I2:It) (G:aB),aE9 ((hk.set ob (.own 122 {I with year:=y,month:=m,day:=d}.cells)).set ob (.own 122 I2.cells)++G) I2 r y m→({I with year:=y,month:=m,day:=d}:It).same I2→∃I':It,ItQ h1 ((hk.set ob (.own 122 {I with year:=y,month:=m,day:=d}.cells)).set ob (.own 122 I2.cells)++G) rr ob r sp mo p n yd wn bw nw ho mi se ea ts I' A T∧Stp h1.length rr ob I hk I' ((hk.set ob (.own 122 {I with year:=y,month:=m,day:=d}.cells)).set ob (.own 122 I2.cells)++G)∧pX I I'∧K.At r k' I'.year I'.month I'.day I'.hour I'.minute I'.second I'.weekday∧I'.ly=I'.year∧I'.lm=I'.month:=fun I2 G ht hsm=>by
     have q2:=q1.1.reb ht hsm
     unfold It.same at hsm
     have f1:I2.year=y:=by rw[hsm]
     have f2:I2.month=m:=by rw[hsm]
     refine⟨I2,q2.1,q1.2.trans q2.2,⟨by rw[hsm],by rw[hsm],by rw[hsm],by rw[hsm]⟩,?_,by rw[f1];exact ht.ly,by rw[f2];exact ht.lm⟩
     rw[hsm];exact hat
    rw[hcE] at hrb hgo ⊢
    simp only[go_sem,he,g0,g2]
    refine fT [] 11 bI (by kernel_rfl) (by kernel_rfl) (by kernel_rfl) ?_
    simp only[go_sem,he,g0,g2,hO2,hO3]
    refine aI hrb ?_
    rintro r' h' ⟨rfl,I2,G,rfl,ht,hsm⟩
    simp only[go_sem,he,g0,g2,bL,aA]
    exact hgo I2 G ht hsm
  ·have hq2:=odF hq2
   simp only[go_sem,he,g0,g2]
   exact hstay (hmv.at (by omega))
 ·simp only[go_sem,he,g0,g2]
  refine hstay ?_
  rcases hpos with ⟨_,_,h⟩|⟨hf2,hmv,h3,_⟩
  ·exact h
  ·cases hfx:fx with
   |false=>exact hmv.at (h3 hfx)
   |true=>
    rw[hfx,Bool.true_and] at hq
    have hq:=odF hq
    exact hmv.at (by omega)
end F
namespace AL
open Go.RowKit
theorem aBD {P:Program} {C:dC} {c:Code} {env:Env} {H:aB} {Q:Exit→Env→aB→Prop} (J:Env→aB→Prop) (h1:J env H) (h2:∀e h,J e h→cB P C c (mk e []) h Q):cB P C c env H Q:=h2 env H h1
end AL
namespace F
open Go.RowKit Go.Proofs.YtnoppodfngkoeaaGreat.AL
noncomputable def gq0:Code:=iF [0] fW
noncomputable def gq1:Code:=iF [1,0] fW
noncomputable def gq2:Code:=iF [1,1,0,0,0] fW
noncomputable def gq3:Code:=iF [1,1,0,0,1,0,0] fW
noncomputable def gq4:Code:=iF [1,1,0,0,1,0,1,0] fW
noncomputable def gq5:Code:=iF [1,1,0,0,1,0,1,1,0] fW
noncomputable def gq6:Code:=iF [1,1,0,0,1,0,1,1,1,0] fW
noncomputable def aSe:Code:=iF [1,1,0,0,1,0,1,1,1,1,1,0,0] fW
noncomputable def aSf:Code:=iF [1,1,0,0,1,0,1,1,1,1,1,1,0] fW
noncomputable def aHu:Code:=.seq gq3 (.seq gq4 (.seq gq5 (.seq gq6 (.seq aHs (.seq (.seq aSe (.cond (.tmp 367) aKR aKS)) (.seq aSf (.seq aO3 aKT)))))))
theorem aIQ:fW=.seq gq0 (.seq gq1 (.block 0 (.loop (.seq gq2 (.block 1 aHu))))):=rfl
def lO (r:Ru) (D T:List Int):List Int:=if r.setPos≠[]∧T≠[] then K.dU (K.dR D T) r.setPos else K.dR D T
def lE (r:Ru) (y m:Int) (s n:Nat):List (Int×Bool):=(List.range n).map fun j=>(((s+j:Nat):Int),K.dZ r y m (s+j))
theorem zB {r:Ru} {y m:Int} {s n:Nat} (h:∀j,j<n→K.dZ r y m (s+j)=K.eB r (aC y+((s+j:Nat):Int))):cV y (lE r y m s n)=(K.kF (aC y+s) (aC y+s+n-1)).filter (K.eB r):=by
 have e1:K.kF (aC y+s) (aC y+s+n-1)=(List.range n).map fun j:Nat=>aC y+((s+j:Nat):Int):=by
  unfold K.kF
  rw[show (aC y+s+n-1+1-(aC y+s)).toNat=n by omega]
  refine List.map_congr_left fun j _=>?_
  omega
 unfold cV lE
 rw[e1,List.filter_map,List.filter_map,List.map_map]
 have e2:(List.range n).filter ((fun d:Int×Bool=>d.2)∘fun j=>(((s+j:Nat):Int),K.dZ r y m (s+j)))=(List.range n).filter (K.eB r∘fun j:Nat=>aC y+((s+j:Nat):Int)):=by
  refine List.filter_congr fun j hj=>?_
  exact h j (List.mem_range.1 hj)
 rw[e2]
 rfl
structure aHv (r:Ru) (k:Nat) (y m d:Int) (s n:Nat):Prop where
 eq:j9 r y m d=((s:Int),((s+n:Nat):Int))
 n1:1≤n
 nl:n≤366
 hi:s+n≤K.aM (aR y)+7
 late:r.freq≠2→s+n≤K.aM (aR y)
 pk:∀j,j<n→K.dZ r y m (s+j)=K.eB r (aC y+((s+j:Nat):Int))
 per:K.z5 r k (lO r (cV y (lE r y m s n)) (cG r k))
 one:4≤r.freq→n=1∧aC y+(s:Int)=K.bK r k/86400
theorem aIR (l:List Int):K.dU l []=l:=by unfold K.dU;rw[if_pos rfl]
theorem aMb {r:Ru} (hG:K.GP r) {k:Nat} {y m d hh mi ss wd:Int} (ha:K.At r k y m d hh mi ss wd):∃s n:Nat,aHv r k y m d s n:=by
 have hw:=hG.toWP
 have hwk:=hw.wkst
 have hyr:=ha.yr
 have hmo:=ha.mo
 have hbn:=K.dB y (by omega)
 have hby:=z8 hyr
 have hyl:K.aM (aR y)=365∨K.aM (aR y)=366:=by cases aR y<;>simp[K.aM]
 have mk:∀s n:Nat,j9 r y m d=((s:Int),((s+n:Nat):Int))→1≤n→n≤366→s+n≤K.aM (aR y)+7→(r.freq≠2→s+n≤K.aM (aR y))→(r.freq=1→∀j,j<n→(aL (aC y+((s+j:Nat):Int))).1=m)→(r.freq<4→aC y+(s:Int)=K.bZ r k∧aC y+s+n-1=K.bV r k)→(4≤r.freq→n=1∧aC y+(s:Int)=K.bK r k/86400)→aHv r k y m d s n:=fun s n e1 e2 e2' e3 e4 e5 e6 e7=>by
  have hpk:∀j,j<n→K.dZ r y m (s+j)=K.eB r (aC y+((s+j:Nat):Int)):=fun j hj=>K.aEI hG (by omega) (by omega) (fun f=>by have:=e4 f;omega) fun f=>⟨hmo.1,hmo.2,e5 f j hj⟩
  refine⟨e1,e2,e2',e3,e4,hpk,?_,e7⟩
  have hdl:=zB hpk
  by_cases f4:r.freq<4
  ·obtain⟨b1,b2⟩:=e6 f4
   rw[b2,b1] at hdl
   have hp:=K.aKQ hG f4 k
   have e8:cG r k=K.times r:=by unfold cG;rw[if_pos f4]
   rw[hdl,e8]
   unfold K.aHq K.kW at hp
   unfold lO
   split
   ·exact hp
   ·rename_i hn
    by_cases hs:r.setPos=[]
    ·rw[hs,aIR] at hp;exact hp
    ·have ht:K.times r=[]:=Classical.byContradiction fun h=>hn ⟨hs,h⟩
     rw[ht] at hp ⊢
     have e9:∀D,K.dR D []=[]:=fun D=>by unfold K.dR;simp
     rw[e9] at hp ⊢
     have e10:K.dU [] r.setPos=[]:=by unfold K.dU;split<;>simp
     rw[e10] at hp;exact hp
  ·obtain⟨c1,c2⟩:=e7 (by omega)
   subst c1
   have hp:=K.aIL hG (by omega) k
   have hs:=(hG.small (by omega)).1
   have e8:lO r (cV y (lE r y m s 1)) (cG r k)=K.oD r k:=by
    unfold lO
    rw[if_neg (by rw[hs];simp),hdl,show aC y+(s:Int)+(1:Nat)-1=aC y+s by omega,c2]
    have e9:K.kF (K.bK r k/86400) (K.bK r k/86400)=[K.bK r k/86400]:=by
     rw[K.wB (Int.le_refl _),K.aEG (by omega)];rfl
    rw[e9]
    unfold K.oD cG
    rw[if_neg f4]
    cases h1:K.eB r (K.bK r k/86400) with
    |true=>
     rw[List.filter_cons_of_pos (by rw[h1]),List.filter_nil,Bool.true_and]
     unfold K.dR
     rw[List.flatMap_cons,List.flatMap_nil,List.append_nil]
     split
     ·rfl
     ·rfl
    |false=>
     rw[List.filter_cons_of_neg (by rw[h1];decide),List.filter_nil,Bool.false_and]
     rfl
   rw[e8];exact hp
 have hf6:=hw.freq
 by_cases f0:r.freq=0
 ·refine⟨0,K.aM (aR y),mk 0 _ ?_ (by omega) (by omega) (by omega) (fun _=>by omega) (fun f=>by omega) (fun _=>?_) fun f=>by omega⟩
  ·unfold j9;rw[if_pos f0,Nat.zero_add];rfl
  ·have e:=ha.y0 f0
   have hpf:K.bZ r k=aC y:=by
    unfold K.bZ K.aU;rw[if_neg (by omega),if_pos f0,←e]
   have hpl:K.bV r k=aC (y+1)-1:=by
    unfold K.bV;rw[if_pos f0,←e]
   rw[hpf,hpl]
   exact⟨by simp,by omega⟩
 by_cases f1:r.freq=1
 ·obtain⟨ey,em⟩:=ha.y1 f1
  have hml:=K.aB3 (y:=y) (show (m-1).toNat≤m.toNat by omega) (by omega)
  have hms:bA y ((m-1).toNat+1)=bA y (m-1).toNat+aO y (((m-1).toNat:Int)+1):=rfl
  rw[show (m-1).toNat+1=m.toNat by omega,show (((m-1).toNat:Nat):Int)+1=m by omega] at hms
  have hmd:=bP y m
  refine⟨(bA y (m-1).toNat).toNat,(aO y m).toNat,mk _ _ ?_ (by omega) (by omega) (by omega) (fun _=>by omega) (fun _ j hj=>?_) (fun _=>?_) fun f=>by omega⟩
  ·unfold j9;rw[if_neg f0,if_pos f1]
   refine Prod.ext ?_ ?_<;>simp only<;>omega
  ·have:=K.uD (y:=y) (by omega) (i:=(bA y (m-1).toNat).toNat+j) (by omega) hmo
   exact this.1 (by omega)
  ·have hpf:K.bZ r k=aC y+bA y (m-1).toNat:=by
    unfold K.bZ K.aU;rw[if_neg (by omega),if_neg f0,if_pos f1,←ey,←em]
   have hpl:K.bV r k=aC y+bA y (m-1).toNat+aO y m-1:=by
    unfold K.bV K.aU;rw[if_neg f0,if_pos f1,if_neg f0,if_pos f1,←ey,←em]
   rw[hpf,hpl]
   omega
 obtain⟨hdm,hdk⟩:=ha.dy (by omega)
 have hdn:=K.mB (y:=y) hmo ⟨ha.dd.1,hdm⟩
 obtain⟨s,hs⟩:∃s:Nat,K.bR y m d=aC y+s:=⟨(K.bR y m d-aC y).toNat,by omega⟩
 have hdkE:K.iS r k=aC y+s:=by omega
 by_cases f2:r.freq=2
 ·have hb:=K.nK (aC y%7) r.wkst s
  refine⟨s,(K.fV (aC y%7) r.wkst s).toNat,mk _ _ ?_ (by omega) (by omega) (by omega) (fun f=>absurd f2 f) (fun f=>by omega) (fun _=>?_) fun f=>by omega⟩
  ·unfold j9;rw[if_neg f0,if_neg f1,if_pos f2,hs,show aC y+(s:Int)-aC y=s by omega]
   refine Prod.ext rfl ?_
   simp only;omega
  ·unfold K.iS at hdkE
   rw[if_pos (by omega)] at hdkE
   refine⟨hdkE.symm,?_⟩
   have hrl:K.fV (aC y%7) r.wkst s=7-(K.bZ r k-r.wkst)%7:=by
    unfold K.fV;rw[hdkE];omega
   have hpl:K.bV r k=K.aU r k+6:=by unfold K.bV;rw[if_neg f0,if_neg f1,if_pos f2]
   have hwm:=K.zP hw f2 k
   rw[hpl]
   by_cases hk0:k=0
   ·have e1:K.bZ r k=r.start/86400:=by unfold K.bZ;rw[if_pos ⟨f2,hk0⟩]
    have e2:K.aU r k=r.start/86400-(r.start/86400%7-r.wkst+7)%7:=by
     rw[hk0];unfold K.aU
     rw[if_neg f0,if_neg f1,if_pos f2];simp
    omega
   ·have e1:K.bZ r k=K.aU r k:=by unfold K.bZ;rw[if_neg (by omega)]
    omega
 ·refine⟨s,1,mk _ _ ?_ (by omega) (by omega) (by omega) (fun _=>by omega) (fun f=>by omega) (fun f4=>?_) fun f4=>⟨rfl,?_⟩⟩
  ·unfold j9;rw[if_neg f0,if_neg f1,if_neg f2,hs,show aC y+(s:Int)-aC y=s by omega];rfl
  ·unfold K.iS at hdkE
   rw[if_pos f4] at hdkE
   refine⟨hdkE.symm,?_⟩
   have e1:K.bZ r k=K.aU r k:=by unfold K.bZ;rw[if_neg (by omega)]
   have hpl:K.bV r k=K.aU r k:=by unfold K.bV;rw[if_neg f0,if_neg f1,if_neg f2]
   omega
  ·unfold K.iS at hdkE
   rw[if_neg (by omega)] at hdkE
   exact hdkE.symm
theorem aRZ {r:Ru} (hw:K.WP r) {k:Nat} {y m d hh mi ss wd:Int} (ha:K.At r k y m d hh mi ss wd):K.dY r k<315537897600:=by
 have hyr:=ha.yr
 have hmo:=ha.mo
 have hb1:=K.cK (show y+1≤10000 by omega)
 have hb2:=K.oM
 have hbb:aC y<aC (y+1):=by have:=dQ y;split at this<;>omega
 have hmd:=bP y m
 unfold K.dY
 by_cases f4:r.freq<4
 ·rw[if_pos f4]
  by_cases f0:r.freq=0
  ·have e:=ha.y0 f0
   unfold K.aU;rw[if_pos f0,←e];omega
  by_cases f1:r.freq=1
  ·obtain⟨ey,em⟩:=ha.y1 f1
   have hdn:=K.mB (y:=y) (m:=m) (d:=1) hmo ⟨by omega,by omega⟩
   unfold K.bR at hdn
   unfold K.aU;rw[if_neg f0,if_pos f1,←ey,←em];omega
  ·obtain⟨hdm,hdk⟩:=ha.dy (by omega)
   have hdn:=K.mB (y:=y) hmo ⟨ha.dd.1,hdm⟩
   unfold K.iS at hdk
   rw[if_pos f4] at hdk
   have:=(K.yS hw k).1
   omega
 ·rw[if_neg f4]
  obtain⟨hdm,hdk⟩:=ha.dy (by omega)
  have hdn:=K.mB (y:=y) hmo ⟨ha.dd.1,hdm⟩
  unfold K.iS at hdk
  rw[if_neg f4] at hdk
  omega
theorem aIS {r:Ru} (hG:K.GP r) (k:Nat):∀t∈cG r k,0≤t∧t<86400:=by
 have hw:=hG.toWP
 intro t ht
 unfold cG at ht
 split at ht
 ·exact K.oZ hw t ht
 ·rename_i hf
  split at ht
  ·have hm:=K.nB hw hf k
   unfold K.fI at ht
   obtain⟨m,h1,h2⟩:=List.mem_flatMap.1 ht
   obtain⟨s,h3,rfl⟩:=List.mem_map.1 h2
   have a1:=(K.rH hw (K.bK r k) hm).2 m h1
   have a2:=(K.rI hw (K.bK r k) hm).2 s h3
   omega
  ·cases ht
def wZ (h1 h:aB) (rr ob:Nat) (r:Ru) (sp mo p n yd wn bw nw ho mi se ea ts:AV) (I:It) (L:List Int):Prop:=
 (I.fin=true∧ItC h1 h rr ob r sp mo p n yd wn bw nw ho mi se ea ts I L)∨∃P k,P≠[]∧ItR h1 h rr ob r sp mo p n yd wn bw nw ho mi se ea ts I P k∧L=P++K.left I.cnt (K.rest r k)
set_option maxHeartbeats 8000000 in
theorem aIT {w0:World} {h1 h:aB} {rr ob:Nat} {r:Ru} {sp mo p n yd wn bw nw ho mi se ea ts:AV} {I:It} {L:List Int} (hs:qO h1 r sp mo p n yd wn bw nw ho mi se ea ts) (hG:K.GP r) (hM:K.wG r) (hu:r.hasUntil=true) (ha:kN h1 h rr ob r sp mo p n yd wn bw nw ho mi se ea ts I L) :
  aH prog (CB w0) 149 [.ptr ob 0] h fun r' h'=>r'=.tup []∧∃I',wZ h1 h' rr ob r sp mo p n yd wn bw nw ho mi se ea ts I' L∧Stp h1.length rr ob I h I' h':=by
 have hw:=hG.toWP
 have hxI:∀I':It,I'.rr=.ptr rr 0→I'.cells=[vI I'.year,vI I'.month,vI I'.day,vI I'.hour,vI I'.minute,vI I'.second,vI I'.weekday,.ptr rr 0,vI I'.ly,vI I'.lm,vI I'.yl,vI I'.nyl,vI I'.fy,vI 0,vI I'.yw,I'.mm,I'.mr,I'.md,I'.nmd,I'.wd,I'.wno,I'.nwd,I'.ea,I'.ts,vI I'.tot,vI I'.cnt,I'.st,I'.bk,vB I'.fin,I'.ds]:=fun I' h=>by rw[←h];rfl
 have hc0:∃P,ItC h1 h rr ob r sp mo p n yd wn bw nw ho mi se ea ts I P:=by
  rcases ha with ⟨-,h⟩|⟨P,k,h,-⟩
  ·exact⟨_,h⟩
  ·exact⟨_,h.toItC⟩
 obtain⟨P0,hc0⟩:=hc0
 have hob:=hc0.obj
 rw[hxI I hc0.ptr] at hob
 refine aSi (N:=1418) (rs:=[]) Tryz.func149 ?_
 rintro e he ⟨g0,-⟩
 change cB prog (CB w0) fW _ _ _
 rw[aIQ]
 rw[gD]
 conv=>
  arg 3
  whnf
 rcases ha with ⟨hfin,hc⟩|⟨P,k,hr,hL⟩
 ·rw[hfin] at hob
  simp only[go_sem,he,g0,hob]
  exact⟨I,.inl ⟨hfin,hc⟩,Stp.refl _ _ _ _ _⟩
 ·rw[hr.fin] at hob
  simp only[go_sem,he,g0,hob]
  conv=>
   arg 3
   whnf
  simp only[go_sem,he,g0,hob]
  refine bG (315537897600-K.dY r k).toNat (fun n2 e hk=>len e=1418∧AL.get e 0=.ptr ob 0∧AL.get e 2=.ptr rr 0∧∃I' P k,ItR h1 hk rr ob r sp mo p n yd wn bw nw ho mi se ea ts I' P k∧Stp h1.length rr ob I h I' hk∧L=P++K.left I'.cnt (K.rest r k)∧n2=(315537897600-K.dY r k).toNat) (fun e hk=>len e=1418∧∃I',wZ h1 hk rr ob r sp mo p n yd wn bw nw ho mi se ea ts I' L∧Stp h1.length rr ob I h I' hk) (by kernel_rfl) ?_ ?_ ?_
  ·simp only[go_sem,he,g0]
   exact⟨I,P,k,hr,Stp.refl _ _ _ _ _,hL,rfl⟩
  ·clear he g0 hob hr hL P k
   rintro n2 e hk ⟨he,g0,g2,I',P,k,hr,hst,hL,hn2⟩
   have hob:=hr.obj
   rw[hxI I' hr.ptr] at hob
   have hst1:I'.st.one=true:=by
    rcases hr.pend with ⟨-,hx⟩|⟨-,o,k',m,cs0,e1,-⟩
    ·exact hx.one
    ·rw[e1];rfl
   have hbk1:I'.bk.one=true:=hr.bk1
   have hlst:lenK (some (.slice 78)) I'.st=some (vI P.length):=by
    rcases hr.pend with ⟨e1,hx⟩|⟨-,o,k',m,cs0,e1,-⟩
    ·rw[e1]
     rcases hx with ⟨e,_⟩|⟨o,cs0,e,_⟩<;>rw[e]<;>rfl
    ·rw[e1];rfl
   rw[gD]
   conv=>
    arg 3
    whnf
   simp only[go_sem,he,g0,g2,hob]
   refine aSh (aRN I'.st I'.bk hst1 hbk1 P.length hlst _) ?_
   simp only[go_sem,he,g0,g2,aA]
   refine aF (fun hq=>?_) fun hq=>?_
   ·have hq:=odT hq
    obtain rfl:P=[]:=List.length_eq_zero_iff.1 (by omega)
    simp only[go_sem,he,g0,g2]
    unfold aHu
    rw[gD]
    conv=>
     arg 3
     whnf
    obtain⟨cs,hru,hc⟩:=hr.rule
    have hcl:=hc.len
    have hat:=hr.at'
    obtain⟨s0,n0,sd⟩:=aMb hG hat
    have hyr:=hat.yr
    have hmo:=hat.mo
    have hly:=hr.lyE
    have hlm:=hr.lmE
    have hyt:∀G,YT (hk++G) I' I'.year:=fun G=>by
     have:=hr.yt.of (h':=hk++G) fun x l hx=>hx.more G
     rw[hly] at this;exact this
    have hcal:=fun G=>aRY (w0:=w0) I' ob rr (hk++G) r cs (aZ hr.obj) hr.ptr (aZ hru) hc I'.year I'.month I'.day hyr hmo (fun f=>⟨hat.dd.1,(hat.dy f).1⟩) hw.wkst (hyt G)
    rw[sd.eq] at hcal
    refine bU [176] bI (by kernel_rfl) ?_
    simp only[go_sem,he,g0,g2,hob,hru,hcl,hc.freq]
    refine aS (fun G=>hcal G) ?_
    simp only[go_sem,he,g0,g2,aA]
    conv=>
     arg 3
     whnf
    simp only[go_sem,he,g0,g2]
    obtain⟨dn0,dc0,hds,hdn0⟩:=hr.ds
    have hBh:h1.length≤hk.length:=by obtain⟨G,e⟩:=hr.front;rw[e,List.length_append];omega
    have hyl:K.aM (aR I'.year)=365∨K.aM (aR I'.year)=366:=by cases aR I'.year<;>simp[K.aM]
    have hfd:=aE0 (w0:=w0) I' ob h1.length hk hr.obj dn0 dc0 hds hBh hdn0 s0 (s0+n0) (by omega) (by have:=sd.hi;omega)
    rw[Nat.add_sub_cancel_left] at hfd
    refine aI hfd ?_
    rintro r' hk2 ⟨rfl,xd,hday⟩
    have q2:=hr.toItQ.day hday (by have:=sd.nl;omega)
    have hob2:=q2.1.obj
    rw[hxI {I' with ds:=xd} q2.1.ptr] at hob2
    have xd1:=hday.gr.one
    simp only[go_sem,he,g0,g2,bL,aA]
    conv=>
     arg 3
     whnf
    simp only[go_sem,he,g0,g2,hob2]
    conv=>
     arg 3
     whnf
    simp only[go_sem,he,g0,g2]
    obtain⟨I2,hI2⟩:∃I2,I2={I' with ds:=xd}:=⟨_,rfl⟩
    rw[←hI2] at q2
    have hst2:=hst.trans q2.2
    refine aBD (fun e hk=>len e=1418∧AL.get e 0=.ptr ob 0∧AL.get e 2=.ptr rr 0∧AL.get e 5=xd∧AL.get e 6=vB false∧hk=hk2) ?_ ?_
    ·simp only[go_sem,he,g0,g2]
    clear he g0 g2
    rintro e hk3 ⟨he,g0,g2,g5,g6,rfl⟩
    have hI2y:I2.year=I'.year:=by rw[hI2]
    have hI2m:I2.month=I'.month:=by rw[hI2]
    have hall:(nH s0 n0).length=n0:=by unfold nH;simp
    have gs0:GSt h1 hk3 hk3 rr ob r sp mo p n yd wn bw nw ho mi se ea ts I2 I2 xd (nH s0 n0) [] (cG r k):=by
     refine⟨q2.1,?_,by rw[hall];exact hday.gr,Stp.refl _ _ _ _ _,rfl⟩
     rcases q2.1.pend with ⟨-,hx⟩|⟨h,-⟩
     ·exact hx
     ·exact absurd rfl h
    have hdl:(List.range n0).map (fun j=>(((s0+j:Nat):Int),K.dZ r I'.year I2.lm (s0+j)))=lE r I'.year I'.month s0 n0:=by
     rw[hI2];unfold lE;rw[hlm]
    refine aKV (y:=I'.year) hs hG s0 n0 gs0 (by rw[hI2]) (by rw[hI2];exact hly) hyr sd.hi sd.late e he g0 g2 g5 g6 _ ?_
    rw[hdl]
    clear he g0 g2 g5 g6
    intro e hk4 he g0 g2 g5 g6 gs
    obtain⟨fl,hfl⟩:∃fl:Bool,fl=(List.range n0).any fun j=>!K.dZ r I'.year I2.lm (s0+j):=⟨_,rfl⟩
    rw[←hfl] at g6
    obtain⟨l,hl⟩:∃l,l=lE r I'.year I'.month s0 n0:=⟨_,rfl⟩
    rw[←hl] at gs
    have hper:=sd.per
    rw[←hl] at hper
    have hll:l.length=n0:=by rw[hl];unfold lE;simp
    have gi:aIN r k I'.year I2.cnt l (cG r k) (lO r (cV I'.year l) (cG r k)):=by
     refine⟨hG,hu,hper,?_,by have:=sd.nl;omega,hyr,aIS hG k,hr.tl,by rw[hI2];exact hr.cnt⟩
     intro d hd
     rw[hl] at hd
     unfold lE at hd
     obtain⟨j,hj,rfl⟩:=List.mem_map.1 hd
     have:=List.mem_range.1 hj
     have:=sd.hi
     simp only
     omega
    have hfy:I2.fy=aC I'.year*86400:=by rw[hI2];exact (hr.yt).fy.trans (by rw[hly])
    have hfin2:I2.fin=false:=by rw[hI2];exact hr.fin
    have hcnt2:I2.cnt=I'.cnt:=by rw[hI2]
    rw[List.nil_append] at hL
    rw[iW,gD,gD]
    conv=>
     arg 3
     whnf
    obtain⟨cs4,hru4,hc4⟩:=gs.q.rule
    have hcl4:=hc4.len
    have hob4:=gs.q.obj
    rw[hxI I2 gs.q.ptr] at hob4
    have hlsp:lenK (some (.slice 3)) sp=some (vI r.setPos.length):=hs.sp.len 3
    have sp1:=hs.sp.one
    have hts:=gs.q.times hs
    have hlts:lenK (some (.slice 78)) I2.ts=some (vI (cG r k).length):=hts.len 78
    have ts1:=hts.one
    simp only[go_sem,he,g0,g2,hru4,hcl4,hc4.setPos,hlsp]
    refine bQ (fun e hk=>len e=1418∧AL.get e 0=.ptr ob 0∧AL.get e 2=.ptr rr 0∧AL.get e 5=xd∧AL.get e 6=vB fl∧AL.get e 367=vB (!(decide ((r.setPos.length:Int)=0))&&!(decide (((cG r k).length:Int)=0)))∧hk=hk4) ?_ ?_
    ·by_cases b1:(r.setPos.length:Int)=0
     ·have d1:decide ((r.setPos.length:Int)=0)=true:=dcT b1
      simp only[go_sem,he,g0,g2,g5,g6,hob4,hlts,d1,Bool.not_true,Bool.false_and]
     ·have d1:decide ((r.setPos.length:Int)=0)=false:=dcF b1
      simp only[go_sem,he,g0,g2,g5,g6,hob4,hlts,d1,Bool.not_false,Bool.true_and]
    clear he g0 g2 g5 g6
    rintro e hk4' ⟨he,g0,g2,g5,g6,g367,hkE⟩
    rw[hkE];clear hkE
    simp only[go_sem,he,g0,g2,g5,g6,g367]
    have hret:∀(e':Env) (h':aB) (I6:It),ItC h1 h' rr ob r sp mo p n yd wn bw nw ho mi se ea ts I6 (K.left I2.cnt (K.rest r k))→I6.fin=true→Stp h1.length rr ob I2 hk3 I6 h'→∃I',wZ h1 h' rr ob r sp mo p n yd wn bw nw ho mi se ea ts I' L∧Stp h1.length rr ob I h I' h':=fun e' h' I6 c f st=>by
     refine⟨I6,.inl ⟨f,?_⟩,hst2.trans st⟩
     rw[hL,←hcnt2];exact c
    refine bC (fun e hk=>len e=1418∧AL.get e 0=.ptr ob 0∧AL.get e 2=.ptr rr 0∧AL.get e 6=vB fl∧∃I5 A,GSt h1 hk3 hk rr ob r sp mo p n yd wn bw nw ho mi se ea ts I2 I5 xd l A (cG r k)∧K.Did r I2.cnt (lO r (cV I'.year l) (cG r k)) A I5.cnt) (fun hq=>?_) (fun hq=>?_) ?_
    ·have hsp0:r.setPos≠[]:=fun e=>by rw[e] at hq;simp at hq
     have hT0:cG r k≠[]:=fun e=>by rw[e] at hq;simp at hq
     have hLk:lO r (cV I'.year l) (cG r k)=K.dU (K.dR (cV I'.year l) (cG r k)) r.setPos:=by unfold lO;rw[if_pos ⟨hsp0,hT0⟩]
     have f4:r.freq<4:=Classical.byContradiction fun f=>hsp0 (hG.small (by omega)).1
     have hasc:K.Asc (K.dR (cV I'.year l) (cG r k)):=by
      have e8:cG r k=K.times r:=by unfold cG;rw[if_pos f4]
      rw[e8,hl,zB sd.pk]
      exact K.uA hw (K.gV _ (K.t7 _ _))
     refine aL9 hs gi hLk hasc hsp0 hT0 gs hfy hfin2 e he g0 g2 g5 (vB fl) g6 _ ?_ ?_
     ·intro e' hk' I5 A a1 a2 a3 a4 a5 a6
      rw[mT]
      exact⟨a1,a2,a3,a4,I5,A,a5,a6⟩
     ·intro e' hk' I6 a1 a2 a3
      have:=hret e' hk' I6 a1 a2 a3
      simp only[go_sem]
      exact this
    ·have hLk:lO r (cV I'.year l) (cG r k)=K.dR (cV I'.year l) (cG r k):=by
      unfold lO
      rw[if_neg]
      rintro ⟨h1,h2⟩
      have b1:decide ((r.setPos.length:Int)=0)=false:=dcF fun e=>h1 (List.length_eq_zero_iff.1 (by omega))
      have b2:decide (((cG r k).length:Int)=0)=false:=dcF fun e=>h2 (List.length_eq_zero_iff.1 (by omega))
      rw[b1,b2] at hq
      cases hq
     refine aL8 hs gi hLk gs hfy hfin2 e he g0 g2 g5 (vB fl) g6 _ ?_ ?_
     ·intro e' hk' I5 A a1 a2 a3 a4 a5 a6
      rw[mT]
      exact⟨a1,a2,a3,a4,I5,A,a5,a6⟩
     ·intro e' hk' I6 a1 a2 a3
      have:=hret e' hk' I6 a1 a2 a3
      simp only[go_sem]
      exact this
    clear he g0 g2 g5 g6 g367
    rintro e hk5 ⟨he,g0,g2,g6,I5,A,gs5,hd5⟩
    have hsm:=gs5.same
    have hall5:=K.aPQ hw sd.per (by rw[←hl];exact hd5)
    rw[iW,gD]
    conv=>
     arg 3
     whnf
    simp only[go_sem,he,g0,g2]
    refine aBD (fun e hk=>len e=1418∧AL.get e 0=.ptr ob 0∧AL.get e 2=.ptr rr 0∧AL.get e 6=vB fl∧AL.get e 42=vB false∧hk=hk5) ?_ ?_
    ·simp only[go_sem,he,g0,g2,g6]
    clear he g0 g2 g6
    rintro e hk5' ⟨he,g0,g2,g6,g42,hkE⟩
    rw[hkE];clear hkE
    have f1:I5.year=I'.year:=by rw[hsm,hI2]
    have f2:I5.month=I'.month:=by rw[hsm,hI2]
    have hat5:K.At r k I5.year I5.month I5.day I5.hour I5.minute I5.second I5.weekday:=by rw[hsm,hI2];exact hat
    have hfl4:4≤r.freq→fl=!K.eB r (K.bK r k/86400):=fun f=>by
     obtain⟨c1,c2⟩:=sd.one f
     have hp:=sd.pk 0 (by omega)
     have e1:I2.lm=I'.month:=by rw[hI2];exact hlm
     rw[hfl,c1,e1]
     simp only[List.range_succ,List.range_zero,List.nil_append,List.any_cons,List.any_nil,Bool.or_false]
     rw[hp,Nat.add_zero,c2]
    have hst5:=hst2.trans gs5.stp
    refine aPS hs hG hM gs5.q rfl hat5 (by rw[f1,hsm,hI2];exact hly) (by rw[f2,hsm,hI2];exact hlm) e he g0 g2 fl g6 hfl4 g42 _ ?_ ?_
    ·clear he g0 g2 g6 g42
     intro e hk6 I6 T6 fx k' he g0 g2 g42 q6 st6 mv6 on6
     rw[iW]
     refine aMa hs hG q6 (by have:=on6.le;omega) on6.ly on6.lm fx on6.pos e he g0 g2 g42 _ ?_ ?_
     ·clear he g0 g2 g42
      intro e hk7 I7 he g0 g2 q7 st7 mv7 at7 ly7 lm7
      simp only[go_sem]
      have hlow:=aRZ hw hat
      have hmono:=K.nA hw k (k'-k)
      rw[show k+(k'-k)=k' by have:=on6.le;omega] at hmono
      have hk':=on6.le
      refine⟨(315537897600-K.dY r k').toNat,by omega,he,g0,g2,I7,A,k',⟨?_,?_,at7,ly7,lm7,?_⟩,hst5.trans (st6.trans st7),?_,rfl⟩
      ·rw[←on6.tim];exact q7
      ·rw[mv7.fin,mv6.fin,hsm,hI2];exact hr.fin
      ·rw[mv7.cnt,mv6.cnt]
       have:=K.aIK hd5
       rcases hd5.eC with ⟨b1,b2⟩|⟨b1,b2,b3⟩
       ·omega
       ·have:=hr.cnt;rw[hcnt2] at b3;omega
      ·rw[mv7.cnt,mv6.cnt,hL,←hcnt2,hall5,on6.rest]
     ·intro e' hk' I8 a1 a2 a3 a4
      have hLE:L=A:=by rw[hL,←hcnt2,hall5,on6.rest,a4,K.aFa,List.append_nil]
      have:∃I',wZ h1 hk' rr ob r sp mo p n yd wn bw nw ho mi se ea ts I' L∧Stp h1.length rr ob I h I' hk':=⟨I8,.inl ⟨a2,by rw[hLE];exact a1⟩,hst5.trans (st6.trans a3)⟩
      simp only[go_sem]
      exact this
    ·intro e' hk' I8 a1 a2 a3 a4
     have hLE:L=A:=by rw[hL,←hcnt2,hall5,a4,K.aFa,List.append_nil]
     have:∃I',wZ h1 hk' rr ob r sp mo p n yd wn bw nw ho mi se ea ts I' L∧Stp h1.length rr ob I h I' hk':=⟨I8,.inl ⟨a2,by rw[hLE];exact a1⟩,hst5.trans a3⟩
     simp only[go_sem]
     exact this
   ·have hq:=odF hq
    have hP:P≠[]:=fun e=>hq (by rw[e];rfl)
    simp only[go_sem,he,g0,g2]
    exact⟨I',.inr ⟨P,k,hP,hr,hL⟩,hst⟩
  ·clear he g0 hob hr hL
   rintro e hk ⟨he,hJ⟩
   simp only[go_sem,he]
   exact hJ
theorem aR0 {w0:World} (I:It) (ob B:Nat) (h:aB) (hob:h[ob]?=some (.own 122 I.cells)) (t:Int) (P:List Int) (hp:oB B h I.st I.bk (t::P)) (hl:P.length≤1000000) :
  aH prog (CB w0) 150 [.ptr ob 26] h fun r h'=>r=.tup [vT t,vB true]∧∃st' G,h'=h.set ob (.own 122 {I with st:=st'}.cells)++G∧oB B h' st' I.bk P∧∀q,stb st' q→stb I.st q:=by
 unfold It.cells at hob
 rcases hp with ⟨h0,-⟩|⟨-,o,k,m,cs0,hst,hbk,hBo,ho,hm,hcs,hle⟩
 ·cases h0
 refine aSi (N:=40) (rs:=[.cell 2 78,.tmp 3]) Tryz.func150 ?_
 rintro e he ⟨g0,-⟩
 have hob2:=aZ (G:=[.own 78 [vI 0,vI 0]]) hob
 rw[hst,hbk] at hob2
 have d1:decide (((P.length+1:Nat):Int)=0)=false:=dcF (by omega)
 have ho2:=aZ (G:=[.own 78 [vI 0,vI 0]]) ho
 simp only[List.length_cons] at hle hcs
 have hcs2:(cs0.drop (k*2)).take 2=[vI t,vI 0]:=by
  have e1:(cs0.drop (k*2)).take 2=((cs0.drop (k*2)).take ((P.length+1)*2)).take 2:=by rw[List.take_take,Nat.min_eq_left (by omega)]
  rw[e1,hcs];rfl
 have ek:(k+1)*2=k*2+2:=by omega
 have hcs3:(cs0.drop (k*2+2)).take (P.length*2)=bE P:=by
  have e1:(cs0.drop (k*2+2)).take (P.length*2)=(((cs0.drop (k*2)).take ((P.length+1)*2)).drop 2):=by
   rw[List.drop_take,List.drop_drop]
   congr 1
   omega
  rw[e1,hcs];rfl
 have hlt:=(List.getElem?_eq_some_iff.1 hob).1
 have hltn:ob≠h.length:=by omega
 have hob4:(h++[aD.own 78 [vI t,vI 0]])[ob]?=h[ob]?:=cZ hlt
 have hob3:=hob
 rw[hst,hbk] at hob3
 have hA:∀y z:aD,(h++[z]).set ob y=h.set ob y++[z]:=fun y z=>List.set_append_left _ _ hlt
 have hl2:∀y:aD,(h.set ob y).length=h.length:=fun y=>List.length_set
 have hS:∀y z:aD,(h.set ob y++[z])[ob]?=some y:=fun y z=>by rw[cZ (by rw[hl2];exact hlt),List.getElem?_set_self hlt]
 have hS2:∀y z y':aD,(h.set ob y++[z]).set ob y'=h.set ob y'++[z]:=fun y z y'=>by rw[List.set_append_left _ _ (by rw[hl2];exact hlt),List.set_set]
 have hN:∀y z:aD,(h.set ob y++[z])[h.length]?=some z:=fun y z=>by
  have:=bB (H:=h.set ob y) (l:=[z])
  rw[hl2] at this
  rw[this];rfl
 have hN2:∀y z w:aD,(h.set ob y++[z]).set h.length w=h.set ob y++[w]:=fun y z w=>by
  have:=qZ (H:=h.set ob y) (l:=[z]) (x:=w)
  rw[hl2] at this
  rw[this];rfl
 have hone:ob≠o:=by rintro rfl;rw[hob3] at ho;simp at ho
 simp only[go_sem,he,g0,hob2,d1,List.length_cons,List.replicate]
 refine vP [] 10 12 [0,1,2,3,4,5,6,7,8,9,10,11,12,13,14,15] [0,1,2,3,4,5,6,12,7,8,9,10,11,13,14,15] bI (by kernel_rfl) (by kernel_rfl) rfl (by kernel_rfl) (by kernel_rfl) ?_ ?_
 all_goals
  simp only[go_sem,he,g0,hob2,ho2,hcs2,List.length_cons,hob4,hob3,hA,hS,hN,hN2,Nat.add_sub_cancel]
  refine⟨by omega,by omega,Nat.le_refl _,?_⟩
  refine aF (fun hc=>?_) fun hc=>?_
  ·have hc:=odT hc
   obtain rfl:P=[]:=List.length_eq_zero_iff.1 (by omega)
   simp only[go_sem,he,g0,hA,hS,hS2,hN,hN2]
   refine⟨by omega,.sl true o 0 0 2,[.own 78 [vI t,vI 0]],by rw[←hbk];rfl,.inl ⟨rfl,.inr ⟨o,cs0,rfl,hBo,?_,by simp,by omega⟩⟩,fun q hq=>by obtain⟨a,b,c,e⟩:=hq;cases e;exact⟨_,_,_,hst⟩⟩
   rw[cZ (by rw[hl2];exact (List.getElem?_eq_some_iff.1 ho).1),List.getElem?_set_ne hone];exact ho
  ·have hc:=odF hc
   simp only[go_sem,he,g0,hA,hS,hS2,hN,hN2]
   refine⟨.sl true o ((k+1)*2) P.length 2,[.own 78 [vI t,vI 0]],by rw[ek,←hbk];rfl,.inr ⟨fun h=>hc (by rw[h];rfl),o,k+1,m,cs0,rfl,hbk,hBo,?_,hm,by rw[ek];exact hcs3,by omega⟩,fun q hq=>by obtain⟨a,b,c,e⟩:=hq;cases e;exact⟨_,_,_,hst⟩⟩
   rw[cZ (by rw[hl2];exact (List.getElem?_eq_some_iff.1 ho).1),List.getElem?_set_ne hone];exact ho
section
variable {h1 h:aB} {rr ob:Nat} {r:Ru} {sp mo p n yd wn bw nw ho mi se ea ts:AV} {I:It} {P P' T:List Int} {st':AV} {G:aB}
theorem ItC.pop (c:ItC h1 h rr ob r sp mo p n yd wn bw nw ho mi se ea ts I P) (hp:oB h1.length (h.set ob (.own 122 {I with st:=st'}.cells)++G) st' I.bk P') (hq:∀q,stb st' q→stb I.st q) (hl:P'.length≤P.length) :
  ItC h1 (h.set ob (.own 122 {I with st:=st'}.cells)++G) rr ob r sp mo p n yd wn bw nw ho mi se ea ts {I with st:=st'} P'∧Stp h1.length rr ob I h {I with st:=st'} (h.set ob (.own 122 {I with st:=st'}.cells)++G)∧cR (fun x=>x=ob) h (h.set ob (.own 122 {I with st:=st'}.cells)++G):=by
 obtain⟨G0,hG⟩:=c.front
 obtain⟨cs0,hr0,hc0⟩:=c.rule
 obtain⟨n0,c0,hx0,hn0⟩:=c.ds
 have hlt:=(List.getElem?_eq_some_iff.1 c.obj).1
 have hK:cR (fun x=>x=ob) h (h.set ob (.own 122 {I with st:=st'}.cells)++G):=fun x y hx hn=>by
  refine aZ ?_
  rw[List.getElem?_set_ne (fun e=>hn e.symm)];exact hx
 have hob:(h.set ob (.own 122 {I with st:=st'}.cells)++G)[ob]?=some (.own 122 {I with st:=st'}.cells):=aZ (List.getElem?_set_self hlt)
 have hlen:h.length≤(h.set ob (.own 122 {I with st:=st'}.cells)++G).length:=by simp
 generalize h.set ob (.own 122 {I with st:=st'}.cells)++G=hk at *
 have hty:∀(x:Nat) t cs,h[x]?=some (.own t cs)→t≠122→¬(x=ob):=fun x t cs hx n1=>by
  rintro rfl
  rw[c.obj] at hx;cases hx;exact n1 rfl
 have hfr:∃G',hk=h1++G':=by
  have hK2:=hK
  rw[hG] at hK2
  exact hK2.front fun x hx=>by rw[hx];exact c.obB
 have hpl:=c.pl
 refine⟨⟨hfr,hob,c.ptr,⟨cs0,hK _ _ hr0 (hty _ _ _ hr0 (by decide)),hc0⟩,c.obB,c.rrB,hp,⟨n0,c0,?_,hn0⟩,by omega,c.bk1,fun x hx=>Nat.lt_of_lt_of_le (c.tsl x hx) hlen⟩,⟨hlen,hK.mono fun x hx=>.inr (.inl hx),?_⟩,hK⟩
 ·exact hx0.keep hK fun x hb=>by
   obtain⟨-,-,cs,hc⟩:=hx0.low hb
   exact hty x _ cs hc (by decide)
 ·rintro y (hx|hx|hx|hx|hx)
  ·exact .inl (.inl hx)
  ·exact .inl (.inr (.inl hx))
  ·exact .inl (.inr (.inr (.inl hx)))
  ·exact .inl (.inr (.inr (.inr (.inl hx))))
  ·exact .inl (.inr (.inr (.inr (.inr (hq y hx)))))
theorem ItR.pop {k:Nat} (q:ItR h1 h rr ob r sp mo p n yd wn bw nw ho mi se ea ts I P k) (hp:oB h1.length (h.set ob (.own 122 {I with st:=st'}.cells)++G) st' I.bk P') (hq:∀q,stb st' q→stb I.st q) (hl:P'.length≤P.length) :
  ItR h1 (h.set ob (.own 122 {I with st:=st'}.cells)++G) rr ob r sp mo p n yd wn bw nw ho mi se ea ts {I with st:=st'} P' k:=by
 obtain⟨a,b,hK⟩:=q.toItC.pop hp hq hl
 have hty:∀(x:Nat) t cs,h[x]?=some (.own t cs)→t≠122→¬(x=ob):=fun x t cs hx n1=>by
  rintro rfl
  rw[q.obj] at hx;cases hx;exact n1 rfl
 have hints:∀x l,bW h x l→bW (h.set ob (.own 122 {I with st:=st'}.cells)++G) x l:=fun x l hx=>hx.keep hK fun p cs hp=>hty p _ cs hp (by decide)
 have hyt:=q.yt.of hints
 refine⟨⟨a,⟨hyt.yl,hyt.nyl,hyt.fy,hyt.yw,hyt.mm,hyt.mr,hyt.md,hyt.nmd,hyt.wd⟩,q.wno.of hints,q.nwm.of hints,q.eam.of hints,q.ts4,fun f=>?_,fun f x hx hs=>q.sep f x hx (hq x hs),q.tl⟩,q.fin,q.at',q.lyE,q.lmE,q.cnt⟩
 exact (q.ts5 f).keep hK fun x hb=>by
  obtain⟨-,-,cs,hc⟩:=(q.ts5 f).low hb
  exact hty x _ cs hc (by decide)
end
section
variable {h1 h hk:aB} {rr ob:Nat} {r:Ru} {sp mo p n yd wn bw nw ho mi se ea ts:AV} {I:It} {P L:List Int} {S:Nat→Prop}
theorem i7.low (c:ItC h1 h rr ob r sp mo p n yd wn bw nw ho mi se ea ts I P) {q:Nat} (hq:i7 I h1.length rr ob q):q<h.length:=by
 obtain⟨cs,hr,-⟩:=c.rule
 obtain⟨n0,c0,hx,-⟩:=c.ds
 rcases hq with rfl|rfl|⟨-,hb⟩|hb|hb
 ·exact (List.getElem?_eq_some_iff.1 hr).1
 ·exact (List.getElem?_eq_some_iff.1 c.obj).1
 ·exact c.tsl q hb
 ·exact (hx.low hb).2.1
 ·exact (c.pend.low hb).2.1
theorem ItC.other (c:ItC h1 h rr ob r sp mo p n yd wn bw nw ho mi se ea ts I P) (hK:cR S h hk) (hlen:h.length≤hk.length) (hS:∀q,S q→h1.length≤q∧¬i7 I h1.length rr ob q∧∀cs,h[q]?≠some (.own 3 cs)) :
  ItC h1 hk rr ob r sp mo p n yd wn bw nw ho mi se ea ts I P:=by
 obtain⟨G0,hG⟩:=c.front
 obtain⟨cs0,hr0,hc0⟩:=c.rule
 obtain⟨n0,c0,hx0,hn0⟩:=c.ds
 have hfr:∃G',hk=h1++G':=by
  have hK2:=hK
  rw[hG] at hK2
  exact hK2.front fun x hx=>(hS x hx).1
 refine⟨hfr,hK _ _ c.obj fun h=>(hS _ h).2.1 (.inr (.inl rfl)),c.ptr,⟨cs0,hK _ _ hr0 fun h=>(hS _ h).2.1 (.inl rfl),hc0⟩,c.obB,c.rrB,c.pend.keep hK fun q hq h=>(hS _ h).2.1 (.inr (.inr (.inr (.inr hq)))),⟨n0,c0,hx0.keep hK fun q hq h=>(hS _ h).2.1 (.inr (.inr (.inr (.inl hq)))),hn0⟩,c.pl,c.bk1,fun x hx=>Nat.lt_of_lt_of_le (c.tsl x hx) hlen⟩
theorem ItR.other {k:Nat} (q:ItR h1 h rr ob r sp mo p n yd wn bw nw ho mi se ea ts I P k) (hK:cR S h hk) (hlen:h.length≤hk.length) (hS:∀q,S q→h1.length≤q∧¬i7 I h1.length rr ob q∧∀cs,h[q]?≠some (.own 3 cs)) :
  ItR h1 hk rr ob r sp mo p n yd wn bw nw ho mi se ea ts I P k:=by
 have hints:∀x l,bW h x l→bW hk x l:=fun x l hx=>hx.keep hK fun p cs hp h=>(hS p h).2.2 cs hp
 refine⟨⟨q.toItC.other hK hlen hS,q.yt.of hints,q.wno.of hints,q.nwm.of hints,q.eam.of hints,q.ts4,fun f=>?_,q.sep,q.tl⟩,q.fin,q.at',q.lyE,q.lmE,q.cnt⟩
 exact (q.ts5 f).keep hK fun x hb h=>(hS _ h).2.1 (.inr (.inr (.inl ⟨((q.ts5 f).low hb).1,hb⟩)))
theorem kN.other (a:kN h1 h rr ob r sp mo p n yd wn bw nw ho mi se ea ts I L) (hK:cR S h hk) (hlen:h.length≤hk.length) (hS:∀q,S q→h1.length≤q∧¬i7 I h1.length rr ob q∧∀cs,h[q]?≠some (.own 3 cs)) :
  kN h1 hk rr ob r sp mo p n yd wn bw nw ho mi se ea ts I L:=by
 rcases a with ⟨f,c⟩|⟨P,k,q,e⟩
 ·exact .inl ⟨f,c.other hK hlen hS⟩
 ·exact .inr ⟨P,k,q.other hK hlen hS,e⟩
theorem kN.itc (a:kN h1 h rr ob r sp mo p n yd wn bw nw ho mi se ea ts I L):∃P,ItC h1 h rr ob r sp mo p n yd wn bw nw ho mi se ea ts I P:=by
 rcases a with ⟨f,c⟩|⟨P,k,q,e⟩
 ·exact⟨_,c⟩
 ·exact⟨_,q.toItC⟩
theorem kN.more (a:kN h1 h rr ob r sp mo p n yd wn bw nw ho mi se ea ts I L) (G:aB):kN h1 (h++G) rr ob r sp mo p n yd wn bw nw ho mi se ea ts I L:=
 a.other (S:=fun _=>False) (cR.app _ _ _) (by simp) fun _ h=>h.elim
end
def aIU:List Int→AV
 |[]=>.tup [vT 0,vB false]
 |t::_=>.tup [vT t,vB true]
theorem aR1 {w0:World} {h1 h:aB} {rr ob:Nat} {r:Ru} {sp mo p n yd wn bw nw ho mi se ea ts:AV} {I:It} {L:List Int} (hs:qO h1 r sp mo p n yd wn bw nw ho mi se ea ts) (hG:K.GP r) (hM:K.wG r) (hu:r.hasUntil=true) (ha:kN h1 h rr ob r sp mo p n yd wn bw nw ho mi se ea ts I L) :
  aH prog (CB w0) 86 [.ptr ob 0] h fun r' h'=>r'=aIU L∧∃I',kN h1 h' rr ob r sp mo p n yd wn bw nw ho mi se ea ts I' L.tail∧Stp h1.length rr ob I h I' h':=by
 refine aSi (N:=12) (rs:=[.cell 2 78,.tmp 3]) Tryz.func86 ?_
 rintro e he ⟨g0,-⟩
 simp only[go_sem,he,g0]
 have ha2:=ha.more [.own 78 [vI 0,vI 0]]
 obtain⟨P0,hc0⟩:=ha.itc
 refine aI (aIT hs hG hM hu ha2) ?_
 rintro r' h' ⟨rfl,I',hgo,hst⟩
 have hnF:¬i7 I h1.length rr ob h.length:=fun hq=>by have:=i7.low hc0 hq;omega
 have hnF2:¬i7 I' h1.length rr ob h.length:=fun hq=>by
  rcases hst.foot _ hq with hh|hh
  ·exact hnF hh
  ·simp only[List.length_append,List.length_cons,List.length_nil] at hh
   omega
 have hbox:h'[h.length]?=some (.own 78 [vI 0,vI 0]):=hst.keep _ _ (by rw[bB];rfl) hnF
 have hltb:=(List.getElem?_eq_some_iff.1 hbox).1
 have hbB:h1.length≤h.length:=by obtain⟨G,e⟩:=hc0.front;rw[e,List.length_append];omega
 have hstp:∀{I2:It} {h2:aB},Stp h1.length rr ob I' h' I2 h2→∀Z,Stp h1.length rr ob I h I2 (h2.set h.length Z):=fun {I2 h2} s Z=>by
  have s2:=hst.trans s
  refine⟨?_,?_,?_⟩
  ·have:=s2.len
   simp only[List.length_append,List.length_cons,List.length_nil] at this
   rw[List.length_set];omega
  ·intro q y hy hn
   have hql:=(List.getElem?_eq_some_iff.1 hy).1
   rw[List.getElem?_set_ne (by omega)]
   exact s2.keep q y (aZ hy) hn
  ·intro q hq
   rcases s2.foot q hq with h|h
   ·exact .inl h
   ·simp only[List.length_append,List.length_cons,List.length_nil] at h
    exact .inr (by omega)
 have hfinal:∀{I2:It} {h2:aB} {L2:List Int},kN h1 h2 rr ob r sp mo p n yd wn bw nw ho mi se ea ts I2 L2→Stp h1.length rr ob I' h' I2 h2→h2[h.length]?=some (.own 78 [vI 0,vI 0])→∀Z,kN h1 (h2.set h.length Z) rr ob r sp mo p n yd wn bw nw ho mi se ea ts I2 L2∧Stp h1.length rr ob I h I2 (h2.set h.length Z):=fun {I2 h2 L2} a s hb Z=>by
  refine⟨a.other (S:=fun q=>q=h.length) ((cR.refl _ _).set rfl) (by simp) fun q hq=>?_,hstp s Z⟩
  subst hq
  refine⟨hbB,fun hq=>?_,fun cs hcs=>by rw[hb] at hcs;simp at hcs⟩
  rcases s.foot _ hq with h|h
  ·exact hnF2 h
  ·omega
 have hob:∃P',ItC h1 h' rr ob r sp mo p n yd wn bw nw ho mi se ea ts I' P':=by
  rcases hgo with ⟨-,c⟩|⟨P,k,-,q,-⟩
  ·exact⟨_,c⟩
  ·exact⟨_,q.toItC⟩
 obtain⟨P1,hc1⟩:=hob
 have hobI:=hc1.obj
 have hobne:h.length≠ob:=by rintro e;rw[e,hobI] at hbox;simp at hbox
 simp only[go_sem,he,g0,bL,aA]
 by_cases hL:L=[]
 ·subst hL
  have hfin:I'.fin=true∧ItC h1 h' rr ob r sp mo p n yd wn bw nw ho mi se ea ts I' []:=by
   rcases hgo with h|⟨P,k,hP,-,e⟩
   ·exact h
   ·exact absurd (List.append_eq_nil_iff.1 e.symm).1 hP
  refine aSh (aRO I' ob h1.length h' hobI hfin.2.pend) ?_
  simp only[go_sem,he,g0,bL,aA,hbox]
  have hf:=hfinal (.inl hfin) (Stp.refl _ _ _ _ _) hbox (.own 78 [vI 0,vI 0])
  have hsb:∀Z,(h'.set h.length Z)[h.length]?=some Z:=fun Z=>List.getElem?_set_self hltb
  simp only[go_sem,hsb]
  exact⟨rfl,I',hf.1,hf.2⟩
 ·obtain⟨t,L',rfl⟩:∃t L',L=t::L':=by
   cases L with
   |nil=>exact absurd rfl hL
   |cons t L'=>exact⟨t,L',rfl⟩
  have key:∃P2,P2.length≤1000000∧oB h1.length h' I'.st I'.bk (t::P2)∧∀st' G,oB h1.length (h'.set ob (.own 122 {I' with st:=st'}.cells)++G) st' I'.bk P2→(∀q,stb st' q→stb I'.st q)→kN h1 (h'.set ob (.own 122 {I' with st:=st'}.cells)++G) rr ob r sp mo p n yd wn bw nw ho mi se ea ts {I' with st:=st'} L'∧Stp h1.length rr ob I' h' {I' with st:=st'} (h'.set ob (.own 122 {I' with st:=st'}.cells)++G):=by
   rcases hgo with ⟨hf,c⟩|⟨P,k,hP,q,e⟩
   ·have:=c.pl
    simp only[List.length_cons] at this
    refine⟨L',by omega,c.pend,fun st' G hp hq=>?_⟩
    obtain⟨a,b,-⟩:=c.pop hp hq (by simp)
    exact⟨.inl ⟨hf,a⟩,b⟩
   ·cases P with
    |nil=>exact absurd rfl hP
    |cons t2 P2=>
     rw[List.cons_append] at e
     obtain⟨rfl,rfl⟩:=List.cons.inj e
     have:=q.pl
     simp only[List.length_cons] at this
     refine⟨P2,by omega,q.pend,fun st' G hp hq=>?_⟩
     obtain⟨a,b,-⟩:=q.toItC.pop hp hq (by simp)
     exact⟨.inr ⟨P2,k,q.pop hp hq (by simp),rfl⟩,b⟩
  obtain⟨P2,hpl2,hpd,hk2⟩:=key
  refine aI (aR0 I' ob h1.length h' hobI t P2 hpd hpl2) ?_
  rintro r2 h2 ⟨rfl,st',G,rfl,hp,hq⟩
  obtain⟨a,b⟩:=hk2 st' G hp hq
  have hbox2:(h'.set ob (.own 122 {I' with st:=st'}.cells)++G)[h.length]?=some (.own 78 [vI 0,vI 0]):=by
   refine aZ ?_
   rw[List.getElem?_set_ne (fun e=>hobne e.symm)];exact hbox
  have hf:=hfinal a b hbox2 (.own 78 [vI t,vI 0])
  have hsb:∀Z,((h'.set ob (.own 122 {I' with st:=st'}.cells)++G).set h.length Z)[h.length]?=some Z:=fun Z=>List.getElem?_set_self (List.getElem?_eq_some_iff.1 hbox2).1
  generalize h'.set ob (.own 122 {I' with st:=st'}.cells)++G=hz at *
  simp only[go_sem,he,g0,bL,aA,hbox2,hsb]
  exact⟨rfl,_,hf.1,hf.2⟩
theorem i7.mono {I I':It} {B rr ob:Nat} {h h':aB} (s:Stp B rr ob I h I' h') {q:Nat} (hn:¬i7 I B rr ob q) (hq:q<h.length):¬i7 I' B rr ob q:=fun hf=>by
 rcases s.foot q hf with a|a
 ·exact hn a
 ·omega
theorem GrT.weak {t st B B':Nat} {h:aB} {x:AV} {n:Nat} {cs:List AV} (hx:GrT t st B h x n cs) (hb:B'≤B):GrT t st B' h x n cs:=by
 rcases hx with hx|⟨o,cs0,h1,h2,h3⟩
 ·exact .inl hx
 ·exact .inr ⟨o,cs0,h1,by omega,h3⟩
theorem GrT.lenK {s t st B:Nat} {h:aB} {x:AV} {n:Nat} {cs:List AV} (hx:GrT t st B h x n cs):lenK (some (.slice s)) x=some (vI n):=by
 rcases hx with ⟨e,e2,-⟩|⟨o,cs0,e,-⟩
 ·rw[e,e2];rfl
 ·rw[e];rfl
theorem aIV {r:Ru} (g:K.pF r):K.left (K.whole r).count (K.rest (K.whole r) 0)=K.gK r:=by
 unfold K.gK K.left
 rw[K.aCW]
 rfl
set_option maxHeartbeats 4000000 in
theorem aHw {w0:World} (r:Ru) (g:K.pF r) (x:Rs) (H:aB) (hx:cN H r x) (n:Nat) (hn:n≤1000) :
  aH prog (CB w0) 23 [.agg (aE r x),vI n] H fun v H'=>(∃y,v=.tup [y,vB true]∧GrT 2 1 H.length H' y ((K.gK r).take n).length (((K.gK r).take n).map vI))∧∃G,H'=H++G:=by
 have hG:=K.nE g
 have hM:=K.aKo g
 have hc:=g.clean
 refine aSi (N:=38) (rs:=[.tmp 4,.tmp 5]) Tryz.func23 ?_
 rintro e he ⟨g0,g1,-⟩
 unfold aE at g0
 have hfq:r.freq≤255:=by have:=hG.toWP.freq;have e:(K.whole r).freq=r.freq:=rfl;omega
 have hdl:r.day.length≤1000:=by have:=hc.dayLen;omega
 simp only[go_sem,he,g0,g1,hx.setPos.one,hx.month.one,hx.monthDay.one,hx.yearDay.one,hx.weekNo.one,hx.day.one,hx.hour.one,hx.minute.one,hx.second.one,hx.easter.one]
 have ho:=aLM (w0:=w0) r hfq hdl x _ (hx.more [.own 34 (aE r x)])
 unfold aE at ho
 refine aI ho ?_
 rintro v1 H1 ⟨⟨y1,rfl,hy1⟩,G1,rfl⟩
 simp only[go_sem,he,g0,g1,aA]
 simp only[List.append_assoc,List.cons_append,List.nil_append] at hy1
 refine aI (aIs r hc y1 _ hy1) ?_
 rintro v2 H2 ⟨h1,cs,rfl,rfl,hra,G2,hh1⟩
 have hd1:cH prog .neq 73 (.tmp 17) (.const .nilIface) (.val .nilIface) (.val .nilIface)=some (vB false):=tV (by kernel_rfl)
 simp only[go_sem,he,g0,g1,aA]
 obtain⟨sp,mo,p,n',yd,wn,bw,nw,ho,mi,se,ea,ts,hrc,hrs⟩:=aPR g hra
 have hts1:ts.one=true:=by
  have h1:=hra.one
  rw[List.all_eq_true] at h1
  exact h1 ts (List.mem_of_getElem? hrc.times)
 have hcb:0≤(K.whole r).count∧(K.whole r).count≤1000000:=by
  have e:(K.whole r).count=r.count:=rfl
  have:=hc.count
  omega
 have hrr:(h1++[aD.own 112 cs])[h1.length]?=some (.own 112 cs):=by rw[bB];rfl
 refine aI (aIM (K.whole r) hG hcb h1 _ h1.length cs ⟨_,rfl⟩ hrr (Nat.le_refl _) hrc hrs hts1) ?_
 rintro v3 H3 ⟨ob,I,rfl,hit,hcntE,⟨G3,rfl⟩,hob3,hfoot⟩
 have hu:(K.whole r).hasUntil=true:=rfl
 have hHl:H.length≤h1.length:=by rw[hh1];simp only[List.length_append];omega
 obtain⟨Gh,hGh⟩:∃Gh,h1=H++Gh:=⟨_,by rw[hh1,List.append_assoc]⟩
 have hia:kN h1 (h1++[aD.own 112 cs]++G3) h1.length ob (K.whole r) sp mo p n' yd wn bw nw ho mi se ea ts I (K.gK r):=by
  refine .inr ⟨[],0,hit,?_⟩
  rw[List.nil_append,hcntE,aIV g]
 have hfix:∀(L1 L2:List Int),K.gK r=L1++L2→(L1.length=n∨L2=[])→L1.length≤n→(K.gK r).take n=L1:=fun L1 L2 e h hl=>by
  rcases h with h|h
  ·rw[e,List.take_append_of_le_length (by omega),List.take_of_length_le (by omega)]
  ·rw[e,h,List.append_nil,List.take_of_length_le hl]
 have hlfin:∀(hk:aB) (I':It) (L2:List Int),kN h1 hk h1.length ob (K.whole r) sp mo p n' yd wn bw nw ho mi se ea ts I' L2→∃G,hk=H++G:=fun hk I' L2 a=>by
  obtain⟨P,c⟩:=a.itc
  obtain⟨G,e⟩:=c.front
  exact⟨Gh++G,by rw[e,hGh,List.append_assoc]⟩
 generalize h1++[aD.own 112 cs]++G3=hk0 at *
 simp only[go_sem,he,g0,g1,aA]
 refine bG n (fun k2 e hk=>len e=38∧AL.get e 1=vI n∧AL.get e 8=.fn (.func 86) [.ptr ob 0] []∧∃(y:AV) (I':It) (L1 L2:List Int),AL.get e 4=y∧K.gK r=L1++L2∧L1.length+k2=n∧kN h1 hk h1.length ob (K.whole r) sp mo p n' yd wn bw nw ho mi se ea ts I' L2∧GrT 2 1 h1.length hk y L1.length (L1.map vI)∧∀q,blk y q→¬i7 I' h1.length h1.length ob q) (fun e hk=>len e=38∧∃y:AV,AL.get e 4=y∧GrT 2 1 h1.length hk y ((K.gK r).take n).length (((K.gK r).take n).map vI)∧∃G,hk=H++G) (by kernel_rfl) ?_ ?_ ?_
 ·simp only[go_sem,he,g0,g1]
  exact⟨aP,I,[],K.gK r,rfl,rfl,by simp,hia,.inl ⟨rfl,rfl,rfl⟩,fun q hq=>by obtain⟨a,b,e⟩:=hq;cases e⟩
 ·clear he g0 g1 hia hit
  rintro k2 e hk ⟨he,g1,g8,y,I',L1,L2,g4,hd,hlk,hia,hgr,hnf⟩
  have hly:lenK (some (.slice 2)) y=some (vI L1.length):=hgr.lenK
  have y1':=hgr.one
  simp only[go_sem,he,g1,g8,g4,hly]
  refine aF (fun hq=>?_) fun hq=>?_
  ·have hq:=odT hq
   simp only[go_sem,he,g1,g8,g4]
   refine aI (aR1 hrs hG hM hu hia) ?_
   rintro v4 hk2 ⟨rfl,I2,hia2,hst⟩
   have hgr2:=hgr.keep hst.keep hnf
   have hnf2:∀q,blk y q→¬i7 I2 h1.length h1.length ob q:=fun q hb=>i7.mono hst (hnf q hb) (hgr.low hb).2.1
   cases L2 with
   |nil=>
    unfold aIU
    simp only[go_sem,he,g1,g8,g4,aA,List.replicate]
    refine⟨y,rfl,?_,hlfin _ I2 _ (hia2.more _)⟩
    rw[hfix L1 [] hd (.inr rfl) (by omega)]
    exact hgr2.more _
   |cons t L2=>
    unfold aIU
    simp only[go_sem,he,g1,g8,g4,aA,List.replicate]
    refine aSh (aH5 t 0 _) ?_
    have hia3:=hia2.more [.own 78 [vI t,vI 0]]
    have hgr3:=hgr2.more [.own 78 [vI t,vI 0]]
    obtain⟨P2,c2⟩:=hia2.itc
    have hBk:h1.length≤(hk2++[aD.own 78 [vI t,vI 0]]).length:=by
     obtain⟨G,e⟩:=c2.front
     rw[e];simp only[List.length_append];omega
    obtain⟨y',h5,hap,hg5,hl5,hK5,hn5⟩:=aIt aBT (by decide) hgr3 hBk (c:=[vI t]) rfl (by omega) rfl (by omega)
    have hia5:=hia3.other hK5 hl5 fun q hq=>⟨(hgr3.low hq).1,hnf2 q hq,fun cs hcs=>by
     obtain⟨-,-,cs2,hc2⟩:=hgr3.low hq
     rw[hcs] at hc2;simp at hc2⟩
    have q1:=hg5.one
    simp only[List.length_append,List.length_cons,List.length_nil,List.append_assoc,List.cons_append,List.nil_append] at hap
    simp only[go_sem,he,g1,g8,g4,aA,hap]
    refine⟨k2-1,by omega,y',I2,L1++[t],L2,rfl,by rw[List.append_assoc];exact hd,by rw[List.length_append];simp;omega,hia5,?_,fun q hq hF=>?_⟩
    ·rw[List.length_append,List.map_append];exact hg5
    ·have h1:=hn5 q hq
     have h2:=i7.low c2 hF
     simp only[List.length_append,List.length_cons,List.length_nil] at h1
     omega
  ·have hq:=odF hq
   simp only[go_sem,he,g1,g8,g4]
   refine⟨y,rfl,?_,hlfin hk I' L2 hia⟩
   rw[hfix L1 L2 hd (.inl (by omega)) (by omega)]
   exact hgr
 ·clear he g0 g1
  rintro e hk ⟨he,y,g4,hgr,G,rfl⟩
  simp only[go_sem,he,g4]
  exact⟨⟨y,rfl,hgr.weak hHl⟩,G,rfl⟩
end F
namespace K
open Go.Proofs.YtnoppodfngkoeaaGreat.F
structure aMc (r:Ru):Prop where
 setPos:r.setPos=[]
 month:r.month=[]
 monthDay:r.monthDay=[]
 yearDay:r.yearDay=[]
 weekNo:r.weekNo=[]
 day:r.day=[]
 hour:r.hour=[]
 minute:r.minute=[]
 second:r.second=[]
 easter:r.easter=[]
def gS (f:Nat):Int:=if f=2 then 604800 else if f=3 then 86400 else if f=4 then 3600 else if f=5 then 60 else 1
theorem aR2 {l:List Int} {a:Int} (hl:Asc l) (h:∀t,t∈l↔t=a):l=[a]:=
 Asc.ext hl (by simp) fun t=>by rw[h,List.mem_singleton]
theorem aBE {r:Ru} (hb:aMc r) (hf:3≤r.freq) (n:Int):eB (whole r) n=true:=by
 have hd:dJ r=false:=by unfold dJ;rw[hb.monthDay,hb.yearDay,hb.weekNo,hb.day,hb.easter];rfl
 unfold eB sR
 have e1:(whole r).month=[]:=by show (if _ then _ else _)=_;rw[if_neg (by omega)];exact hb.month
 have e2:(whole r).monthDay=[]:=by show (if _ then _ else _)=_;rw[if_neg (by omega)];exact hb.monthDay
 have e3:(whole r).day=[]:=by show (if _ then _ else _)=_;rw[if_neg (by omega)];exact hb.day
 have e4:(whole r).yearDay=[]:=hb.yearDay
 have e5:(whole r).weekNo=[]:=hb.weekNo
 have e6:(whole r).easter=[]:=hb.easter
 rw[e1,e2,e3,e4,e5,e6]
 rfl
theorem aKW {r:Ru} (g:pF r) (hb:aMc r) (hf:2≤r.freq) (k:Nat):dN (whole r) k=[r.start+k*(max 1 r.interval*gS r.freq)]:=by
 have hG:=nE g
 have hw:=hG.toWP
 have hst:=g.clean.start
 have hfr:=g.clean.freq
 have hsp:(whole r).setPos=[]:=hb.setPos
 have hd:dJ r=false:=by unfold dJ;rw[hb.monthDay,hb.yearDay,hb.weekNo,hb.day,hb.easter];rfl
 have wf:(whole r).freq=r.freq:=rfl
 have ws:(whole r).start=r.start:=rfl
 have wi:(whole r).interval=max 1 r.interval:=rfl
 have wk:(whole r).wkst=r.wkst:=rfl
 have hwk:=g.clean.wkst
 have hmul:∀c:Int,(k:Int)*(max 1 r.interval*c)=k*max 1 r.interval*c:=fun c=>(Int.mul_assoc _ _ _).symm
 have e1:(whole r).month=[]:=by show (if _ then _ else _)=_;rw[if_neg (by omega)];exact hb.month
 have e2:(whole r).monthDay=[]:=by show (if _ then _ else _)=_;rw[if_neg (by omega)];exact hb.monthDay
 have h4:r.freq<4→(whole r).hour=[r.start%86400/3600]:=fun h=>by show (if _ then _ else _)=_;rw[if_pos ⟨hb.hour,h⟩]
 have h4':¬r.freq<4→(whole r).hour=[]:=fun h=>by show (if _ then _ else _)=_;rw[if_neg (by omega)];exact hb.hour
 have h5:r.freq<5→(whole r).minute=[r.start%86400/60%60]:=fun h=>by show (if _ then _ else _)=_;rw[if_pos ⟨hb.minute,h⟩]
 have h5':¬r.freq<5→(whole r).minute=[]:=fun h=>by show (if _ then _ else _)=_;rw[if_neg (by omega)];exact hb.minute
 have h6:r.freq<6→(whole r).second=[r.start%86400%60]:=fun h=>by show (if _ then _ else _)=_;rw[if_pos ⟨hb.second,h⟩]
 have h6':¬r.freq<6→(whole r).second=[]:=fun h=>by show (if _ then _ else _)=_;rw[if_neg (by omega)];exact hb.second
 have e4:(whole r).yearDay=[]:=hb.yearDay
 have e5:(whole r).weekNo=[]:=hb.weekNo
 have e6:(whole r).easter=[]:=hb.easter
 refine aR2 (nX hw k) fun t=>?_
 rw[nW,hsp]
 have hch:dU (lU (whole r) k) []=lU (whole r) k:=by unfold dU;rw[if_pos rfl]
 rw[hch]
 unfold lU
 rw[wf]
 obtain⟨N,hN⟩:∃N:Int,N=k*max 1 r.interval:=⟨_,rfl⟩
 by_cases f4:r.freq<4
 ·rw[if_pos f4,t9]
  have ht:∀u,u∈times (whole r)↔u=r.start%86400:=fun u=>by
   rw[wD,h4 f4,h5 (by omega),h6 (by omega)]
   simp only[List.mem_singleton]
   constructor
   ·rintro ⟨a,rfl,b,rfl,c,rfl,h⟩;omega
   ·rintro rfl;exact⟨_,rfl,_,rfl,_,rfl,by omega⟩
  rcases (show r.freq=2∨r.freq=3 by omega) with q|q
  ·have p1:aU (whole r) k=r.start/86400-(r.start/86400%7-r.wkst+7)%7+7*N:=by
    unfold aU;rw[wf,if_neg (by omega),if_neg (by omega),if_pos q,ws,wk,wi,hN,Int.mul_assoc]
   have p2:bV (whole r) k=aU (whole r) k+6:=by conv=>lhs;unfold bV;rw[wf,if_neg (by omega),if_neg (by omega),if_pos q]
   have e3:(whole r).day=[(r.start/86400%7,0)]:=by show (if _ then _ else _)=_;rw[if_pos ⟨hd,q⟩]
   have hs:∀n,eB (whole r) n=decide (n%7=r.start/86400%7):=fun n=>by
    unfold eB sR
    rw[e1,e2,e3,e4,e5,e6]
    simp only[aY,eS,List.isEmpty_nil,Bool.true_or,Bool.true_and,List.isEmpty_cons,Bool.false_or,List.any_cons,List.any_nil,Bool.or_false]
    unfold jR
    simp
   have hst2:gS r.freq=604800:=by unfold gS;rw[if_pos q]
   rw[p2,p1,hst2,hmul,←hN]
   constructor
   ·rintro ⟨n,a1,a2,a3,u,hu,rfl⟩
    rw[hs,decide_eq_true_eq] at a3
    rw[ht] at hu
    omega
   ·rintro rfl
    exact⟨r.start/86400+7*N,by omega,by omega,by rw[hs,decide_eq_true_eq];omega,_,(ht _).2 rfl,by omega⟩
  ·have p1:aU (whole r) k=r.start/86400+N:=by
    unfold aU;rw[wf,if_neg (by omega),if_neg (by omega),if_neg (by omega),ws,wi,hN]
   have p2:bV (whole r) k=aU (whole r) k:=by conv=>lhs;unfold bV;rw[wf,if_neg (by omega),if_neg (by omega),if_neg (by omega)]
   have hst2:gS r.freq=86400:=by unfold gS;rw[if_neg (by omega),if_pos q]
   rw[p2,p1,hst2,hmul,←hN]
   constructor
   ·rintro ⟨n,a1,a2,a3,u,hu,rfl⟩
    rw[ht] at hu
    omega
   ·rintro rfl
    exact⟨r.start/86400+N,by omega,by omega,aBE hb (by omega) _,_,(ht _).2 rfl,by omega⟩
 ·rw[if_neg f4,rY]
  have hpa:∀u,dV (whole r)=u→bK (whole r) k=(r.start/u+N)*u:=fun u hu=>by unfold bK;rw[hu,ws,wi,hN]
  have hsT:=aBE hb (by omega)
  simp only[hsT,h4' f4,true_and]
  unfold fB fC
  rw[wf]
  rcases (show r.freq=4∨r.freq=5∨r.freq=6 by omega) with q|q|q
  ·have hu:dV (whole r)=3600:=by unfold dV;rw[wf,if_pos q]
   have hst2:gS r.freq=3600:=by unfold gS;rw[if_neg (by omega),if_neg (by omega),if_pos q]
   rw[if_pos q,if_pos (by omega),h5 (by omega),h6 (by omega),tC,tC,hpa _ hu,hst2,hmul,←hN]
   simp only[List.mem_singleton]
   constructor
   ·rintro ⟨-,m,rfl,s,rfl,-,-,rfl⟩;omega
   ·rintro rfl;exact⟨rfl,_,rfl,_,rfl,by simp[aY],by simp[aY],by omega⟩
  ·have hu:dV (whole r)=60:=by unfold dV;rw[wf,if_neg (by omega),if_pos q]
   have hst2:gS r.freq=60:=by unfold gS;rw[if_neg (by omega),if_neg (by omega),if_neg (by omega),if_pos q]
   rw[if_neg (by omega),if_pos (by omega),h5' (by omega),h6 (by omega),tC,hpa _ hu,hst2,hmul,←hN]
   simp only[List.mem_singleton]
   constructor
   ·rintro ⟨-,m,rfl,s,rfl,-,-,rfl⟩;omega
   ·rintro rfl;exact⟨rfl,_,rfl,_,rfl,rfl,by simp[aY],by omega⟩
  ·have hu:dV (whole r)=1:=by unfold dV;rw[wf,if_neg (by omega),if_neg (by omega)]
   have hst2:gS r.freq=1:=by unfold gS;rw[if_neg (by omega),if_neg (by omega),if_neg (by omega),if_neg (by omega)]
   rw[if_neg (by omega),if_neg (by omega),h5' (by omega),h6' (by omega),hpa _ hu,hst2,hmul,←hN]
   simp only[List.mem_singleton]
   constructor
   ·rintro ⟨-,m,rfl,s,rfl,-,-,rfl⟩;omega
   ·rintro rfl;exact⟨rfl,_,rfl,_,rfl,rfl,rfl,by omega⟩
theorem aIW {r:Ru} (g:pF r) (hb:aMc r) (hf:2≤r.freq) (j:Nat):(gE (whole r))[j]?=if r.start+j*(max 1 r.interval*gS r.freq)≤(whole r).til then some (r.start+j*(max 1 r.interval*gS r.freq)) else none:=by
 have hs:0<max 1 r.interval*gS r.freq:=Int.mul_pos (by omega) (by unfold gS;split<;>(try split)<;>(try split)<;>(try split)<;>omega)
 exact aIi (nE g).toWP hs (fun k=>aKW g hb hf k) j
end K
namespace F
open Go.RowKit Go.Proofs.YtnoppodfngkoeaaGreat.AL
theorem GrT.at {B:Nat} {h:aB} {x:AV} {L:List Int} (hx:GrT 2 1 B h x L.length (L.map vI)):aQ h x L:=by
 rcases hx with ⟨rfl,h0,-⟩|⟨o,cs0,rfl,-,ho,ht,-⟩
 ·exact .inl ⟨rfl,h0⟩
 ·refine .inr ⟨true,o,0,cs0,rfl,by rw[ho];rfl,fun i hi=>?_⟩
  rw[Nat.mul_one] at hi ht
  have:cs0[i]?=(L.map vI)[i]?:=by rw[←ht,List.getElem?_take_of_lt hi]
  rw[Nat.zero_add,this,List.getElem?_map,fF hi];rfl
theorem aHx {w0:World} (l m:List Int) (hl:l.length≤1000000) (hm:m.length≤1000000) (x y:AV) (H:aB) (hx:aQ H x l) (hy:aQ H y m):aH prog (CB w0) 25 [x,y] H fun r H'=>r=vB (decide (l=m))∧H'=H:=by
 refine aSi (N:=26) (rs:=[.tmp 4]) Tryz.func25 ?_
 rintro e he ⟨g0,g1,-⟩
 have xl:=hx.len 2;have yl:=hy.len 2
 simp only[go_sem,he,g0,g1,xl,yl]
 refine aF (fun hc=>?_) fun hc=>?_
 ·rw[Bool.not_eq_true'] at hc
  have hc:=odF hc
  simp only[go_sem,he,g0,g1,xl,yl]
  rw[dcF fun h:l=m=>hc (by rw[h])]
 ·rw[Bool.not_eq_false'] at hc
  have hc:l.length=m.length:=by have:=odT hc;omega
  simp only[go_sem,he,g0,g1,xl,yl]
  refine cF l.length (fun k e h=>len e=26∧AL.get e 0=x∧AL.get e 1=y∧AL.get e 12=vI l.length∧h=H∧∃i:Nat,AL.get e 13=vI i∧i+k=l.length∧∀j,j<i→l.getD j 0=m.getD j 0) (by kernel_rfl) ?_ ?_
  ·simp only[go_sem,he,g0,g1]
   exact⟨0,rfl,by omega,fun j hj=>by omega⟩
  ·clear he g0 g1
   rintro k e h ⟨he,g0,g1,g12,rfl,i,g13,hik,hall⟩
   simp only[go_sem,he,g0,g1,g12,g13]
   refine aF (fun hd=>?_) fun hd=>?_
   ·have hd:=odT hd
    obtain⟨p1,q1,c1,s1,s2,s3⟩:=oO hx (i:=i) (by omega)
    obtain⟨p2,q2,c2,t1,t2,t3⟩:=oO hy (i:=i) (by omega)
    have wi:i64.wrap ((i:Int)+1)=((i+1:Nat):Int):=by rw[aJ (by omega)];rfl
    simp only[go_sem,he,g0,g1,g12,g13]
    refine bF bI (by kernel_rfl) ?_
    simp only[go_sem,he,g0,g1,g12,g13,s1,s2,s3,t1,t2,t3]
    refine aF (fun hz=>?_) fun hz=>?_
    ·rw[Bool.not_eq_true'] at hz
     have hz:=odF hz
     simp only[go_sem,he,g0,g1,g12,g13]
     rw[dcF fun h:l=m=>hz (by rw[h])]
    ·rw[Bool.not_eq_false'] at hz
     have hz:=odT hz
     simp only[go_sem,he,g0,g1,g12,g13,wi]
     refine⟨k-1,by omega,i+1,rfl,by omega,fun j hj=>?_⟩
     rcases Nat.lt_or_ge j i with c|c
     ·exact hall j c
     ·have:j=i:=by omega
      subst this;exact hz
   ·have hd:=odF hd
    simp only[go_sem,he,g0,g1,g12,g13]
    have:l=m:=List.ext_getElem? fun j=>by
     rcases Nat.lt_or_ge j l.length with c|c
     ·rw[fF c,fF (by omega),hall j (by omega)]
     ·rw[List.getElem?_eq_none c,List.getElem?_eq_none (by omega)]
    rw[dcT this]
def jX:Ru:=⟨3,true,60480000000,1,0,0,false,0,[],[],[],[],[],[],[],[],[],[]⟩
def aIX:Rs:=⟨aP,aP,aP,aP,aP,aP,aP,aP,aP,aP⟩
theorem aKX (H:aB) {l:List Int} {n q:Nat} (hn:l.length=n) (hq:H[q]?=some (.own 2 (l.map vI))):aQ H (.sl true q 0 n 1) l:=by
 subst hn
 refine .inr ⟨true,_,0,l.map vI,rfl,by rw[hq];rfl,fun i hi=>?_⟩
 rw[Nat.mul_one] at hi
 rw[Nat.zero_add,List.getElem?_map,fF (by omega)];rfl
theorem nM {H:aB}:aQ H aP []:=.inl ⟨rfl,rfl⟩
theorem aBF:K.pF jX where
 clean:=aA8 (by kernel_rfl)
 left:={
  kind:=fun _=>.inl fun d hd=>by cases hd
  weekPos:=fun _ h=>absurd rfl h
  small:=fun h=>absurd h (by decide)
  met:=fun h=>absurd h (by decide)}
 said:=⟨fun n hn=>by cases hn⟩
theorem aFF:(K.gK jX).take 3=[60480000000,60480086400,60480172800]:=by
 have hd:K.gK jX=K.gE (K.whole jX):=by unfold K.gK;rw[if_neg (by decide)]
 have hb:=K.aIW aBF ⟨rfl,rfl,rfl,rfl,rfl,rfl,rfl,rfl,rfl,rfl⟩ (by decide)
 have ht:(K.whole jX).til=69703372036:=rfl
 have h0:=hb 0;have h1:=hb 1;have h2:=hb 2
 rw[ht] at h0 h1 h2
 have hst:K.gS jX.freq=86400:=rfl
 have hs:jX.start=60480000000:=rfl
 have hi:max 1 jX.interval=1:=rfl
 rw[hst,hs,hi] at h0 h1 h2
 rw[hd,List.take_add_one,List.take_add_one,List.take_add_one,List.take_zero,h0,h1,h2]
 rfl
theorem aHy {w0:World} (H:aB):aH prog (CB w0) 22 [] H fun v H'=>v=vB true∧H'=H:=by
 refine aH.flat rfl ?_
 refine aSi (N:=16) (rs:=[.tmp 0]) Tryz.func22 ?_
 rintro e he -
 have hx:∀G,cN (H++G) jX aIX:=fun G=>⟨nM,nM,nM,nM,nM,.inl ⟨rfl,rfl⟩,nM,nM,nM,nM⟩
 have hf:=aHw (w0:=w0) jX aBF aIX _ (hx [.own 34 (aE jX aIX)]) 3 (by omega)
 rw[aFF] at hf
 simp only[go_sem,he]
 refine aI hf ?_
 rintro _ _ ⟨⟨y,rfl,hy⟩,G,rfl⟩
 have y1:=hy.one
 have hy2:=GrT.at hy
 simp only[go_sem,he,aA]
 have hm:aQ (H++(aD.own 34 (aE jX aIX)::(G++[aD.own 2 [vI 60480000000,vI 60480086400,vI 60480172800]]))) (.sl true (H.length+(G.length+1)) 0 3 1) [60480000000,60480086400,60480172800]:=aKX _ rfl (by rw[bX];simp)
 have hy3:=hy2.more [aD.own 2 [vI 60480000000,vI 60480086400,vI 60480172800]]
 simp only[List.append_assoc,List.cons_append,List.nil_append] at hy3
 refine aI (aHx _ _ (by simp) (by simp) y _ _ hy3 hm) ?_
 rintro _ _ ⟨rfl,rfl⟩
 simp only[go_sem,he,aA]
 exact⟨_,rfl⟩
open Go.ChangeShapes Go.WideShapes Go.ChangeAt Go.RowKit Go.Deep Go.Proofs.YtnoppodfngkoeaaGreat.AL
set_option maxRecDepth 100000
def aSg (W:World) (v:Value) (n st:Nat) (cell:Nat→Value):Prop:=
 (v=.slice none 0 0∧n=0)∨∃a cap,v=.slice (some a) n cap∧n≤cap∧cap≤9223372036854775807∧∀i,i<cap*st→W.cell? (a.add i)=some (cell i)
structure aMd (W:World) (v:Value) (x:Nat→AV) (pl:Nat×Nat) (ob:aD):Prop where
 rel:∀(o:Nat) (m:aX),m[o]?=some pl→AL.rel m W (x o) v
 relO:∀m:aX,AL.relO (CB W) m W pl ob
 mine:ob.mine=false
theorem aBG {W:World} {a:Addr} {v:Value} (h:W.cell? a=some v):∃arr e fr,W.heap[a.block]?=some (.cells arr e fr)∧arr[a.off]?=some v:=by
 have hs:=World.cell?_spot h
 unfold World.cell? at h
 split at h
 ·rename_i c e fr hc
  rw[hs] at h
  exact⟨c,e,fr,hc,by simpa using h⟩
 ·cases h
theorem uO {W:World} {v:Value} {n st:Nat} {cell:Nat→Value} (hst:0<st) (h:aSg W v n st cell) (hW:0<W.heap.size) :
  ∃(x:Nat→AV) (pl:Nat×Nat) (ob:aD),aMd W v x pl ob∧∀(o:Nat) (H:aB),H[o]?=some ob→fN H (x o) n st fun i=>.val (cell i):=by
 rcases h with ⟨rfl,rfl⟩|⟨a,cap,rfl,hn,hc,hcell⟩
 ·exact⟨fun _=>.val (.slice none 0 0),(0,0),.gone,⟨fun _ _ _=>rfl,fun _=>trivial,rfl⟩,fun _ _ _=>.inl ⟨rfl,rfl⟩⟩
 ·rcases Nat.eq_zero_or_pos cap with h0|h0
  ·subst h0
   obtain rfl:n=0:=by omega
   refine⟨fun o=>.sl false o 0 0 st,(0,0),.ro [],⟨fun o m hm=>⟨(0,0),a,0,hm,rfl,Nat.le_refl _,by omega,fun h=>absurd h (by omega),fun h=>by cases h⟩,fun m=>⟨hW,fun j c hj=>by simp at hj⟩,rfl⟩,fun o H ho=>?_⟩
   exact .inr ⟨false,o,0,[],rfl,by rw[ho];rfl,fun i hi=>absurd hi (by omega)⟩
  ·have hpos:0<cap*st:=Nat.mul_pos h0 hst
   have hc0:=hcell 0 hpos
   have hsp:=World.cell?_spot hc0
   obtain⟨b,off,spot⟩:=a
   have e0:(⟨b,off,spot⟩:Addr).add 0=⟨b,off,spot⟩:=rfl
   rw[e0] at hsp hc0
   simp only at hsp
   subst hsp
   have ea:∀j,(⟨b,off,none⟩:Addr).add j=⟨b,off+j,none⟩:=by
    intro j
    unfold Addr.add
    split
    ·rename_i hj;subst hj;rfl
    ·rfl
   obtain⟨arr,e,fr,hb,_⟩:=aBG hc0
   simp only at hb
   have hlt:b<W.heap.size:=(Array.getElem?_eq_some_iff.1 hb).1
   have hroom:off+cap*st≤arr.size:=by
    have h1:=hcell (cap*st-1) (by omega)
    rw[ea] at h1
    obtain⟨arr',e',fr',hb',h2⟩:=aBG h1
    simp only at hb' h2
    rw[hb] at hb'
    simp only[Option.some.injEq,Obj.cells.injEq] at hb'
    obtain⟨rfl,rfl,rfl⟩:=hb'
    have:=(Array.getElem?_eq_some_iff.1 h2).1
    omega
   refine⟨fun o=>.sl false o 0 n st,(b,off),.ro ((List.range (cap*st)).map fun i=>.val (cell i)),⟨fun o m hm=>⟨(b,off),⟨b,off,none⟩,cap,hm,rfl,hn,hc,fun _=>⟨rfl,arr,e,fr,hb,hroom⟩,fun h=>by cases h⟩,fun m=>⟨hlt,fun j c hj=>?_⟩,rfl⟩,fun o H ho=>?_⟩
   ·have hjl:j<cap*st:=by
     have:=(List.getElem?_eq_some_iff.1 hj).1
     simpa using this
    simp only[List.getElem?_map,List.getElem?_range hjl,Option.map_some,Option.some.injEq] at hj
    subst hj
    have:=hcell j hjl
    rw[ea] at this
    exact⟨_,this,rfl⟩
   ·refine .inr ⟨false,o,0,_,rfl,by rw[ho];rfl,fun i hi=>?_⟩
    have hil:i<cap*st:=Nat.lt_of_lt_of_le hi (Nat.mul_le_mul_right _ hn)
    rw[Nat.zero_add,List.getElem?_map,List.getElem?_range hil]
    rfl
theorem fN.congr {H:aB} {x:AV} {n st:Nat} {c c':Nat→AV} (h:fN H x n st c) (he:∀i,i<n*st→c i=c' i):fN H x n st c':=by
 rcases h with h|⟨own,o,off,cs,h1,h2,h3⟩
 ·exact .inl h
 ·exact .inr ⟨own,o,off,cs,h1,h2,fun i hi=>by rw[h3 i hi,he i hi]⟩
theorem kO {n:Int} (h:(Lit.int .i64 n).wf=true):-9223372036854775808≤n∧n≤9223372036854775807:=by
 have e:(Lit.int .i64 n).wf=(decide (-9223372036854775808≤n)&&decide (n≤9223372036854775807)):=rfl
 rw[e] at h
 simpa using h
theorem aC8 {n:Int} (h:(Lit.int .u8 n).wf=true):0≤n∧n≤255:=by
 have e:(Lit.int .u8 n).wf=(decide (0≤n)&&decide (n≤255)):=rfl
 rw[e] at h
 simpa using h
section
variable {H:Type} {enc:TypeId×Value→H} {P:Program} {W:World}
def lF:Value→Int
 |.int _ n=>n
 |_=>0
theorem jW {t e:TypeId} {fuel:Nat} {v:Value} {y:DataW H×List MemPlace} (ht:P.underlying t=some (.slice e)) (he:P.underlying e=some (.int .i64)) (hc:P.cellsOf e=1) (hW:0<W.heap.size)
  (h:DataW.trod enc P W 0 (fun _=>true) true fuel t [v]=some y) :
  ∃(x:Nat→AV) (pl:Nat×Nat) (ob:aD) (l:List Int),aMd W v x pl ob∧(∀(o:Nat) (H:aB),H[o]?=some ob→aQ H (x o) l)∧∀n∈l,-9223372036854775808≤n∧n≤9223372036854775807:=by
 rcases open_ints ht he hc h with ⟨hcs,_⟩|⟨a,len,cap,zs,hcs,_,hl,hm,hz,_,hcell,hw⟩
 ·simp only[List.cons.injEq,and_true] at hcs
  obtain⟨x,pl,ob,h1,h2⟩:=uO (W:=W) (v:=v) (n:=0) (st:=1) (cell:=fun _=>.bool false) (by omega) (.inl ⟨hcs,rfl⟩) hW
  exact⟨x,pl,ob,[],h1,fun o H ho=>(h2 o H ho).congr (fun i hi=>absurd hi (by omega)),fun n hn=>by cases hn⟩
 ·simp only[List.cons.injEq,and_true] at hcs
  simp only[if_true] at hz
  obtain⟨x,pl,ob,h1,h2⟩:=uO (W:=W) (v:=v) (n:=len) (st:=1) (cell:=fun i=>.int .i64 (zs.getD i 0)) (by omega) (.inr ⟨a,cap,hcs,hl,hm,fun i hi=>hcell i (by omega)⟩) hW
  have hlen:(zs.take len).length=len:=by rw[List.length_take];omega
  refine⟨x,pl,ob,zs.take len,h1,fun o H ho=>?_,fun n hn=>kO (hw n (List.mem_of_mem_take hn))⟩
  unfold aQ
  rw[hlen]
  refine (h2 o H ho).congr fun i hi=>?_
  have:(zs.take len).getD i 0=zs.getD i 0:=by
   rw[List.getD_eq_getElem?_getD,List.getD_eq_getElem?_getD,List.getElem?_take_of_lt (by omega)]
  rw[this]
theorem aMe {t e:TypeId} {f0 f1:Field} {fuel:Nat} {v:Value} {y:DataW H×List MemPlace} (ht:P.underlying t=some (.slice e)) (he:P.underlying e=some (.struct #[f0,f1])) (ce:P.cellsOf e=2) (o0:f0.offset=0) (o1:f1.offset=1)
  (c0:P.cellsOf f0.type=1) (c1:P.cellsOf f1.type=1) (t0:P.underlying f0.type=some (.int .i64)) (t1:P.underlying f1.type=some (.int .i64)) (hW:0<W.heap.size)
  (h:DataW.trod enc P W 0 (fun _=>true) true fuel t [v]=some y) :
  ∃(x:Nat→AV) (pl:Nat×Nat) (ob:aD) (l:List (Int×Int)),aMd W v x pl ob∧(∀(o:Nat) (H:aB),H[o]?=some ob→cU H (x o) l)∧
   ∀d∈l,(-9223372036854775808≤d.1∧d.1≤9223372036854775807)∧(-9223372036854775808≤d.2∧d.2≤9223372036854775807):=by
 rcases open_slice_pairs ht he ce o0 o1 c0 c1 h with ⟨hcs,_⟩|⟨a,len,cap,m,n,V0,V1,D0,D1,P0,P1,hcs,_,hl,hm,hz,_,hcell⟩
 ·simp only[List.cons.injEq,and_true] at hcs
  obtain⟨x,pl,ob,h1,h2⟩:=uO (W:=W) (v:=v) (n:=0) (st:=2) (cell:=fun _=>.bool false) (by omega) (.inl ⟨hcs,rfl⟩) hW
  exact⟨x,pl,ob,[],h1,fun o H ho=>(h2 o H ho).congr (fun i hi=>absurd hi (by omega)),fun n hn=>by cases hn⟩
 ·simp only[List.cons.injEq,and_true] at hcs
  simp only[if_true] at hz
  subst hz
  have each:∀i,i<m→W.cell? (a.add (i*2))=some (.int .i64 (lF (V0 i)))∧W.cell? (a.add (i*2+1))=some (.int .i64 (lF (V1 i)))∧(Lit.int .i64 (lF (V0 i))).wf=true∧(Lit.int .i64 (lF (V1 i))).wf=true:=by
   intro i hi
   obtain⟨h1,h2,h3,h4⟩:=hcell i hi
   obtain⟨n0,e0,_,w0⟩:=DataW.trod_int t0 h3
   obtain⟨n1,e1,_,w1⟩:=DataW.trod_int t1 h4
   simp only[List.cons.injEq,and_true] at e0 e1
   rw[e0] at h1 ⊢
   rw[e1] at h2 ⊢
   exact⟨h1,h2,w0,w1⟩
  obtain⟨x,pl,ob,h1,h2⟩:=uO (W:=W) (v:=v) (n:=len) (st:=2) (cell:=fun i=>.int .i64 (if i%2=0 then lF (V0 (i/2)) else lF (V1 (i/2)))) (by omega) (.inr ⟨a,m,hcs,hl,hm,fun i hi=>by
   obtain⟨k1,k2,_⟩:=each (i/2) (by omega)
   show W.cell? (a.add i)=some (Value.int .i64 (if i%2=0 then lF (V0 (i/2)) else lF (V1 (i/2))))
   split
   ·rename_i hp
    rw[show i/2*2=i by omega] at k1
    exact k1
   ·rename_i hp
    rw[show i/2*2+1=i by omega] at k2
    exact k2⟩) hW
  have hlen:((List.range len).map fun i=>(lF (V0 i),lF (V1 i))).length=len:=by simp
  refine⟨x,pl,ob,(List.range len).map fun i=>(lF (V0 i),lF (V1 i)),h1,fun o H ho=>?_,fun d hd=>?_⟩
  ·unfold cU
   rw[hlen]
   refine (h2 o H ho).congr fun i hi=>?_
   have:((List.range len).map fun i=>(lF (V0 i),lF (V1 i))).getD (i/2) (0,0)=(lF (V0 (i/2)),lF (V1 (i/2))):=by
    rw[List.getD_eq_getElem?_getD,List.getElem?_map,List.getElem?_range (by omega)]
    rfl
   rw[this]
   split<;>rfl
  ·obtain⟨i,hi,rfl⟩:=List.mem_map.1 hd
   obtain⟨_,_,w0,w1⟩:=each i (by have:=List.mem_range.1 hi;omega)
   exact⟨kO w0,kO w1⟩
theorem aFG {r:Reach} {b0:Nat} {t:TypeId} {fs:Array Field} {v:Value} {d:DataW H} {p:List MemPlace} (hs:P.underlying t=some (.struct fs)) (hone:oneCellFields P fs=true) (hC:P.cellsOf t=fs.size) (hv:Value.okWide P W r b0 t v) (h:DataW.Trod enc P W 0 (fun _=>true) true t v d p) :
  ∃l:List Value,v=.agg ⟨l⟩∧l.length=fs.size∧∃n,∀(i:Nat) (f:Field) (c:Value),fs[i]?=some f→l[i]?=some c→∃y,DataW.trod enc P W 0 (fun _=>true) true n f.type [c]=some y:=by
 obtain⟨cs,rfl,hsz⟩:=okWide_struct hs hv
 obtain⟨l⟩:=cs
 obtain⟨fuel,hf⟩:=h
 obtain⟨xs,n,_,_,_,hxl,hg⟩:=DataW.trod_struct hs hf
 refine⟨l,rfl,hsz.trans hC,n,fun i f c hi hc=>?_⟩
 obtain⟨ho,hk⟩:=hone_of hone i f hi
 have h1:=hg i f hi
 have hil:i<xs.length:=by
  have:=(Array.getElem?_eq_some_iff.1 hi).1
  omega
 have hcl:=(List.getElem?_eq_some_iff.1 hc).1
 rw[ho,hk,List.getElem?_eq_getElem hil] at h1
 have e1:(((Value.agg ⟨l⟩).cells).toList.drop i).take 1=[c]:=by
  show (l.drop i).take 1=[c]
  rw[List.drop_eq_getElem_cons hcl,(List.getElem?_eq_some_iff.1 hc).2]
  rfl
 rw[e1] at h1
 exact⟨_,h1⟩
end
theorem c3:prog.cellsOf 3=1:=by kernel_rfl
theorem aSa:∀fs,prog.underlying 25=some (.struct fs)→oneCellFields prog fs=true:=by
 intro fs h
 rw[Tryz.underlying25] at h
 simp only[Option.some.injEq,TypeDesc.struct.injEq] at h
 subst h
 kernel_rfl
theorem c25:prog.cellsOf 25=18:=by kernel_rfl
section
variable {H:Type} {enc:TypeId×Value→H} {W:World}
theorem aMf {r:Reach} {b0:Nat} {v:Value} {d:DataW H} {p:List MemPlace} (hW:0<W.heap.size) (hv:Value.okWide prog W r b0 25 v) (h:DataW.Trod enc prog W 0 (fun _=>true) true 25 v d p) :
  ∃(ru:Ru) (xs:Nat→Rs) (L:List (aD×(Nat×Nat))),aA7 ru∧L.length=10∧(∀q∈L,(∀m:aX,relO (CB W) m W q.2 q.1)∧q.1.mine=false)∧
   (∀(k:Nat) (H:aB),(∀i p,L[i]?=some p→H[k+i]?=some p.1)→cN H ru (xs k))∧
   (∀(k:Nat) (m:aX),(∀i p,L[i]?=some p→m[k+i]?=some p.2)→AL.rel m W (.agg (aE ru (xs k))) v):=by
 obtain⟨l,rfl,hl,n,hf⟩:=aFG Tryz.underlying25 (aSa _ Tryz.underlying25) c25 hv h
 match l,hl with
 |[a0,a1,a2,a3,a4,a5,a6,a7,a8,a9,a10,a11,a12,a13,a14,a15,a16,a17],_=>
 obtain⟨_,h0⟩:=hf 0 _ _ rfl rfl
 obtain⟨_,h1⟩:=hf 1 _ _ rfl rfl
 obtain⟨_,h2⟩:=hf 2 _ _ rfl rfl
 obtain⟨_,h3⟩:=hf 3 _ _ rfl rfl
 obtain⟨_,h4⟩:=hf 4 _ _ rfl rfl
 obtain⟨_,h5⟩:=hf 5 _ _ rfl rfl
 obtain⟨_,h6⟩:=hf 6 _ _ rfl rfl
 obtain⟨_,h7⟩:=hf 7 _ _ rfl rfl
 obtain⟨_,h8⟩:=hf 8 _ _ rfl rfl
 obtain⟨_,h9⟩:=hf 9 _ _ rfl rfl
 obtain⟨_,h10⟩:=hf 10 _ _ rfl rfl
 obtain⟨_,h11⟩:=hf 11 _ _ rfl rfl
 obtain⟨_,h12⟩:=hf 12 _ _ rfl rfl
 obtain⟨_,h13⟩:=hf 13 _ _ rfl rfl
 obtain⟨_,h14⟩:=hf 14 _ _ rfl rfl
 obtain⟨_,h15⟩:=hf 15 _ _ rfl rfl
 obtain⟨_,h16⟩:=hf 16 _ _ rfl rfl
 obtain⟨_,h17⟩:=hf 17 _ _ rfl rfl
 clear hf
 obtain⟨n0,e0,_,w0⟩:=DataW.trod_int Tryz.underlying5 h0
 obtain⟨n1,e1,_⟩:=DataW.trod_bool Tryz.underlying4 h1
 obtain⟨n2,e2,_,w2⟩:=DataW.trod_int Tryz.underlying2 h2
 obtain⟨n3,e3,_,w3⟩:=DataW.trod_int Tryz.underlying3 h3
 obtain⟨n4,e4,_,w4⟩:=DataW.trod_int Tryz.underlying3 h4
 obtain⟨n5,e5,_,w5⟩:=DataW.trod_int Tryz.underlying3 h5
 obtain⟨n6,e6,_⟩:=DataW.trod_bool Tryz.underlying4 h6
 obtain⟨n7,e7,_,w7⟩:=DataW.trod_int Tryz.underlying2 h7
 obtain⟨x8,q8,o8,l8,k8,s8,r8⟩:=jW Tryz.underlying22 Tryz.underlying3 c3 hW h8
 obtain⟨x9,q9,o9,l9,k9,s9,r9⟩:=jW Tryz.underlying22 Tryz.underlying3 c3 hW h9
 obtain⟨x10,q10,o10,l10,k10,s10,r10⟩:=jW Tryz.underlying22 Tryz.underlying3 c3 hW h10
 obtain⟨x11,q11,o11,l11,k11,s11,r11⟩:=jW Tryz.underlying22 Tryz.underlying3 c3 hW h11
 obtain⟨x12,q12,o12,l12,k12,s12,r12⟩:=jW Tryz.underlying22 Tryz.underlying3 c3 hW h12
 obtain⟨x13,q13,o13,l13,k13,s13,r13⟩:=aMe Tryz.underlying23 Tryz.underlying41 (by kernel_rfl) rfl rfl c3 c3 Tryz.underlying3 Tryz.underlying3 hW h13
 obtain⟨x14,q14,o14,l14,k14,s14,r14⟩:=jW Tryz.underlying22 Tryz.underlying3 c3 hW h14
 obtain⟨x15,q15,o15,l15,k15,s15,r15⟩:=jW Tryz.underlying22 Tryz.underlying3 c3 hW h15
 obtain⟨x16,q16,o16,l16,k16,s16,r16⟩:=jW Tryz.underlying22 Tryz.underlying3 c3 hW h16
 obtain⟨x17,q17,o17,l17,k17,s17,r17⟩:=jW Tryz.underlying22 Tryz.underlying3 c3 hW h17
 clear h0 h1 h2 h3 h4 h5 h6 h7 h8 h9 h10 h11 h12 h13 h14 h15 h16 h17
 simp only[List.cons.injEq,and_true] at e0 e1 e2 e3 e4 e5 e6 e7
 subst e0;subst e1;subst e2;subst e3;subst e4;subst e5;subst e6;subst e7
 have b0:=aC8 w0
 obtain⟨f,rfl⟩:∃f:Nat,n0=(f:Int):=⟨n0.toNat,by omega⟩
 refine⟨⟨f,n1,n2,n3,n4,n5,n6,n7,l8,l9,l10,l11,l12,l13,l14,l15,l16,l17⟩,fun k=>⟨x8 (k+0),x9 (k+1),x10 (k+2),x11 (k+3),x12 (k+4),x13 (k+5),x14 (k+6),x15 (k+7),x16 (k+8),x17 (k+9)⟩,
  [(o8,q8),(o9,q9),(o10,q10),(o11,q11),(o12,q12),(o13,q13),(o14,q14),(o15,q15),(o16,q16),(o17,q17)],
  ⟨by show f≤255;omega,kO w2,kO w7,kO w3,kO w4,kO w5,r8,r9,r10,r11,r12,r14,r15,r16,r17,r13⟩,rfl,?_,?_,?_⟩
 ·intro q hq
  simp only[List.mem_cons,List.mem_nil_iff,or_false] at hq
  rcases hq with rfl|rfl|rfl|rfl|rfl|rfl|rfl|rfl|rfl|rfl
  ·exact⟨k8.relO,k8.mine⟩
  ·exact⟨k9.relO,k9.mine⟩
  ·exact⟨k10.relO,k10.mine⟩
  ·exact⟨k11.relO,k11.mine⟩
  ·exact⟨k12.relO,k12.mine⟩
  ·exact⟨k13.relO,k13.mine⟩
  ·exact⟨k14.relO,k14.mine⟩
  ·exact⟨k15.relO,k15.mine⟩
  ·exact⟨k16.relO,k16.mine⟩
  ·exact⟨k17.relO,k17.mine⟩
 ·intro k H hH
  exact⟨s8 _ _ (hH 0 _ rfl),s9 _ _ (hH 1 _ rfl),s10 _ _ (hH 2 _ rfl),s11 _ _ (hH 3 _ rfl),s12 _ _ (hH 4 _ rfl),s13 _ _ (hH 5 _ rfl),s14 _ _ (hH 6 _ rfl),s15 _ _ (hH 7 _ rfl),s16 _ _ (hH 8 _ rfl),s17 _ _ (hH 9 _ rfl)⟩
 ·intro k m hm
  exact⟨_,rfl,rfl,rfl,rfl,rfl,rfl,rfl,rfl,rfl,k8.rel _ _ (hm 0 _ rfl),k9.rel _ _ (hm 1 _ rfl),k10.rel _ _ (hm 2 _ rfl),k11.rel _ _ (hm 3 _ rfl),k12.rel _ _ (hm 4 _ rfl),k13.rel _ _ (hm 5 _ rfl),k14.rel _ _ (hm 6 _ rfl),k15.rel _ _ (hm 7 _ rfl),k16.rel _ _ (hm 8 _ rfl),k17.rel _ _ (hm 9 _ rfl),trivial⟩
end
def qP (L:List (aD×(Nat×Nat))):aB:=.gone::L.map (·.1)
def mG (L:List (aD×(Nat×Nat))):aX:=(0,0)::L.map (·.2)
theorem aMg {W:World} (L:List (aD×(Nat×Nat))) (hL:∀p∈L,(∀m:aX,relO (CB W) m W p.2 p.1)∧p.1.mine=false):cE (CB W) (mG L) W (qP L):=by
 have hall:∀p∈(aD.gone,((0:Nat),(0:Nat)))::L,(∀m:aX,relO (CB W) m W p.2 p.1)∧p.1.mine=false:=by
  intro p hp
  rcases List.mem_cons.1 hp with rfl|hp
  ·exact⟨fun _=>trivial,rfl⟩
  ·exact hL p hp
 have hget:∀(o:Nat) x b,(qP L)[o]?=some x→(mG L)[o]?=some b→(x,b)∈(aD.gone,((0:Nat),(0:Nat)))::L:=by
  intro o x b h1 h2
  have e1:qP L=((aD.gone,((0:Nat),(0:Nat)))::L).map (·.1):=rfl
  have e2:mG L=((aD.gone,((0:Nat),(0:Nat)))::L).map (·.2):=rfl
  rw[e1,List.getElem?_map] at h1
  rw[e2,List.getElem?_map] at h2
  cases hk:((aD.gone,((0:Nat),(0:Nat)))::L)[o]? with
  |none=>rw[hk] at h1;cases h1
  |some p=>
   rw[hk] at h1 h2
   simp only[Option.map_some,Option.some.injEq] at h1 h2
   subst h1;subst h2
   exact List.mem_of_getElem? hk
 exact {
  below:=Below.refl _ _
  size:=Nat.le_refl _
  len:=by unfold mG qP;simp
  glob:=fun g hg=>by
   have:g<1:=hg
   obtain rfl:g=0:=by omega
   rfl
  obj:=fun o x b h1 h2=>(hall _ (hget o x b h1 h2)).1 _
  apart:=fun o o' x x' b b' _ h1 h2 h3 h4 hm=>by
   have:=(hall _ (hget o x b h1 h3)).2
   simp only at this
   rw[this] at hm
   cases hm}
theorem aBH {L:List (aD×(Nat×Nat))} {i:Nat} {p:aD×(Nat×Nat)} (h:L[i]?=some p):(qP L)[1+i]?=some p.1∧(mG L)[1+i]?=some p.2:=by
 unfold qP mG
 rw[Nat.add_comm,List.getElem?_cons_succ,List.getElem?_cons_succ,List.getElem?_map,List.getElem?_map,h]
 exact⟨rfl,rfl⟩
theorem aMh {W:World} (h:W.ShapedOpen prog):0<W.heap.size:=by
 obtain⟨z,t,hz⟩:∃z t,(((begin prog (fun _ _=>0) default).world.heap[0]?).bind Obj.row?)=some (z,t):=⟨#[.bool false],4,by kernel_rfl⟩
 obtain⟨cs,hc,-,-⟩:=h.1 0 z t (odT (by kernel_rfl)) hz
 exact (Array.getElem?_eq_some_iff.1 hc).1
theorem aPT:laidOutB prog=true:=by kernel_rfl
theorem own:ownKnob prog.godebug=none:=by kernel_rfl
theorem aSb (n:Nat) (hn:n≤255):gU prog 5 3 (vU n)=some (vI n):=by
 rw[dL (P:=prog) Tryz.underlying5 Tryz.underlying3,aJ (by omega)]
set_option maxHeartbeats 1000000 in
theorem aKY {w0:World} (r:Ru) (x:Rs) (hn:aA7 r) (n:Nat) (hnn:n≤255) (H:aB) (hx:cN H r x) :
  aH prog (CB w0) 3 [.agg (aE r x),vU n] H fun v H'=>v=vB true:=by
 refine aSi (N:=42) (rs:=[.tmp 4]) Tryz.func3 ?_
 rintro e he ⟨g0,g1,-⟩
 have hz:=aKa (w0:=w0) r x _ (hx.more [aD.own 25 (aE r x)])
 unfold aE at g0 hz
 simp only[go_sem,he,g0,g1,hx.setPos.one,hx.month.one,hx.monthDay.one,hx.yearDay.one,hx.weekNo.one,hx.day.one,hx.hour.one,hx.minute.one,hx.second.one,hx.easter.one]
 refine aI hz ?_
 rintro _ _ ⟨rfl,rfl⟩
 simp only[go_sem,he,g0,g1,aA]
 refine aF (fun hf=>?_) fun hf=>?_
 ·simp only[go_sem,he,g0,g1]
 rw[Bool.not_eq_false'] at hf
 have hl:=aLm hf
 have e16:i64.wrap (1+((n:Int)).tmod 40)=((1+n%40:Nat):Int):=by
  rw[Int.tmod_eq_emod_of_nonneg (by omega),aJ (by omega)];omega
 obtain⟨m,hm⟩:∃m:Nat,m=1+n%40:=⟨_,rfl⟩
 rw[←hm] at e16
 have ha:=aPM (w0:=w0) r x hl hn m (by omega) _ (hx.more [aD.own 25 (aE r x)])
 unfold aE at ha
 simp only[go_sem,he,g0,g1,aSb n hnn,e16]
 refine aI ha ?_
 rintro _ _ ⟨y,l,ok,rfl,hS,hok⟩
 obtain⟨G,rfl⟩:=hS.front
 have hS:=hS.at
 simp only[go_sem,he,g0,g1,aA] at hS ⊢
 cases ok with
 |false=>
  simp only[go_sem,he,g0,g1]
  refine aI (aHy _) ?_
  rintro _ _ ⟨rfl,rfl⟩
  simp only[go_sem,he,g0,g1,aA]
 |true=>
 obtain⟨g,hld⟩:=hok rfl
 have ht:=aLL (w0:=w0) r (by have:=g.clean.dayLen;omega) x _ (hx.more (aD.own 25 (aE r x)::G))
 unfold aE at ht
 simp only[go_sem,he,g0,g1]
 refine aI ht ?_
 rintro _ _ ⟨⟨z,rfl,hz⟩,G2,rfl⟩
 have hfi:=aHw (w0:=w0) r g z _ hz m (by omega)
 have hS:=hS.more G2
 unfold aE at hfi
 simp only[go_sem,he,g0,g1,aA] at hfi hS ⊢
 refine aI hfi ?_
 rintro _ _ ⟨⟨q,rfl,hq⟩,G3,rfl⟩
 have q1:=hq.one
 have hq2:=GrT.at hq
 have hS:=hS.more G3
 simp only[go_sem,he,g0,g1,aA] at hS ⊢
 refine aI (aHy _) ?_
 rintro _ _ ⟨rfl,rfl⟩
 simp only[go_sem,he,g0,g1,aA]
 try simp only[go_sem] at hq2
 refine aI (aHx _ _ (by rw[List.length_take];omega) (by rw[hld,List.length_take];omega) q y _ hq2 hS) ?_
 rintro _ _ ⟨rfl,rfl⟩
 rw[dcT hld.symm]
 simp only[go_sem,he,g0,g1,aA]
end F
end Go.Proofs.YtnoppodfngkoeaaGreat
