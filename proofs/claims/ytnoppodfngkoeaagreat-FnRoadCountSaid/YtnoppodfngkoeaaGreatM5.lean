/- Merged texts of one proof. -/
import Derived.Test.YtnoppodfngkoeaaGreatM4
set_option linter.unusedVariables false
set_option linter.unusedSimpArgs false
set_option maxRecDepth 20000
namespace Go.Proofs.YtnoppodfngkoeaaGreat
open Tryz Go.IntKind
namespace F
open Go.RowKit Go.Proofs.YtnoppodfngkoeaaGreat.AL
end F
open Go.RowKit Go.Proofs.YtnoppodfngkoeaaGreat.AL Go.Proofs.YtnoppodfngkoeaaGreat.F
attribute [local irreducible] bJ cB gT eJ mP gI jM aDi aAC aAE aDS lT gR aBQ lY oI rV rA kT tX AWp cW aDk
attribute [local go_sem] aDZ vO tQ tP tO gD vJ aAl rS aAm aCi aAn iW aCj aDI xV aDJ aBR aBS aDK vR aAT aCF mT aAU aCG aAo xW aCk aCl aDM aDN aDO aDL aPW aAs aAt xX xY vK xZ aCm yA aCn uR aAu aCo vL sG sH aAv aAw vM aAx oX uS aAy aCp yB aAz aDP qY sI vN aAA yC sJ aDQ yD aCq aFL aCh aAk aDH aI9 aDG aFJ aFK aDF Nat.reduceLT Nat.reduceBEq List.map_cons List.map_nil Option.map_some Option.map_none aAB aDR yE aCr aAD aDT aDU aCs aCt aFN aFO aFP aFQ aFR aFS aFT aFU aFV aFW aFX aFY aD2 aD3 yF yG tV aAG yH yI aAJ aAH aAI aEe aEf aEg aF4 aJe aJf aJg aD4 aD5 aFZ aAK aCw aD6 aCH aCI aCJ qF mU aCK aAV aCL aCM aAW aCN aAX aAY aAZ aEb mkS aAL aCx aCy aAM aCz aAN aAP aAQ yJ aD7 bB bX qZ tW aD8 yK aD9 aEa aCA aCB aCC aCD aCE List.length_cons List.length_nil List.getElem?_cons_zero List.getElem?_cons_succ List.set_cons_zero List.set_cons_succ List.cons_append List.nil_append List.append_assoc Nat.reduceAdd Nat.zero_add Nat.add_zero Int.reduceBEq List.all_cons List.all_nil Value.oneCell' Bool.and_true Bool.and_self if_true if_false Bool.false_eq_true hZ aAq lG pH Option.bind_some fQ List.drop_succ_cons List.drop_zero List.take_succ_cons List.take_zero List.take_nil List.drop_nil Nat.reduceLeDiff and_self and_true true_and reduceIte Option.some.injEq Nat.reduceEqDiff ne_eq Int.reduceEq Int.reduceLE Int.reduceLT Int.reduceNe not_false_eq_true Option.map_map List.getElem?_toArray beq_self_eq_true Bool.true_beq Bool.false_beq Bool.not_true Bool.not_false decide_true decide_false beq_true Nat.reduceMul Nat.mul_one Nat.one_mul Nat.zero_mul bsA gW iM List.append_nil Nat.reduceSub Int.reduceToNat Int.toNat_natCast Int.toNat_zero aK9 sM aF0 aJh aJi aF1 aJj yL yM uT vV yN aA0 aA1 yO aA2 aEc aF2 gF jY aAr nO aA4 aEh aEd kd1 sz1 zc1 if1 kd2 sz2 zc2 if2 kd3 sz3 zc3 if3 kd4 sz4 zc4 if4 kd5 sz5 zc5 if5 kd7 sz7 zc7 fp7 aMj aMk aMl aMm if7 kd9 sz9 zc9 if9 aPZ aP0 aP1 aP2 aP3 aP4 aP5 aP6 aJm aJn aP7 aP8 aP9 aQa aQb aJo aQc aQd aQe aQf aQg aQh aQi aQj aQk aQl aQm mW aQn aQo aQp aQq aLd aQr aQs aQt aQu aQv aJp aJq aJr aJs aJt aJu aJv aJw aJx aJy aF5 aF6 aF7 aF8 aF9 aGa aGb aGc aQw aQx aQy aQz aBT aQA aQB aQC aQD aLe aQE aQF aQG aQH aQI aJz aJA aJB aJC aJD aJE aJF aJG aJH aJI aGd aGe aGf aGg aGh aGi aGj aGk aQJ aQK aQL aQM aQN aJJ aJK aJL aQO aQP aQQ aQR aQS aQT aQU aQV aQW aQX aQY aQZ aQ0 aQ1 aQ2 aQ3 aJM aJN aJO aQ4 aQ5 aQ6 aQ7 aQ8 aJP aJQ aJR aQ9 aRa aRb aRc aH1 aRd aRe aRf aRg aRh aJS aJT aJU aJV aJW aJX aJY aJZ aJ0 aJ1 aGl aGm aGn aGo aGp aGq aRi aRj aRk aRl aRm aRn aRo aRp aRq aJ2 aJ3 aJ4 aRr aRs aRt aRu aRv aRw aRx aRy vW aRz aMn aMo aMp aMq aGr aGs aGt aGu aGv aGw aGx aGy aGz aGA aEi aEj aEk aEl aEm aEn aEo aEp aEq aEr aEs aEt aMr aMs aMt aMu aMv aMw aMx aMy aMz aGB aGC aGD aGE aGF aGG aGH aGI aGJ aGK aEu aEv aEw aEx aEy aMA aMB aMC aMD aME aGL aGM aMF aMG aMH aMI aA5 aMJ aMK aML aMM aMN aGN aGO aGP aGQ aGR aGS aGT aGU aGV aGW aEz aEA aEB aEC aMO aMP aMQ aMR aMS aMT aMU aMV aMW aMX aMY aMZ aM0 aM1 aM2 aM3 aM4 aM5 aM6 aM7 aM8 aM9 aNa aNb aNc aJ5 aNd aNe aNf aNg aNh aNi aJ6 aNj aNk aNl aNm aNn aNo aGX aGY aGZ aG0 aNp aNq aNr aNs aNt aNu aNv aNw aNx aG1 aG2 aG3 aNy aNz aNA aNB aNC aG4 aG5 aG6 aG7 aND aNE aNF aNG aNH aNI aNJ aNK aNL aNM aNN aNO aNP aNQ aNR aNS aNT aNU aNV aNW aNX aNY aNZ aN0 aN1 aN2 aN3 aH2 aN4 aN5 aN6 aN7 aN8 aN9 aOa aOb aOc aOd aOe aOf aOg aOh aOi aOj aOk aJ7 aOl aOm aOn aOo aOp aOq aOr aOs aOt aOu aG8 aOv aOw aOx aOy aOz aOA aOB aOC aOD aOE aOF aOG aG9 aHa aOH aOI aOJ aOK aOL aOM aON aOO aOP aOQ aOR aOS aOT aOU aOV aOW aOX Tryz.underlying1 Tryz.underlying2 Tryz.underlying3 Tryz.underlying4 Tryz.underlying5 Tryz.underlying7 Tryz.underlying9 Tryz.underlying12 Tryz.underlying13 Tryz.underlying18 Tryz.underlying20 Tryz.underlying21 Tryz.underlying22 Tryz.underlying23 Tryz.underlying25 Tryz.underlying27 Tryz.underlying32 Tryz.underlying34 Tryz.underlying41 Tryz.underlying71 Tryz.underlying73 Tryz.underlying76 Tryz.underlying78 Tryz.underlying80 Tryz.underlying81 Tryz.underlying83 Tryz.underlying86 Tryz.underlying90 Tryz.underlying95 Tryz.underlying99 Tryz.underlying112 Tryz.underlying115 Tryz.underlying117 Tryz.underlying119 Tryz.underlying120 Tryz.underlying122 Tryz.underlying128 Tryz.underlying132 Tryz.underlying134 Tryz.underlying143 Tryz.underlying145 Tryz.underlying151 Tryz.underlying152 Tryz.underlying154 Tryz.underlying157 Tryz.underlying159 Tryz.underlying164 Tryz.underlying165 Tryz.underlying169 Tryz.underlying174 Tryz.underlying177 Tryz.underlying182 Tryz.underlying186 Tryz.underlying189 Tryz.underlying194 Tryz.underlying199 Tryz.underlying200 Tryz.underlying205 Tryz.underlying207 Tryz.underlying210 Tryz.underlying214 Tryz.underlying219 Tryz.underlying226 Tryz.underlying232 Tryz.underlying240 Tryz.underlying251
attribute [local go_sem_proc] Nat.reduceLT Nat.reduceBEq Nat.reduceAdd Int.reduceBEq Nat.reduceLeDiff reduceIte Nat.reduceEqDiff Int.reduceEq Int.reduceLE Int.reduceLT Int.reduceNe Nat.reduceMul Nat.reduceSub Int.reduceToNat
namespace F
open Go.RowKit Go.Proofs.YtnoppodfngkoeaaGreat.AL
def bW (h:aB) (x:AV) (l:List Int):Prop:=∃o off cs,x=.sl true o off l.length 1∧h[o]?=some (.own 3 cs)∧(cs.drop off).take l.length=l.map vI∧off+l.length≤cs.length
theorem bW.one {h:aB} {x:AV} {l:List Int} (hx:bW h x l):x.one=true:=by obtain⟨o,off,cs,rfl,_⟩:=hx;rfl
theorem bW.more {h:aB} {x:AV} {l:List Int} (hx:bW h x l) (G:aB):bW (h++G) x l:=by
 obtain⟨o,off,cs,h1,h2,h3⟩:=hx
 exact⟨o,off,cs,h1,aZ h2,h3⟩
theorem bW.ints {h:aB} {x:AV} {l:List Int} (hx:bW h x l):aQ h x l:=by
 obtain⟨o,off,cs,rfl,h2,h3,h4⟩:=hx
 refine .inr ⟨true,o,off,cs,rfl,by rw[h2];rfl,fun i hi=>?_⟩
 rw[Nat.mul_one] at hi
 have e:((cs.drop off).take l.length)[i]?=cs[off+i]?:=by rw[List.getElem?_take_of_lt hi,List.getElem?_drop]
 rw[←e,h3,List.getElem?_map]
 show Option.map vI l[i]?=some (vI (l.getD i 0))
 rw[List.getD_eq_getElem?_getD,List.getElem?_eq_getElem hi]
 rfl
theorem bW.keep {h h':aB} {x:AV} {l:List Int} (hx:bW h x l) {S:Nat→Prop} (hk:cR S h h') (hs:∀p cs,h[p]?=some (.own 3 cs)→¬S p):bW h' x l:=by
 obtain⟨o,off,cs,h1,h2,h3⟩:=hx
 exact⟨o,off,cs,h1,hk o _ h2 (hs o cs h2),h3⟩
theorem New.atG {h:aB} {ob:Nat} {Y0:aD} {G G':aB} {x:AV} {l:List Int} (hn:New (h.set ob Y0++G) (h.set ob Y0++(G++G')) x l) (hl:l≠[]):∃o,x=.sl true o 0 l.length 1∧h.length≤o∧∀Y,(h.set ob Y++(G++G'))[o]?=some (.own 3 (l.map vI)):=by
 obtain⟨o,rfl,ho,hol⟩:=hn.sl hl
 simp only[List.length_append,List.length_set] at hol
 refine⟨o,rfl,by omega,fun Y=>?_⟩
 rw[List.getElem?_append_right (by rw[List.length_set];omega),List.length_set] at ho ⊢
 exact ho
theorem qM {h:aB} {o:Nat} {l:List Int} (ho:h[o]?=some (.own 3 (l.map vI))):bW h (.sl true o 0 l.length 1) l:=⟨o,0,_,rfl,ho,by rw[List.drop_zero,List.take_of_length_le (by simp)],by simp⟩
theorem aC6 {h:aB} {o:Nat} {l:List Int} (ho:h[o]?=some (.own 3 (l.map vI))) (k:Nat) (hk:k≤l.length):bW h (.sl true o k (l.length-k) 1) (l.drop k):=
 ⟨o,k,_,by rw[List.length_drop],ho,by rw[List.length_drop,←List.map_drop,List.take_of_length_le (by simp)],by rw[List.length_drop,List.length_map];omega⟩
structure YT (h:aB) (I:It) (y:Int):Prop where
 yl:I.yl=(K.aM (aR y):Int)
 nyl:I.nyl=(K.aM (aR (y+1)):Int)
 fy:I.fy=aC y*86400
 yw:I.yw=aC y%7
 mm:bW h I.mm (K.rD (aR y))
 mr:bW h I.mr (K.eI (aR y))
 md:bW h I.md (K.v7 (aR y))
 nmd:bW h I.nmd (K.rE (aR y))
 wd:bW h I.wd ((fY 55).drop (aC y%7).toNat)
theorem aIH:∀n:Nat,iM [Value.int .i64 0] n=List.replicate n (vI 0):=by
 intro n
 induction n with
 |zero=>rfl
 |succ n ih=>rw[iM,ih,List.replicate_succ'];rfl
theorem aL5 (n:Nat) (H:aB) (hn:n≤100000):fS prog 22 (.val (.int .i64 n)) (.val (.int .i64 n)) H=some (.sl true H.length 0 n 1,H++[.own 3 ((List.replicate n (0:Int)).map vI)]):=by
 unfold fS
 rw[mW]
 simp only[]
 rw[if_pos ⟨by omega,by omega,by omega,by omega⟩,Int.toNat_natCast,aIH,List.map_replicate]
def j8 (h:aB) (I:It) (r:Ru) (y:Int):Prop:=(r.weekNo=[]∧I.wno=aP)∨(r.weekNo≠[]∧∃L:List Int,L.length=K.aM (aR y)+7∧bW h I.wno L∧∀x,x<K.aM (aR y)→L[x]?=some (if K.rZ r y x then 1 else 0))
theorem YT.of {h h':aB} {I:It} {y:Int} (t:YT h I y) (f:∀x l,bW h x l→bW h' x l):YT h' I y:=
 ⟨t.yl,t.nyl,t.fy,t.yw,f _ _ t.mm,f _ _ t.mr,f _ _ t.md,f _ _ t.nmd,f _ _ t.wd⟩
theorem bW.setOb {h:aB} {x:AV} {l:List Int} (hx:bW h x l) {ob t:Nat} {c:List AV} (ho:h[ob]?=some (.own t c)) (ht:t≠3) (Y:aD):bW (h.set ob Y) x l:=by
 obtain⟨o,off,cs,h1,h2,h3⟩:=hx
 refine⟨o,off,cs,h1,?_,h3⟩
 rw[List.getElem?_set_ne (by rintro rfl;rw[ho] at h2;cases h2;exact ht rfl)]
 exact h2
structure aO1 (I:It) (o q:Nat) (h1 h:aB) (r:Ru) (cs:List AV):Prop where
 front:∃G,h=h1++G
 ob:h[o]?=some (.own 122 I.cells)
 rr:I.rr=.ptr q 0
 rule:h[q]?=some (.own 112 cs)
 obB:h1.length≤o
theorem bW.cut {h:aB} {p off n:Nat} {L:List Int} (hx:bW h (.sl true p off n 1) L) {lo:Nat} {a b:Int} (ha:L[lo]?=some a) (hb:L[lo+1]?=some b):bW h (.sl true p (off+lo) 2 1) [a,b]:=by
 obtain⟨o,off',cs,e1,e2,e3,e4⟩:=hx
 simp only[AV.sl.injEq] at e1
 obtain⟨-,rfl,rfl,rfl,-⟩:=e1
 have hl:=(List.getElem?_eq_some_iff.1 hb).1
 refine⟨p,off+lo,cs,rfl,e2,?_,by simp only[List.length_cons,List.length_nil];omega⟩
 have e5:((cs.drop off).drop lo).take 2=((L.map vI).drop lo).take 2:=by
  rw[←e3,List.drop_take,List.take_take]
  congr 1
  omega
 rw[List.drop_drop] at e5
 simp only[List.length_cons,List.length_nil]
 rw[e5]
 apply List.ext_getElem?
 intro i
 match i with
 |0=>rw[List.getElem?_take_of_lt (by omega),List.getElem?_drop,List.getElem?_map,Nat.add_zero,ha];rfl
 |1=>rw[List.getElem?_take_of_lt (by omega),List.getElem?_drop,List.getElem?_map,hb];rfl
 |i+2=>rw[List.getElem?_eq_none (by rw[List.length_take];omega),List.getElem?_eq_none (by simp)]
def pG (h:aB) (I:It) (r:Ru) (y m:Int):Prop:=(K.cX r=[]∧I.nwd=aP)∨(K.cX r≠[]∧∃L:List Int,L.length=K.aM (aR y)∧bW h I.nwd L∧∀x,x<L.length→L[x]?=some (if K.nwB r y m x then 1 else 0))
def z4 (h:aB) (I:It) (r:Ru) (y:Int):Prop:=(r.easter=[]∧I.ea=aP)∨(r.easter≠[]∧∃L:List Int,L.length=K.aM (aR y)+7∧bW h I.ea L∧∀x,x<L.length→L[x]?=some (if r.easter.contains ((x:Int)-(K.cS y-aC y)) then 1 else 0))
structure aE9 (h:aB) (I:It) (r:Ru) (y m:Int):Prop where
 yt:YT h I y
 wno:j8 h I r y
 nw:pG h I r y m
 ea:z4 h I r y
 ly:I.ly=y
 lm:I.lm=m
theorem j8.of {h h':aB} {I:It} {r:Ru} {y:Int} (t:j8 h I r y) (f:∀x l,bW h x l→bW h' x l):j8 h' I r y:=by
 rcases t with t|⟨a,L,b,c,d⟩
 ·exact .inl t
 ·exact .inr ⟨a,L,b,f _ _ c,d⟩
theorem pG.of {h h':aB} {I:It} {r:Ru} {y m:Int} (t:pG h I r y m) (f:∀x l,bW h x l→bW h' x l):pG h' I r y m:=by
 rcases t with t|⟨a,L,b,c,d⟩
 ·exact .inl t
 ·exact .inr ⟨a,L,b,f _ _ c,d⟩
theorem z4.of {h h':aB} {I:It} {r:Ru} {y:Int} (t:z4 h I r y) (f:∀x l,bW h x l→bW h' x l):z4 h' I r y:=by
 rcases t with t|⟨a,L,b,c,d⟩
 ·exact .inl t
 ·exact .inr ⟨a,L,b,f _ _ c,d⟩
def It.same (I I2:It):Prop:=I2={I with ly:=I2.ly,lm:=I2.lm,yl:=I2.yl,nyl:=I2.nyl,fy:=I2.fy,yw:=I2.yw,mm:=I2.mm,mr:=I2.mr,md:=I2.md,nmd:=I2.nmd,wd:=I2.wd,wno:=I2.wno,nwd:=I2.nwd,ea:=I2.ea}
theorem qN (y:Int):i64.wrap (365+(if aR y then 1 else 0))=(K.aM (aR y):Int):=by
 rw[aJ (by split<;>omega)]
 unfold K.aM
 split<;>rfl
set_option maxHeartbeats 4000000 in
theorem wW {w0:World} (I:It) (ob rr:Nat) (h1 h:aB) (r:Ru) (cs:List AV) (hp:aO1 I ob rr h1 h r cs) {sp mo p n yd wn bw nw ho mi se ea ts:AV} (hc:RRc cs r sp mo p n yd wn bw nw ho mi se ea ts) (y m:Int) (hy:2≤y∧y≤9999) (hm:1≤m∧m≤12) (hG:K.GP r) (hwn:aQ h1 wn r.weekNo) (hmo:aQ h1 mo r.month) (hnw:cU h1 nw (K.cX r)) (hea:aQ h1 ea r.easter) (hold:I.ly=y→YT h I y∧j8 h I r y∧(I.lm=m→pG h I r y m)) (hnil:(K.cX r=[]→I.nwd=aP)∧(r.easter=[]→I.ea=aP)) :
  aH prog (CB w0) 83 [.ptr ob 7,vI y,vI m] h fun r' h'=>r'=.tup []∧∃(I2:It) (G:aB),h'=h.set ob (.own 122 I2.cells)++G∧aE9 h' I2 r y m∧I.same I2:=by
 have hk7:0≤r.wkst∧r.wkst≤6:=hG.wkst
 have hwl12:r.weekNo.length≤12:=hG.lens.2.2.2.2.1
 have hwb:∀n∈r.weekNo,-51≤n∧n≤51∧n≠0:=hG.weekNo
 have hob0:=hp.ob
 have hru0:=hp.rule
 have hne:rr≠ob:=fun e=>by rw[e,hob0] at hru0;simp at hru0
 have hlt:=(List.getElem?_eq_some_iff.1 hob0).1
 have hobI:=hob0
 have hlW:lenK (some (.slice 3)) wn=some (vI r.weekNo.length):=hwn.len 3
 have wn1:=hwn.one
 refine aSi (N:=638) (rs:=[]) Tryz.func83 ?_
 rintro e he ⟨g0,g1,g2,-⟩
 unfold It.cells at hob0
 rw[hp.rr] at hob0
 simp only[go_sem,he,g0,g1,g2,hob0]
 refine bC (fun e hk=>len e=638∧AL.get e 0=.ptr ob 7∧AL.get e 1=vI y∧AL.get e 2=vI m∧∃(I1:It) (G:aB),hk=h.set ob (.own 122 I1.cells)++G∧(∀Y,YT (h.set ob Y++G) I1 y∧j8 (h.set ob Y++G) I1 r y)∧I1={I with yl:=I1.yl,nyl:=I1.nyl,fy:=I1.fy,yw:=I1.yw,mm:=I1.mm,mr:=I1.mr,md:=I1.md,nmd:=I1.nmd,wd:=I1.wd,wno:=I1.wno}) (fun hq=>?_) (fun hq=>?_) ?_
 ·simp only[go_sem,he,g0,g1,g2,hob0]
  refine aSh (zR y (by omega) _) ?_
  have hS:∀y:aD,(h.set ob y)[ob]?=some y:=fun y=>List.getElem?_set_self hlt
  have hR:∀y:aD,(h.set ob y)[rr]?=some (.own 112 cs):=fun y=>by rw[List.getElem?_set_ne (fun e=>hne e.symm)];exact hru0
  have wy:i64.wrap (y+1)=y+1:=aJ (by omega)
  have hcl:=hc.len
  have hcs:=hc.start
  have hby:0≤aC y∧aC y≤3652059:=by
   have h1:=K.cK (show 1≤y by omega)
   have h2:=K.cK (show y≤9999 by omega)
   have e1:aC 1=0:=rfl
   have e2:aC 9999=3651694:=rfl
   omega
  simp only[go_sem,he,g0,g1,g2,hob0,aA,qN,hS,wy]
  refine aSh (zR (y+1) (by omega) _) ?_
  simp only[go_sem,he,g0,g1,g2,aA,qN,hS,hR,List.set_set,hcl,hcs]
  refine aSh (gX _ _) ?_
  simp only[go_sem,he,g0,g1,g2,aA]
  refine aSh (gZ y 1 1 0 0 0 0 ⟨by omega,by omega,by omega,by omega,by omega,by omega,by omega⟩ _ rfl _) ?_
  have hds:eL y 1 1 0 0 0=aC y*86400:=by
   have e1:y+((1:Int)-1)/12=y:=by omega
   have e2:(((1:Int)-1)%12).toNat=0:=rfl
   unfold eL
   rw[e1,e2]
   simp only[bA]
   omega
  rw[hds]
  simp only[go_sem,he,g0,g1,g2,aA,hS,hR,List.set_set,hcl]
  refine aSh (pU (aC y*86400) (by unfold InY;omega) _) ?_
  have hw1:(aC y*86400/86400+1)%7=(aC y+1)%7:=by omega
  rw[hw1]
  simp only[go_sem,he,g0,g1,g2,aA,hS,hR,List.set_set,hcl]
  refine aSh (aBi ((aC y+1)%7) (by omega) _) ?_
  have hw2:((aC y+1)%7+6)%7=aC y%7:=by omega
  obtain⟨w,hwd,hw6⟩:∃w:Nat,aC y%7=w∧w≤6:=⟨(aC y%7).toNat,by omega,by omega⟩
  rw[hw2,hwd]
  simp only[go_sem,he,g0,g1,g2,aA,hS,hR,List.set_set,hcl]
  refine bF bI (by kernel_rfl) ?_
  simp only[go_sem,he,g0,g1,g2,aA,hS,hR,List.set_set,hcl]
  have hlS:∀Y:aD,(h.set ob Y).length=h.length:=fun Y=>List.length_set
  have hS2:∀(Y:aD) (G:aB),(h.set ob Y++G)[ob]?=some Y:=fun Y G=>by rw[cZ (by rw[hlS];exact hlt)];exact hS Y
  have hR2:∀(Y:aD) (G:aB),(h.set ob Y++G)[rr]?=some (.own 112 cs):=fun Y G=>by rw[cZ (by rw[hlS];exact (List.getElem?_eq_some_iff.1 hru0).1)];exact hR Y
  have hW2:∀(Y Y':aD) (G:aB),(h.set ob Y++G).set ob Y'=h.set ob Y'++G:=fun Y Y' G=>by rw[List.set_append_left _ _ (by rw[hlS];exact hlt),List.set_set]
  refine kR (aIk _) (fun r H' hr=>by obtain⟨G,rfl⟩:=hr.grown;exact List.prefix_append _ _) (New.ex _ _) ?_
  intro x0 hk hn
  obtain⟨G,rfl⟩:=hn.grown
  have hn':=hn
  rw[←List.append_nil (h.set ob _),List.append_assoc] at hn
  obtain⟨o0,rfl,-,ho0⟩:=New.atG hn (by decide)
  simp only[List.nil_append] at ho0
  have h55:(fY 55).length=385:=fA 55
  rw[h55]
  simp only[go_sem,he,g0,g1,g2,aA,hS2,hR2,hW2,hcl,Int.toNat_natCast,show (0:Int)≤(w:Int) by omega]
  refine⟨by omega,?_⟩
  refine bC (fun e hk=>len e=638∧AL.get e 0=.ptr ob 7∧AL.get e 1=vI y∧AL.get e 2=vI m∧∃(mm mr md nmd:AV) (G:aB),hk=h.set ob (.own 122 {I with yl:=(K.aM (aR y):Int),nyl:=(K.aM (aR (y+1)):Int),fy:=aC y*86400,yw:=w,wd:=.sl true o0 w (385-w) 1,mm:=mm,mr:=mr,md:=md,nmd:=nmd}.cells)++G∧
   ∀Y,bW (h.set ob Y++G) (.sl true o0 w (385-w) 1) ((fY 55).drop w)∧bW (h.set ob Y++G) mm (K.rD (aR y))∧bW (h.set ob Y++G) mr (K.eI (aR y))∧bW (h.set ob Y++G) md (K.v7 (aR y))∧bW (h.set ob Y++G) nmd (K.rE (aR y))) (fun hq=>?_) (fun hq=>?_) ?_
  ·have hq:=odT hq
   have hlp:aR y=false:=by cases hl:aR y with
    |false=>rfl
    |true=>rw[hl] at hq;simp[K.aM] at hq
   simp only[go_sem,he,g0,g1,g2,aA,hS2,hR2,hW2,hcl]
   refine aI (aIj _) ?_
   intro x1 hk1 n1
   obtain⟨G1,rfl⟩:=n1.grown
   rw[List.append_assoc (h.set ob _)] at n1 ⊢
   obtain⟨p1,rfl,-,q1⟩:=New.atG n1 (by decide)
   simp only[go_sem,he,g0,g1,g2,aA,hS2,hR2,hW2,hcl]
   refine aI (aDb _) ?_
   intro x2 hk2 n2
   obtain⟨G2,rfl⟩:=n2.grown
   rw[List.append_assoc (h.set ob _)] at n2 ⊢
   obtain⟨p2,rfl,-,q2⟩:=New.atG n2 (by decide)
   simp only[go_sem,he,g0,g1,g2,aA,hS2,hR2,hW2,hcl]
   refine aI (aBW _) ?_
   intro x3 hk3 n3
   obtain⟨G3,rfl⟩:=n3.grown
   rw[List.append_assoc (h.set ob _)] at n3 ⊢
   obtain⟨p3,rfl,-,q3⟩:=New.atG n3 (by decide)
   simp only[go_sem,he,g0,g1,g2,aA,hS2,hR2,hW2,hcl]
   refine aI (aFz _) ?_
   intro x4 hk4 n4
   obtain⟨G4,rfl⟩:=n4.grown
   rw[List.append_assoc (h.set ob _)] at n4 ⊢
   obtain⟨p4,rfl,-,q4⟩:=New.atG n4 (by decide)
   simp only[go_sem,he,g0,g1,g2,aA,hS2,hR2,hW2,hcl]
   have f0:∀Y,(h.set ob Y++(G++(G1++(G2++(G3++G4)))))[o0]?=_:=fun Y=>by have:=aZ (G:=G1++(G2++(G3++G4))) (ho0 Y);simpa only[List.append_assoc] using this
   have f1:∀Y,(h.set ob Y++(G++(G1++(G2++(G3++G4)))))[p1]?=_:=fun Y=>by have:=aZ (G:=G2++(G3++G4)) (q1 Y);simpa only[List.append_assoc] using this
   have f2:∀Y,(h.set ob Y++(G++(G1++(G2++(G3++G4)))))[p2]?=_:=fun Y=>by have:=aZ (G:=G3++G4) (q2 Y);simpa only[List.append_assoc] using this
   have f3:∀Y,(h.set ob Y++(G++(G1++(G2++(G3++G4)))))[p3]?=_:=fun Y=>by have:=aZ (G:=G4) (q3 Y);simpa only[List.append_assoc] using this
   have f4:∀Y,(h.set ob Y++(G++(G1++(G2++(G3++G4)))))[p4]?=_:=fun Y=>by have:=q4 Y;simpa only[List.append_assoc] using this
   rw[hlp]
   refine⟨_,_,_,_,G++(G1++(G2++(G3++G4))),?_,fun Y=>⟨by have:=aC6 (f0 Y) w (by rw[h55];omega);rwa [h55] at this,qM (f1 Y),qM (f4 Y),qM (f2 Y),qM (f3 Y)⟩⟩
   unfold It.cells
   rw[hp.rr]
   rfl
  ·have hq:=odF hq
   have hlp:aR y=true:=by cases hl:aR y with
    |true=>rfl
    |false=>rw[hl] at hq;simp[K.aM] at hq
   simp only[go_sem,he,g0,g1,g2,aA,hS2,hR2,hW2,hcl]
   refine aI (aBg _) ?_
   intro x1 hk1 n1
   obtain⟨G1,rfl⟩:=n1.grown
   rw[List.append_assoc (h.set ob _)] at n1 ⊢
   obtain⟨p1,rfl,-,q1⟩:=New.atG n1 (by decide)
   simp only[go_sem,he,g0,g1,g2,aA,hS2,hR2,hW2,hcl]
   refine aI (uV _) ?_
   intro x2 hk2 n2
   obtain⟨G2,rfl⟩:=n2.grown
   rw[List.append_assoc (h.set ob _)] at n2 ⊢
   obtain⟨p2,rfl,-,q2⟩:=New.atG n2 (by decide)
   simp only[go_sem,he,g0,g1,g2,aA,hS2,hR2,hW2,hcl]
   refine aI (sY _) ?_
   intro x3 hk3 n3
   obtain⟨G3,rfl⟩:=n3.grown
   rw[List.append_assoc (h.set ob _)] at n3 ⊢
   obtain⟨p3,rfl,-,q3⟩:=New.atG n3 (by decide)
   simp only[go_sem,he,g0,g1,g2,aA,hS2,hR2,hW2,hcl]
   refine aI (aFy _) ?_
   intro x4 hk4 n4
   obtain⟨G4,rfl⟩:=n4.grown
   rw[List.append_assoc (h.set ob _)] at n4 ⊢
   obtain⟨p4,rfl,-,q4⟩:=New.atG n4 (by decide)
   simp only[go_sem,he,g0,g1,g2,aA,hS2,hR2,hW2,hcl]
   have f0:∀Y,(h.set ob Y++(G++(G1++(G2++(G3++G4)))))[o0]?=_:=fun Y=>by have:=aZ (G:=G1++(G2++(G3++G4))) (ho0 Y);simpa only[List.append_assoc] using this
   have f1:∀Y,(h.set ob Y++(G++(G1++(G2++(G3++G4)))))[p1]?=_:=fun Y=>by have:=aZ (G:=G2++(G3++G4)) (q1 Y);simpa only[List.append_assoc] using this
   have f2:∀Y,(h.set ob Y++(G++(G1++(G2++(G3++G4)))))[p2]?=_:=fun Y=>by have:=aZ (G:=G3++G4) (q2 Y);simpa only[List.append_assoc] using this
   have f3:∀Y,(h.set ob Y++(G++(G1++(G2++(G3++G4)))))[p3]?=_:=fun Y=>by have:=aZ (G:=G4) (q3 Y);simpa only[List.append_assoc] using this
   have f4:∀Y,(h.set ob Y++(G++(G1++(G2++(G3++G4)))))[p4]?=_:=fun Y=>by have:=q4 Y;simpa only[List.append_assoc] using this
   rw[hlp]
   refine⟨_,_,_,_,G++(G1++(G2++(G3++G4))),?_,fun Y=>⟨by have:=aC6 (f0 Y) w (by rw[h55];omega);rwa [h55] at this,qM (f1 Y),qM (f4 Y),qM (f2 Y),qM (f3 Y)⟩⟩
   unfold It.cells
   rw[hp.rr]
   rfl
  clear he g0 g1 g2 hn hn' ho0
  rintro e hk ⟨he,g0,g1,g2,mm,mr,md,nmd,G2,rfl,hI⟩
  obtain⟨D,hD⟩:∃D:aB,D=G2:=⟨_,rfl⟩
  have one1:=(hI .gone).2.1.one
  simp only[It.cells,hp.rr]
  simp only[go_sem,he,g0,g1,g2,hS2,hR2,hW2,hcl,hc.wno,hlW]
  refine aF (fun hq2=>?_) fun hq2=>?_
  ·have hq2:=odT hq2
   have hw0:r.weekNo=[]:=List.length_eq_zero_iff.1 (by omega)
   simp only[go_sem,he,g0,g1,g2,hS2,hR2,hW2,hcl]
   refine⟨{I with yl:=(K.aM (aR y):Int),nyl:=(K.aM (aR (y+1)):Int),fy:=aC y*86400,yw:=w,wd:=.sl true o0 w (385-w) 1,mm:=mm,mr:=mr,md:=md,nmd:=nmd,wno:=aP},G2,?_,fun Y=>⟨?_,.inl ⟨hw0,rfl⟩⟩,by rw[←hp.rr]⟩
   ·simp only[hp.rr]
   ·obtain⟨a1,a2,a3,a4,a5⟩:=hI Y
    exact⟨rfl,rfl,rfl,hwd.symm,a2,a3,a4,a5,by rw[hwd,Int.toNat_natCast];exact a1⟩
  ·have hq2:=odF hq2
   have hw0:r.weekNo≠[]:=fun e=>hq2 (by rw[e];rfl)
   have hyl:K.aM (aR y)=365∨K.aM (aR y)=366:=by cases aR y<;>simp[K.aM]
   have wyl:i64.wrap ((K.aM (aR y):Int)+7)=((K.aM (aR y)+7:Nat):Int):=wN _ (by omega) (by omega)
   simp only[go_sem,he,g0,g1,g2,hS2,hR2,hW2,hcl,wyl,aL5 _ _ (show K.aM (aR y)+7≤100000 by omega),hlS]
   have w1:i64.wrap (7-(w:Int))=7-w:=aJ (by omega)
   have w2:i64.wrap (7-(w:Int)+r.wkst)=7-w+r.wkst:=aJ (by omega)
   have hwk:=hc.wkst
   refine bF bI (by kernel_rfl) ?_
   simp only[go_sem,he,g0,g1,g2,hS2,hR2,hW2,hcl,hwk,w1,w2]
   refine aSh (kX (7-w+r.wkst) 7 (by omega) (by omega) _) ?_
   obtain⟨f,hf,hf6⟩:∃f:Nat,(7-(w:Int)+r.wkst)%7=f∧f≤6:=⟨((7-(w:Int)+r.wkst)%7).toNat,by omega,by omega⟩
   rw[hf]
   simp only[go_sem,he,g0,g1,g2,aA]
   obtain⟨I2,hI2⟩:∃I2:It,I2={I with yl:=(K.aM (aR y):Int),nyl:=(K.aM (aR (y+1)):Int),fy:=aC y*86400,yw:=w,wd:=.sl true o0 w (385-w) 1,mm:=mm,mr:=mr,md:=md,nmd:=nmd,wno:=.sl true (h.length+G2.length) 0 (K.aM (aR y)+7) 1}:=⟨_,rfl⟩
   have hI2c:I2.cells=[vI I.year,vI I.month,vI I.day,vI I.hour,vI I.minute,vI I.second,vI I.weekday,.ptr rr 0,vI I.ly,vI I.lm,vI (K.aM (aR y):Nat),vI (K.aM (aR (y+1)):Nat),vI (aC y*86400),vI 0,vI w,mm,mr,md,nmd,.sl true o0 w (385-w) 1,.sl true (h.length+G2.length) 0 (K.aM (aR y)+7) 1,I.nwd,I.ea,I.ts,vI I.tot,vI I.cnt,I.st,I.bk,vB I.fin,I.ds]:=by
    rw[hI2]
    simp only[It.cells,hp.rr]
   obtain⟨wl,hwl⟩:∃wl:Int,wl=if 4≤(f:Int) then (K.aM (aR y):Int)+(w-r.wkst)%7 else (K.aM (aR y):Int)-f:=⟨_,rfl⟩
   have hwlb:300≤wl∧wl≤400:=by rw[hwl];split<;>omega
   refine bC (fun e hk=>len e=638∧AL.get e 0=.ptr ob 7∧AL.get e 1=vI y∧AL.get e 2=vI m∧AL.get e 6=vI f∧AL.get e 7=vI (if 4≤(f:Int) then 0 else f)∧AL.get e 8=vI wl∧hk=h.set ob (.own 122 I2.cells)++(G2++[.own 3 ((List.replicate (K.aM (aR y)+7) (0:Int)).map vI)])) (fun hq3=>?_) (fun hq3=>?_) ?_
   ·have hq3:=odT hq3
    rw[if_pos hq3] at hwl
    have w3:i64.wrap ((w:Int)-r.wkst)=w-r.wkst:=aJ (by omega)
    have w4:i64.wrap ((K.aM (aR y):Int)+(w-r.wkst)%7)=wl:=by rw[aJ (by omega),hwl]
    rw[hI2c]
    simp only[go_sem,he,g0,g1,g2]
    refine bF bI (by kernel_rfl) ?_
    simp only[go_sem,he,g0,g1,g2,hS2,hR2,hW2,hcl,hwk,w3]
    refine aSh (kX (w-r.wkst) 7 (by omega) (by omega) _) ?_
    simp only[go_sem,he,g0,g1,g2,aA,w4,if_pos hq3]
   ·have hq3:=odF hq3
    rw[if_neg hq3] at hwl
    have w4:i64.wrap ((K.aM (aR y):Int)-f)=wl:=by rw[aJ (by omega),hwl]
    rw[hI2c]
    simp only[go_sem,he,g0,g1,g2,hS2,hR2,hW2,hcl,hwk,w4,if_neg hq3]
   clear he g0 g1 g2
   rintro e hk ⟨he,g0,g1,g2,g6,g7,g8,rfl⟩
   simp only[go_sem,he,g0,g1,g2,g6,g7,g8]
   refine aSh (i4 wl 7 (by omega) (by omega) _) ?_
   have hN0:(wl/7+wl%7/4)=(K.fw r.wkst (y+1)-K.fw r.wkst y)/7:=by
    have hln:(K.aM (aR y):Int)=365∨(K.aM (aR y):Int)=366:=by omega
    have h3:=K.aKc (wd:=aC y%7) (wkst:=r.wkst) (by omega) hk7 hln
    simp only at h3
    rw[hwd,hf] at h3
    rw[hwl,h3]
    have hbn:=K.dB y (by omega)
    unfold K.fw
    rw[←hwd] 
    have e1:aC (y+1)=aC y+(K.aM (aR y):Int):=by omega
    rw[e1]
    have e2:(aC y%7+(K.aM (aR y):Int))%7=(aC y+(K.aM (aR y):Int))%7:=by omega
    rw[e2]
    congr 1
    omega
   obtain⟨N,hN⟩:∃N:Int,N=wl/7+wl%7/4:=⟨_,rfl⟩
   rw[←hN] at hN0
   have hNb:42≤N∧N≤60:=by omega
   have wN1:i64.wrap (wl/7+Int.tdiv (wl%7) 4)=N:=by rw[Int.tdiv_eq_ediv_of_nonneg (by omega),aJ (by omega),hN]
   have wN2:i64.wrap (Int.tdiv (wl%7) 4)=Int.tdiv (wl%7) 4:=by rw[Int.tdiv_eq_ediv_of_nonneg (by omega),aJ (by omega)]
   rw[hI2c]
   simp only[go_sem,he,g0,g1,g2,g6,g7,g8,aA,hS2,hR2,hW2,hcl,hc.wno,hlW,wN1,wN2]
   obtain⟨Cv,hCv⟩:∃Cv:Int→Nat→Prop,Cv=fun (n:Int) (x:Nat)=>(1≤(if n<0 then n+(N+1) else n)∧(if n<0 then n+(N+1) else n)≤N)∧K.dH w r.wkst≤(x:Int)∧((x:Int)-K.dH w r.wkst)/7+1=(if n<0 then n+(N+1) else n):=⟨_,rfl⟩
   have dCv:∀n x,Decidable (Cv n x):=fun n x=>by rw[hCv];infer_instance
   have hput:∀(L:List Int) (i:Nat),i<L.length→List.take i (L.map vI)++vI 1::List.drop (i+1) (L.map vI)=(L.set i 1).map vI:=fun L i hi=>by
    rw[List.map_set,List.set_eq_take_append_cons_drop,if_pos (by rw[List.length_map];exact hi)]
   have hT1:∀(Y Z:aD),(h.set ob Y++(G2++[Z]))[h.length+G2.length]?=some Z:=fun Y Z=>by
    rw[List.getElem?_append_right (by rw[hlS];omega),hlS,Nat.add_sub_cancel_left,bB];rfl
   have hT2:∀(Y Z Z':aD),(h.set ob Y++(G2++[Z])).set (h.length+G2.length) Z'=h.set ob Y++(G2++[Z']):=fun Y Z Z'=>by
    rw[List.set_append_right _ _ (by rw[hlS];omega),hlS,Nat.add_sub_cancel_left,qZ];rfl
   have hWN:∀(Y Z:aD),aQ (h.set ob Y++(G2++[Z])) wn r.weekNo:=fun Y Z=>by
    obtain⟨G0,hG0⟩:=hp.front
    rw[hG0,eZ hp.obB,List.append_assoc]
    exact hwn.more _
   have hWD:∀(Y Z:aD) (i:Nat),i<385-w→∃cs,(h.set ob Y++(G2++[Z]))[o0]?=some (.own 3 cs)∧cs[w+i]?=some (vI (((w:Int)+i)%7)):=fun Y Z i hi=>by
    obtain⟨o,off,cs,e1,e2,e3,e4⟩:=((hI Y).1.more [Z])
    simp only[AV.sl.injEq] at e1
    obtain⟨-,rfl,rfl,-⟩:=e1
    rw[List.append_assoc] at e2
    refine⟨cs,e2,?_⟩
    have hl:((fY 55).drop w).length=385-w:=by rw[List.length_drop,fA]
    have e5:((cs.drop w).take ((fY 55).drop w).length)[i]?=cs[w+i]?:=by rw[List.getElem?_take_of_lt (by omega),List.getElem?_drop]
    rw[←e5,e3,List.getElem?_map,List.getElem?_drop]
    have hg:=pT 55 (w+i) (by omega)
    rw[List.getD_eq_getElem?_getD,List.getElem?_eq_getElem (by rw[fA];omega)] at hg
    rw[List.getElem?_eq_getElem (by rw[fA];omega)]
    simp only[Option.getD_some] at hg
    rw[Option.map_some,hg]
    congr 3
   refine bG r.weekNo.length (fun k e hk=>len e=638∧AL.get e 0=.ptr ob 7∧AL.get e 1=vI y∧AL.get e 2=vI m∧AL.get e 6=vI f∧AL.get e 7=vI (if 4≤(f:Int) then 0 else f)∧AL.get e 11=vI N∧AL.get e 202=wn∧AL.get e 203=vI r.weekNo.length∧∃(i:Nat) (L:List Int),AL.get e 204=vI i∧i+k=r.weekNo.length∧(L).length=K.aM (aR y)+7∧(∀x:Nat,x<K.aM (aR y)→(L)[x]?=some (if (r.weekNo.take i).any (fun n=>decide (Cv n x)) then 1 else 0))∧hk=h.set ob (.own 122 I2.cells)++(G2++[.own 3 (List.map vI (L))]))
    (fun e hk=>len e=638∧AL.get e 0=.ptr ob 7∧AL.get e 1=vI y∧AL.get e 2=vI m∧AL.get e 6=vI f∧AL.get e 7=vI (if 4≤(f:Int) then 0 else f)∧AL.get e 11=vI N∧∃L:List Int,(L).length=K.aM (aR y)+7∧(∀x:Nat,x<K.aM (aR y)→(L)[x]?=some (if (r.weekNo).any (fun n=>decide (Cv n x)) then 1 else 0))∧hk=h.set ob (.own 122 I2.cells)++(G2++[.own 3 (List.map vI (L))])) (by kernel_rfl) ?_ ?_ ?_
   ·rw[hI2c]
    simp only[go_sem,he,g0,g1,g2,g6,g7]
    refine⟨0,List.replicate (K.aM (aR y)+7) 0,rfl,by omega,by simp,fun x hx=>?_,rfl⟩
    rw[List.take_zero,List.getElem?_replicate,if_pos (by omega)]
    rfl
   ·clear he g0 g1 g2 g6 g7 g8
    rintro k e hk ⟨he,g0,g1,g2,g6,g7,g11,g202,g203,i,L,g204,hik,hL1,hL2,rfl⟩
    simp only[go_sem,he,g0,g1,g2,g6,g7,g11,g202,g203,g204]
    refine aF (fun hcc=>?_) fun hcc=>?_
    ·have hcc:=odT hcc
     have hi:i<r.weekNo.length:=by omega
     have wi:i64.wrap ((i:Int)+1)=((i+1:Nat):Int):=wN _ (by omega) (by omega)
     obtain⟨own,q,off,cs2,e1,e2,e3⟩:=(hWN (.own 122 I2.cells) (.own 3 (L.map vI))).get hi
     have htk:=eE hi
     have hmem:r.weekNo.getD i 0∈r.weekNo:=by rw[List.getD_eq_getElem?_getD,List.getElem?_eq_getElem hi];exact List.getElem_mem hi
     generalize r.weekNo.getD i 0=n at e3 htk hmem
     rw[e1] at g202
     simp only[go_sem,he,g0,g1,g2,g6,g7,g11,g202,g203,g204,e2,e3,Int.toNat_natCast]
     refine⟨by omega,?_⟩
     have hnb:=hwb n hmem
     have wn1':i64.wrap (N+1)=N+1:=aJ (by omega)
     have wn2':i64.wrap (n+(N+1))=n+(N+1):=aJ (by omega)
     obtain⟨n',hn'⟩:∃n':Int,n'=if n<0 then n+(N+1) else n:=⟨_,rfl⟩
     refine bC (fun e hk=>len e=638∧AL.get e 0=.ptr ob 7∧AL.get e 1=vI y∧AL.get e 2=vI m∧AL.get e 6=vI f∧AL.get e 7=vI (if 4≤(f:Int) then 0 else f)∧AL.get e 11=vI N∧AL.get e 202=wn∧AL.get e 203=vI r.weekNo.length∧AL.get e 204=vI i∧AL.get e 13=vI n'∧hk=h.set ob (.own 122 I2.cells)++(G2++[.own 3 (List.map vI (L))])) (fun hq4=>?_) (fun hq4=>?_) ?_
     ·have hq4:=odT hq4
      rw[if_pos hq4] at hn'
      simp only[go_sem,he,g0,g1,g2,g6,g7,g11,g202,g203,g204,wn1',wn2',hn',e1]
     ·have hq4:=odF hq4
      rw[if_neg hq4] at hn'
      simp only[go_sem,he,g0,g1,g2,g6,g7,g11,g202,g203,g204,hn',e1]
     clear he g0 g1 g2 g6 g7 g11 g202 g203 g204
     rintro e hk ⟨he,g0,g1,g2,g6,g7,g11,g202,g203,g204,g13,rfl⟩
     have hnb':-60≤n'∧n'≤61:=by rw[hn'];split<;>omega
     simp only[go_sem,he,g0,g1,g2,g6,g7,g11,g202,g203,g204,g13]
     refine bQ (fun e hk=>len e=638∧AL.get e 0=.ptr ob 7∧AL.get e 1=vI y∧AL.get e 2=vI m∧AL.get e 6=vI f∧AL.get e 7=vI (if 4≤(f:Int) then 0 else f)∧AL.get e 11=vI N∧AL.get e 202=wn∧AL.get e 203=vI r.weekNo.length∧AL.get e 204=vI i∧AL.get e 13=vI n'∧AL.get e 221=vB (!(decide (0<n')&&decide (n'≤N)))∧hk=h.set ob (.own 122 I2.cells)++(G2++[.own 3 (List.map vI (L))])) ?_ ?_
     ·by_cases h0:0<n'
      ·have d1:decide (0<n')=true:=dcT h0
       simp only[go_sem,he,g0,g1,g2,g6,g7,g11,g202,g203,g204,g13,d1,Bool.true_and]
      ·have d1:decide (0<n')=false:=dcF h0
       simp only[go_sem,he,g0,g1,g2,g6,g7,g11,g202,g203,g204,g13,d1,Bool.false_and]
     clear he g0 g1 g2 g6 g7 g11 g202 g203 g204 g13
     rintro e hk ⟨he,g0,g1,g2,g6,g7,g11,g202,g203,g204,g13,g221,rfl⟩
     simp only[go_sem,he,g0,g1,g2,g6,g7,g11,g202,g203,g204,g13,g221]
     refine aF (fun hq5=>?_) fun hq5=>?_
     ·simp only[go_sem,he,g0,g1,g2,g6,g7,g11,g202,g203,g204,g13,wi]
      refine⟨k-1,by omega,i+1,L,rfl,by omega,hL1,fun x hx=>?_,rfl⟩
      rw[hL2 x hx,htk,List.any_append]
      have:decide (Cv n x)=false:=by
       rw[decide_eq_false_iff_not,hCv]
       simp only[←hn']
       rintro ⟨⟨a,b⟩,-⟩
       simp only[Bool.not_eq_true',Bool.and_eq_false_iff,decide_eq_false_iff_not] at hq5
       omega
      simp only[List.any_cons,List.any_nil,this,Bool.or_false]
     ·simp only[Bool.not_eq_false',Bool.and_eq_true,decide_eq_true_eq] at hq5
      simp only[go_sem,he,g0,g1,g2,g6,g7,g11,g202,g203,g204,g13]
      have hwp:=K.zA (w:=w) (k:=r.wkst) (n:=n') (by omega) hk7 (by omega)
      rw[hf] at hwp
      have hsb:=K.uX (w:=w) (k:=r.wkst) (n:=n') (by omega) hk7 (by omega)
      obtain⟨i0,hi0⟩:∃i0:Nat,(i0:Int)=K.gL w r.wkst n':=⟨(K.gL w r.wkst n').toNat,by omega⟩
      have w5:i64.wrap (n'-1)=n'-1:=aJ (by omega)
      have w6:i64.wrap ((n'-1)*7)=(n'-1)*7:=aJ (by omega)
      have w9:i64.wrap (7-(f:Int))=7-f:=aJ (by omega)
      refine bC (fun e hk=>len e=638∧AL.get e 0=.ptr ob 7∧AL.get e 1=vI y∧AL.get e 2=vI m∧AL.get e 6=vI f∧AL.get e 7=vI (if 4≤(f:Int) then 0 else f)∧AL.get e 11=vI N∧AL.get e 202=wn∧AL.get e 203=vI r.weekNo.length∧AL.get e 204=vI i∧AL.get e 14=vI i0∧hk=h.set ob (.own 122 I2.cells)++(G2++[.own 3 (List.map vI (L))])) (fun hq6=>?_) (fun hq6=>?_) ?_
      ·have hq6:=odT hq6
       rw[if_pos hq6] at hwp
       by_cases h4:4≤(f:Int)
       ·rw[if_pos h4] at g7 hwp ⊢
        have w7:i64.wrap (0+(n'-1)*7)=0+(n'-1)*7:=aJ (by omega)
        have w8:i64.wrap (0+(n'-1)*7-(7-(f:Int)))=i0:=by rw[aJ (by omega),hi0,hwp]
        have d0:decide ((0:Int)=(f:Int))=false:=dcF (by omega)
        simp only[go_sem,he,g0,g1,g2,g6,g7,g11,g202,g203,g204,g13,w5,w6,w7,w8,w9,d0]
       ·rw[if_neg h4] at g7 hwp ⊢
        have w7:i64.wrap ((f:Int)+(n'-1)*7)=i0:=by rw[aJ (by omega),hi0,hwp]
        have d0:decide ((f:Int)=(f:Int))=true:=dcT rfl
        simp only[go_sem,he,g0,g1,g2,g6,g7,g11,g202,g203,g204,g13,w5,w6,w7,w9,d0]
      ·have hq6:=odF hq6
       rw[if_neg hq6] at hwp
       have e0:(if 4≤(f:Int) then 0 else (f:Int))=i0:=by rw[hi0,hwp]
       rw[e0] at g7 ⊢
       simp only[go_sem,he,g0,g1,g2,g6,g7,g11,g202,g203,g204,g13]
      clear he g0 g1 g2 g6 g7 g11 g202 g203 g204 g13 g221
      rintro e hk ⟨he,g0,g1,g2,g6,g7,g11,g202,g203,g204,g14,rfl⟩
      simp only[go_sem,he,g0,g1,g2,g6,g7,g11,g202,g203,g204,g14]
      have hrb:=K.nK w r.wkst i0
      obtain⟨t,ht⟩:∃t:Nat,(t:Int)=K.fV w r.wkst i0:=⟨(K.fV w r.wkst i0).toNat,by omega⟩
      have hw6':(0:Int)≤w∧(w:Int)≤6:=by omega
      have hend:(i0:Int)+t≤K.aM (aR y)+3:=by
       have hcv:=(K.aE8 (w:=w) (k:=r.wkst) (n:=n') (x:=(i0:Int)+t-1) hw6' hk7 (by omega) (by omega)).1 (by rw[←hi0,←ht];omega)
       have hb1:=K.fO (aC (y+1)%7) r.wkst
       have hbn:=K.dB y (by omega)
       unfold K.fw at hN0
       rw[hwd] at hN0
       have m1:=K.kE r.wkst y
       have m2:=K.kE r.wkst (y+1)
       unfold K.fw at m1 m2
       rw[hwd] at m1
       omega
      refine bG t (fun k3 e hk=>len e=638∧AL.get e 0=.ptr ob 7∧AL.get e 1=vI y∧AL.get e 2=vI m∧AL.get e 6=vI f∧AL.get e 7=vI (if 4≤(f:Int) then 0 else f)∧AL.get e 11=vI N∧AL.get e 202=wn∧AL.get e 203=vI r.weekNo.length∧AL.get e 204=vI i∧∃j:Nat,AL.get e 15=vI j∧AL.get e 14=vI (i0+j:Nat)∧j+k3=t∧j<t∧hk=h.set ob (.own 122 I2.cells)++(G2++[.own 3 (List.map vI (K.eR L i0 j))])) (fun e hk=>len e=638∧AL.get e 0=.ptr ob 7∧AL.get e 1=vI y∧AL.get e 2=vI m∧AL.get e 6=vI f∧AL.get e 7=vI (if 4≤(f:Int) then 0 else f)∧AL.get e 11=vI N∧AL.get e 202=wn∧AL.get e 203=vI r.weekNo.length∧AL.get e 204=vI i∧hk=h.set ob (.own 122 I2.cells)++(G2++[.own 3 (List.map vI (K.eR L i0 t))])) (by kernel_rfl) ?_ ?_ ?_
      ·simp only[go_sem,he,g0,g1,g2,g6,g7,g11,g202,g203,g204,g14]
       exact⟨0,rfl,rfl,by omega,by omega,rfl⟩
      ·clear he g0 g1 g2 g6 g7 g11 g202 g203 g204 g14
       rintro k3 e hk ⟨he,g0,g1,g2,g6,g7,g11,g202,g203,g204,j,g15,g14,hjk,hjt,rfl⟩
       have d7:decide ((j:Int)<7)=true:=dcT (by omega)
       have hsl:=K.jV j L i0
       have hij:i0+j<K.aM (aR y)+7:=by omega
       have wj:i64.wrap ((j:Int)+1)=((j+1:Nat):Int):=wN _ (by omega) (by omega)
       have wij:i64.wrap (((i0+j:Nat):Int)+1)=((i0+(j+1):Nat):Int):=wN _ (by omega) (by omega)
       have hpu:=hput (K.eR L i0 j) (i0+j) (by omega)
       rw[←K.oQ] at hpu
       obtain⟨cs3,c1,c2⟩:=hWD (.own 122 I2.cells) (.own 3 ((K.eR L i0 (j+1)).map vI)) (i0+(j+1)) (by omega)
       rw[hI2c] at c1
       rw[hI2c]
       simp only[go_sem,he,g0,g1,g2,g6,g7,g11,g202,g203,g204,g14,g15,d7,hS2,hT1,hT2]
       refine⟨by omega,by rw[List.length_map];omega,?_⟩
       rw[hpu]
       refine bF bI (by kernel_rfl) ?_
       simp only[go_sem,he,g0,g1,g2,g6,g7,g11,g202,g203,g204,g14,g15,hS2,hR2,hT1,hT2,hcl,hwk,wij,c1,c2,Int.toNat_natCast]
       refine⟨by omega,?_⟩
       have hre:=K.uL (w:=w) (k:=r.wkst) (i:=i0) (j:=j) hk7 (by omega)
       have hcast:((w:Int)+((i0+(j+1):Nat):Int))=(w:Int)+((i0:Int)+j+1):=by omega
       rw[hcast]
       refine aF (fun hq7=>?_) fun hq7=>?_
       ·have hq7:=odT hq7
        have e5:j+1=t:=by have:=hre.1 hq7;omega
        rw[e5]
        simp only[go_sem,he,g0,g1,g2,g6,g7,g11,g202,g203,g204]
       ·have hq7:=odF hq7
        have e5:j+1≠t:=fun e=>hq7 (hre.2 (by omega))
        simp only[go_sem,he,g0,g1,g2,g6,g7,g11,g202,g203,g204,g15,wj]
        exact⟨k3-1,by omega,j+1,rfl,rfl,by omega,by omega,rfl⟩
      ·clear he g0 g1 g2 g6 g7 g11 g202 g203 g204 g14
       rintro e hk ⟨he,g0,g1,g2,g6,g7,g11,g202,g203,g204,rfl⟩
       simp only[go_sem,he,g0,g1,g2,g6,g7,g11,g202,g203,g204,wi]
       have hsl:=K.jV t L i0
       refine⟨k-1,by omega,i+1,K.eR L i0 t,rfl,by omega,by omega,fun x hx=>?_,rfl⟩
       rw[K.pW t L i0 x (by omega),hL2 x hx,htk,List.any_append]
       have hcv:=K.aE8 (w:=w) (k:=r.wkst) (n:=n') (x:=(x:Int)) hw6' hk7 (by omega) (by omega)
       rw[←hi0,←ht] at hcv
       have hC:Cv n x↔(i0≤x∧x<i0+t):=by
        rw[hCv]
        simp only[←hn']
        constructor
        ·rintro ⟨-,a⟩;have:=hcv.2 a;omega
        ·intro a;exact⟨⟨by omega,hq5.2⟩,hcv.1 (by omega)⟩
       simp only[List.any_cons,List.any_nil,Bool.or_false]
       by_cases hh:i0≤x∧x<i0+t
       ·rw[if_pos hh,dcT (hC.2 hh),Bool.or_true,if_pos rfl]
       ·rw[if_neg hh,dcF (fun h=>hh (hC.1 h)),Bool.or_false]
    ·have hcc:=odF hcc
     obtain rfl:i=r.weekNo.length:=by omega
     rw[List.take_length] at hL2
     simp only[go_sem,he,g0,g1,g2,g6,g7,g11]
     exact⟨L,hL1,hL2,rfl⟩
   ·clear he g0 g1 g2 g6 g7 g8
    rintro e hk ⟨he,g0,g1,g2,g6,g7,g11,L,hL1,hL2,rfl⟩
    rw[hI2c]
    simp only[go_sem,he,g0,g1,g2,g6,g7,g11,hS2,hR2,hcl,hc.wno]
    refine aSh (bO r.weekNo (by omega) 1 wn _ (hWN _ _)) ?_
    simp only[go_sem,he,g0,g1,g2,g6,g7,g11,aA]
    rw[←hI2c]
    refine bC (fun e hk=>len e=638∧AL.get e 0=.ptr ob 7∧AL.get e 1=vI y∧AL.get e 2=vI m∧AL.get e 6=vI f∧AL.get e 7=vI (if 4≤(f:Int) then 0 else f)∧AL.get e 11=vI N∧∃L':List Int,L'.length=K.aM (aR y)+7∧(∀x:Nat,x<K.aM (aR y)→L'[x]?=some (if r.weekNo.any (fun n=>decide (Cv n x))||(r.weekNo.contains 1&&decide (K.fw r.wkst (y+1)≤aC y+x)) then 1 else 0))∧hk=h.set ob (.own 122 I2.cells)++(G2++[.own 3 (List.map vI (L'))])) (fun hq8=>?_) (fun hq8=>?_) ?_
    ·have hwp:=K.zA (w:=w) (k:=r.wkst) (n:=N+1) (by omega) hk7 (by omega)
     rw[hf,if_pos (show 1<N+1 by omega),show N+1-1=N by omega] at hwp
     have hsb:=K.uX (w:=w) (k:=r.wkst) (n:=N+1) (by omega) hk7 (by omega)
     obtain⟨i0,hi0⟩:∃i0:Nat,(i0:Int)=K.gL w r.wkst (N+1):=⟨(K.gL w r.wkst (N+1)).toNat,by omega⟩
     have hfwy:K.fw r.wkst (y+1)=aC y+i0:=by
      have m1:=K.kE r.wkst y
      have m2:=K.kE r.wkst (y+1)
      have e1:K.fw r.wkst y=aC y+K.dH w r.wkst:=by rw[←hwd];rfl
      have e2:(i0:Int)=K.dH w r.wkst+N*7:=by
       rw[hi0]
       unfold K.gL
       rw[if_pos (by omega)];omega
      omega
     have w6:i64.wrap (N*7)=N*7:=aJ (by omega)
     have w9:i64.wrap (7-(f:Int))=7-f:=aJ (by omega)
     have w7:i64.wrap ((if 4≤(f:Int) then 0 else (f:Int))+N*7)=(if 4≤(f:Int) then 0 else (f:Int))+N*7:=aJ (by split<;>omega)
     simp only[go_sem,he,g0,g1,g2,g6,g7,g11,w6,w7]
     refine bC (fun e hk=>len e=638∧AL.get e 0=.ptr ob 7∧AL.get e 1=vI y∧AL.get e 2=vI m∧AL.get e 6=vI f∧AL.get e 7=vI (if 4≤(f:Int) then 0 else f)∧AL.get e 11=vI N∧AL.get e 16=vI i0∧hk=h.set ob (.own 122 I2.cells)++(G2++[.own 3 (List.map vI (L))])) (fun hq9=>?_) (fun hq9=>?_) ?_
     ·have h4:4≤(f:Int):=by
       apply Classical.byContradiction
       intro h
       rw[if_neg h] at hq9
       simp at hq9
      rw[if_pos h4] at hwp
      have w8:i64.wrap ((if 4≤(f:Int) then 0 else (f:Int))+N*7-(7-(f:Int)))=i0:=by rw[if_pos h4,aJ (by omega),hi0,hwp]
      simp only[go_sem,he,g0,g1,g2,g6,g7,g11,w8,w9]
     ·have h4:¬4≤(f:Int):=by
       intro h
       rw[if_pos h] at hq9
       have:(0:Int)=f:=by simpa using hq9
       omega
      rw[if_neg h4] at hwp
      have e8:(if 4≤(f:Int) then 0 else (f:Int))+N*7=i0:=by rw[if_neg h4,hi0,hwp]
      simp only[go_sem,he,g0,g1,g2,g6,g7,g11,e8]
     clear he g0 g1 g2 g6 g7 g11 w7
     rintro e hk ⟨he,g0,g1,g2,g6,g7,g11,g16,rfl⟩
     rw[hI2c]
     simp only[go_sem,he,g0,g1,g2,g6,g7,g11,g16,hS2]
     rw[←hI2c]
     refine aF (fun hq9=>?_) fun hq9=>?_
     ·have hq9:=odT hq9
      have hrl:K.fV w r.wkst i0=7:=by
       have m2:=K.kE r.wkst (y+1)
       unfold K.fV
       omega
      have hylb:(K.aM (aR y):Int)≤i0+3∧(i0:Int)≤K.aM (aR y)+3:=by
       have hb1:=K.fO (aC (y+1)%7) r.wkst
       have hbn:=K.dB y (by omega)
       unfold K.fw at hfwy
       omega
      have hw6':(0:Int)≤w∧(w:Int)≤6:=by omega
      simp only[go_sem,he,g0,g1,g2,g6,g7,g11,g16]
      refine bG 7 (fun k3 e hk=>len e=638∧AL.get e 0=.ptr ob 7∧AL.get e 1=vI y∧AL.get e 2=vI m∧AL.get e 6=vI f∧AL.get e 7=vI (if 4≤(f:Int) then 0 else f)∧AL.get e 11=vI N∧∃j:Nat,AL.get e 17=vI j∧AL.get e 16=vI (i0+j:Nat)∧j+k3=7∧j<7∧hk=h.set ob (.own 122 I2.cells)++(G2++[.own 3 (List.map vI (K.eR L i0 j))])) (fun e hk=>len e=638∧AL.get e 0=.ptr ob 7∧AL.get e 1=vI y∧AL.get e 2=vI m∧AL.get e 6=vI f∧AL.get e 7=vI (if 4≤(f:Int) then 0 else f)∧AL.get e 11=vI N∧hk=h.set ob (.own 122 I2.cells)++(G2++[.own 3 (List.map vI (K.eR L i0 7))])) (by kernel_rfl) ?_ ?_ ?_
      ·simp only[go_sem,he,g0,g1,g2,g6,g7,g11,g16]
       exact⟨0,rfl,rfl,by omega,by omega,rfl⟩
      ·clear he g0 g1 g2 g6 g7 g11 g16
       rintro k3 e hk ⟨he,g0,g1,g2,g6,g7,g11,j,g15,g14,hjk,hjt,rfl⟩
       have d7:decide ((j:Int)<7)=true:=dcT (by omega)
       have hsl:=K.jV j L i0
       have wj:i64.wrap ((j:Int)+1)=((j+1:Nat):Int):=wN _ (by omega) (by omega)
       have wij:i64.wrap (((i0+j:Nat):Int)+1)=((i0+(j+1):Nat):Int):=wN _ (by omega) (by omega)
       have hpu:=hput (K.eR L i0 j) (i0+j) (by omega)
       rw[←K.oQ] at hpu
       obtain⟨cs3,c1,c2⟩:=hWD (.own 122 I2.cells) (.own 3 ((K.eR L i0 (j+1)).map vI)) (i0+(j+1)) (by omega)
       rw[hI2c] at c1
       rw[hI2c]
       simp only[go_sem,he,g0,g1,g2,g6,g7,g11,g14,g15,d7,hS2,hT1,hT2]
       refine⟨by omega,by rw[List.length_map];omega,?_⟩
       rw[hpu]
       refine bF bI (by kernel_rfl) ?_
       simp only[go_sem,he,g0,g1,g2,g6,g7,g11,g14,g15,hS2,hR2,hT1,hT2,hcl,hwk,wij,c1,c2,Int.toNat_natCast]
       refine⟨by omega,?_⟩
       have hre:=K.uL (w:=w) (k:=r.wkst) (i:=i0) (j:=j) hk7 (by omega)
       have hcast:((w:Int)+((i0+(j+1):Nat):Int))=(w:Int)+((i0:Int)+j+1):=by omega
       rw[hcast]
       refine aF (fun hq7=>?_) fun hq7=>?_
       ·have hq7:=odT hq7
        have e5:j+1=7:=by have:=hre.1 hq7;omega
        rw[e5]
        simp only[go_sem,he,g0,g1,g2,g6,g7,g11]
       ·have hq7:=odF hq7
        have e5:j+1≠7:=fun e=>hq7 (hre.2 (by omega))
        simp only[go_sem,he,g0,g1,g2,g6,g7,g11,g15,wj]
        exact⟨k3-1,by omega,j+1,rfl,rfl,by omega,by omega,rfl⟩
      ·clear he g0 g1 g2 g6 g7 g11 g16
       rintro e hk ⟨he,g0,g1,g2,g6,g7,g11,rfl⟩
       simp only[go_sem,he,g0,g1,g2,g6,g7,g11]
       have hsl:=K.jV 7 L i0
       refine⟨K.eR L i0 7,by omega,fun x hx=>?_,rfl⟩
       rw[K.pW 7 L i0 x (by omega),hL2 x hx,hq8,Bool.true_and]
       by_cases hh:i0≤x∧x<i0+7
       ·rw[if_pos hh,dcT (show K.fw r.wkst (y+1)≤aC y+x by omega),Bool.or_true,if_pos rfl]
       ·rw[if_neg hh,dcF (show ¬K.fw r.wkst (y+1)≤aC y+x by omega),Bool.or_false]
     ·have hq9:=odF hq9
      simp only[go_sem,he,g0,g1,g2,g6,g7,g11]
      refine⟨L,hL1,fun x hx=>?_,rfl⟩
      rw[hL2 x hx,dcF (show ¬K.fw r.wkst (y+1)≤aC y+x by omega),Bool.and_false,Bool.or_false]
    ·simp only[go_sem,he,g0,g1,g2,g6,g7,g11]
     refine⟨L,hL1,fun x hx=>?_,rfl⟩
     rw[hL2 x hx,hq8,Bool.false_and,Bool.or_false]
    ·clear he g0 g1 g2 g6 g7 g11 hL1 hL2 L
     rintro e hk ⟨he,g0,g1,g2,g6,g7,g11,L,hL1,hL2,rfl⟩
     obtain⟨a1,ha1⟩:∃a1:Nat,(if 4≤(f:Int) then 0 else (f:Int))=a1∧(a1:Int)≤3∧(∀x:Nat,(x:Int)<a1↔(x:Int)<K.dH w r.wkst):=by
      have hwp:=K.rF (wd:=w) (wkst:=r.wkst) (by omega) hk7
      rw[hf] at hwp
      by_cases h4:4≤(f:Int)
      ·rw[if_pos h4] at hwp ⊢
       exact⟨0,rfl,by omega,fun x=>by omega⟩
      ·rw[if_neg h4] at hwp ⊢
       exact⟨f,rfl,by omega,fun x=>by omega⟩
     obtain⟨ha1,ha2,ha3⟩:=ha1
     rw[ha1] at g7
     have fin:∀L':List Int,L'.length=K.aM (aR y)+7→(∀x:Nat,x<K.aM (aR y)→L'[x]?=some (if (r.weekNo.any (fun n=>decide (Cv n x))||(r.weekNo.contains 1&&decide (K.fw r.wkst (y+1)≤aC y+x)))||(decide ((x:Int)<a1)&&r.weekNo.contains (-1)) then 1 else 0))→
       ∃(I1:It) (G:aB),h.set ob (.own 122 I2.cells)++(G2++[.own 3 (List.map vI (L'))])=h.set ob (.own 122 I1.cells)++G∧(∀Y,YT (h.set ob Y++G) I1 y∧j8 (h.set ob Y++G) I1 r y)∧I1={I with yl:=I1.yl,nyl:=I1.nyl,fy:=I1.fy,yw:=I1.yw,mm:=I1.mm,mr:=I1.mr,md:=I1.md,nmd:=I1.nmd,wd:=I1.wd,wno:=I1.wno}:=fun L' h1 h2=>by
      refine⟨I2,_,rfl,fun Y=>⟨?_,.inr ⟨hw0,L',h1,?_,fun x hx=>?_⟩⟩,by rw[hI2]⟩
      ·obtain⟨a1,a2,a3,a4,a5⟩:=hI Y
       rw[hI2]
       refine⟨rfl,rfl,rfl,hwd.symm,?_,?_,?_,?_,?_⟩
       ·have:=a2.more [.own 3 (L'.map vI)];rwa [List.append_assoc] at this
       ·have:=a3.more [.own 3 (L'.map vI)];rwa [List.append_assoc] at this
       ·have:=a4.more [.own 3 (L'.map vI)];rwa [List.append_assoc] at this
       ·have:=a5.more [.own 3 (L'.map vI)];rwa [List.append_assoc] at this
       ·rw[hwd,Int.toNat_natCast];have:=a1.more [.own 3 (L'.map vI)];rwa [List.append_assoc] at this
      ·rw[hI2]
       have:=qM (hT1 Y (.own 3 (L'.map vI)))
       rw[h1] at this
       exact this
      ·rw[h2 x hx]
       have hmb:=K.aKN (r:=r) (y:=y) (x:=x) hk7 hwb hN0
       congr 1
       have hE:((r.weekNo.any (fun n=>decide (Cv n x))||(r.weekNo.contains 1&&decide (K.fw r.wkst (y+1)≤aC y+x)))||(decide ((x:Int)<a1)&&r.weekNo.contains (-1)))=K.rZ r y x:=by
        rw[Bool.eq_iff_iff,hmb,hwd]
        simp only[Bool.or_eq_true,Bool.and_eq_true,decide_eq_true_eq,List.contains_iff_mem,List.any_eq_true,ha3 x,hCv]
       rw[hE]
     simp only[go_sem,he,g0,g1,g2,g6,g7,g11]
     refine aF (fun hq10=>?_) fun hq10=>?_
     ·rw[hI2c]
      simp only[go_sem,he,g0,g1,g2,g6,g7,g11,hS2,hR2,hcl,hc.wno]
      refine aSh (bO r.weekNo (by omega) (-1) wn _ (hWN _ _)) ?_
      simp only[go_sem,he,g0,g1,g2,g6,g7,g11,aA]
      rw[←hI2c]
      refine bC (fun e hk=>len e=638∧AL.get e 0=.ptr ob 7∧AL.get e 1=vI y∧AL.get e 2=vI m∧AL.get e 7=vI a1∧∃ln:Int,AL.get e 18=vI ln∧(r.weekNo.contains ln=r.weekNo.contains (-1))∧hk=h.set ob (.own 122 I2.cells)++(G2++[.own 3 (List.map vI (L))])) (fun hq11=>?_) (fun hq11=>?_) ?_
      ·have hc1:r.weekNo.contains (-1)=false:=by simpa using hq11
       have hbig:∀ln:Int,52≤ln→r.weekNo.contains ln=r.weekNo.contains (-1):=fun ln h52=>by
        rw[hc1,Bool.eq_false_iff]
        intro hh
        have:=hwb ln (List.contains_iff_mem.1 hh)
        omega
       have wy1:i64.wrap (y-1)=y-1:=aJ (by omega)
       have hby1:0≤aC (y-1)∧aC (y-1)≤3652059:=by
        have h1:=K.cK (show 1≤y-1 by omega)
        have h2:=K.cK (show y-1≤9999 by omega)
        have e1:aC 1=0:=rfl
        have e2:aC 9999=3651694:=rfl
        omega
       rw[hI2c]
       simp only[go_sem,he,g0,g1,g2,g7,hS2,hR2,hcl,hcs,wy1]
       refine aSh (gX _ _) ?_
       simp only[go_sem,he,g0,g1,g2,g7,aA]
       refine aSh (gZ (y-1) 1 1 0 0 0 0 ⟨by omega,by omega,by omega,by omega,by omega,by omega,by omega⟩ _ rfl _) ?_
       have hds1:eL (y-1) 1 1 0 0 0=aC (y-1)*86400:=by
        have e1:y-1+((1:Int)-1)/12=y-1:=by omega
        have e2:(((1:Int)-1)%12).toNat=0:=rfl
        unfold eL
        rw[e1,e2]
        simp only[bA]
        omega
       rw[hds1]
       simp only[go_sem,he,g0,g1,g2,g7,aA]
       refine aSh (pU (aC (y-1)*86400) (by unfold InY;omega) _) ?_
       simp only[go_sem,he,g0,g1,g2,g7,aA]
       refine aSh (aBi ((aC (y-1)*86400/86400+1)%7) (by omega) _) ?_
       obtain⟨u,hu⟩:∃u:Int,u=((aC (y-1)*86400/86400+1)%7+6)%7:=⟨_,rfl⟩
       rw[←hu]
       have wu1:i64.wrap (7-u)=7-u:=aJ (by omega)
       have wu2:i64.wrap (7-u+r.wkst)=7-u+r.wkst:=aJ (by omega)
       have wu3:i64.wrap (u-r.wkst)=u-r.wkst:=aJ (by omega)
       simp only[go_sem,he,g0,g1,g2,g7,aA,hS2,hR2,hcl,hwk,wu1,wu2]
       refine aSh (kX (7-u+r.wkst) 7 (by omega) (by omega) _) ?_
       simp only[go_sem,he,g0,g1,g2,g7,aA,wy1]
       refine aSh (zR (y-1) (by omega) _) ?_
       simp only[go_sem,he,g0,g1,g2,g7,aA,qN]
       have hyl1:(K.aM (aR (y-1)):Int)=365∨(K.aM (aR (y-1)):Int)=366:=by cases aR (y-1)<;>simp[K.aM]
       refine aF (fun hq12=>?_) fun hq12=>?_
       ·have wu4:i64.wrap ((K.aM (aR (y-1)):Int)+(u-r.wkst)%7)=(K.aM (aR (y-1)):Int)+(u-r.wkst)%7:=aJ (by omega)
        simp only[go_sem,he,g0,g1,g2,g7,hS2,hR2,hcl,hwk,wu3]
        refine aSh (kX (u-r.wkst) 7 (by omega) (by omega) _) ?_
        simp only[go_sem,he,g0,g1,g2,g7,aA,wu4]
        refine aSh (kX ((K.aM (aR (y-1)):Int)+(u-r.wkst)%7) 7 (by omega) (by omega) _) ?_
        have wu5:i64.wrap (Int.tdiv (((K.aM (aR (y-1)):Int)+(u-r.wkst)%7)%7) 4)=(((K.aM (aR (y-1)):Int)+(u-r.wkst)%7)%7)/4:=by rw[Int.tdiv_eq_ediv_of_nonneg (by omega),aJ (by omega)]
        have wu6:i64.wrap (52+(((K.aM (aR (y-1)):Int)+(u-r.wkst)%7)%7)/4)=52+(((K.aM (aR (y-1)):Int)+(u-r.wkst)%7)%7)/4:=aJ (by omega)
        simp only[go_sem,he,g0,g1,g2,g7,aA,wu5,wu6]
        exact⟨_,rfl,hbig _ (by omega)⟩
       ·have hyl0:(K.aM (aR y):Int)=365∨(K.aM (aR y):Int)=366:=by cases aR y<;>simp[K.aM]
        have wu4:i64.wrap ((K.aM (aR y):Int)-a1)=(K.aM (aR y):Int)-a1:=aJ (by omega)
        simp only[go_sem,he,g0,g1,g2,g7,hS2,wu4]
        refine aSh (kX ((K.aM (aR y):Int)-a1) 7 (by omega) (by omega) _) ?_
        have wu5:i64.wrap (Int.tdiv (((K.aM (aR y):Int)-a1)%7) 4)=(((K.aM (aR y):Int)-a1)%7)/4:=by rw[Int.tdiv_eq_ediv_of_nonneg (by omega),aJ (by omega)]
        have wu6:i64.wrap (52+(((K.aM (aR y):Int)-a1)%7)/4)=52+(((K.aM (aR y):Int)-a1)%7)/4:=aJ (by omega)
        simp only[go_sem,he,g0,g1,g2,g7,aA,wu5,wu6]
        exact⟨_,rfl,hbig _ (by omega)⟩
      ·simp only[go_sem,he,g0,g1,g2,g6,g7,g11]
       exact⟨-1,rfl,rfl⟩
      ·clear he g0 g1 g2 g7
       rintro e hk ⟨he,g0,g1,g2,g7,ln,g18,hln,rfl⟩
       rw[hI2c]
       simp only[go_sem,he,g0,g1,g2,g7,g18,hS2,hR2,hcl,hc.wno]
       refine aSh (bO r.weekNo (by omega) ln wn _ (hWN _ _)) ?_
       rw[hln]
       simp only[go_sem,he,g0,g1,g2,g7,g18,aA]
       refine aF (fun hq13=>?_) fun hq13=>?_
       ·simp only[go_sem,he,g0,g1,g2,g7]
        rw[←hI2c]
        refine bG a1 (fun k3 e hk=>len e=638∧AL.get e 0=.ptr ob 7∧AL.get e 1=vI y∧AL.get e 2=vI m∧AL.get e 7=vI a1∧∃j:Nat,AL.get e 22=vI j∧j+k3=a1∧hk=h.set ob (.own 122 I2.cells)++(G2++[.own 3 (List.map vI (K.eR L 0 j))])) (fun e hk=>len e=638∧AL.get e 0=.ptr ob 7∧AL.get e 1=vI y∧AL.get e 2=vI m∧hk=h.set ob (.own 122 I2.cells)++(G2++[.own 3 (List.map vI (K.eR L 0 a1))])) (by kernel_rfl) ?_ ?_ ?_
        ·simp only[go_sem,he,g0,g1,g2,g7]
         exact⟨0,rfl,by omega,rfl⟩
        ·clear he g0 g1 g2 g7 g18
         rintro k3 e hk ⟨he,g0,g1,g2,g7,j,g22,hjk,rfl⟩
         have hsl:=K.jV j L 0
         have wj:i64.wrap ((j:Int)+1)=((j+1:Nat):Int):=wN _ (by omega) (by omega)
         rw[hI2c]
         simp only[go_sem,he,g0,g1,g2,g7,g22]
         refine aF (fun hcc=>?_) fun hcc=>?_
         ·have hcc:=odT hcc
          have hpu:=hput (K.eR L 0 j) j (by omega)
          have hsn:=K.oQ j L 0
          rw[Nat.zero_add] at hsn
          rw[←hsn] at hpu
          simp only[go_sem,he,g0,g1,g2,g7,g22,hS2,hT1,hT2]
          refine⟨by omega,by rw[List.length_map];omega,?_⟩
          rw[hpu]
          simp only[go_sem,he,g0,g1,g2,g7,g22,wj]
          exact⟨k3-1,by omega,j+1,rfl,by omega,rfl⟩
         ·have hcc:=odF hcc
          obtain rfl:j=a1:=by omega
          simp only[go_sem,he,g0,g1,g2]
        ·clear he g0 g1 g2 g7 g18
         rintro e hk ⟨he,g0,g1,g2,rfl⟩
         simp only[go_sem,he,g0,g1,g2]
         have hsl:=K.jV a1 L 0
         have hfin:=fin (K.eR L 0 a1) (by omega) fun x hx=>by
          rw[K.pW a1 L 0 x (by omega),hL2 x hx,hq13,Bool.and_true]
          by_cases hh:0≤x∧x<0+a1
          ·rw[if_pos hh,dcT (show (x:Int)<a1 by omega),Bool.or_true,if_pos rfl]
          ·rw[if_neg hh,dcF (show ¬(x:Int)<a1 by omega),Bool.or_false]
         simp only[It.cells,hp.rr] at hfin ⊢
         exact hfin
       ·simp only[go_sem,he,g0,g1,g2,g7]
        have hfin:=fin L hL1 fun x hx=>by rw[hL2 x hx,hq13,Bool.and_false,Bool.or_false]
        rw[hI2c] at hfin
        simp only[It.cells,hp.rr] at hfin ⊢
        exact hfin
     ·have ha0:a1=0:=by
       have:(a1:Int)=0:=by simpa using hq10
       omega
      simp only[go_sem,he,g0,g1,g2,g6,g7,g11]
      have hfin:=fin L hL1 fun x hx=>by rw[hL2 x hx,dcF (show ¬(x:Int)<a1 by omega),Bool.false_and,Bool.or_false]
      simp only[It.cells,hp.rr] at hfin ⊢
      exact hfin
 ·have hq:=odT (by simpa using hq:decide (y=I.ly)=true)
  obtain⟨t1,t2,-⟩:=hold hq.symm
  simp only[go_sem,he,g0,g1,g2]
  have hself:h.set ob (.own 122 I.cells)=h:=by
   apply List.ext_getElem?
   intro p
   by_cases e:ob=p
   ·subst e;rw[List.getElem?_set_self hlt,hobI]
   ·rw[List.getElem?_set_ne e]
  refine⟨I,[],by rw[hself,List.append_nil],fun Y=>?_,rfl⟩
  rw[List.append_nil]
  refine⟨t1.of fun x l hx=>hx.setOb hobI (by decide) Y,?_⟩
  rcases t2 with t2|⟨a,L,b,c,d⟩
  ·exact .inl t2
  ·exact .inr ⟨a,L,b,c.setOb hobI (by decide) Y,d⟩
 ·clear he g0 g1 g2
  rintro e hk ⟨he,g0,g1,g2,I1,G,rfl,hI,hI1⟩
  have hrr1:I1.rr=.ptr rr 0:=by rw[hI1];exact hp.rr
  have hcl:=hc.len
  have hlS:∀Y:aD,(h.set ob Y).length=h.length:=fun Y=>List.length_set
  have hS2:∀(Y:aD) (G:aB),(h.set ob Y++G)[ob]?=some Y:=fun Y G=>by rw[cZ (by rw[hlS];exact hlt)];exact List.getElem?_set_self hlt
  have hR2:∀(Y:aD) (G:aB),(h.set ob Y++G)[rr]?=some (.own 112 cs):=fun Y G=>by rw[cZ (by rw[hlS];exact (List.getElem?_eq_some_iff.1 hru0).1),List.getElem?_set_ne (fun e=>hne e.symm)];exact hru0
  have hW2:∀(Y Y':aD) (G:aB),(h.set ob Y++G).set ob Y'=h.set ob Y'++G:=fun Y Y' G=>by rw[List.set_append_left _ _ (by rw[hlS];exact hlt),List.set_set]
  have hfr:∀(Y:aD) (G:aB),∃G',h.set ob Y++G=h1++G':=fun Y G=>by
   obtain⟨G0,hG0⟩:=hp.front
   rw[hG0,eZ hp.obB,List.append_assoc]
   exact⟨_,rfl⟩
  have hNW:∀(Y:aD) (G:aB),cU (h.set ob Y++G) nw (K.cX r):=fun Y G=>by
   obtain⟨G',e⟩:=hfr Y G
   rw[e];exact hnw.more G'
  have hMO:∀(Y:aD) (G:aB),aQ (h.set ob Y++G) mo r.month:=fun Y G=>by
   obtain⟨G',e⟩:=hfr Y G
   rw[e];exact hmo.more G'
  have hEA:∀(Y:aD) (G:aB),aQ (h.set ob Y++G) ea r.easter:=fun Y G=>by
   obtain⟨G',e⟩:=hfr Y G
   rw[e];exact hea.more G'
  have hlN:lenK (some (.slice 80)) nw=some (vI (K.cX r).length):=hnw.len 80
  have hlM:lenK (some (.slice 3)) mo=some (vI r.month.length):=hmo.len 3
  have hlE:lenK (some (.slice 3)) ea=some (vI r.easter.length):=hea.len 3
  have nw1:=hnw.one
  have mo1:=hmo.one
  have ea1:=hea.one
  have hxI:I1.cells=[vI I1.year,vI I1.month,vI I1.day,vI I1.hour,vI I1.minute,vI I1.second,vI I1.weekday,.ptr rr 0,vI I1.ly,vI I1.lm,vI I1.yl,vI I1.nyl,vI I1.fy,vI 0,vI I1.yw,I1.mm,I1.mr,I1.md,I1.nmd,I1.wd,I1.wno,I1.nwd,I1.ea,I1.ts,vI I1.tot,vI I1.cnt,I1.st,I1.bk,vB I1.fin,I1.ds]:=by rw[←hrr1];rfl
  obtain⟨b,hb⟩:∃b:Bool,b=(!(decide (((K.cX r).length:Int)=0))&&(!(decide (m=I1.lm))||!(decide (y=I1.ly)))):=⟨_,rfl⟩
  rw[hxI]
  simp only[go_sem,he,g0,g1,g2,hS2,hR2,hcl,hc.nwd,hlN]
  refine bQ (fun e hk=>len e=638∧AL.get e 0=.ptr ob 7∧AL.get e 1=vI y∧AL.get e 2=vI m∧AL.get e 426=vB b∧hk=h.set ob (.own 122 I1.cells)++G) ?_ ?_
  ·rw[hxI]
   by_cases b1:((K.cX r).length:Int)=0
   ·have d1:decide (((K.cX r).length:Int)=0)=true:=dcT b1
    simp only[go_sem,he,g0,g1,g2,hS2,hR2,hcl,hb,d1,Bool.not_true,Bool.false_and]
   ·have d1:decide (((K.cX r).length:Int)=0)=false:=dcF b1
    by_cases b2:m=I1.lm
    ·have d2:decide (m=I1.lm)=true:=dcT b2
     simp only[go_sem,he,g0,g1,g2,hS2,hR2,hcl,hb,d1,d2,Bool.not_true,Bool.not_false,Bool.false_or,Bool.true_and]
    ·have d2:decide (m=I1.lm)=false:=dcF b2
     simp only[go_sem,he,g0,g1,g2,hS2,hR2,hcl,hb,d1,d2,Bool.not_true,Bool.not_false,Bool.true_or,Bool.true_and]
  clear he g0 g1 g2
  rintro e hk ⟨he,g0,g1,g2,g426,rfl⟩
  simp only[go_sem,he,g0,g1,g2,g426]
  refine bC (fun e hk=>len e=638∧AL.get e 0=.ptr ob 7∧AL.get e 1=vI y∧AL.get e 2=vI m∧∃(I2:It) (G:aB),hk=h.set ob (.own 122 I2.cells)++G∧(∀Y,YT (h.set ob Y++G) I2 y∧j8 (h.set ob Y++G) I2 r y∧pG (h.set ob Y++G) I2 r y m)∧I2.ea=I.ea∧I2={I1 with nwd:=I2.nwd}) (fun hq=>?_) (fun hq=>?_) ?_
  ·have hbn:K.cX r≠[]:=fun e=>by rw[e] at hb;rw[hb] at hq;simp at hq
   obtain⟨gs,hgs⟩:∃gs,gs=K.jF r y m:=⟨_,rfl⟩
   have hf1:r.freq≤1:=by
    obtain⟨x,hx⟩:=List.exists_mem_of_ne_nil _ hbn
    exact (K.rL hG hx).1
   have hgo:=K.aC5 hG (y:=y) hm
   rw[←hgs] at hgo
   have hgl:gs.length≤12∧gs≠[]:=by
    have hml:=hG.lens.2.1
    rw[hgs]
    unfold K.jF
    split
    ·split
     ·simp
     ·rename_i hmm
      simp only[List.length_map]
      exact⟨hml,fun e=>hmm (by simpa using e)⟩
    ·simp
   have hYT:=fun Y=>(hI Y).1
   have hyl:I1.yl=(K.aM (aR y):Int):=(hYT .gone).yl
   have hylb:(K.aM (aR y):Int)=365∨(K.aM (aR y):Int)=366:=by cases aR y<;>simp[K.aM]
   rw[hxI]
   simp only[go_sem,he,g0,g1,g2,hS2,hR2,hcl,hc.freq]
   refine bC (fun e hk=>len e=638∧AL.get e 0=.ptr ob 7∧AL.get e 1=vI y∧AL.get e 2=vI m∧∃(Gn:aB) (o:Nat) (rc:List AV),hk=h.set ob (.own 122 I1.cells)++(G++Gn)∧AL.get e 23=.sl true o 0 gs.length 1∧(∀Y,(h.set ob Y++(G++Gn))[o]?=some (.own 22 rc))∧rc.length=gs.length∧∀(j:Nat) g,gs[j]?=some g→∃xi,rc[j]?=some xi∧∀Y,bW (h.set ob Y++(G++Gn)) xi [g.1,g.2]) (fun hf=>?_) (fun hf=>?_) ?_
   ·have hf:=odT hf
    simp only[go_sem,he,g0,g1,g2,hS2,hR2,hcl,hc.month,hlM]
    refine aF (fun hq2=>?_) fun hq2=>?_
    ·have hmm:r.month≠[]:=fun e=>by rw[e] at hq2;simp at hq2
     have hgs2:gs=r.month.map fun m=>(bA y (m-1).toNat,bA y m.toNat):=by rw[hgs];unfold K.jF;rw[if_pos (by omega),if_neg hmm]
     have hmlen:=hG.lens.2.1
     simp only[go_sem,he,g0,g1,g2,hS2,hR2,hcl,hc.month,hlM]
     refine bG r.month.length (fun k e hk=>len e=638∧AL.get e 0=.ptr ob 7∧AL.get e 1=vI y∧AL.get e 2=vI m∧AL.get e 450=mo∧AL.get e 451=vI r.month.length∧∃(i:Nat) (x:AV) (Gn:aB) (rc:List AV),AL.get e 452=vI i∧i+k=r.month.length∧AL.get e 23=x∧hk=h.set ob (.own 122 I1.cells)++(G++Gn)∧(∀Y,GrN 22 1 (h.set ob Y++G) ((h.set ob Y++G)++Gn) x i rc)∧rc.length=i∧∀(j:Nat) v,(r.month.take i)[j]?=some v→∃xi,rc[j]?=some xi∧∀Y,bW (h.set ob Y++G) xi [bA y (v-1).toNat,bA y v.toNat]) (fun e hk=>len e=638∧AL.get e 0=.ptr ob 7∧AL.get e 1=vI y∧AL.get e 2=vI m∧∃(Gn:aB) (o:Nat) (rc:List AV),hk=h.set ob (.own 122 I1.cells)++(G++Gn)∧AL.get e 23=.sl true o 0 gs.length 1∧(∀Y,(h.set ob Y++(G++Gn))[o]?=some (.own 22 rc))∧rc.length=gs.length∧∀(j:Nat) g,gs[j]?=some g→∃xi,rc[j]?=some xi∧∀Y,bW (h.set ob Y++(G++Gn)) xi [g.1,g.2]) (by kernel_rfl) ?_ ?_ ?_
     ·simp only[go_sem,he,g0,g1,g2]
      exact⟨0,aP,[],[],rfl,by omega,rfl,by rw[List.append_nil,hxI],fun Y=>by rw[List.append_nil];exact GrN.nil ⟨[],(List.append_nil _).symm⟩,rfl,by simp⟩
     ·clear he g0 g1 g2 g426
      rintro k e hk ⟨he,g0,g1,g2,g450,g451,i,x,Gn,rc,g452,hik,g23,rfl,hgr,hrl,hrc⟩
      simp only[go_sem,he,g0,g1,g2,g450,g451,g452]
      refine aF (fun hcc=>?_) fun hcc=>?_
      ·have hcc:=odT hcc
       have hi:i<r.month.length:=by omega
       obtain⟨own,q,off,cs2,e1,e2,e3⟩:=(hMO (.own 122 I1.cells) (G++Gn)).get hi
       have hmem:=hG.month _ (show r.month.getD i 0∈r.month by rw[List.getD_eq_getElem?_getD,List.getElem?_eq_getElem hi];exact List.getElem_mem hi)
       have htk:=eE hi
       generalize r.month.getD i 0=v at e3 hmem htk
       rw[e1] at g450
       rw[hxI] at e2
       obtain⟨pm,om,cm,em,em2,em3,em4⟩:=(hYT (.own 122 I1.cells)).mr
       have emr:=em
       have hml:=K.uM (aR y)
       rw[hml] at em em4
       rw[hxI] at em2 ⊢
       rw[em] at em2 e2 ⊢
       have hv1:i64.wrap (v-1)=v-1:=aJ (by omega)
       have hv2:i64.wrap (v+1)=v+1:=aJ (by omega)
       have hcut:∀Y,bW (h.set ob Y++G) (.sl true pm (om+(v-1).toNat) 2 1) [bA y (v-1).toNat,bA y v.toNat]:=fun Y=>by
        have:=(hYT Y).mr
        rw[em] at this
        refine this.cut (K.mK y (by omega)) ?_
        rw[show (v-1).toNat+1=v.toNat by omega]
        exact K.mK y (by omega)
       obtain⟨x',Gn',ha,hgr',-,-⟩:=push2 aH2 (by decide) (hgr (.own 122 [vI I1.year,vI I1.month,vI I1.day,vI I1.hour,vI I1.minute,vI I1.second,vI I1.weekday,.ptr rr 0,vI I1.ly,vI I1.lm,vI I1.yl,vI I1.nyl,vI I1.fy,vI 0,vI I1.yw,I1.mm,.sl true pm om 13 1,I1.md,I1.nmd,I1.wd,I1.wno,I1.nwd,I1.ea,I1.ts,vI I1.tot,vI I1.cnt,I1.st,I1.bk,vB I1.fin,I1.ds])) (c:=[.sl true pm (om+(v-1).toNat) 2 1]) rfl rfl (by omega)
       have x1:=hgr'.one
       simp only[List.append_assoc] at ha
       have c1:(if 0≤v-1 then some (v-1).toNat else none)=some (v-1).toNat:=if_pos (by omega)
       have c2:(if 0≤v+1 then some (v+1).toNat else none)=some (v+1).toNat:=if_pos (by omega)
       have hv3:(v+1).toNat-(v-1).toNat=2:=by omega
       have wi:i64.wrap ((i:Int)+1)=((i+1:Nat):Int):=wN _ (by omega) (by omega)
       simp only[List.length_append] at ha
       simp only[go_sem,he,g0,g1,g2,g450,g451,g452,g23,e2,e3,hS2,hv1,hv2,c1,c2,hv3,Int.toNat_natCast]
       refine⟨by omega,by omega,?_⟩
       rw[ha]
       simp only[go_sem,he,g0,g1,g2,g450,g451,g452,aN x1,wi]
       refine⟨k-1,by omega,e1.symm,i+1,x',Gn',rc++[.sl true pm (om+(v-1).toNat) 2 1],rfl,by omega,rfl,rfl,fun Y=>?_,by rw[List.length_append,hrl];rfl,fun j v' hj=>?_⟩
       ·have:=hgr'.front (X':=h.set ob Y++G) (by simp only[List.length_append,List.length_set])
        rwa [List.append_assoc] at this
       ·rw[htk] at hj
        by_cases hji:j<i
        ·rw[List.getElem?_append_left (by rw[List.length_take];omega)] at hj
         rw[List.getElem?_append_left (by omega)]
         exact hrc j v' hj
        ·have hj2:=(List.getElem?_eq_some_iff.1 hj).1
         rw[List.length_append,List.length_take] at hj2
         simp only[List.length_cons,List.length_nil] at hj2
         obtain rfl:j=i:=by omega
         rw[List.getElem?_append_right (by rw[List.length_take];omega),List.length_take,show j-min j r.month.length=0 by omega] at hj
         cases hj
         rw[List.getElem?_append_right (by omega),show j-rc.length=0 by omega]
         exact⟨_,rfl,hcut⟩
      ·have hcc:=odF hcc
       obtain rfl:i=r.month.length:=by omega
       simp only[go_sem,he,g0,g1,g2,g23]
       rcases (hgr (.own 122 I1.cells)).2.2 with ⟨-,h0⟩|⟨o,e1,e2,e3⟩
       ·exact absurd (List.length_eq_zero_iff.1 h0) hmm
       ·refine⟨Gn,o,rc,rfl,by rw[e1,hgs2,List.length_map],fun Y=>?_,by rw[hrl,hgs2,List.length_map],fun j g hg=>?_⟩
        ·rcases (hgr Y).2.2 with ⟨h0,-⟩|⟨o',e4,e5,-⟩
         ·rw[e1] at h0;cases h0
         ·rw[e1] at e4;cases e4;rw[List.append_assoc] at e5;exact e5
        ·rw[hgs2,List.getElem?_map] at hg
         obtain⟨v,hv,rfl⟩:=Option.map_eq_some_iff.1 hg
         obtain⟨xi,hx1,hx2⟩:=hrc j v (by rw[List.take_length];exact hv)
         exact⟨xi,hx1,fun Y=>by have:=(hx2 Y).more Gn;rwa [List.append_assoc] at this⟩
     ·clear he g0 g1 g2 g426
      rintro e hk ⟨he,g0,g1,g2,hJ⟩
      simp only[go_sem,he,g0,g1,g2]
      exact hJ
    ·have hmm:r.month=[]:=by simpa using hq2
     have hgs2:gs=[(0,(K.aM (aR y):Int))]:=by rw[hgs];unfold K.jF;rw[if_pos (by omega),if_pos hmm]
     simp only[go_sem,he,g0,g1,g2,hS2,hR2,hcl]
     refine⟨[.own 3 [vI 0,vI I1.yl],.own 22 [.sl true (h.length+G.length) 0 2 1]],h.length+G.length+1,[.sl true (h.length+G.length) 0 2 1],?_,?_,fun Y=>?_,by rw[hgs2];rfl,fun j g hg=>?_⟩
     ·simp only[hlS];rw[hxI]
     ·rw[hgs2,hlS];rfl
     ·rw[←List.append_assoc,List.getElem?_append_right (by rw[List.length_append,hlS];omega),List.length_append,hlS,Nat.add_sub_cancel_left];rfl
     ·rw[hgs2] at hg
      match j,hg with
      |0,hg=>
       cases hg
       refine⟨_,rfl,fun Y=>⟨h.length+G.length,0,[vI 0,vI I1.yl],rfl,?_,?_,by simp⟩⟩
       ·rw[←List.append_assoc,List.getElem?_append_right (by rw[List.length_append,hlS];omega),List.length_append,hlS,Nat.sub_self];rfl
       ·rw[hyl];rfl
   ·have hf:=odF hf
    have hf2:r.freq=1:=by omega
    have d1:decide ((r.freq:Int)=1)=true:=dcT (by omega)
    have hgs2:gs=[(bA y (m-1).toNat,bA y m.toNat)]:=by rw[hgs];unfold K.jF;rw[if_neg (by omega)]
    obtain⟨pm,om,cm,em,em2,em3,em4⟩:=(hYT (.own 122 I1.cells)).mr
    have hml:=K.uM (aR y)
    rw[hml] at em em4
    have hv1:i64.wrap (m-1)=m-1:=aJ (by omega)
    have hv2:i64.wrap (m+1)=m+1:=aJ (by omega)
    have hcut:∀Y,bW (h.set ob Y++G) (.sl true pm (om+(m-1).toNat) 2 1) [bA y (m-1).toNat,bA y m.toNat]:=fun Y=>by
     have:=(hYT Y).mr
     rw[em] at this
     refine this.cut (K.mK y (by omega)) ?_
     rw[show (m-1).toNat+1=m.toNat by omega]
     exact K.mK y (by omega)
    have c1:(if 0≤m-1 then some (m-1).toNat else none)=some (m-1).toNat:=if_pos (by omega)
    have c2:(if 0≤m+1 then some (m+1).toNat else none)=some (m+1).toNat:=if_pos (by omega)
    have hv3:(m+1).toNat-(m-1).toNat=2:=by omega
    simp only[go_sem,he,g0,g1,g2,hS2,hR2,hcl,hc.freq,d1,em,hv1,hv2,c1,c2,hv3]
    refine⟨by omega,[.own 22 [.sl true pm (om+(m-1).toNat) 2 1]],h.length+G.length,[.sl true pm (om+(m-1).toNat) 2 1],by rw[hxI,em],by rw[hgs2,hlS];rfl,fun Y=>?_,by rw[hgs2];rfl,fun j g hg=>?_⟩
    ·rw[←List.append_assoc,List.getElem?_append_right (by rw[List.length_append,hlS];omega),List.length_append,hlS,Nat.sub_self];rfl
    ·rw[hgs2] at hg
     match j,hg with
     |0,hg=>
      cases hg
      exact⟨_,rfl,fun Y=>by have:=(hcut Y).more [.own 22 [.sl true pm (om+(m-1).toNat) 2 1]];rwa [List.append_assoc] at this⟩
   ·clear he g0 g1 g2 g426
    rintro e hk ⟨he,g0,g1,g2,Gn,o,rc,rfl,g23,ho,hrl,hrc⟩
    have dgl:decide ((gs.length:Int)=0)=false:=dcF (by have:=List.length_pos_iff.2 hgl.2;omega)
    rw[hxI]
    simp only[go_sem,he,g0,g1,g2,g23,dgl,hS2,hW2,hyl,aL5 _ _ (show K.aM (aR y)≤100000 by omega),hlS]
    obtain⟨I2,hI2⟩:∃I2:It,I2={I1 with nwd:=.sl true (h.length+(G.length+Gn.length)) 0 (K.aM (aR y)) 1}:=⟨_,rfl⟩
    have hI2c:I2.cells=[vI I1.year,vI I1.month,vI I1.day,vI I1.hour,vI I1.minute,vI I1.second,vI I1.weekday,.ptr rr 0,vI I1.ly,vI I1.lm,vI (K.aM (aR y):Nat),vI I1.nyl,vI I1.fy,vI 0,vI I1.yw,I1.mm,I1.mr,I1.md,I1.nmd,I1.wd,I1.wno,.sl true (h.length+(G.length+Gn.length)) 0 (K.aM (aR y)) 1,I1.ea,I1.ts,vI I1.tot,vI I1.cnt,I1.st,I1.bk,vB I1.fin,I1.ds]:=by
     rw[hI2]
     simp only[It.cells,hrr1,hyl]
    obtain⟨PG,hPG⟩:∃PG:Nat→Int×Int→Bool,PG=fun (q:Nat) (g:Int×Int)=>(K.cX r).any fun x=>decide (g.1≤(q:Int))&&decide ((q:Int)≤g.2-1)&&decide ((q:Int)=K.oL (aC y%7) g.1 (g.2-1) x):=⟨_,rfl⟩
    refine bG gs.length (fun k e hk=>len e=638∧AL.get e 0=.ptr ob 7∧AL.get e 1=vI y∧AL.get e 2=vI m∧AL.get e 504=.sl true o 0 gs.length 1∧AL.get e 505=vI gs.length∧∃(j:Nat) (L:List Int) (Gs:aB),AL.get e 506=vI j∧j+k=gs.length∧L.length=K.aM (aR y)∧(∀q,q<L.length→L[q]?=some (if (gs.take j).any (PG q) then 1 else 0))∧hk=h.set ob (.own 122 I2.cells)++(G++(Gn++(.own 3 (L.map vI)::Gs)))) (fun e hk=>len e=638∧AL.get e 0=.ptr ob 7∧AL.get e 1=vI y∧AL.get e 2=vI m∧∃(L:List Int) (Gs:aB),L.length=K.aM (aR y)∧(∀q,q<L.length→L[q]?=some (if gs.any (PG q) then 1 else 0))∧hk=h.set ob (.own 122 I2.cells)++(G++(Gn++(.own 3 (L.map vI)::Gs)))) (by kernel_rfl) ?_ ?_ ?_
    ·simp only[go_sem,he,g0,g1,g2,g23]
     refine⟨0,List.replicate (K.aM (aR y)) 0,[],rfl,by omega,List.length_replicate,fun q hq=>?_,?_⟩
     ·rw[List.length_replicate] at hq
      rw[List.getElem?_replicate,if_pos hq];simp
     ·rw[hI2c]
    ·clear he g0 g1 g2 g23
     rintro k e hk ⟨he,g0,g1,g2,g504,g505,j,L,Gs,g506,hjk,hL1,hL2,rfl⟩
     simp only[go_sem,he,g0,g1,g2,g504,g505,g506]
     refine aF (fun hcc=>?_) fun hcc=>?_
     ·have hcc:=odT hcc
      have hj:j<gs.length:=by omega
      obtain⟨g,hg⟩:∃g,gs[j]?=some g:=⟨_,List.getElem?_eq_getElem hj⟩
      have hgm:g∈gs:=List.mem_of_getElem? hg
      obtain⟨xi,hx1,hx2⟩:=hrc j g hg
      obtain⟨g1',g2'⟩:=g
      have hgo':=hgo _ hgm
      have hHe:∀(Y Z:aD) (Gs:aB),h.set ob Y++(G++(Gn++(Z::Gs)))=(h.set ob Y++(G++Gn))++(Z::Gs):=fun Y Z Gs=>by simp only[List.append_assoc]
      have hM1:∀(Y Z:aD) (Gs:aB),(h.set ob Y++(G++(Gn++(Z::Gs))))[h.length+(G.length+Gn.length)]?=some Z:=fun Y Z Gs=>by
       rw[hHe,List.getElem?_append_right (by simp only[List.length_append,hlS];omega)]
       simp only[List.length_append,hlS,Nat.sub_self];rfl
      have hM2:∀(Y Z Z':aD) (Gs:aB),(h.set ob Y++(G++(Gn++(Z::Gs)))).set (h.length+(G.length+Gn.length)) Z'=h.set ob Y++(G++(Gn++(Z'::Gs))):=fun Y Z Z' Gs=>by
       rw[hHe,hHe,List.set_append_right _ _ (by simp only[List.length_append,hlS];omega)]
       simp only[List.length_append,hlS,Nat.sub_self];rfl
      have ho2:∀(Y Z:aD) (Gs:aB),(h.set ob Y++(G++(Gn++(Z::Gs))))[o]?=some (.own 22 rc):=fun Y Z Gs=>by
       rw[hHe];exact aZ (ho Y)
      obtain⟨px,fx,cx,rfl,ex2,ex3,ex4⟩:=hx2 (.own 122 I2.cells)
      simp only[List.length_cons,List.length_nil,Nat.zero_add] at ex3 ex4 hx1
      have ex5:∀(Z:aD) (Gs:aB),(h.set ob (.own 122 I2.cells)++(G++(Gn++(Z::Gs))))[px]?=some (.own 3 cx):=fun Z Gs=>by
       rw[hHe];exact aZ ex2
      have ex6:cx[fx]?=some (vI g1')∧cx[fx+1]?=some (vI g2'):=by
       have e1:((cx.drop fx).take 2)[0]?=cx[fx]?:=by rw[List.getElem?_take_of_lt (by omega),List.getElem?_drop,Nat.add_zero]
       have e2:((cx.drop fx).take 2)[1]?=cx[fx+1]?:=by rw[List.getElem?_take_of_lt (by omega),List.getElem?_drop]
       rw[ex3] at e1 e2
       exact⟨e1.symm,e2.symm⟩
      obtain⟨ex6,ex7⟩:=ex6
      have ho3:=ho2 (.own 122 I2.cells)
      rw[hI2c] at ex5 ho3
      rw[hI2c]
      simp only[go_sem,he,g0,g1,g2,g504,g505,g506,ho3,hx1,Int.toNat_natCast]
      refine⟨by omega,?_⟩
      have wj:i64.wrap ((j:Int)+1)=((j+1:Nat):Int):=wN _ (by omega) (by omega)
      obtain⟨o1,o2,o3,o4⟩:=hgo'
      simp only at o1 o2 o3 o4
      have wg:i64.wrap (g2'-1)=g2'-1:=aJ (by omega)
      refine bF bI (by kernel_rfl) ?_
      simp only[go_sem,he,g0,g1,g2,g504,g505,g506,ex5,ex6,ex7,wg,hS2,hR2,hcl,hc.nwd,hlN]
      rw[←hI2c]
      obtain⟨wb,hwb'⟩:∃wb:Nat,aC y%7=wb∧wb≤6:=⟨(aC y%7).toNat,by omega,by omega⟩
      obtain⟨hwb1,hwb2⟩:=hwb'
      have h55:(fY 55).length=385:=fA 55
      obtain⟨ow,fw',cw,ew1,ew2,ew3,ew4⟩:=(hYT (.own 122 I2.cells)).wd
      rw[hwb1,Int.toNat_natCast] at ew1 ew3 ew4
      have hlw:((fY 55).drop wb).length=385-wb:=by rw[List.length_drop,h55]
      rw[hlw] at ew1 ew3 ew4
      have hWD:∀(b:Int),0≤b→b≤371→cw[fw'+b.toNat]?=some (vI ((aC y%7+b)%7)):=fun b b0 b1=>by
       have e5:((cw.drop fw').take (385-wb))[b.toNat]?=cw[fw'+b.toNat]?:=by rw[List.getElem?_take_of_lt (by omega),List.getElem?_drop]
       rw[←e5,ew3,List.getElem?_map,List.getElem?_drop]
       have hg:=pT 55 (wb+b.toNat) (by omega)
       rw[List.getD_eq_getElem?_getD,List.getElem?_eq_getElem (by rw[h55];omega)] at hg
       rw[List.getElem?_eq_getElem (by rw[h55];omega)]
       simp only[Option.getD_some] at hg
       rw[hg,hwb1]
       simp only[Option.map_some]
       congr 2
       omega
      have ew5:∀(Z:aD) (Gs:aB),(h.set ob (.own 122 I2.cells)++(G++(Gn++(Z::Gs))))[ow]?=some (.own 3 cw):=fun Z Gs=>by
       rw[hHe,List.append_assoc,←List.append_assoc (h.set ob _),←List.append_assoc]
       exact aZ (aZ ew2)
      obtain⟨QG,hQG⟩:∃QG:Nat→Int×Int→Bool,QG=fun (q:Nat) (x:Int×Int)=>decide (g1'≤(q:Int))&&decide ((q:Int)≤g2'-1)&&decide ((q:Int)=K.oL (aC y%7) g1' (g2'-1) x):=⟨_,rfl⟩
      have hnlen:(K.cX r).length≤12:=Nat.le_trans (List.length_filter_le _ _) hG.lens.2.2.2.2.2.1
      refine⟨by decide,by decide,?_⟩
      refine bG (K.cX r).length (fun k2 e hk=>len e=638∧AL.get e 0=.ptr ob 7∧AL.get e 1=vI y∧AL.get e 2=vI m∧AL.get e 504=.sl true o 0 gs.length 1∧AL.get e 505=vI gs.length∧AL.get e 506=vI j∧AL.get e 28=vI g1'∧AL.get e 29=vI (g2'-1)∧AL.get e 524=nw∧AL.get e 525=vI (K.cX r).length∧∃(i:Nat) (L:List Int) (Gs:aB),AL.get e 526=vI i∧i+k2=(K.cX r).length∧L.length=K.aM (aR y)∧(∀q,q<L.length→L[q]?=some (if (gs.take j).any (PG q)||((K.cX r).take i).any (QG q) then 1 else 0))∧hk=h.set ob (.own 122 I2.cells)++(G++(Gn++(.own 3 (L.map vI)::Gs)))) (fun e hk=>len e=638∧AL.get e 0=.ptr ob 7∧AL.get e 1=vI y∧AL.get e 2=vI m∧AL.get e 504=.sl true o 0 gs.length 1∧AL.get e 505=vI gs.length∧AL.get e 506=vI j∧∃(L:List Int) (Gs:aB),L.length=K.aM (aR y)∧(∀q,q<L.length→L[q]?=some (if (gs.take (j+1)).any (PG q) then 1 else 0))∧hk=h.set ob (.own 122 I2.cells)++(G++(Gn++(.own 3 (L.map vI)::Gs)))) (by kernel_rfl) ?_ ?_ ?_
      ·simp only[go_sem,he,g0,g1,g2,g504,g505,g506]
       exact⟨0,L,Gs,rfl,by omega,hL1,fun q hq=>by rw[hL2 q hq,List.take_zero,List.any_nil,Bool.or_false],rfl⟩
      ·clear he g0 g1 g2 g504 g505 g506 hL1 hL2 L Gs
       rintro k2 e hk ⟨he,g0,g1,g2,g504,g505,g506,g28,g29,g524,g525,i,L,Gs,g526,hik,hL1,hL2,rfl⟩
       simp only[go_sem,he,g0,g1,g2,g504,g505,g506,g28,g29,g524,g525,g526]
       refine aF (fun hci=>?_) fun hci=>?_
       ·have hci:=odT hci
        have hi:i<(K.cX r).length:=by omega
        have wi:i64.wrap ((i:Int)+1)=((i+1:Nat):Int):=wN _ (by omega) (by omega)
        obtain⟨own,q0,off,cd,e1,e2,e3,e4⟩:=(hNW (.own 122 I2.cells) (G++(Gn++(.own 3 (L.map vI)::Gs)))).get hi
        have hdm:(K.cX r).getD i (0,0)∈K.cX r:=by rw[List.getD_eq_getElem?_getD,List.getElem?_eq_getElem hi];exact List.getElem_mem hi
        have htk:(K.cX r).take (i+1)=(K.cX r).take i++[(K.cX r).getD i (0,0)]:=by
         rw[List.take_add_one,List.getD_eq_getElem?_getD,List.getElem?_eq_getElem hi];rfl
        obtain⟨-,⟨d1,d2⟩,d3,⟨d4,d5⟩,-⟩:=K.rL hG hdm
        have hba:=K.aPN hG hm (hgs▸hgm) hdm
        generalize (K.cX r).getD i (0,0)=d at *
        obtain⟨dw,dn⟩:=d
        simp only at d1 d2 d3 d4 d5 hba e4
        rw[e1] at g524
        have hal:∀(Z Z':aD) (Gs:aB),(h.set ob (.own 122 I2.cells)++(G++(Gn++(Z::(Gs++[Z'])))))[h.length+(G.length+(Gn.length+(Gs.length+1)))]?=some Z':=fun Z Z' Gs=>by
         have e1:h.set ob (.own 122 I2.cells)++(G++(Gn++(Z::(Gs++[Z']))))=(h.set ob (.own 122 I2.cells)++(G++(Gn++(Z::Gs))))++[Z']:=by simp only[List.append_assoc,List.cons_append]
         rw[e1,List.getElem?_append_right (by simp only[List.length_append,List.length_cons,hlS];omega)]
         simp only[List.length_append,List.length_cons,hlS,Nat.sub_self];rfl
        simp only[go_sem,he,g0,g1,g2,g504,g505,g506,g28,g29,g524,g525,g526,e2,e4,Int.toNat_natCast]
        refine⟨by omega,by omega,?_⟩
        refine bF bI (by kernel_rfl) ?_
        simp only[go_sem,he,g0,g1,g2,g504,g505,g506,g28,g29,g524,g525,g526,hlS,hal]
        obtain⟨ix,hix⟩:∃ix:Int,ix=K.oL (aC y%7) g1' (g2'-1) (dw,dn):=⟨_,rfl⟩
        have hnt:=K.aL3 (aC y%7) g1' (g2'-1) (dw,dn)
        rw[←hix] at hnt
        obtain⟨ba,hba'⟩:∃ba:Int,ba=K.nL g1' (g2'-1) (dw,dn):=⟨_,rfl⟩
        rw[←hba'] at hnt hba
        have hbd:ba=if dn<0 then g2'-1+(dn+1)*7 else g1'+(dn-1)*7:=hba'
        simp only at hnt
        have ho5:=hW2
        refine bC (fun e hk=>len e=638∧AL.get e 0=.ptr ob 7∧AL.get e 1=vI y∧AL.get e 2=vI m∧AL.get e 504=.sl true o 0 gs.length 1∧AL.get e 505=vI gs.length∧AL.get e 506=vI j∧AL.get e 28=vI g1'∧AL.get e 29=vI (g2'-1)∧AL.get e 524=nw∧AL.get e 525=vI (K.cX r).length∧AL.get e 526=vI i∧AL.get e 34=vI ix∧hk=h.set ob (.own 122 I2.cells)++(G++(Gn++(.own 3 (L.map vI)::(Gs++[.own 80 [vI dw,vI dn]]))))) (fun hn=>?_) (fun hn=>?_) ?_
        ·have hn:=odT hn
         rw[if_pos hn] at hbd hnt
         have w1:i64.wrap (dn+1)=dn+1:=aJ (by omega)
         have w2:i64.wrap ((dn+1)*7)=(dn+1)*7:=aJ (by omega)
         have w3:i64.wrap (g2'-1+(dn+1)*7)=ba:=by rw[aJ (by omega),hbd]
         have w4:i64.wrap ((aC y%7+ba)%7-dw)=(aC y%7+ba)%7-dw:=aJ (by omega)
         have w5:i64.wrap (ba-((aC y%7+ba)%7-dw)%7)=ix:=by rw[aJ (by omega),hnt]
         have ew6:=ew5
         rw[hI2c] at ew6 ⊢
         rw[ew1] at ew6 ⊢
         simp only[go_sem,he,g0,g1,g2,g504,g505,g506,g28,g29,g524,g525,g526,w1,w2,w3,hS2,ew6,hWD ba (by omega) (by omega)]
         refine⟨by omega,?_⟩
         rw[w4]
         refine aSh (kX ((aC y%7+ba)%7-dw) 7 (by omega) (by omega) _) ?_
         simp only[go_sem,he,g0,g1,g2,g504,g505,g506,g28,g29,g524,g525,g526,aA,w5]
         exact e1.symm
        ·have hn:=odF hn
         rw[if_neg hn] at hbd hnt
         have w1:i64.wrap (dn-1)=dn-1:=aJ (by omega)
         have w2:i64.wrap ((dn-1)*7)=(dn-1)*7:=aJ (by omega)
         have w3:i64.wrap (g1'+(dn-1)*7)=ba:=by rw[aJ (by omega),hbd]
         have w6:i64.wrap (7-(aC y%7+ba)%7)=7-(aC y%7+ba)%7:=aJ (by omega)
         have w4:i64.wrap (7-(aC y%7+ba)%7+dw)=7-(aC y%7+ba)%7+dw:=aJ (by omega)
         have w5:i64.wrap (ba+(7-(aC y%7+ba)%7+dw)%7)=ix:=by rw[aJ (by omega),hnt]
         have ew6:=ew5
         rw[hI2c] at ew6 ⊢
         rw[ew1] at ew6 ⊢
         simp only[go_sem,he,g0,g1,g2,g504,g505,g506,g28,g29,g524,g525,g526,w1,w2,w3,hS2,ew6,hWD ba (by omega) (by omega)]
         refine⟨by omega,?_⟩
         rw[w6,w4]
         refine aSh (kX (7-(aC y%7+ba)%7+dw) 7 (by omega) (by omega) _) ?_
         simp only[go_sem,he,g0,g1,g2,g504,g505,g506,g28,g29,g524,g525,g526,aA,w5]
         exact e1.symm
        ·clear he g0 g1 g2 g504 g505 g506 g28 g29 g524 g525 g526
         rintro e hk ⟨he,g0,g1,g2,g504,g505,g506,g28,g29,g524,g525,g526,g34,rfl⟩
         have hset:=K.aRV (L:=L) (B:=fun q=>(gs.take j).any (PG q)||((K.cX r).take i).any (QG q)) hL2 (a:=g1') (b:=g2') (i:=ix) o1 (by rw[hL1];exact o3)
         have hB2:∀q:Nat,(((gs.take j).any (PG q)||((K.cX r).take i).any (QG q))||(decide (g1'≤(q:Int))&&decide ((q:Int)≤g2'-1)&&decide ((q:Int)=ix)))=((gs.take j).any (PG q)||((K.cX r).take (i+1)).any (QG q)):=fun q=>by
          rw[htk,List.any_append,List.any_cons,List.any_nil,Bool.or_false,Bool.or_assoc,hQG,hix]
         have hput:∀(L:List Int) (i:Nat),i<L.length→List.take i (L.map vI)++vI 1::List.drop (i+1) (L.map vI)=(L.set i 1).map vI:=fun L i hi=>by
          rw[List.map_set,List.set_eq_take_append_cons_drop,if_pos (by rw[List.length_map];exact hi)]
         simp only[go_sem,he,g0,g1,g2,g504,g505,g506,g28,g29,g524,g525,g526,g34]
         refine bQ (fun e hk=>len e=638∧AL.get e 0=.ptr ob 7∧AL.get e 1=vI y∧AL.get e 2=vI m∧AL.get e 504=.sl true o 0 gs.length 1∧AL.get e 505=vI gs.length∧AL.get e 506=vI j∧AL.get e 28=vI g1'∧AL.get e 29=vI (g2'-1)∧AL.get e 524=nw∧AL.get e 525=vI (K.cX r).length∧AL.get e 526=vI i∧AL.get e 34=vI ix∧AL.get e 578=vB (decide (g1'≤ix)&&decide (ix≤g2'-1))∧hk=h.set ob (.own 122 I2.cells)++(G++(Gn++(.own 3 (L.map vI)::(Gs++[.own 80 [vI dw,vI dn]]))))) ?_ ?_
         ·by_cases c1:g1'≤ix
          ·have d1:decide (g1'≤ix)=true:=dcT c1
           simp only[go_sem,he,g0,g1,g2,g504,g505,g506,g28,g29,g524,g525,g526,g34,d1,Bool.true_and]
          ·have d1:decide (g1'≤ix)=false:=dcF c1
           simp only[go_sem,he,g0,g1,g2,g504,g505,g506,g28,g29,g524,g525,g526,g34,d1,Bool.false_and]
         clear he g0 g1 g2 g504 g505 g506 g28 g29 g524 g525 g526 g34
         rintro e hk ⟨he,g0,g1,g2,g504,g505,g506,g28,g29,g524,g525,g526,g34,g578,rfl⟩
         simp only[go_sem,he,g0,g1,g2,g504,g505,g506,g28,g29,g524,g525,g526,g34,g578]
         refine aF (fun hq5=>?_) fun hq5=>?_
         ·rw[Bool.and_eq_true,decide_eq_true_eq,decide_eq_true_eq] at hq5
          rw[if_pos hq5] at hset
          rw[hI2c]
          simp only[go_sem,he,g0,g1,g2,g504,g505,g506,g28,g29,g524,g525,g526,g34,g578,hS2,hM1,hM2]
          refine⟨by omega,by rw[List.length_map];omega,?_⟩
          rw[hput _ _ (by omega)]
          simp only[go_sem,he,g0,g1,g2,g504,g505,g506,g28,g29,g524,g525,g526,g34,g578,wi]
          refine⟨k2-1,by omega,i+1,L.set ix.toNat 1,Gs++[.own 80 [vI dw,vI dn]],rfl,by omega,by rw[List.length_set];exact hL1,fun q hq=>?_,rfl⟩
          rw[List.length_set] at hq
          rw[hset q hq,hB2]
         ·rw[if_neg (by rintro ⟨a,b⟩;rw[dcT a,dcT b] at hq5;cases hq5)] at hset
          simp only[go_sem,he,g0,g1,g2,g504,g505,g506,g28,g29,g524,g525,g526,g34,g578,wi]
          refine⟨k2-1,by omega,i+1,L,Gs++[.own 80 [vI dw,vI dn]],rfl,by omega,hL1,fun q hq=>?_,rfl⟩
          rw[hset q hq,hB2]
       ·have hci:=odF hci
        obtain rfl:i=(K.cX r).length:=by omega
        simp only[go_sem,he,g0,g1,g2,g504,g505,g506]
        refine⟨L,Gs,hL1,fun q hq=>?_,rfl⟩
        rw[hL2 q hq,List.take_length,List.take_add_one,hg,Option.toList_some,List.any_append,List.any_cons,List.any_nil,Bool.or_false]
        congr 3
        rw[hPG,hQG]
      ·clear he g0 g1 g2 g504 g505 g506 hL1 hL2 L Gs
       rintro e hk ⟨he,g0,g1,g2,g504,g505,g506,L,Gs,hL1,hL2,rfl⟩
       simp only[go_sem,he,g0,g1,g2,g504,g505,g506,wj]
       exact⟨k-1,by omega,j+1,L,Gs,rfl,by omega,hL1,hL2,rfl⟩
     ·have hcc:=odF hcc
      obtain rfl:j=gs.length:=by omega
      rw[List.take_length] at hL2
      simp only[go_sem,he,g0,g1,g2]
      exact⟨L,Gs,hL1,hL2,rfl⟩
    ·clear he g0 g1 g2 g23
     rintro e hk ⟨he,g0,g1,g2,L,Gs,hL1,hL2,rfl⟩
     simp only[go_sem,he,g0,g1,g2]
     refine⟨I2,G++(Gn++(.own 3 (L.map vI)::Gs)),rfl,fun Y=>⟨?_,?_,.inr ⟨hbn,L,hL1,?_,fun x hx=>?_⟩⟩,by rw[hI2,hI1],by rw[hI2];simp only[hyl]⟩
     ·have:=(hYT Y).of (h':=h.set ob Y++(G++(Gn++(.own 3 (L.map vI)::Gs)))) fun x l hx=>by
       have:=hx.more (Gn++(.own 3 (L.map vI)::Gs))
       rwa [List.append_assoc] at this
      rw[hI2]
      exact⟨this.yl,this.nyl,this.fy,this.yw,this.mm,this.mr,this.md,this.nmd,this.wd⟩
     ·have:=(hI Y).2.of (h':=h.set ob Y++(G++(Gn++(.own 3 (L.map vI)::Gs)))) fun x l hx=>by
       have:=hx.more (Gn++(.own 3 (L.map vI)::Gs))
       rwa [List.append_assoc] at this
      rw[hI2]
      exact this
     ·rw[hI2]
      have e1:(h.set ob Y++(G++(Gn++(.own 3 (L.map vI)::Gs))))[h.length+(G.length+Gn.length)]?=some (.own 3 (L.map vI)):=by
       rw[←List.append_assoc,←List.append_assoc,List.getElem?_append_right (by simp only[List.length_append,hlS];omega)]
       simp only[List.length_append,hlS]
       rw[show h.length+(G.length+Gn.length)-(h.length+G.length+Gn.length)=0 by omega];rfl
      have:=qM e1
      rwa [hL1] at this
     ·rw[hL2 x hx,hgs,hPG]
      rfl
  ·simp only[go_sem,he,g0,g1,g2]
   refine⟨I1,G,rfl,fun Y=>⟨(hI Y).1,(hI Y).2,?_⟩,by rw[hI1],rfl⟩
   have e3:I1.nwd=I.nwd:=by rw[hI1]
   rw[hq] at hb
   by_cases b1:K.cX r=[]
   ·exact .inl ⟨b1,by rw[e3];exact hnil.1 b1⟩
   ·have b2:¬((K.cX r).length:Int)=0:=fun e=>b1 (List.length_eq_zero_iff.1 (by omega))
    rw[dcF b2,Bool.not_false,Bool.true_and] at hb
    have hb:=hb.symm
    rw[Bool.or_eq_false_iff] at hb
    have c1:m=I1.lm:=by simpa using hb.1
    have c2:y=I1.ly:=by simpa using hb.2
    have e1:I1.lm=I.lm:=by rw[hI1]
    have e2:I1.ly=I.ly:=by rw[hI1]
    have t3:=(hold (by rw[←e2,←c2])).2.2 (by rw[←e1,←c1])
    rcases t3 with t|⟨a,L,b,c,d⟩
    ·exact .inl ⟨t.1,by rw[e3];exact t.2⟩
    ·exact .inr ⟨a,L,b,by rw[e3];exact (c.setOb hobI (by decide) Y).more G,d⟩
  ·clear he g0 g1 g2 g426
   rintro e hk ⟨he,g0,g1,g2,I2,G3,rfl,hI2,hea2,hI2e⟩
   have hrr2:I2.rr=.ptr rr 0:=by rw[hI2e];exact hrr1
   have hYT:=fun Y=>(hI2 Y).1
   have hyl:I2.yl=(K.aM (aR y):Int):=(hYT .gone).yl
   have hylb:(K.aM (aR y):Int)=365∨(K.aM (aR y):Int)=366:=by cases aR y<;>simp[K.aM]
   have hxI:I2.cells=[vI I2.year,vI I2.month,vI I2.day,vI I2.hour,vI I2.minute,vI I2.second,vI I2.weekday,.ptr rr 0,vI I2.ly,vI I2.lm,vI (K.aM (aR y):Nat),vI I2.nyl,vI I2.fy,vI 0,vI I2.yw,I2.mm,I2.mr,I2.md,I2.nmd,I2.wd,I2.wno,I2.nwd,I2.ea,I2.ts,vI I2.tot,vI I2.cnt,I2.st,I2.bk,vB I2.fin,I2.ds]:=by rw[←hrr2,←hyl];rfl
   rw[hxI]
   simp only[go_sem,he,g0,g1,g2,hS2,hR2,hcl,hc.easter,hlE]
   rw[←hxI]
   refine bC (fun e hk=>len e=638∧AL.get e 0=.ptr ob 7∧AL.get e 1=vI y∧AL.get e 2=vI m∧∃(I3:It) (G:aB),hk=h.set ob (.own 122 I3.cells)++G∧(∀Y,YT (h.set ob Y++G) I3 y∧j8 (h.set ob Y++G) I3 r y∧pG (h.set ob Y++G) I3 r y m∧z4 (h.set ob Y++G) I3 r y)∧I3={I2 with ea:=I3.ea}) (fun hq=>?_) (fun hq=>?_) ?_
   ·have hne0:r.easter≠[]:=fun e=>by rw[e] at hq;simp at hq
    have hel:=hG.lens.2.2.2.2.2.2.2.2.2
    have wyl:i64.wrap ((K.aM (aR y):Int)+7)=((K.aM (aR y)+7:Nat):Int):=wN _ (by omega) (by omega)
    rw[hxI]
    simp only[go_sem,he,g0,g1,g2,hS2,hW2,wyl,aL5 _ _ (show K.aM (aR y)+7≤100000 by omega),hlS]
    obtain⟨I3,hI3⟩:∃I3:It,I3={I2 with ea:=.sl true (h.length+G3.length) 0 (K.aM (aR y)+7) 1}:=⟨_,rfl⟩
    have hI3c:I3.cells=[vI I2.year,vI I2.month,vI I2.day,vI I2.hour,vI I2.minute,vI I2.second,vI I2.weekday,.ptr rr 0,vI I2.ly,vI I2.lm,vI (K.aM (aR y):Nat),vI I2.nyl,vI I2.fy,vI 0,vI I2.yw,I2.mm,I2.mr,I2.md,I2.nmd,I2.wd,I2.wno,I2.nwd,.sl true (h.length+G3.length) 0 (K.aM (aR y)+7) 1,I2.ts,vI I2.tot,vI I2.cnt,I2.st,I2.bk,vB I2.fin,I2.ds]:=by
     rw[hI3]
     simp only[It.cells,hrr2,hyl]
    refine aSh (aLJ y (by omega) _) ?_
    simp only[go_sem,he,g0,g1,g2,aA]
    obtain⟨E1,E2⟩:=K.aKP y
    have hby:0≤aC y∧aC y≤3652059:=by
     have h1:=K.cK (show 1≤y by omega)
     have h2:=K.cK (show y≤9999 by omega)
     have e1:aC 1=0:=rfl
     have e2:aC 9999=3651694:=rfl
     omega
    refine aSh (aBh (K.cS y*86400) (by unfold InY;omega) _) ?_
    have hey:K.cS y*86400/86400=K.cS y:=by omega
    have hbn:=K.dB y (by omega)
    have hyy:aK (K.cS y)=y:=iX (by omega) (by omega) (by omega) (by omega)
    rw[hey,hyy]
    obtain⟨E,hE⟩:∃E:Int,E=K.cS y-aC y:=⟨_,rfl⟩
    rw[←hE] at E1 E2 ⊢
    have wE:i64.wrap (E+1-1)=E:=by rw[aJ (by omega)];omega
    simp only[go_sem,he,g0,g1,g2,aA,wE,hS2,hR2,hcl,hc.easter,hlE]
    have hHe:∀(Y Z:aD),h.set ob Y++(G3++[Z])=(h.set ob Y++G3)++[Z]:=fun Y Z=>by simp only[List.append_assoc]
    have hM1:∀(Y Z:aD),(h.set ob Y++(G3++[Z]))[h.length+G3.length]?=some Z:=fun Y Z=>by
     rw[hHe,List.getElem?_append_right (by simp only[List.length_append,hlS];omega)]
     simp only[List.length_append,hlS,Nat.sub_self];rfl
    have hM2:∀(Y Z Z':aD),(h.set ob Y++(G3++[Z])).set (h.length+G3.length) Z'=h.set ob Y++(G3++[Z']):=fun Y Z Z'=>by
     rw[hHe,hHe,List.set_append_right _ _ (by simp only[List.length_append,hlS];omega)]
     simp only[List.length_append,hlS,Nat.sub_self];rfl
    have hput:∀(L:List Int) (i:Nat),i<L.length→List.take i (L.map vI)++vI 1::List.drop (i+1) (L.map vI)=(L.set i 1).map vI:=fun L i hi=>by
     rw[List.map_set,List.set_eq_take_append_cons_drop,if_pos (by rw[List.length_map];exact hi)]
    refine bG r.easter.length (fun k e hk=>len e=638∧AL.get e 0=.ptr ob 7∧AL.get e 1=vI y∧AL.get e 2=vI m∧AL.get e 35=vI E∧AL.get e 615=ea∧AL.get e 616=vI r.easter.length∧∃(i:Nat) (L:List Int),AL.get e 617=vI i∧i+k=r.easter.length∧L.length=K.aM (aR y)+7∧(∀q,q<L.length→L[q]?=some (if (r.easter.take i).contains ((q:Int)-E) then 1 else 0))∧hk=h.set ob (.own 122 I3.cells)++(G3++[.own 3 (L.map vI)])) (fun e hk=>len e=638∧AL.get e 0=.ptr ob 7∧AL.get e 1=vI y∧AL.get e 2=vI m∧∃(L:List Int),L.length=K.aM (aR y)+7∧(∀q,q<L.length→L[q]?=some (if r.easter.contains ((q:Int)-E) then 1 else 0))∧hk=h.set ob (.own 122 I3.cells)++(G3++[.own 3 (L.map vI)])) (by kernel_rfl) ?_ ?_ ?_
    ·simp only[go_sem,he,g0,g1,g2]
     refine⟨0,List.replicate (K.aM (aR y)+7) 0,rfl,by omega,List.length_replicate,fun q hq=>?_,by rw[hI3c]⟩
     rw[List.length_replicate] at hq
     rw[List.getElem?_replicate,if_pos hq];simp
    ·clear he g0 g1 g2
     rintro k e hk ⟨he,g0,g1,g2,g35,g615,g616,i,L,g617,hik,hL1,hL2,rfl⟩
     simp only[go_sem,he,g0,g1,g2,g35,g615,g616,g617]
     refine aF (fun hcc=>?_) fun hcc=>?_
     ·have hcc:=odT hcc
      have hi:i<r.easter.length:=by omega
      obtain⟨own,q0,off,cs2,e1,e2,e3⟩:=(hEA (.own 122 I3.cells) (G3++[.own 3 (L.map vI)])).get hi
      have hmem:=hG.easter _ (show r.easter.getD i 0∈r.easter by rw[List.getD_eq_getElem?_getD,List.getElem?_eq_getElem hi];exact List.getElem_mem hi)
      have htk:=eE hi
      generalize r.easter.getD i 0=v at e3 hmem htk
      rw[e1] at g615
      have wi:i64.wrap ((i:Int)+1)=((i+1:Nat):Int):=wN _ (by omega) (by omega)
      have wv:i64.wrap (E+v)=E+v:=aJ (by omega)
      rw[hI3c] at e2
      rw[hI3c]
      have hset:=K.aRW hL2 (x:=v) (show 0≤E+v by omega) (by omega)
      simp only[go_sem,he,g0,g1,g2,g35,g615,g616,g617,e2,e3,wv,hS2,hM1,hM2,Int.toNat_natCast]
      refine⟨by omega,by omega,by rw[List.length_map];omega,?_⟩
      rw[hput _ _ (by omega)]
      simp only[go_sem,he,g0,g1,g2,g35,g615,g616,g617,wi]
      refine⟨k-1,by omega,e1.symm,i+1,L.set (E+v).toNat 1,rfl,by omega,by rw[List.length_set];exact hL1,fun q hq=>?_,rfl⟩
      rw[List.length_set] at hq
      rw[hset q hq,htk]
     ·have hcc:=odF hcc
      obtain rfl:i=r.easter.length:=by omega
      rw[List.take_length] at hL2
      simp only[go_sem,he,g0,g1,g2]
      exact⟨L,hL1,hL2,rfl⟩
    ·clear he g0 g1 g2
     rintro e hk ⟨he,g0,g1,g2,L,hL1,hL2,rfl⟩
     simp only[go_sem,he,g0,g1,g2]
     have hmv:∀(Y:aD) (x:AV) (l:List Int),bW (h.set ob Y++G3) x l→bW (h.set ob Y++(G3++[.own 3 (L.map vI)])) x l:=fun Y x l hx=>by
      have:=hx.more [.own 3 (L.map vI)]
      rwa [List.append_assoc] at this
     refine⟨I3,G3++[.own 3 (L.map vI)],rfl,fun Y=>⟨?_,?_,?_,.inr ⟨hne0,L,hL1,?_,fun x hx=>?_⟩⟩,by rw[hI3]⟩
     ·have:=(hYT Y).of (hmv Y)
      rw[hI3]
      exact⟨this.yl,this.nyl,this.fy,this.yw,this.mm,this.mr,this.md,this.nmd,this.wd⟩
     ·have:=(hI2 Y).2.1.of (hmv Y)
      rw[hI3];exact this
     ·have:=(hI2 Y).2.2.of (hmv Y)
      rw[hI3];exact this
     ·rw[hI3]
      have:=qM (hM1 Y (.own 3 (L.map vI)))
      rwa [hL1] at this
     ·rw[hL2 x hx,hE]
   ·have he0:r.easter=[]:=by simpa using hq
    simp only[go_sem,he,g0,g1,g2]
    exact⟨I2,G3,rfl,fun Y=>⟨(hI2 Y).1,(hI2 Y).2.1,(hI2 Y).2.2,.inl ⟨he0,by rw[hea2];exact hnil.2 he0⟩⟩,rfl⟩
   ·clear he g0 g1 g2
    rintro e hk ⟨he,g0,g1,g2,I3,G4,rfl,hI3,hI3e⟩
    have hxI3:I3.cells=[vI I3.year,vI I3.month,vI I3.day,vI I3.hour,vI I3.minute,vI I3.second,vI I3.weekday,I3.rr,vI I3.ly,vI I3.lm,vI I3.yl,vI I3.nyl,vI I3.fy,vI 0,vI I3.yw,I3.mm,I3.mr,I3.md,I3.nmd,I3.wd,I3.wno,I3.nwd,I3.ea,I3.ts,vI I3.tot,vI I3.cnt,I3.st,I3.bk,vB I3.fin,I3.ds]:=rfl
    rw[hxI3]
    simp only[go_sem,he,g0,g1,g2,hS2,hW2]
    refine⟨{I3 with ly:=y,lm:=m},G4,rfl,?_,by rw[hI3e,hI2e,hI1];rfl⟩
    obtain⟨t1,t2,t3,t4⟩:=hI3 (.own 122 {I3 with ly:=y,lm:=m}.cells)
    exact⟨⟨t1.yl,t1.nyl,t1.fy,t1.yw,t1.mm,t1.mr,t1.md,t1.nmd,t1.wd⟩,t2,t3,t4,rfl,rfl⟩
end F
namespace K
open Go.Proofs.YtnoppodfngkoeaaGreat.F
def iS (r:Ru) (k:Nat):Int:=if r.freq<4 then bZ r k else bK r k/86400
def ofD (r:Ru) (hh mi ss:Int):Int:=if r.freq=4 then hh else if r.freq=5 then hh*60+mi else hh*3600+mi*60+ss
structure Tm (hh mi ss:Int):Prop where
 hh:0≤hh∧hh≤23
 mi:0≤mi∧mi≤59
 ss:0≤ss∧ss≤59
structure Mv (r:Ru) (k:Nat) (y m d hh mi ss wd:Int):Prop where
 yr:2≤y∧y≤9999
 mo:1≤m∧m≤12
 fr:2≤r.freq
 d1:1≤d
 dn:bR y m d=iS r k
 wk:r.freq=2→wd=bZ r k%7
 tm:Tm hh mi ss
 tk:4≤r.freq→tick r k=bR y m d*bD r+ofD r hh mi ss
structure At (r:Ru) (k:Nat) (y m d hh mi ss wd:Int):Prop where
 yr:2≤y∧y≤9999
 mo:1≤m∧m≤12
 dd:1≤d∧d≤31
 y0:r.freq=0→y=bN r k
 y1:r.freq=1→y=bN r k∧m=cJ r k
 dy:2≤r.freq→d≤aO y m∧bR y m d=iS r k
 wk:r.freq=2→wd=bZ r k%7
 tm:Tm hh mi ss
 tk:4≤r.freq→tick r k=bR y m d*bD r+ofD r hh mi ss
theorem At.mv {r:Ru} {k:Nat} {y m d hh mi ss wd:Int} (h:At r k y m d hh mi ss wd) (hf:2≤r.freq):Mv r k y m d hh mi ss wd:=
 ⟨h.yr,h.mo,hf,h.dd.1,(h.dy hf).2,h.wk,h.tm,h.tk⟩
theorem Mv.at {r:Ru} {k:Nat} {y m d hh mi ss wd:Int} (h:Mv r k y m d hh mi ss wd) (hd:d≤aO y m):At r k y m d hh mi ss wd:=by
 have hf:=h.fr
 have:=bP y m
 exact⟨h.yr,h.mo,⟨h.d1,by omega⟩,fun e=>by omega,fun e=>by omega,fun _=>⟨hd,h.dn⟩,h.wk,h.tm,h.tk⟩
theorem Mv.up {r:Ru} {k:Nat} {y m d hh mi ss wd:Int} (h:Mv r k y m d hh mi ss wd) (hd:aO y m<d) (hm:m<12):Mv r k y (m+1) (d-aO y m) hh mi ss wd:=by
 have e:=aBc (y:=y) (d:=d) ⟨h.mo.1,hm⟩
 have hm0:=h.mo
 exact⟨h.yr,by omega,h.fr,by omega,by rw[e];exact h.dn,h.wk,h.tm,fun f=>by rw[e];exact h.tk f⟩
theorem Mv.up12 {r:Ru} {k:Nat} {y d hh mi ss wd:Int} (h:Mv r k y 12 d hh mi ss wd) (hd:aO y 12<d) (hy:y+1≤9999):Mv r k (y+1) 1 (d-aO y 12) hh mi ss wd:=by
 have e:=wF (y:=y) (d:=d)
 have hy0:=h.yr
 exact⟨by omega,by omega,h.fr,by omega,by rw[e];exact h.dn,h.wk,h.tm,fun f=>by rw[e];exact h.tk f⟩
theorem aII {r:Ru} (h:WP r) {k:Nat} (hk:aC 10000≤iS r k) (hf:2≤r.freq) (h0:r.freq=2→1≤k):rest r k=[]:=by
 refine nZ h ?_
 have:=h.til
 have:=oM
 unfold iS at hk
 unfold dY
 by_cases f4:r.freq<4
 ·rw[if_pos f4] at hk ⊢
  unfold bZ at hk
  split at hk
  ·rename_i e;have:=h0 e.1;omega
  ·omega
 ·rw[if_neg f4] at hk ⊢
  omega
theorem Mv.end12 {r:Ru} (hw:WP r) {k:Nat} {y d hh mi ss wd:Int} (h:Mv r k y 12 d hh mi ss wd) (hd:aO y 12<d) (hy:9999<y+1) (hk:1≤k):rest r k=[]:=by
 have e:=wF (y:=y) (d:=d)
 have hy0:=h.yr
 refine aII hw ?_ h.fr fun _=>hk
 rw[←h.dn,←e]
 have h1:=aKn (y:=y+1) (m:=1) (d:=d-aO y 12) (by omega) (by omega)
 have e1:y+1=10000:=by omega
 rw[e1] at h1 ⊢
 exact h1
theorem aPO {r:Ru} (h:WP r):At r 0 (aK (r.start/86400)) (aL (r.start/86400)).1 (aL (r.start/86400)).2 (r.start%86400/3600) (r.start%86400/60%60) (r.start%86400%60) (r.start/86400%7):=by
 have hs:=h.start
 obtain⟨s1,s2,s3,s4⟩:=pR h
 obtain⟨a1,a2,a3,a4,a5⟩:=gO (n:=r.start/86400) (by omega)
 have hmd:=bP (aK (r.start/86400)) (aL (r.start/86400)).1
 have hy:aK (r.start/86400)≤9999:=by
  apply Classical.byContradiction
  intro hh
  have:=cK (show 10000≤aK (r.start/86400) by omega)
  have:=oM
  omega
 refine⟨⟨s2,hy⟩,⟨a1,a2⟩,⟨a3,by omega⟩,fun f=>?_,fun f=>⟨?_,?_⟩,fun f=>⟨a4,?_⟩,fun f=>?_,⟨by omega,by omega,by omega⟩,fun f=>?_⟩
 ·unfold bN;rw[if_pos f];simp
 ·unfold bN dA;rw[if_neg (by omega)]
  have:((0:Nat):Int)*r.interval=0:=by simp
  rw[this];omega
 ·unfold cJ dA
  have:((0:Nat):Int)*r.interval=0:=by simp
  rw[this];omega
 ·rw[a5]
  unfold iS bZ aU bK
  have e0:((0:Nat):Int)*r.interval=0:=by simp
  by_cases f4:r.freq<4
  ·rw[if_pos f4]
   by_cases f2:r.freq=2
   ·rw[if_pos ⟨f2,rfl⟩]
   ·rw[if_neg (by omega),if_neg (by omega),if_neg (by omega),if_neg (by omega),e0];omega
  ·rw[if_neg f4,e0]
   rcases fK h (by omega) with ⟨_,e⟩|⟨_,e⟩|⟨_,e⟩<;>rw[e]<;>omega
 ·unfold bZ;rw[if_pos ⟨f,rfl⟩]
 ·rw[a5]
  have e0:((0:Nat):Int)*r.interval=0:=by simp
  unfold tick bD ofD
  rw[e0]
  rcases fK h (by omega) with ⟨g,e⟩|⟨g,e⟩|⟨g,e⟩<;>rw[e]<;>simp only[g]<;>simp<;>omega
theorem xM {r:Ru} (h:WP r) (hf:4≤r.freq) {k:Nat} {n hh mi ss:Int} (tm:Tm hh mi ss) (tk:tick r k=n*bD r+ofD r hh mi ss) :
  bK r k/86400=n∧bK r k%86400/3600=hh∧(5≤r.freq→bK r k%86400/60%60=mi)∧(r.freq=6→bK r k%86400%60=ss):=by
 obtain⟨⟨_,_⟩,⟨_,_⟩,⟨_,_⟩⟩:=tm
 rw[uF,tk]
 rcases fK h (by omega) with ⟨g,e⟩|⟨g,e⟩|⟨g,e⟩
 ·have e1:bD r=24:=by simp[bD,g]
  have e2:ofD r hh mi ss=hh:=by simp[ofD,g]
  rw[e,e1,e2]
  exact⟨by omega,by omega,fun _=>by omega,fun _=>by omega⟩
 ·have e1:bD r=1440:=by simp[bD,g]
  have e2:ofD r hh mi ss=hh*60+mi:=by simp[ofD,g]
  rw[e,e1,e2]
  exact⟨by omega,by omega,fun _=>by omega,fun _=>by omega⟩
 ·have e1:bD r=86400:=by simp[bD,g]
  have e2:ofD r hh mi ss=hh*3600+mi*60+ss:=by simp[ofD,g]
  rw[e,e1,e2]
  exact⟨by omega,by omega,fun _=>by omega,fun _=>by omega⟩
theorem xN {r:Ru} (h:WP r) (hf:4≤r.freq) {k:Nat} {n hh mi ss:Int} (tm:Tm hh mi ss) (tk:tick r k=n*bD r+ofD r hh mi ss) :
  dM r k=(aY r.hour hh&&(decide (r.freq<5)||aY r.minute mi)&&(decide (r.freq<6)||aY r.second ss)):=by
 obtain⟨-,a,b,c⟩:=xM h hf tm tk
 unfold dM
 rw[a]
 congr 1
 ·congr 1
  by_cases f:r.freq<5
  ·rw[dcT f];rfl
  ·rw[b (by omega)]
 ·by_cases f:r.freq<6
  ·rw[dcT f];rfl
  ·have:=h.freq
   rw[c (by omega)]
theorem mv0 {r:Ru} (h:WP r) (hf:r.freq=0) {k:Nat} {y m d hh mi ss wd:Int} (a:At r k y m d hh mi ss wd):(9999<y+r.interval→rest r (k+1)=[])∧(y+r.interval≤9999→At r (k+1) (y+r.interval) m d hh mi ss wd):=by
 have e:y+r.interval=bN r (k+1):=by rw[aLu hf,a.y0 hf]
 have hi:=h.interval
 have hy:=a.yr
 refine⟨fun hy=>aEK h (by omega) ?_,fun hy=>⟨by omega,a.mo,a.dd,fun _=>e,fun f=>by omega,fun f=>by omega,fun f=>by omega,a.tm,fun f=>by omega⟩⟩
 unfold aU
 rw[if_pos hf,←e]
 exact cK (by omega)
theorem aPP {r:Ru} (h:WP r) (hf:r.freq=1) {k:Nat} {y:Int} (e:y=bN r k) (hy:9999<y):rest r k=[]:=by
 refine aEK h (by omega) ?_
 have h1:=aBV h hf k
 have:=cK (show 10000≤bN r k by omega)
 omega
theorem mv1 {r:Ru} (h:WP r) (hf:r.freq=1) {k:Nat} {y m d hh mi ss wd y' m':Int} (a:At r k y m d hh mi ss wd) (e:y'=bN r (k+1)) (e2:m'=cJ r (k+1)) (hy:y'≤9999) (h2:2≤y'):At r (k+1) y' m' d hh mi ss wd:=by
 have:=yT r (k+1)
 exact⟨⟨h2,hy⟩,by omega,a.dd,fun f=>by omega,fun _=>⟨e,e2⟩,fun f=>by omega,fun f=>by omega,a.tm,fun f=>by omega⟩
theorem pC (y m d x:Int):bR y m (d+x)=bR y m d+x:=by unfold bR;omega
theorem mv2 {r:Ru} (h:WP r) (hf:r.freq=2) {k:Nat} {y m d hh mi ss wd x:Int} (a:At r k y m d hh mi ss wd) (hx:x=(if wd<r.wkst then -(wd+1+(6-r.wkst)) else -(wd-r.wkst))+r.interval*7):Mv r (k+1) y m (d+x) hh mi ss r.wkst:=by
 have hw:=a.wk hf
 have hwk:=h.wkst
 have hi:=h.interval
 have hd:=a.dd
 have e:=aLv h hf k
 have e2:=(a.dy (by omega)).2
 rw[←hw,←hx] at e
 refine⟨a.yr,a.mo,by omega,?_,?_,fun _=>?_,a.tm,fun f=>by omega⟩
 ·have:0≤wd∧wd≤6:=by omega
  split at hx<;>omega
 ·rw[pC,e2]
  unfold iS
  rw[if_pos (by omega),if_pos (by omega),e]
 ·rw[uU,zP h hf]
theorem mv3 {r:Ru} (h:WP r) (hf:r.freq=3) {k:Nat} {y m d hh mi ss wd:Int} (a:At r k y m d hh mi ss wd):Mv r (k+1) y m (d+r.interval) hh mi ss wd:=by
 have hi:=h.interval
 have hd:=a.dd
 have e2:=(a.dy (by omega)).2
 refine⟨a.yr,a.mo,by omega,by omega,?_,fun f=>by omega,a.tm,fun f=>by omega⟩
 rw[pC,e2]
 unfold iS
 rw[if_pos (by omega),if_pos (by omega),aPh hf]
structure i6 (r:Ru) (k j0 j:Nat) (y m d:Int) (V:Int):Prop where
 le:j0≤j
 eq:tick r (k+j)=bR y m d*bD r+V
 skip:∀i,1≤i→i≤j0→eU r (k+i)=[]
 no:∀i,j0<i→i≤j→dM r (k+i)=false
theorem wX {r:Ru} (hf:4≤r.freq) {k:Nat} {y m d hh mi ss wd:Int} (a:At r k y m d hh mi ss wd):i6 r k 0 0 y m d (ofD r hh mi ss):=
 ⟨Nat.le_refl _,a.tk hf,fun i h1 h2=>by omega,fun i h1 h2=>by omega⟩
theorem aRX {r:Ru} (h:WP r) (hf:4≤r.freq) {hh mi ss:Int} (tm:Tm hh mi ss):0≤ofD r hh mi ss∧ofD r hh mi ss<bD r:=by
 obtain⟨⟨_,_⟩,⟨_,_⟩,⟨_,_⟩⟩:=tm
 unfold ofD bD
 split
 ·omega
 ·split<;>omega
theorem aIJ (r:Ru):24≤bD r∧bD r≤86400:=by unfold bD;split<;>(try split)<;>omega
theorem wY {r:Ru} (h:WP r) (hf:4≤r.freq) {k:Nat} {y m d hh mi ss wd:Int} (a:At r k y m d hh mi ss wd) (hs:eB r (bK r k/86400)=false) :
  ∃j0:Nat,(j0:Int)=(bD r-1-ofD r hh mi ss)/r.interval∧(j0:Int)*r.interval+ofD r hh mi ss≤bD r-1∧i6 r k j0 j0 y m d (ofD r hh mi ss+j0*r.interval):=by
 have hi:=h.interval
 have hv:=aRX h hf a.tm
 have htk:=a.tk hf
 generalize ofD r hh mi ss=V at *
 have h0:0≤(bD r-1-V)/r.interval:=Int.ediv_nonneg (by omega) (by omega)
 have h1:(bD r-1-V)/r.interval*r.interval≤bD r-1-V:=Int.ediv_mul_le _ (by omega)
 refine⟨((bD r-1-V)/r.interval).toNat,by omega,?_,Nat.le_refl _,?_,?_,fun i a b=>by omega⟩
 ·rw[Int.toNat_of_nonneg h0];omega
 ·rw[qJ,Int.toNat_of_nonneg h0];omega
 ·intro i i1 i2
  refine aLw h hf ?_ hs i i2
  have h2:0≤(bD r-1-V)/r.interval*r.interval:=Int.mul_nonneg h0 (by omega)
  have e1:=qJ r k ((bD r-1-V)/r.interval).toNat
  rw[Int.toNat_of_nonneg h0] at e1
  have pp:=aIJ r
  generalize (bD r-1-V)/r.interval*r.interval=X at *
  generalize bR y m d=D at *
  have ed:∀Z:Int,0≤Z→Z<bD r→(D*bD r+Z)/bD r=D:=fun Z z0 z1=>by
   rw[Int.add_comm,Int.add_mul_ediv_right _ _ (by omega),Int.ediv_eq_zero_of_lt z0 z1];omega
  rw[e1,htk,ed V hv.1 (by omega),show D*bD r+V+X=D*bD r+(V+X) by omega,ed _ (by omega) (by omega)]
theorem i6.next {r:Ru} {k j0 j:Nat} {y m d V d' V':Int} (g:i6 r k j0 j y m d V) (he:bR y m d'*bD r+V'=bR y m d*bD r+V+r.interval) (hn:dM r (k+(j+1))=false):i6 r k j0 (j+1) y m d' V':=by
 have:=g.le
 refine⟨by omega,?_,g.skip,fun i h1 h2=>?_⟩
 ·rw[he,←g.eq,←Nat.add_assoc,aC0]
 ·rcases Nat.lt_or_ge j i with h3|h3
  ·rw[show i=j+1 by omega];exact hn
  ·exact g.no i h1 h3
theorem i6.tick {r:Ru} {k j0 j:Nat} {y m d V d' V':Int} (g:i6 r k j0 j y m d V) (he:bR y m d'*bD r+V'=bR y m d*bD r+V+r.interval):tick r (k+(j+1))=bR y m d'*bD r+V':=by
 rw[he,←g.eq,←Nat.add_assoc,aC0]
theorem i6.done {r:Ru} (h:GP r) (hf:4≤r.freq) {k j0 j:Nat} {y m d V:Int} (g:i6 r k j0 j y m d V):rest r (k+1)=rest r (k+(j+1)):=by
 have e:=aCY h.toWP (k:=k+1) j fun i h1 h2=>by
  rw[aBf h hf]
  have e:i=k+(i-k):=by omega
  rw[e]
  rcases Nat.lt_or_ge j0 (i-k) with h3|h3
  ·exact uG h.toWP (.inr (g.no _ h3 (by omega)))
  ·exact g.skip _ (by omega) h3
 rw[e,Nat.add_assoc,Nat.add_comm 1 j]
theorem i6.lt {r:Ru} {k j0 j N:Nat} {y m d V:Int} (g:i6 r k j0 j y m d V) (h0:j0<N) (hN:dM r (k+N)=true):j<N:=by
 apply Classical.byContradiction
 intro hh
 rw[g.no N h0 (by omega)] at hN
 cases hN
theorem mv4 {r:Ru} (h:WP r) (hf:4≤r.freq) {k:Nat} {y m d hh mi ss wd:Int} (yr:2≤y∧y≤9999) (mo:1≤m∧m≤12) (d1:1≤d) (tm:Tm hh mi ss) (tk:tick r k=bR y m d*bD r+ofD r hh mi ss):Mv r k y m d hh mi ss wd:=by
 refine⟨yr,mo,by omega,d1,?_,fun f=>by omega,tm,fun _=>tk⟩
 unfold iS
 rw[if_neg (by omega),(xM h hf tm tk).1]
end K
namespace F
open Go.RowKit Go.Proofs.YtnoppodfngkoeaaGreat.AL
def j9 (r:Ru) (y m d:Int):Int×Int:=
 if r.freq=0 then (0,(K.aM (aR y):Int))
 else if r.freq=1 then (bA y (m-1).toNat,bA y m.toNat)
 else if r.freq=2 then (K.bR y m d-aC y,K.bR y m d-aC y+K.fV (aC y%7) r.wkst (K.bR y m d-aC y))
 else (K.bR y m d-aC y,K.bR y m d-aC y+1)
theorem sA (y m d:Int) (hm:1≤m∧m≤12) (h mi s:Int):eL y m d h mi s=K.bR y m d*86400+h*3600+mi*60+s:=by
 unfold eL K.bR
 rw[show (m-1)/12=0 by omega,show (m-1)%12=m-1 by omega,Int.add_zero]
 congr 3
 omega
theorem bW.cell {h:aB} {x:AV} {L:List Int} (hx:bW h x L):∃o off cs,x=.sl true o off L.length 1∧h[o]?=some (.own 3 cs)∧∀(i:Nat) v,L[i]?=some v→cs[off+i]?=some (vI v):=by
 obtain⟨o,off,cs,h1,h2,h3,h4⟩:=hx
 refine⟨o,off,cs,h1,h2,fun i v hi=>?_⟩
 have hl:=(List.getElem?_eq_some_iff.1 hi).1
 have e5:((cs.drop off).take L.length)[i]?=cs[off+i]?:=by rw[List.getElem?_take_of_lt hl,List.getElem?_drop]
 rw[←e5,h3,List.getElem?_map,hi]
 rfl
theorem aO2 {y:Int} {b:Nat} (hb:b≤375):((fY 55).drop (aC y%7).toNat)[b]?=some ((aC y%7+b)%7):=by
 have h55:(fY 55).length=385:=fA 55
 have hg:=pT 55 ((aC y%7).toNat+b) (by omega)
 rw[List.getD_eq_getElem?_getD,List.getElem?_eq_getElem (by rw[h55];omega)] at hg
 rw[List.getElem?_drop,List.getElem?_eq_getElem (by rw[h55];omega)]
 simp only[Option.getD_some] at hg
 rw[hg]
 congr 1
 omega
theorem aRY {w0:World} (I:It) (ob rr:Nat) (h:aB) (r:Ru) (cs:List AV) (hob:h[ob]?=some (.own 122 I.cells)) (hrr:I.rr=.ptr rr 0) (hru:h[rr]?=some (.own 112 cs)) {sp mo p n yd wn bw nw ho mi se ea ts:AV} (hc:RRc cs r sp mo p n yd wn bw nw ho mi se ea ts) (y m d:Int) (hy:2≤y∧y≤9999) (hm:1≤m∧m≤12) (hd:2≤r.freq→1≤d∧d≤aO y m) (hk7:0≤r.wkst∧r.wkst≤6) (t:YT h I y) :
  aH prog (CB w0) 176 [.ptr ob 7,vI r.freq,vI y,vI m,vI d] h fun r' h'=>r'=.tup [vI (j9 r y m d).1,vI (j9 r y m d).2]∧h'=h:=by
 have hob0:=hob
 have hxI:I.cells=[vI I.year,vI I.month,vI I.day,vI I.hour,vI I.minute,vI I.second,vI I.weekday,.ptr rr 0,vI I.ly,vI I.lm,vI I.yl,vI I.nyl,vI I.fy,vI 0,vI I.yw,I.mm,I.mr,I.md,I.nmd,I.wd,I.wno,I.nwd,I.ea,I.ts,vI I.tot,vI I.cnt,I.st,I.bk,vB I.fin,I.ds]:=by rw[←hrr];rfl
 rw[hxI] at hob0
 have hcl:=hc.len
 have hwk:=hc.wkst
 have hyl:(K.aM (aR y):Int)=365∨(K.aM (aR y):Int)=366:=by cases aR y<;>simp[K.aM]
 have hby:365≤aC y∧aC y≤3652059:=by
  have h1:=K.cK (show 2≤y by omega)
  have h2:=K.cK (show y≤9999 by omega)
  have e1:aC 2=365:=rfl
  have e2:aC 9999=3651694:=rfl
  omega
 refine aSi (N:=88) (rs:=[.tmp 10,.tmp 11]) Tryz.func176 ?_
 rintro e he ⟨g0,g1,g2,g3,g4,-⟩
 simp only[go_sem,he,g0,g1,g2,g3,g4]
 refine aF (fun hq=>?_) fun hq=>?_
 ·have hq:=odT hq
  simp only[go_sem,he,g0,g1,g2,g3,g4]
  refine bF bI (by kernel_rfl) ?_
  simp only[go_sem,he,g0,g1,g2,g3,g4,hob0]
  unfold j9
  rw[if_pos (by omega),t.yl]
 ·have hq:=odF hq
  simp only[go_sem,he,g0,g1,g2,g3,g4]
  refine aF (fun hq1=>?_) fun hq1=>?_
  ·have hq1:=odT hq1
   obtain⟨om,fm,cm,em1,em2,em3⟩:=t.mr.cell
   rw[K.uM] at em1
   have w1:i64.wrap (m-1)=m-1:=aJ (by omega)
   have x1:=em3 _ _ (K.mK y (k:=(m-1).toNat) (by omega))
   have x2:=em3 _ _ (K.mK y (k:=m.toNat) (by omega))
   rw[em1] at hob0
   simp only[go_sem,he,g0,g1,g2,g3,g4]
   refine bF bI (by kernel_rfl) ?_
   simp only[go_sem,he,g0,g1,g2,g3,g4,hob0,em2,w1,x1,x2]
   refine⟨by omega,by omega,?_⟩
   unfold j9
   rw[if_neg (by omega),if_pos (by omega)]
  ·have hq1:=odF hq1
   have hf2:2≤r.freq:=by omega
   obtain⟨d1,d2⟩:=hd hf2
   have hmd:=bP y m
   have hdn:=K.mB (y:=y) hm ⟨d1,d2⟩
   have hbn:=K.dB y (by omega)
   obtain⟨dn,hdn0⟩:∃dn:Nat,K.bR y m d=aC y+dn:=⟨(K.bR y m d-aC y).toNat,by omega⟩
   have hciv:=(K.aIb (y:=y) (m:=m) (d:=d) (by omega) hm ⟨d1,d2⟩).1
   have hyd:∀H:aB,aH prog (CB w0) 147 [vT (K.bR y m d*86400)] H fun r H'=>r=vI (dn+1)∧H'=H:=fun H=>by
    have:=aBh (w0:=w0) (K.bR y m d*86400) (by unfold InY;omega) H
    rw[show K.bR y m d*86400/86400=K.bR y m d by omega,hciv,hdn0,show aC y+(dn:Int)-aC y+1=dn+1 by omega] at this
    rw[hdn0]
    exact this
   have hds:eL y m d 0 0 0=K.bR y m d*86400:=by rw[sA y m d hm];omega
   have w1:i64.wrap ((dn:Int)+1-1)=dn:=by rw[aJ (by omega)];omega
   have w2:i64.wrap ((dn:Int)+1)=((dn+1:Nat):Int):=wN _ (by omega) (by omega)
   simp only[go_sem,he,g0,g1,g2,g3,g4]
   refine aF (fun hq2=>?_) fun hq2=>?_
   ·have hq2:=odT hq2
    have hset:j9 r y m d=((dn:Int),(dn:Int)+K.fV (aC y%7) r.wkst dn):=by
     unfold j9
     rw[if_neg (by omega),if_neg (by omega),if_pos (by omega),hdn0,show aC y+(dn:Int)-aC y=dn by omega]
    rw[hset]
    obtain⟨tn,htn,htn1⟩:∃tn:Nat,K.fV (aC y%7) r.wkst dn=tn∧1≤tn∧tn≤7:=⟨(K.fV (aC y%7) r.wkst dn).toNat,by have:=K.nK (aC y%7) r.wkst dn;omega,by have:=K.nK (aC y%7) r.wkst dn;omega⟩
    rw[htn]
    obtain⟨ow,fw,cw,ew1,ew2,ew3⟩:=t.wd.cell
    have hlw:((fY 55).drop (aC y%7).toNat).length=385-(aC y%7).toNat:=by rw[List.length_drop,fA]
    rw[hlw] at ew1
    rw[ew1] at hob0
    simp only[go_sem,he,g0,g1,g2,g3,g4]
    refine aSh (aA9 _) ?_
    simp only[go_sem,he,g0,g1,g2,g3,g4,aA]
    refine aSh (gZ y m d 0 0 0 0 ⟨by omega,by omega,by omega,by omega,by omega,by omega,by omega⟩ _ rfl _) ?_
    rw[hds]
    simp only[go_sem,he,g0,g1,g2,g3,g4,aA]
    refine aSh (hyd _) ?_
    simp only[go_sem,he,g0,g1,g2,g3,g4,aA,w1,w2]
    refine bG 7 (fun k e hk=>len e=88∧AL.get e 0=.ptr ob 7∧AL.get e 10=vI dn∧∃j:Nat,AL.get e 11=vI (dn+j+1:Nat)∧AL.get e 12=vI (dn+j:Nat)∧AL.get e 13=vI j∧j+k=7∧j<tn∧hk=h) (fun e hk=>len e=88∧AL.get e 10=vI dn∧AL.get e 11=vI (dn+tn:Nat)∧hk=h) (by kernel_rfl) ?_ ?_ ?_
    ·simp only[go_sem,he,g0,g1,g2,g3,g4]
     exact⟨0,rfl,rfl,rfl,rfl,by omega⟩
    ·clear he g0 g1 g2 g3 g4
     rintro k e hk ⟨he,g0,g10,j,g11,g12,g13,hjk,hjt,rfl⟩
     have w3:i64.wrap (((dn+j:Nat):Int)+1)=((dn+(j+1):Nat):Int):=wN _ (by omega) (by omega)
     have w4:i64.wrap (((dn+(j+1):Nat):Int)+1)=((dn+(j+1)+1:Nat):Int):=wN _ (by omega) (by omega)
     have w5:i64.wrap ((j:Int)+1)=((j+1:Nat):Int):=wN _ (by omega) (by omega)
     have d7:decide ((j:Int)<7)=true:=dcT (by omega)
     have x1:=ew3 _ _ (aO2 (y:=y) (b:=dn+(j+1)) (by omega))
     simp only[go_sem,he,g0,g10,g11,g12,g13,d7,w3]
     refine bF bI (by kernel_rfl) ?_
     simp only[go_sem,he,g0,g10,g11,g12,g13,hob0,ew2,x1,hru,hcl,hwk,Int.toNat_natCast]
     refine⟨by omega,?_⟩
     have hre:=K.uL (w:=aC y%7) (k:=r.wkst) (i:=dn) (j:=j) hk7 (by omega)
     rw[show aC y%7+((dn:Int)+j+1)=aC y%7+((dn+(j+1):Nat):Int) by omega] at hre
     refine aF (fun hq7=>?_) fun hq7=>?_
     ·have hq7:=odT hq7
      have e5:j+1=tn:=by have:=hre.1 hq7;omega
      simp only[go_sem,he,g0,g10,g11,g12,g13]
      rw[←e5];rfl
     ·have hq7:=odF hq7
      have e5:j+1≠tn:=fun e=>hq7 (hre.2 (by omega))
      simp only[go_sem,he,g0,g10,g11,g12,g13,w4,w5]
      exact⟨k-1,by omega,j+1,rfl,rfl,rfl,by omega,by omega⟩
    ·clear he g0 g1 g2 g3 g4
     rintro e hk ⟨he,g10,g11,rfl⟩
     simp only[go_sem,he,g10,g11]
     rfl
   ·have hq2:=odF hq2
    have hset:j9 r y m d=((dn:Int),((dn+1:Nat):Int)):=by
     unfold j9
     rw[if_neg (by omega),if_neg (by omega),if_neg (by omega),hdn0,show aC y+(dn:Int)-aC y=dn by omega];rfl
    rw[hset]
    simp only[go_sem,he,g0,g1,g2,g3,g4]
    refine aSh (aA9 _) ?_
    simp only[go_sem,he,g0,g1,g2,g3,g4,aA]
    refine aSh (gZ y m d 0 0 0 0 ⟨by omega,by omega,by omega,by omega,by omega,by omega,by omega⟩ _ rfl _) ?_
    rw[hds]
    simp only[go_sem,he,g0,g1,g2,g3,g4,aA]
    refine aSh (hyd _) ?_
    simp only[go_sem,he,g0,g1,g2,g3,g4,aA,w1,w2]
end F
namespace K
open Go.Proofs.YtnoppodfngkoeaaGreat.F
def left (c:Int) (l:List Int):List Int:=if 0<c then l.take c.toNat else l
theorem aFa (c:Int):left c []=[]:=by unfold left;split<;>simp
structure z5 (r:Ru) (k:Nat) (L:List Int):Prop where
 asc:Asc L
 keep:keep r L=keep r (dN r k)
 hi:∀t∈L,t<rG r k
structure Did (r:Ru) (c0:Int) (P A:List Int) (c:Int):Prop where
 eA:A=P.filter fun t=>decide (r.start≤t)
 eT:∀t∈P,t≤r.til
 eC:(c0=0∧c=0)∨(0<c0∧0<c∧c=c0-A.length)
theorem aHo (r:Ru) {c0:Int} (h:0≤c0):Did r c0 [] [] c0:=⟨rfl,by simp,by by_cases h0:c0=0;exact .inl ⟨h0,h0⟩;exact .inr ⟨by omega,by omega,by simp⟩⟩
theorem Did.skip {r:Ru} {c0 c t:Int} {P A:List Int} (h:Did r c0 P A c) (ht:t≤r.til) (hs:t<r.start):Did r c0 (P++[t]) A c:=by
 refine⟨?_,?_,h.eC⟩
 ·rw[List.filter_append,←h.eA,List.filter_cons_of_neg (by simp;omega)];simp
 ·intro x hx
  rcases List.mem_append.1 hx with hx|hx
  ·exact h.eT x hx
  ·rw[List.mem_singleton.1 hx];exact ht
theorem Did.A2 {r:Ru} {c0 c t:Int} {P A:List Int} (h:Did r c0 P A c) (hs:r.start≤t):A++[t]=(P++[t]).filter fun t=>decide (r.start≤t):=by
 rw[List.filter_append,←h.eA,List.filter_cons_of_pos (by simp;omega)];rfl
theorem Did.take {r:Ru} {c0 c t:Int} {P A:List Int} (h:Did r c0 P A c) (ht:t≤r.til) (hs:r.start≤t) (hc:c=0∨c-1≠0):Did r c0 (P++[t]) (A++[t]) (if c=0 then 0 else c-1):=by
 refine⟨h.A2 hs,?_,?_⟩
 ·intro x hx
  rcases List.mem_append.1 hx with hx|hx
  ·exact h.eT x hx
  ·rw[List.mem_singleton.1 hx];exact ht
 ·rcases h.eC with ⟨a,b⟩|⟨a,b,d⟩
  ·exact .inl ⟨a,by rw[if_pos b]⟩
  ·refine .inr ⟨a,?_,?_⟩
   ·rw[if_neg (by omega)];omega
   ·rw[if_neg (by omega),List.length_append];simp;omega
theorem z6 {r:Ru} {c0 c:Int} {P A:List Int} (h:Did r c0 P A c):keep r P=A:=by
 rw[h.eA]
 unfold keep
 refine List.filter_congr fun t ht=>?_
 rw[dcT (h.eT t ht),Bool.and_true]
theorem aFb (r:Ru) (l m:List Int):keep r (l++m)=keep r l++keep r m:=List.filter_append ..
theorem aPQ {r:Ru} (hw:WP r) {c0 c:Int} {k:Nat} {L A:List Int} (hL:z5 r k L) (h:Did r c0 L A c):left c0 (rest r k)=A++left c (rest r (k+1)):=by
 have e:rest r k=A++rest r (k+1):=by rw[jI hw,←hL.keep,z6 h]
 unfold left
 rcases h.eC with ⟨a,b⟩|⟨a,b,d⟩
 ·rw[if_neg (by omega),if_neg (by omega),e]
 ·rw[if_pos a,if_pos b,e,List.take_append,List.take_of_length_le (by omega)]
  congr 2;omega
theorem aHp {r:Ru} (hw:WP r) {c0 c t:Int} {k:Nat} {L P Q A:List Int} (hL:z5 r k L) (h:Did r c0 P A c) (e:L=P++t::Q) (ht:r.til<t):left c0 (rest r k)=A:=by
 have h1:rest r (k+1)=[]:=nZ hw (by
  have h2:=hL.hi t (by rw[e];simp)
  have h3:=(sU hw k).2
  omega)
 have h2:keep r (t::Q)=[]:=by
  unfold keep
  rw[List.filter_eq_nil_iff]
  intro x hx
  have:r.til<x:=by
   rcases List.mem_cons.1 hx with rfl|hx
   ·exact ht
   ·have ha:=hL.asc
    rw[e] at ha
    have:=(List.pairwise_cons.1 (List.pairwise_append.1 ha).2.1).1 x hx
    omega
  simp;omega
 have h3:rest r k=A:=by rw[jI hw,←hL.keep,e,aFb,h2,z6 h,h1,List.append_nil,List.append_nil]
 unfold left
 rcases h.eC with ⟨a,b⟩|⟨a,b,d⟩
 ·rw[if_neg (by omega),h3]
 ·rw[if_pos a,h3,List.take_of_length_le (by omega)]
theorem aC7 {r:Ru} (hw:WP r) {c0 c t:Int} {k:Nat} {L P Q A:List Int} (hL:z5 r k L) (h:Did r c0 P A c) (e:L=P++t::Q) (ht:t≤r.til) (hs:r.start≤t) (hc:c≠0) (hc1:c-1=0):left c0 (rest r k)=A++[t]:=by
 have h3:rest r k=(A++[t])++(keep r Q++rest r (k+1)):=by
  have e1:keep r (t::Q)=t::keep r Q:=by unfold keep;rw[List.filter_cons_of_pos (by simp;omega)]
  rw[jI hw,←hL.keep,e,aFb,z6 h,e1]
  simp[List.append_assoc]
 unfold left
 rcases h.eC with ⟨a,b⟩|⟨a,b,d⟩
 ·omega
 ·rw[if_pos a,h3,List.take_append_of_le_length (by simp;omega),List.take_of_length_le (by simp;omega)]
theorem aIK {r:Ru} {c0 c:Int} {P A:List Int} (h:Did r c0 P A c):0≤c∧(c0=0↔c=0):=by
 rcases h.eC with ⟨a,b⟩|⟨a,b,d⟩<;>omega
def aHq (r:Ru) (k:Nat):List Int:=dU (dR (kW r k) (times r)) r.setPos
theorem aL6 {r:Ru} (h:WP r) (k:Nat):Asc (dR (kW r k) (times r)):=uA h (gV _ (t7 _ _))
theorem aKQ {r:Ru} (h:GP r) (hf:r.freq<4) (k:Nat):z5 r k (aHq r k):=by
 have hw:=h.toWP
 refine⟨pS (aL6 hw k) _,aLt h hf k,fun t ht=>?_⟩
 have:=aBa ht
 unfold dR kW at this
 simp only[List.mem_flatMap,List.mem_map,List.mem_filter,zM] at this
 obtain⟨n,⟨⟨h1,h2⟩,h3⟩,u,hu,rfl⟩:=this
 have:=oZ hw u hu
 unfold rG
 rw[if_pos hf]
 omega
def oD (r:Ru) (k:Nat):List Int:=if eB r (bK r k/86400)&&dM r k then (fI r k).map fun t=>bK r k/86400*86400+t else []
theorem aFD {r:Ru} (h:WP r) (hf:4≤r.freq) (k:Nat):oD r k=eU r k:=by
 unfold oD
 by_cases hb:(eB r (bK r k/86400)&&dM r k)=true
 ·rw[if_pos hb]
  rw[Bool.and_eq_true] at hb
  rw[aIe h hf hb.1 hb.2]
 ·rw[if_neg hb,uG h]
  cases hs:eB r (bK r k/86400)
  ·exact .inl rfl
  ·rw[hs,Bool.true_and] at hb
   exact .inr (by simpa using hb)
theorem aIL {r:Ru} (h:GP r) (hf:4≤r.freq) (k:Nat):z5 r k (oD r k):=by
 have hw:=h.toWP
 have e:oD r k=dN r k:=by rw[aFD hw hf,aBf h hf]
 rw[e]
 exact⟨nX hw k,rfl,fun t ht=>(jE hw ht).2⟩
structure sB (D T pos:List Int) (l:List Int):Prop where
 nodup:l.Nodup
 mem:∀t,t∈l↔∃p∈pos,(0≤(if bS T.length p<0 then bS T.length p+D.length else bS T.length p)∧(if bS T.length p<0 then bS T.length p+D.length else bS T.length p)<D.length)∧t=D.getD (if bS T.length p<0 then bS T.length p+D.length else bS T.length p).toNat 0*86400+T.getD (iK T.length p).toNat 0
theorem aFE {D T pos l:List Int} (hc:0<T.length) (hpos:pos≠[]) (h0:∀p∈pos,p≠0) (ha:Asc (dR D T)) (h:sB D T pos l):eQ l=dU (dR D T) pos:=by
 refine Asc.ext (aC4 h.nodup) (pS ha _) fun t=>?_
 rw[aC3,h.mem,aId hpos h0]
 constructor
 ·rintro ⟨p,hp,h1,rfl⟩
  refine⟨p,hp,?_⟩
  have h2:=(aCZ (n:=D.length) hc (h0 p hp)).2 h1
  rw[←uE] at h2
  exact⟨h2.1,h2.2,(aKl hc (h0 p hp) h1).symm⟩
 ·rintro ⟨p,hp,h1,h2,rfl⟩
  have h3:=(aCZ (n:=D.length) hc (h0 p hp)).1 (by rw[←uE];exact⟨h1,h2⟩)
  exact⟨p,hp,h3,aKl hc (h0 p hp) h3⟩
theorem aL7 (D T:List Int):sB D T [] []:=⟨List.nodup_nil,by simp⟩
theorem sB.skip {D T pos l:List Int} (h:sB D T pos l) {p:Int} (hp:¬(0≤(if bS T.length p<0 then bS T.length p+D.length else bS T.length p)∧(if bS T.length p<0 then bS T.length p+D.length else bS T.length p)<D.length)):sB D T (pos++[p]) l:=by
 refine⟨h.nodup,fun t=>?_⟩
 rw[h.mem]
 constructor
 ·rintro ⟨q,hq,h1⟩;exact⟨q,List.mem_append_left _ hq,h1⟩
 ·rintro ⟨q,hq,h1,h2⟩
  rcases List.mem_append.1 hq with hq|hq
  ·exact⟨q,hq,h1,h2⟩
  ·rw[List.mem_singleton.1 hq] at h1;exact absurd h1 hp
theorem sB.push {D T pos l:List Int} (h:sB D T pos l) {p t:Int} (hp:0≤(if bS T.length p<0 then bS T.length p+D.length else bS T.length p)∧(if bS T.length p<0 then bS T.length p+D.length else bS T.length p)<D.length) (ht:t=D.getD (if bS T.length p<0 then bS T.length p+D.length else bS T.length p).toNat 0*86400+T.getD (iK T.length p).toNat 0):sB D T (pos++[p]) (if t∈l then l else l++[t]):=by
 constructor
 ·split
  ·exact h.nodup
  ·rename_i hn
   refine List.nodup_append.2 ⟨h.nodup,by simp,fun a ha b hb=>?_⟩
   rw[List.mem_singleton.1 hb]
   rintro rfl
   exact hn ha
 ·intro x
  have e:(x∈if t∈l then l else l++[t])↔(x∈l∨x=t):=by
   split
   ·constructor
    ·exact .inl
    ·rintro (h|rfl)
     ·exact h
     ·assumption
   ·simp
  rw[e,h.mem]
  constructor
  ·rintro (⟨q,hq,h1⟩|rfl)
   ·exact⟨q,List.mem_append_left _ hq,h1⟩
   ·exact⟨p,by simp,hp,ht⟩
  ·rintro ⟨q,hq,h1,h2⟩
   rcases List.mem_append.1 hq with hq|hq
   ·exact .inl ⟨q,hq,h1,h2⟩
   ·rw[List.mem_singleton.1 hq] at h2;exact .inr (by rw[h2,ht])
end K
namespace F
open Go.RowKit Go.Proofs.YtnoppodfngkoeaaGreat.AL
structure qO (h1:aB) (r:Ru) (sp mo p n yd wn bw nw ho mi se ea ts:AV):Prop where
 sp:aQ h1 sp r.setPos
 mo:aQ h1 mo r.month
 p:aQ h1 p (K.mC r)
 n:aQ h1 n (K.jS r)
 yd:aQ h1 yd r.yearDay
 wn:aQ h1 wn r.weekNo
 bw:aQ h1 bw (K.iZ r)
 nw:cU h1 nw (K.cX r)
 ho:aQ h1 ho r.hour
 mi:aQ h1 mi r.minute
 se:aQ h1 se r.second
 ea:aQ h1 ea r.easter
 ts:r.freq<4→d9 h1 ts (K.times r)
theorem aPR {h:aB} {r0:Ru} {cs:List AV} (g:K.pF r0) (hr:r7 h r0 cs):∃sp mo p n yd wn bw nw ho mi se ea ts:AV,RRc cs (K.whole r0) sp mo p n yd wn bw nw ho mi se ea ts∧qO h (K.whole r0) sp mo p n yd wn bw nw ho mi se ea ts:=by
 obtain⟨o,t1,t2,ln,sp,mo,p,n,yd,wn,bw,nw,ho,mi,se,ea,ts,a1,a2,a3,a4,b1,b2,b3,b4,b5,b6,b7,b8,b9,b10,b11,b12,b13⟩:=hr
 have hg:=K.nE g
 have hp:bwT r0=K.nC (K.whole r0):=by
  funext d
  unfold bwT K.nC
  have:(K.whole r0).freq=r0.freq:=rfl
  rw[this]
  congr 1
  by_cases h:1<r0.freq
  ·rw[dcT h,dcT (by omega)]
  ·rw[dcF h,dcF (by omega)]
 refine⟨sp,mo,p,n,yd,wn,bw,nw,ho,mi,se,ea,ts,?_,b1,b2,b3,b4,b5,b6,?_,?_,b9,b10,b11,b12,fun hf=>?_⟩
 ·rw[a3];exact (aRR a1 a2).whole
 ·unfold K.iZ;rw[←hp];exact b7
 ·unfold K.cX;rw[←hp];exact b8
 ·have hf:r0.freq<4:=hf
  rw[if_pos hf,K.oP hg.toWP hg.nodup] at b13
  exact b13
def stb (x:AV) (p:Nat):Prop:=∃off n st,x=.sl true p off n st
def i7 (I:It) (B rr ob:Nat) (p:Nat):Prop:=p=rr∨p=ob∨(B≤p∧blk I.ts p)∨blk I.ds p∨stb I.st p
structure ItC (h1 h:aB) (rr ob:Nat) (r:Ru) (sp mo p n yd wn bw nw ho mi se ea ts:AV) (I:It) (P:List Int):Prop where
 front:∃G,h=h1++G
 obj:h[ob]?=some (.own 122 I.cells)
 ptr:I.rr=.ptr rr 0
 rule:∃cs,h[rr]?=some (.own 112 cs)∧RRc cs r sp mo p n yd wn bw nw ho mi se ea ts
 obB:h1.length≤ob
 rrB:h1.length≤rr
 pend:oB h1.length h I.st I.bk P
 ds:∃n0 c0,GrT 219 2 h1.length h I.ds n0 c0∧n0≤1000
 pl:P.length≤1000000
 bk1:I.bk.one=true
 tsl:∀q,blk I.ts q→q<h.length
theorem GrT.lowN {t st B:Nat} {h:aB} {x:AV} {n:Nat} {cs:List AV} (hx:GrT t st B h x n cs) {q:Nat} (hb:blk x q):q<h.length:=by
 obtain⟨n',st',e⟩:=hb
 rcases hx with ⟨rfl,_⟩|⟨o,cs0,rfl,h2,h3,_⟩
 ·cases e
 ·cases e;exact (List.getElem?_eq_some_iff.1 h3).1
def cG (r:Ru) (k:Nat):List Int:=if r.freq<4 then K.times r else if K.dM r k then K.fI r k else []
theorem aBy {r:Ru} (hG:K.GP r) (k:Nat):(cG r k).length≤60:=by
 have hw:=hG.toWP
 unfold cG
 split
 ·rename_i hf
  rw[←K.oP hw hG.nodup,jJ,gP]
  rw[←Nat.mul_assoc];exact hG.many hf
 ·rename_i hf
  split
  ·rcases K.fK hw (by omega) with ⟨f,-⟩|⟨f,-⟩|⟨f,-⟩
   ·rw[←K.aHl hw ⟨hG.nodup.2.1,hG.nodup.2.2⟩ f k,jJ,gP]
    have:=hG.manyH f
    simpa using this
   ·rw[←K.aHm hw hG.nodup.2.2 f k,jJ,gP]
    have:=hG.lens.2.2.2.2.2.2.2.2.1
    simp;omega
   ·rw[←K.aHn f k];simp
  ·simp
structure ItQ (h1 h:aB) (rr ob:Nat) (r:Ru) (sp mo p n yd wn bw nw ho mi se ea ts:AV) (I:It) (P T:List Int):Prop extends ItC h1 h rr ob r sp mo p n yd wn bw nw ho mi se ea ts I P where
 yt:YT h I I.ly
 wno:j8 h I r I.ly
 nwm:pG h I r I.ly I.lm
 eam:z4 h I r I.ly
 ts4:r.freq<4→I.ts=ts∧T=K.times r
 ts5:4≤r.freq→GrT 78 2 h1.length h I.ts T.length (bE T)
 sep:4≤r.freq→∀p,blk I.ts p→¬stb I.st p
 tl:T.length≤60
structure ItR (h1 h:aB) (rr ob:Nat) (r:Ru) (sp mo p n yd wn bw nw ho mi se ea ts:AV) (I:It) (P:List Int) (k:Nat):Prop extends ItQ h1 h rr ob r sp mo p n yd wn bw nw ho mi se ea ts I P (cG r k) where
 fin:I.fin=false
 at':K.At r k I.year I.month I.day I.hour I.minute I.second I.weekday
 lyE:I.ly=I.year
 lmE:I.lm=I.month
 cnt:0≤I.cnt∧I.cnt≤1000000
def kN (h1 h:aB) (rr ob:Nat) (r:Ru) (sp mo p n yd wn bw nw ho mi se ea ts:AV) (I:It) (L:List Int):Prop:=
 (I.fin=true∧ItC h1 h rr ob r sp mo p n yd wn bw nw ho mi se ea ts I L)∨∃P k,ItR h1 h rr ob r sp mo p n yd wn bw nw ho mi se ea ts I P k∧L=P++K.left I.cnt (K.rest r k)
theorem GrT.times {B:Nat} {h:aB} {x:AV} {l:List Int} (hx:GrT 78 2 B h x l.length (bE l)):d9 h x l:=by
 rcases hx with ⟨rfl,h0,-⟩|⟨o,cs0,rfl,-,ho,ht,hl⟩
 ·obtain rfl:=List.length_eq_zero_iff.1 h0
  exact .inl ⟨rfl,rfl⟩
 ·have h1:d9 (h.set o (.own 78 (bE l))) (.sl true o 0 l.length 2) l:=wQ (t:=78) (List.getElem?_set_self (List.getElem?_eq_some_iff.1 ho).1)
  rcases h1 with ⟨e,_⟩|⟨own,o',off,cs,e1,e2,e3⟩
  ·cases e
  ·simp only[AV.sl.injEq] at e1
   obtain⟨rfl,rfl,rfl,-,-⟩:=e1
   refine .inr ⟨true,o,0,cs0,by rw[List.length_map],by rw[ho];rfl,fun i hi=>?_⟩
   rw[List.getElem?_set_self (List.getElem?_eq_some_iff.1 ho).1] at e2
   have e4:bE l=cs:=Option.some.inj e2
   have:=e3 i hi
   rw[←e4,←ht,List.getElem?_take_of_lt (by simp only[List.length_map] at hi;omega)] at this
   exact this
theorem aHr {w0:World} (I:It) (ob rr B:Nat) (h1 h:aB) (r:Ru) (cs:List AV) (hp:aBs I ob rr B h1 h r cs) {sp mo p n yd wn bw nw ho mi se ea ts:AV} (hc:RRc cs r sp mo p n yd wn bw nw ho mi se ea ts) (hs:qO h1 r sp mo p n yd wn bw nw ho mi se ea ts) (hG:K.GP r) (hf:4≤r.freq) (k:Nat) {dn hh mm ss:Int} (tm:K.Tm hh mm ss) (tk:K.tick r k=dn*K.bD r+K.ofD r hh mm ss) :
  aH prog (CB w0) 85 [.ptr ob 7,.ptr ob 23,vI r.freq,vI hh,vI mm,vI ss] h fun r' h'=>r'=.tup []∧∃x',i5 I ob B h h' x' (K.fI r k).length (bE (K.fI r k)):=by
 have hw:=hG.toWP
 obtain⟨-,a1,a2,a3⟩:=K.xM hw hf tm tk
 have hl:=hG.lens
 rcases K.fK hw (by omega) with ⟨f,-⟩|⟨f,-⟩|⟨f,-⟩
 ·rw[show ((r.freq:Nat):Int)=4 by omega,←K.aHl hw ⟨hG.nodup.2.1,hG.nodup.2.2⟩ f k,a1]
  exact aPB I ob rr B h1 h r cs hp hc r.minute r.second hs.mi (hG.minutes (by omega)) (by omega) hw.minute hs.se (hG.seconds (by omega)) (by omega) hw.second (hG.manyH f) hh mm ss tm.hh
 ·rw[show ((r.freq:Nat):Int)=5 by omega,←K.aHm hw hG.nodup.2.2 f k,a1,a2 (by omega)]
  exact aPA I ob rr B h1 h r cs hp hc r.second hs.se (hG.seconds (by omega)) (by omega) hw.second hh mm ss tm.hh tm.mi
 ·rw[show ((r.freq:Nat):Int)=6 by omega,←K.aHn f k,a1,a2 (by omega),a3 f]
  exact aPz I ob rr B h1 h r cs hp hc hh mm ss tm.hh tm.mi tm.ss
set_option maxHeartbeats 4000000 in
theorem aIM {w0:World} (r:Ru) (hG:K.GP r) (hcnt:0≤r.count∧r.count≤1000000) (h1 h:aB) (rr:Nat) (cs:List AV) (hfr:∃G,h=h1++G) (hru:h[rr]?=some (.own 112 cs)) (hrB:h1.length≤rr) {sp mo p n yd wn bw nw ho mi se ea ts:AV} (hc:RRc cs r sp mo p n yd wn bw nw ho mi se ea ts) (hs:qO h1 r sp mo p n yd wn bw nw ho mi se ea ts) (hts1:ts.one=true) :
  aH prog (CB w0) 52 [.ptr rr 0] h fun r' h'=>∃ob I,r'=.fn (.func 86) [.ptr ob 0] []∧ItR h1 h' rr ob r sp mo p n yd wn bw nw ho mi se ea ts I [] 0∧I.cnt=r.count∧(∃G,h'=h++G)∧h.length≤ob∧∀q,i7 I h1.length rr ob q→q=rr∨h.length≤q:=by
 have hw:=hG.toWP
 have hst:=hw.start
 have hY:InY r.start:=by unfold InY;omega
 have hcl:=hc.len
 have hlt:=(List.getElem?_eq_some_iff.1 hru).1
 obtain⟨G0,hG0⟩:=hfr
 have hR:∀(Y:aD) (G:aB),(h++(Y::G))[rr]?=some (.own 112 cs):=fun Y G=>by rw[cZ hlt];exact hru
 have hS:∀(Y:aD) (G:aB),(h++(Y::G))[h.length]?=some Y:=fun Y G=>by rw[List.getElem?_append_right (Nat.le_refl _),Nat.sub_self];rfl
 have hW:∀(Y Y':aD) (G:aB),(h++(Y::G)).set h.length Y'=h++(Y'::G):=fun Y Y' G=>by rw[List.set_append_right _ _ (Nat.le_refl _),Nat.sub_self];rfl
 have a0:=K.aPO hw
 refine aSi (N:=148) (rs:=[.tmp 2]) Tryz.func52 ?_
 rintro e he ⟨g0,-⟩
 simp only[go_sem,he,g0,hR,hS,hW,hcl,hc.start,List.replicate]
 refine aSh (mI r.start hY _) ?_
 simp only[go_sem,he,g0,hR,hS,hW,hcl,hc.start,aA]
 refine aSh (lZ r.start hY _) ?_
 simp only[go_sem,he,g0,hR,hS,hW,hcl,hc.start,aA]
 refine aSh (pU r.start hY _) ?_
 simp only[go_sem,he,g0,hR,hS,hW,hcl,hc.start,aA]
 refine aSh (aBi ((r.start/86400+1)%7) (by omega) _) ?_
 have hwd:((r.start/86400+1)%7+6)%7=r.start/86400%7:=by omega
 rw[hwd]
 simp only[go_sem,he,g0,hR,hS,hW,hcl,hc.start,aA]
 obtain⟨I0,hI0⟩:∃I0:It,I0=⟨aK (r.start/86400),(aL (r.start/86400)).1,(aL (r.start/86400)).2,r.start%86400/3600,r.start%86400/60%60,r.start%86400%60,r.start/86400%7,.ptr rr 0,0,0,0,0,0,0,aP,aP,aP,aP,aP,aP,aP,aP,aP,0,0,aP,aP,false,aP⟩:=⟨_,rfl⟩
 have hp:aO1 I0 h.length rr h1 (h++[.own 122 I0.cells]) r cs:=by
  refine⟨⟨G0++[.own 122 I0.cells],by rw[hG0,List.append_assoc]⟩,hS _ _,by rw[hI0],hR _ _,by rw[hG0,List.length_append];omega⟩
 have hb:=wW (w0:=w0) I0 h.length rr h1 (h++[.own 122 I0.cells]) r cs hp hc (aK (r.start/86400)) (aL (r.start/86400)).1 a0.yr a0.mo hG hs.wn hs.mo hs.nw hs.ea (fun e=>by have:=a0.yr;rw[hI0] at e;simp only at e;omega) ⟨fun _=>by rw[hI0],fun _=>by rw[hI0]⟩
 have hI0c:I0.cells=[vI (aK (r.start/86400)),vI (aL (r.start/86400)).1,vI (aL (r.start/86400)).2,vI (r.start%86400/3600),vI (r.start%86400/60%60),vI (r.start%86400%60),vI (r.start/86400%7),.ptr rr 0,vI 0,vI 0,vI 0,vI 0,vI 0,vI 0,vI 0,aP,aP,aP,aP,aP,aP,aP,aP,aP,vI 0,vI 0,aP,aP,vB false,aP]:=by rw[hI0];rfl
 rw[hI0c] at hb
 refine aI hb ?_
 rintro r' hk ⟨rfl,I2,G,rfl,htab,hsame⟩
 have hW1:∀(Y Y':aD) (G:aB),(h++[Y]).set h.length Y'++G=h++(Y'::G):=fun Y Y' G=>by rw[hW,List.append_assoc];rfl
 rw[hW1] at htab ⊢
 have hsame':=hsame
 unfold It.same at hsame
 have hI2c:I2.cells=[vI (aK (r.start/86400)),vI (aL (r.start/86400)).1,vI (aL (r.start/86400)).2,vI (r.start%86400/3600),vI (r.start%86400/60%60),vI (r.start%86400%60),vI (r.start/86400%7),.ptr rr 0,vI I2.ly,vI I2.lm,vI I2.yl,vI I2.nyl,vI I2.fy,vI 0,vI I2.yw,I2.mm,I2.mr,I2.md,I2.nmd,I2.wd,I2.wno,I2.nwd,I2.ea,aP,vI 0,vI 0,aP,aP,vB false,aP]:=by
  rw[hsame,hI0];rfl
 rw[hI2c]
 simp only[go_sem,he,g0,hR,hS,hW,hcl,hc.freq,aA]
 have hfrG:∀(Y:aD) (G:aB),∃G',h++(Y::G)=h1++G':=fun Y G=>⟨G0++(Y::G),by rw[hG0,List.append_assoc]⟩
 have hHO:∀(Y:aD) (G:aB),aQ (h++(Y::G)) ho r.hour:=fun Y G=>by obtain⟨G',e⟩:=hfrG Y G;rw[e];exact hs.ho.more G'
 have hMI:∀(Y:aD) (G:aB),aQ (h++(Y::G)) mi r.minute:=fun Y G=>by obtain⟨G',e⟩:=hfrG Y G;rw[e];exact hs.mi.more G'
 have hSE:∀(Y:aD) (G:aB),aQ (h++(Y::G)) se r.second:=fun Y G=>by obtain⟨G',e⟩:=hfrG Y G;rw[e];exact hs.se.more G'
 have hlH:lenK (some (.slice 3)) ho=some (vI r.hour.length):=hs.ho.len 3
 have hlM:lenK (some (.slice 3)) mi=some (vI r.minute.length):=hs.mi.len 3
 have hlS:lenK (some (.slice 3)) se=some (vI r.second.length):=hs.se.len 3
 have ho1:=hs.ho.one
 have mi1:=hs.mi.one
 have se1:=hs.se.one
 have hlens:=hG.lens
 refine bC (fun e hk=>len e=148∧AL.get e 0=.ptr rr 0∧AL.get e 3=.ptr h.length 0∧∃(I3:It) (G3:aB),hk=h++(.own 122 I3.cells::G3)∧I3={I2 with ts:=I3.ts}∧d9 hk I3.ts (cG r 0)∧(r.freq<4→I3.ts=ts)∧(4≤r.freq→GrT 78 2 h1.length hk I3.ts (cG r 0).length (bE (cG r 0))∧∀p,blk I3.ts p→h.length<p)∧∀x l,bW (h++(.own 122 I2.cells::G)) x l→bW hk x l) (fun hq=>?_) (fun hq=>?_) ?_
 ·have hq:=odT hq
  have hf:r.freq<4:=by omega
  simp only[go_sem,he,g0,hR,hS,hW,hcl,hc.times,aN hts1]
  refine⟨{I2 with ts:=ts},G,?_,rfl,?_,fun _=>rfl,fun f=>by omega,fun x l hx=>?_⟩
  ·have:({I2 with ts:=ts}:It).cells=(I2.cells).set 23 ts:=rfl
   rw[this,hI2c];rfl
  ·unfold cG;rw[if_pos hf]
   obtain⟨G',e⟩:=hfrG (.own 122 [vI (aK (r.start/86400)),vI (aL (r.start/86400)).1,vI (aL (r.start/86400)).2,vI (r.start%86400/3600),vI (r.start%86400/60%60),vI (r.start%86400%60),vI (r.start/86400%7),.ptr rr 0,vI I2.ly,vI I2.lm,vI I2.yl,vI I2.nyl,vI I2.fy,vI 0,vI I2.yw,I2.mm,I2.mr,I2.md,I2.nmd,I2.wd,I2.wno,I2.nwd,I2.ea,ts,vI 0,vI 0,aP,aP,vB false,aP]) G
   rw[e];exact (hs.ts hf).more G'
  ·have:=hx.setOb (ob:=h.length) (hS _ _) (by decide) (.own 122 [vI (aK (r.start/86400)),vI (aL (r.start/86400)).1,vI (aL (r.start/86400)).2,vI (r.start%86400/3600),vI (r.start%86400/60%60),vI (r.start%86400%60),vI (r.start/86400%7),.ptr rr 0,vI I2.ly,vI I2.lm,vI I2.yl,vI I2.nyl,vI I2.fy,vI 0,vI I2.yw,I2.mm,I2.mr,I2.md,I2.nmd,I2.wd,I2.wno,I2.nwd,I2.ea,ts,vI 0,vI 0,aP,aP,vB false,aP])
   rw[hW] at this
   exact this
 ·have hq:=odF hq
  have hf:4≤r.freq:=by omega
  obtain⟨b,hb⟩:∃b:Bool,b=K.dM r 0:=⟨_,rfl⟩
  have hb2:=K.xN hw hf a0.tm (a0.tk hf)
  rw[←hb] at hb2
  obtain⟨hh,hhE⟩:∃hh:Int,hh=r.start%86400/3600:=⟨_,rfl⟩
  obtain⟨mm,mmE⟩:∃mm:Int,mm=r.start%86400/60%60:=⟨_,rfl⟩
  obtain⟨ss,ssE⟩:∃ss:Int,ss=r.start%86400%60:=⟨_,rfl⟩
  rw[←hhE,←mmE,←ssE] at hb2 ⊢
  have tm:=a0.tm
  rw[←hhE,←mmE,←ssE] at tm
  have I2cE:=hI2c
  rw[←hhE,←mmE,←ssE] at I2cE
  have hf6:=hw.freq
  simp only[go_sem,he,g0,hR,hS,hW,hcl,hc.freq]
  have d4:decide (4≤(r.freq:Int))=true:=dcT (by omega)
  refine bU [84] bI (by kernel_rfl) ?_
  simp only[go_sem,he,g0,hR,hS,hW,hcl,hc.freq,hc.hour,hc.minute,hc.second,hlH,hlM,hlS,d4]
  refine bQ (fun e hk=>len e=148∧AL.get e 0=.ptr rr 0∧AL.get e 3=.ptr h.length 0∧AL.get e 127=vB (!b)∧hk=h++(.own 122 I2.cells::G)) ?_ ?_
  ·rw[I2cE]
   have LL:∀l:List Int,(decide ((l.length:Int)=0)=true∧l=[])∨(decide ((l.length:Int)=0)=false∧l≠[]):=fun l=>by
    by_cases h:l=[]
    ·exact .inl ⟨by rw[h];rfl,h⟩
    ·exact .inr ⟨dcF fun e=>h (List.length_eq_zero_iff.1 (by omega)),h⟩
   have D:∀n:Int,decide (n≤(r.freq:Int))=true∧n≤r.freq∨decide (n≤(r.freq:Int))=false∧¬n≤r.freq:=fun n=>by
    by_cases h:n≤(r.freq:Int)
    ·exact .inl ⟨dcT h,h⟩
    ·exact .inr ⟨dcF h,h⟩
   rcases LL r.hour with ⟨l1,n1⟩|⟨l1,n1⟩
   ·have q1:K.aY r.hour hh=true:=by rw[n1];rfl
    rcases D 5 with ⟨d5,f5⟩|⟨d5,f5⟩
    ·skip
     rcases LL r.minute with ⟨l2,n2⟩|⟨l2,n2⟩
     ·have q2:K.aY r.minute mm=true:=by rw[n2];rfl
      rcases D 6 with ⟨d6,f6⟩|⟨d6,f6⟩
      ·skip
       rcases LL r.second with ⟨l3,n3⟩|⟨l3,n3⟩
       ·have q3:K.aY r.second ss=true:=by rw[n3];rfl
        simp only[go_sem,he,g0,hR,hS,hW,hcl,hc.freq,hc.hour,hc.minute,hc.second,hlH,hlM,hlS,d4,l1,d5,aA,Bool.not_true,Bool.not_false,l2,d6,aA,Bool.not_true,Bool.not_false,l3,aA,Bool.not_false,Bool.not_true]
        rw[dcF (show ¬r.freq<5 by omega),dcF (show ¬r.freq<6 by omega)] at hb2;rw[hb2];simp only[q1,q2,q3,Bool.true_and,Bool.false_and,Bool.and_true,Bool.and_false,Bool.false_or,Bool.true_or,Bool.not_true,Bool.not_false]
       ·cases c3:r.second.contains ss with
        |true=>
         have q3:K.aY r.second ss=true:=by unfold K.aY;rw[c3,Bool.or_true]
         simp only[go_sem,he,g0,hR,hS,hW,hcl,hc.freq,hc.hour,hc.minute,hc.second,hlH,hlM,hlS,d4,l1,d5,aA,Bool.not_true,Bool.not_false,l2,d6,aA,Bool.not_true,Bool.not_false,l3]
         refine aS (fun _=>bO r.second (by omega) ss se _ ((hSE _ _).more _)) ?_
         rw[c3]
         simp only[go_sem,he,g0,hR,hS,hW,hcl,hc.freq,hc.hour,hc.minute,hc.second,hlH,hlM,hlS,d4,l1,d5,aA,Bool.not_true,Bool.not_false,l2,d6,aA,Bool.not_true,Bool.not_false,l3,aA,Bool.not_false,Bool.not_true]
         rw[dcF (show ¬r.freq<5 by omega),dcF (show ¬r.freq<6 by omega)] at hb2;rw[hb2];simp only[q1,q2,q3,Bool.true_and,Bool.false_and,Bool.and_true,Bool.and_false,Bool.false_or,Bool.true_or,Bool.not_true,Bool.not_false]
        |false=>
         have q3:K.aY r.second ss=false:=by unfold K.aY;rw[c3,Bool.or_false];exact List.isEmpty_eq_false_iff.2 n3
         simp only[go_sem,he,g0,hR,hS,hW,hcl,hc.freq,hc.hour,hc.minute,hc.second,hlH,hlM,hlS,d4,l1,d5,aA,Bool.not_true,Bool.not_false,l2,d6,aA,Bool.not_true,Bool.not_false,l3]
         refine aS (fun _=>bO r.second (by omega) ss se _ ((hSE _ _).more _)) ?_
         rw[c3]
         simp only[go_sem,he,g0,hR,hS,hW,hcl,hc.freq,hc.hour,hc.minute,hc.second,hlH,hlM,hlS,d4,l1,d5,aA,Bool.not_true,Bool.not_false,l2,d6,aA,Bool.not_true,Bool.not_false,l3,aA,Bool.not_false,Bool.not_true]
         rw[dcF (show ¬r.freq<5 by omega),dcF (show ¬r.freq<6 by omega)] at hb2;rw[hb2];simp only[q1,q2,q3,Bool.true_and,Bool.false_and,Bool.and_true,Bool.and_false,Bool.false_or,Bool.true_or,Bool.not_true,Bool.not_false]
      ·simp only[go_sem,he,g0,hR,hS,hW,hcl,hc.freq,hc.hour,hc.minute,hc.second,hlH,hlM,hlS,d4,l1,d5,aA,Bool.not_true,Bool.not_false,l2,d6,aA,Bool.not_false,Bool.not_true]
       rw[dcF (show ¬r.freq<5 by omega),dcT (show r.freq<6 by omega)] at hb2;rw[hb2];simp only[q1,q2,Bool.true_and,Bool.false_and,Bool.and_true,Bool.and_false,Bool.false_or,Bool.true_or,Bool.not_true,Bool.not_false]
     ·cases c2:r.minute.contains mm with
      |true=>
       have q2:K.aY r.minute mm=true:=by unfold K.aY;rw[c2,Bool.or_true]
       simp only[go_sem,he,g0,hR,hS,hW,hcl,hc.freq,hc.hour,hc.minute,hc.second,hlH,hlM,hlS,d4,l1,d5,aA,Bool.not_true,Bool.not_false,l2]
       refine aS (fun _=>bO r.minute (by omega) mm mi _ ((hMI _ _).more _)) ?_
       rw[c2]
       rcases D 6 with ⟨d6,f6⟩|⟨d6,f6⟩
       ·skip
        rcases LL r.second with ⟨l3,n3⟩|⟨l3,n3⟩
        ·have q3:K.aY r.second ss=true:=by rw[n3];rfl
         simp only[go_sem,he,g0,hR,hS,hW,hcl,hc.freq,hc.hour,hc.minute,hc.second,hlH,hlM,hlS,d4,l1,d5,aA,Bool.not_true,Bool.not_false,l2,d6,aA,Bool.not_true,Bool.not_false,l3,aA,Bool.not_false,Bool.not_true]
         rw[dcF (show ¬r.freq<5 by omega),dcF (show ¬r.freq<6 by omega)] at hb2;rw[hb2];simp only[q1,q2,q3,Bool.true_and,Bool.false_and,Bool.and_true,Bool.and_false,Bool.false_or,Bool.true_or,Bool.not_true,Bool.not_false]
        ·cases c3:r.second.contains ss with
         |true=>
          have q3:K.aY r.second ss=true:=by unfold K.aY;rw[c3,Bool.or_true]
          simp only[go_sem,he,g0,hR,hS,hW,hcl,hc.freq,hc.hour,hc.minute,hc.second,hlH,hlM,hlS,d4,l1,d5,aA,Bool.not_true,Bool.not_false,l2,d6,aA,Bool.not_true,Bool.not_false,l3]
          refine aS (fun _=>bO r.second (by omega) ss se _ ((hSE _ _).more _)) ?_
          rw[c3]
          simp only[go_sem,he,g0,hR,hS,hW,hcl,hc.freq,hc.hour,hc.minute,hc.second,hlH,hlM,hlS,d4,l1,d5,aA,Bool.not_true,Bool.not_false,l2,d6,aA,Bool.not_true,Bool.not_false,l3,aA,Bool.not_false,Bool.not_true]
          rw[dcF (show ¬r.freq<5 by omega),dcF (show ¬r.freq<6 by omega)] at hb2;rw[hb2];simp only[q1,q2,q3,Bool.true_and,Bool.false_and,Bool.and_true,Bool.and_false,Bool.false_or,Bool.true_or,Bool.not_true,Bool.not_false]
         |false=>
          have q3:K.aY r.second ss=false:=by unfold K.aY;rw[c3,Bool.or_false];exact List.isEmpty_eq_false_iff.2 n3
          simp only[go_sem,he,g0,hR,hS,hW,hcl,hc.freq,hc.hour,hc.minute,hc.second,hlH,hlM,hlS,d4,l1,d5,aA,Bool.not_true,Bool.not_false,l2,d6,aA,Bool.not_true,Bool.not_false,l3]
          refine aS (fun _=>bO r.second (by omega) ss se _ ((hSE _ _).more _)) ?_
          rw[c3]
          simp only[go_sem,he,g0,hR,hS,hW,hcl,hc.freq,hc.hour,hc.minute,hc.second,hlH,hlM,hlS,d4,l1,d5,aA,Bool.not_true,Bool.not_false,l2,d6,aA,Bool.not_true,Bool.not_false,l3,aA,Bool.not_false,Bool.not_true]
          rw[dcF (show ¬r.freq<5 by omega),dcF (show ¬r.freq<6 by omega)] at hb2;rw[hb2];simp only[q1,q2,q3,Bool.true_and,Bool.false_and,Bool.and_true,Bool.and_false,Bool.false_or,Bool.true_or,Bool.not_true,Bool.not_false]
       ·simp only[go_sem,he,g0,hR,hS,hW,hcl,hc.freq,hc.hour,hc.minute,hc.second,hlH,hlM,hlS,d4,l1,d5,aA,Bool.not_true,Bool.not_false,l2,d6,aA,Bool.not_false,Bool.not_true]
        rw[dcF (show ¬r.freq<5 by omega),dcT (show r.freq<6 by omega)] at hb2;rw[hb2];simp only[q1,q2,Bool.true_and,Bool.false_and,Bool.and_true,Bool.and_false,Bool.false_or,Bool.true_or,Bool.not_true,Bool.not_false]
      |false=>
       have q2:K.aY r.minute mm=false:=by unfold K.aY;rw[c2,Bool.or_false];exact List.isEmpty_eq_false_iff.2 n2
       simp only[go_sem,he,g0,hR,hS,hW,hcl,hc.freq,hc.hour,hc.minute,hc.second,hlH,hlM,hlS,d4,l1,d5,aA,Bool.not_true,Bool.not_false,l2]
       refine aS (fun _=>bO r.minute (by omega) mm mi _ ((hMI _ _).more _)) ?_
       rw[c2]
       simp only[go_sem,he,g0,hR,hS,hW,hcl,hc.freq,hc.hour,hc.minute,hc.second,hlH,hlM,hlS,d4,l1,d5,aA,Bool.not_true,Bool.not_false,l2,aA,Bool.not_false,Bool.not_true]
       rw[dcF (show ¬r.freq<5 by omega)] at hb2;rw[hb2];simp only[q1,q2,Bool.true_and,Bool.false_and,Bool.and_true,Bool.and_false,Bool.false_or,Bool.true_or,Bool.not_true,Bool.not_false]
    ·have dd6:decide (6≤(r.freq:Int))=false:=dcF (by omega)
     simp only[go_sem,he,g0,hR,hS,hW,hcl,hc.freq,hc.hour,hc.minute,hc.second,hlH,hlM,hlS,d4,l1,d5,dd6,aA,Bool.not_false,Bool.not_true]
     rw[dcT (show r.freq<5 by omega),dcT (show r.freq<6 by omega)] at hb2;rw[hb2];simp only[q1,Bool.true_and,Bool.false_and,Bool.and_true,Bool.and_false,Bool.false_or,Bool.true_or,Bool.not_true,Bool.not_false]
   ·cases c1:r.hour.contains hh with
    |true=>
     have q1:K.aY r.hour hh=true:=by unfold K.aY;rw[c1,Bool.or_true]
     simp only[go_sem,he,g0,hR,hS,hW,hcl,hc.freq,hc.hour,hc.minute,hc.second,hlH,hlM,hlS,d4,l1]
     refine aS (fun _=>bO r.hour (by omega) hh ho _ ((hHO _ _).more _)) ?_
     rw[c1]
     rcases D 5 with ⟨d5,f5⟩|⟨d5,f5⟩
     ·skip
      rcases LL r.minute with ⟨l2,n2⟩|⟨l2,n2⟩
      ·have q2:K.aY r.minute mm=true:=by rw[n2];rfl
       rcases D 6 with ⟨d6,f6⟩|⟨d6,f6⟩
       ·skip
        rcases LL r.second with ⟨l3,n3⟩|⟨l3,n3⟩
        ·have q3:K.aY r.second ss=true:=by rw[n3];rfl
         simp only[go_sem,he,g0,hR,hS,hW,hcl,hc.freq,hc.hour,hc.minute,hc.second,hlH,hlM,hlS,d4,l1,d5,aA,Bool.not_true,Bool.not_false,l2,d6,aA,Bool.not_true,Bool.not_false,l3,aA,Bool.not_false,Bool.not_true]
         rw[dcF (show ¬r.freq<5 by omega),dcF (show ¬r.freq<6 by omega)] at hb2;rw[hb2];simp only[q1,q2,q3,Bool.true_and,Bool.false_and,Bool.and_true,Bool.and_false,Bool.false_or,Bool.true_or,Bool.not_true,Bool.not_false]
        ·cases c3:r.second.contains ss with
         |true=>
          have q3:K.aY r.second ss=true:=by unfold K.aY;rw[c3,Bool.or_true]
          simp only[go_sem,he,g0,hR,hS,hW,hcl,hc.freq,hc.hour,hc.minute,hc.second,hlH,hlM,hlS,d4,l1,d5,aA,Bool.not_true,Bool.not_false,l2,d6,aA,Bool.not_true,Bool.not_false,l3]
          refine aS (fun _=>bO r.second (by omega) ss se _ ((hSE _ _).more _)) ?_
          rw[c3]
          simp only[go_sem,he,g0,hR,hS,hW,hcl,hc.freq,hc.hour,hc.minute,hc.second,hlH,hlM,hlS,d4,l1,d5,aA,Bool.not_true,Bool.not_false,l2,d6,aA,Bool.not_true,Bool.not_false,l3,aA,Bool.not_false,Bool.not_true]
          rw[dcF (show ¬r.freq<5 by omega),dcF (show ¬r.freq<6 by omega)] at hb2;rw[hb2];simp only[q1,q2,q3,Bool.true_and,Bool.false_and,Bool.and_true,Bool.and_false,Bool.false_or,Bool.true_or,Bool.not_true,Bool.not_false]
         |false=>
          have q3:K.aY r.second ss=false:=by unfold K.aY;rw[c3,Bool.or_false];exact List.isEmpty_eq_false_iff.2 n3
          simp only[go_sem,he,g0,hR,hS,hW,hcl,hc.freq,hc.hour,hc.minute,hc.second,hlH,hlM,hlS,d4,l1,d5,aA,Bool.not_true,Bool.not_false,l2,d6,aA,Bool.not_true,Bool.not_false,l3]
          refine aS (fun _=>bO r.second (by omega) ss se _ ((hSE _ _).more _)) ?_
          rw[c3]
          simp only[go_sem,he,g0,hR,hS,hW,hcl,hc.freq,hc.hour,hc.minute,hc.second,hlH,hlM,hlS,d4,l1,d5,aA,Bool.not_true,Bool.not_false,l2,d6,aA,Bool.not_true,Bool.not_false,l3,aA,Bool.not_false,Bool.not_true]
          rw[dcF (show ¬r.freq<5 by omega),dcF (show ¬r.freq<6 by omega)] at hb2;rw[hb2];simp only[q1,q2,q3,Bool.true_and,Bool.false_and,Bool.and_true,Bool.and_false,Bool.false_or,Bool.true_or,Bool.not_true,Bool.not_false]
       ·simp only[go_sem,he,g0,hR,hS,hW,hcl,hc.freq,hc.hour,hc.minute,hc.second,hlH,hlM,hlS,d4,l1,d5,aA,Bool.not_true,Bool.not_false,l2,d6,aA,Bool.not_false,Bool.not_true]
        rw[dcF (show ¬r.freq<5 by omega),dcT (show r.freq<6 by omega)] at hb2;rw[hb2];simp only[q1,q2,Bool.true_and,Bool.false_and,Bool.and_true,Bool.and_false,Bool.false_or,Bool.true_or,Bool.not_true,Bool.not_false]
      ·cases c2:r.minute.contains mm with
       |true=>
        have q2:K.aY r.minute mm=true:=by unfold K.aY;rw[c2,Bool.or_true]
        simp only[go_sem,he,g0,hR,hS,hW,hcl,hc.freq,hc.hour,hc.minute,hc.second,hlH,hlM,hlS,d4,l1,d5,aA,Bool.not_true,Bool.not_false,l2]
        refine aS (fun _=>bO r.minute (by omega) mm mi _ ((hMI _ _).more _)) ?_
        rw[c2]
        rcases D 6 with ⟨d6,f6⟩|⟨d6,f6⟩
        ·skip
         rcases LL r.second with ⟨l3,n3⟩|⟨l3,n3⟩
         ·have q3:K.aY r.second ss=true:=by rw[n3];rfl
          simp only[go_sem,he,g0,hR,hS,hW,hcl,hc.freq,hc.hour,hc.minute,hc.second,hlH,hlM,hlS,d4,l1,d5,aA,Bool.not_true,Bool.not_false,l2,d6,aA,Bool.not_true,Bool.not_false,l3,aA,Bool.not_false,Bool.not_true]
          rw[dcF (show ¬r.freq<5 by omega),dcF (show ¬r.freq<6 by omega)] at hb2;rw[hb2];simp only[q1,q2,q3,Bool.true_and,Bool.false_and,Bool.and_true,Bool.and_false,Bool.false_or,Bool.true_or,Bool.not_true,Bool.not_false]
         ·cases c3:r.second.contains ss with
          |true=>
           have q3:K.aY r.second ss=true:=by unfold K.aY;rw[c3,Bool.or_true]
           simp only[go_sem,he,g0,hR,hS,hW,hcl,hc.freq,hc.hour,hc.minute,hc.second,hlH,hlM,hlS,d4,l1,d5,aA,Bool.not_true,Bool.not_false,l2,d6,aA,Bool.not_true,Bool.not_false,l3]
           refine aS (fun _=>bO r.second (by omega) ss se _ ((hSE _ _).more _)) ?_
           rw[c3]
           simp only[go_sem,he,g0,hR,hS,hW,hcl,hc.freq,hc.hour,hc.minute,hc.second,hlH,hlM,hlS,d4,l1,d5,aA,Bool.not_true,Bool.not_false,l2,d6,aA,Bool.not_true,Bool.not_false,l3,aA,Bool.not_false,Bool.not_true]
           rw[dcF (show ¬r.freq<5 by omega),dcF (show ¬r.freq<6 by omega)] at hb2;rw[hb2];simp only[q1,q2,q3,Bool.true_and,Bool.false_and,Bool.and_true,Bool.and_false,Bool.false_or,Bool.true_or,Bool.not_true,Bool.not_false]
          |false=>
           have q3:K.aY r.second ss=false:=by unfold K.aY;rw[c3,Bool.or_false];exact List.isEmpty_eq_false_iff.2 n3
           simp only[go_sem,he,g0,hR,hS,hW,hcl,hc.freq,hc.hour,hc.minute,hc.second,hlH,hlM,hlS,d4,l1,d5,aA,Bool.not_true,Bool.not_false,l2,d6,aA,Bool.not_true,Bool.not_false,l3]
           refine aS (fun _=>bO r.second (by omega) ss se _ ((hSE _ _).more _)) ?_
           rw[c3]
           simp only[go_sem,he,g0,hR,hS,hW,hcl,hc.freq,hc.hour,hc.minute,hc.second,hlH,hlM,hlS,d4,l1,d5,aA,Bool.not_true,Bool.not_false,l2,d6,aA,Bool.not_true,Bool.not_false,l3,aA,Bool.not_false,Bool.not_true]
           rw[dcF (show ¬r.freq<5 by omega),dcF (show ¬r.freq<6 by omega)] at hb2;rw[hb2];simp only[q1,q2,q3,Bool.true_and,Bool.false_and,Bool.and_true,Bool.and_false,Bool.false_or,Bool.true_or,Bool.not_true,Bool.not_false]
        ·simp only[go_sem,he,g0,hR,hS,hW,hcl,hc.freq,hc.hour,hc.minute,hc.second,hlH,hlM,hlS,d4,l1,d5,aA,Bool.not_true,Bool.not_false,l2,d6,aA,Bool.not_false,Bool.not_true]
         rw[dcF (show ¬r.freq<5 by omega),dcT (show r.freq<6 by omega)] at hb2;rw[hb2];simp only[q1,q2,Bool.true_and,Bool.false_and,Bool.and_true,Bool.and_false,Bool.false_or,Bool.true_or,Bool.not_true,Bool.not_false]
       |false=>
        have q2:K.aY r.minute mm=false:=by unfold K.aY;rw[c2,Bool.or_false];exact List.isEmpty_eq_false_iff.2 n2
        simp only[go_sem,he,g0,hR,hS,hW,hcl,hc.freq,hc.hour,hc.minute,hc.second,hlH,hlM,hlS,d4,l1,d5,aA,Bool.not_true,Bool.not_false,l2]
        refine aS (fun _=>bO r.minute (by omega) mm mi _ ((hMI _ _).more _)) ?_
        rw[c2]
        simp only[go_sem,he,g0,hR,hS,hW,hcl,hc.freq,hc.hour,hc.minute,hc.second,hlH,hlM,hlS,d4,l1,d5,aA,Bool.not_true,Bool.not_false,l2,aA,Bool.not_false,Bool.not_true]
        rw[dcF (show ¬r.freq<5 by omega)] at hb2;rw[hb2];simp only[q1,q2,Bool.true_and,Bool.false_and,Bool.and_true,Bool.and_false,Bool.false_or,Bool.true_or,Bool.not_true,Bool.not_false]
     ·have dd6:decide (6≤(r.freq:Int))=false:=dcF (by omega)
      simp only[go_sem,he,g0,hR,hS,hW,hcl,hc.freq,hc.hour,hc.minute,hc.second,hlH,hlM,hlS,d4,l1,d5,dd6,aA,Bool.not_false,Bool.not_true]
      rw[dcT (show r.freq<5 by omega),dcT (show r.freq<6 by omega)] at hb2;rw[hb2];simp only[q1,Bool.true_and,Bool.false_and,Bool.and_true,Bool.and_false,Bool.false_or,Bool.true_or,Bool.not_true,Bool.not_false]
    |false=>
     have q1:K.aY r.hour hh=false:=by unfold K.aY;rw[c1,Bool.or_false];exact List.isEmpty_eq_false_iff.2 n1
     simp only[go_sem,he,g0,hR,hS,hW,hcl,hc.freq,hc.hour,hc.minute,hc.second,hlH,hlM,hlS,d4,l1]
     refine aS (fun _=>bO r.hour (by omega) hh ho _ ((hHO _ _).more _)) ?_
     rw[c1]
     simp only[go_sem,he,g0,hR,hS,hW,hcl,hc.freq,hc.hour,hc.minute,hc.second,hlH,hlM,hlS,d4,l1,aA,Bool.not_false,Bool.not_true]
     rw[hb2];simp only[q1,Bool.true_and,Bool.false_and,Bool.and_true,Bool.and_false,Bool.false_or,Bool.true_or,Bool.not_true,Bool.not_false]
  ·clear he g0
   rintro e hk ⟨he,g0,g3,g127,rfl⟩
   have hp2:aBs I2 h.length rr h1.length h1 (h++(.own 122 I2.cells::G)) r cs:=by
    refine⟨hfrG _ _,hS _ _,by rw[hsame,hI0],hR _ _,⟨0,[],.inl ⟨by rw[hsame,hI0],rfl,rfl⟩,by omega⟩,by rw[hG0,List.length_append];omega,Nat.le_refl _,by rw[hG0];simp only[List.length_append];omega⟩
   have hI2ts:I2.ts=aP:=by rw[hsame,hI0]
   have fin:∀(hk:aB) (x':AV) (T:List Int),cG r 0=T→i5 I2 h.length h1.length (h++(.own 122 I2.cells::G)) hk x' T.length (bE T)→∃(I3:It) (G3:aB),hk=h++(.own 122 I3.cells::G3)∧I3={I2 with ts:=I3.ts}∧d9 hk I3.ts (cG r 0)∧(r.freq<4→I3.ts=ts)∧(4≤r.freq→GrT 78 2 h1.length hk I3.ts (cG r 0).length (bE (cG r 0))∧∀p,blk I3.ts p→h.length<p)∧∀x l,bW (h++(.own 122 I2.cells::G)) x l→bW hk x l:=fun hk x' T hT hTs=>by
    have hkeep:cR (fun p=>p=h.length) (h++(.own 122 I2.cells::G)) hk:=hTs.keep.mono fun p hp=>hp.elim _root_.id fun hb=>by rw[hI2ts] at hb;obtain⟨_,_,e⟩:=hb;cases e
    have hkeep2:=hkeep
    obtain⟨Gk,hGk⟩:=hkeep2.front (h1:=h) fun p hp=>by omega
    have hob:=hTs.it
    subst hGk
    rw[List.getElem?_append_right (Nat.le_refl _),Nat.sub_self] at hob
    cases Gk with
    |nil=>cases hob
    |cons Z Gk=>
     simp only[List.getElem?_cons_zero,Option.some.injEq] at hob
     subst hob
     refine⟨{I2 with ts:=x'},Gk,rfl,rfl,?_,fun f=>by omega,fun _=>⟨?_,fun p hp=>?_⟩,fun x l hx=>?_⟩
     ·rw[hT];exact hTs.gr.times
     ·rw[hT];exact hTs.gr
     ·rcases hTs.blk p hp with hb|hb
      ·rw[hI2ts] at hb;obtain⟨_,_,e⟩:=hb;cases e
      ·simp only[List.length_append,List.length_cons] at hb;omega
     ·refine hx.keep hkeep fun p cs hp hp2=>?_
      subst hp2
      rw[hS] at hp
      cases hp
   cases hbb:b with
   |true=>
    rw[hbb] at hb g127
    have hT0:cG r 0=K.fI r 0:=by unfold cG;rw[if_neg (by omega),if_pos hb.symm]
    have hat:=K.xM hw hf a0.tm (a0.tk hf)
    rw[←hhE,←mmE,←ssE] at hat
    have hfk:=aHr (w0:=w0) I2 h.length rr h1.length h1 _ r cs hp2 hc hs hG hf 0 tm (by have:=a0.tk hf;rw[←hhE,←mmE,←ssE] at this;exact this)
    have fin':=fun hk x' hT=>fin hk x' (K.fI r 0) hT0 hT
    rw[I2cE] at fin' hfk ⊢
    simp only[go_sem,he,g0,g3,g127,hR,hS,hW]
    refine fT [] 12 bI (by kernel_rfl) (by kernel_rfl) (by kernel_rfl) ?_
    simp only[go_sem,he,g0,g3,g127,hR,hS,hW,hcl,hc.freq]
    refine aI hfk ?_
    rintro r' hk ⟨rfl,x',hT⟩
    simp only[go_sem,he,g0,g3,bL,aA]
    exact fin' hk x' hT
   |false=>
    rw[hbb] at hb g127
    have hT0:cG r 0=[]:=by unfold cG;rw[if_neg (by omega),if_neg (by rw[←hb];decide)]
    rw[I2cE]
    simp only[go_sem,he,g0,g3,g127,hR,hS,hW]
    refine⟨I2,G,by rw[I2cE],rfl,by rw[hI2ts,hT0];exact .inl ⟨rfl,rfl⟩,fun f=>by omega,fun _=>⟨by rw[hI2ts,hT0];exact .inl ⟨rfl,rfl,rfl⟩,fun p hp=>by rw[hI2ts] at hp;obtain⟨_,_,e⟩:=hp;cases e⟩,fun x l hx=>hx⟩
 ·clear he g0
  rintro e hk ⟨he,g0,g3,I3,G3,rfl,hI3,hT,hT4,hT5,hmv⟩
  have hI3c:I3.cells=[vI (aK (r.start/86400)),vI (aL (r.start/86400)).1,vI (aL (r.start/86400)).2,vI (r.start%86400/3600),vI (r.start%86400/60%60),vI (r.start%86400%60),vI (r.start/86400%7),.ptr rr 0,vI I2.ly,vI I2.lm,vI I2.yl,vI I2.nyl,vI I2.fy,vI 0,vI I2.yw,I2.mm,I2.mr,I2.md,I2.nmd,I2.wd,I2.wno,I2.nwd,I2.ea,I3.ts,vI 0,vI 0,aP,aP,vB false,aP]:=by
   have:I3.cells=(I2.cells).set 23 I3.ts:=by rw[hI3];rfl
   rw[this,hI2c];rfl
  rw[hI3c]
  simp only[go_sem,he,g0,g3,hR,hS,hW,hcl,hc.count]
  have hI4c:({I3 with cnt:=r.count}:It).cells=(I3.cells).set 25 (vI r.count):=rfl
  rw[hI3c] at hI4c
  have hk4:∀x l,bW (h++(.own 122 I2.cells::G)) x l→bW (h++(.own 122 {I3 with cnt:=r.count}.cells::G3)) x l:=fun x l hx=>by
   have:=(hmv x l hx).setOb (ob:=h.length) (hS _ _) (by decide) (.own 122 {I3 with cnt:=r.count}.cells)
   rw[hW] at this
   exact this
  refine⟨h.length,{I3 with cnt:=r.count},rfl,?_,rfl,⟨_,rfl⟩,Nat.le_refl _,?_⟩
  ·have hhe:h++(.own 122 {I3 with cnt:=r.count}.cells::G3)=h++(.own 122 [vI (aK (r.start/86400)),vI (aL (r.start/86400)).1,vI (aL (r.start/86400)).2,vI (r.start%86400/3600),vI (r.start%86400/60%60),vI (r.start%86400%60),vI (r.start/86400%7),.ptr rr 0,vI I2.ly,vI I2.lm,vI I2.yl,vI I2.nyl,vI I2.fy,vI 0,vI I2.yw,I2.mm,I2.mr,I2.md,I2.nmd,I2.wd,I2.wno,I2.nwd,I2.ea,I3.ts,vI 0,vI r.count,aP,aP,vB false,aP]::G3):=by rw[hI4c];rfl
   rw[←hhe]
   have hS4:=hS (.own 122 {I3 with cnt:=r.count}.cells) G3
   have hI3':I3={I0 with ly:=I2.ly,lm:=I2.lm,yl:=I2.yl,nyl:=I2.nyl,fy:=I2.fy,yw:=I2.yw,mm:=I2.mm,mr:=I2.mr,md:=I2.md,nmd:=I2.nmd,wd:=I2.wd,wno:=I2.wno,nwd:=I2.nwd,ea:=I2.ea,ts:=I3.ts}:=by
    rw[hI3,hsame]
   have hfrN:=hfrG (.own 122 {I3 with cnt:=r.count}.cells) G3
   have hRN:=hR (.own 122 {I3 with cnt:=r.count}.cells) G3
   have hg5:4≤r.freq→GrT 78 2 h1.length (h++(.own 122 {I3 with cnt:=r.count}.cells::G3)) I3.ts (cG r 0).length (bE (cG r 0)):=fun hf=>by
    have:=(hT5 hf).1.set (ob:=h.length) (y:=.own 122 {I3 with cnt:=r.count}.cells) fun hb=>by have:=(hT5 hf).2 _ hb;omega
    rw[hW] at this
    exact this
   generalize h++(.own 122 {I3 with cnt:=r.count}.cells::G3)=hN at *
   have hts3:∀q,blk I3.ts q→q<hN.length:=fun q hb=>by
    by_cases hf:r.freq<4
    ·rw[hT4 hf] at hb
     obtain⟨n',st',e⟩:=hb
     have:=hs.ts hf
     rw[e] at this
     rcases this with ⟨e,_⟩|⟨own,o,off,cs',e,e3,e4⟩
     ·cases e
     ·cases e
      have h2:q<h1.length:=by
       apply Classical.byContradiction
       intro hh
       rw[List.getElem?_eq_none (by omega)] at e3
       cases e3
      obtain⟨G',eN⟩:=hfrN
      rw[eN,List.length_append];omega
    ·exact (GrT.lowN (hg5 (by omega)) hb)
   have hlm:I3.lm=(aL (r.start/86400)).1:=by rw[hI3];exact htab.lm
   have hly:I3.ly=aK (r.start/86400):=by rw[hI3];exact htab.ly
   have q1:=htab.yt.of hk4
   have q2:=htab.wno.of hk4
   have q3:=htab.nw.of hk4
   have q4:=htab.ea.of hk4
   refine⟨⟨⟨hfrN,hS4,by rw[hI3',hI0],⟨cs,hRN,hc⟩,by rw[hG0,List.length_append];omega,hrB,.inl ⟨rfl,.inl ⟨by rw[hI3',hI0],rfl,rfl⟩⟩,⟨0,[],.inl ⟨by rw[hI3',hI0],rfl,rfl⟩,by omega⟩,by simp,by rw[hI3',hI0];rfl,hts3⟩,?_,?_,?_,?_,fun hf=>⟨hT4 hf,by unfold cG;rw[if_pos hf]⟩,hg5,fun _ p hp=>?_,aBy hG 0⟩,by rw[hI3',hI0],?_,?_,?_,hcnt⟩
   ·show YT hN _ I3.ly
    rw[hly,hI3]
    exact⟨q1.yl,q1.nyl,q1.fy,q1.yw,q1.mm,q1.mr,q1.md,q1.nmd,q1.wd⟩
   ·show j8 hN _ r I3.ly
    rw[hly,hI3];exact q2
   ·show pG hN _ r I3.ly I3.lm
    rw[hly,hlm,hI3];exact q3
   ·show z4 hN _ r I3.ly
    rw[hly,hI3];exact q4
   ·rintro ⟨off,n',st',e⟩
    have e2:({I3 with cnt:=r.count}:It).st=aP:=by rw[hI3',hI0]
    rw[e2] at e
    cases e
   ·have a1:=a0
    rw[hI3',hI0]
    exact a1
   ·show I3.ly=I3.year
    rw[hly,hI3',hI0]
   ·show I3.lm=I3.month
    rw[hlm,hI3',hI0]
  ·intro q hq
   have hI3':I3={I0 with ly:=I2.ly,lm:=I2.lm,yl:=I2.yl,nyl:=I2.nyl,fy:=I2.fy,yw:=I2.yw,mm:=I2.mm,mr:=I2.mr,md:=I2.md,nmd:=I2.nmd,wd:=I2.wd,wno:=I2.wno,nwd:=I2.nwd,ea:=I2.ea,ts:=I3.ts}:=by
    rw[hI3,hsame]
   rcases hq with rfl|rfl|⟨hB,hb⟩|⟨n',st',e⟩|⟨off,n',st',e⟩
   ·exact .inl rfl
   ·exact .inr (Nat.le_refl _)
   ·refine .inr ?_
    by_cases hf:r.freq<4
    ·have e2:({I3 with cnt:=r.count}:It).ts=ts:=hT4 hf
     rw[e2] at hb
     obtain⟨n',st',e⟩:=hb
     have:=hs.ts hf
     rw[e] at this
     rcases this with ⟨e,_⟩|⟨own,o,off,cs',e,e3,e4⟩
     ·cases e
     ·cases e
      have:q<h1.length:=by
       apply Classical.byContradiction
       intro hh
       rw[List.getElem?_eq_none (by omega)] at e3
       cases e3
      omega
    ·have:=(hT5 (by omega)).2 q hb
     omega
   ·have e2:({I3 with cnt:=r.count}:It).ds=aP:=by rw[hI3',hI0]
    rw[e2] at e;cases e
   ·have e2:({I3 with cnt:=r.count}:It).st=aP:=by rw[hI3',hI0]
    rw[e2] at e;cases e
structure Stp (B rr ob:Nat) (I0:It) (h:aB) (I:It) (hk:aB):Prop where
 len:h.length≤hk.length
 keep:cR (i7 I0 B rr ob) h hk
 foot:∀q,i7 I B rr ob q→i7 I0 B rr ob q∨h.length≤q
theorem Stp.refl (B rr ob:Nat) (I:It) (h:aB):Stp B rr ob I h I h:=⟨Nat.le_refl _,cR.refl _ _,fun q hq=>.inl hq⟩
theorem Stp.trans {B rr ob:Nat} {I0 I1 I2:It} {h0 h1 h2:aB} (a:Stp B rr ob I0 h0 I1 h1) (b:Stp B rr ob I1 h1 I2 h2):Stp B rr ob I0 h0 I2 h2:=by
 refine⟨Nat.le_trans a.len b.len,a.keep.step b.keep a.foot,fun q hq=>?_⟩
 rcases b.foot q hq with h|h
 ·exact a.foot q h
 ·exact .inr (Nat.le_trans a.len h)
section
variable {h1 h hk:aB} {rr ob:Nat} {r:Ru} {sp mo p n yd wn bw nw ho mi se ea ts:AV} {I:It} {P T:List Int}
theorem GrT.stb {t st B:Nat} {h:aB} {x:AV} {n:Nat} {cs:List AV} (hx:GrT t st B h x n cs) {q:Nat} (hb:stb x q):blk x q:=by
 obtain⟨off,n',st',e⟩:=hb
 rcases hx with ⟨rfl,_⟩|⟨o,cs0,rfl,_⟩
 ·cases e
 ·cases e;exact⟨_,_,rfl⟩
theorem GrT.low {t st B:Nat} {h:aB} {x:AV} {n:Nat} {cs:List AV} (hx:GrT t st B h x n cs) {q:Nat} (hb:blk x q):B≤q∧q<h.length∧∃cs0,h[q]?=some (.own t cs0):=by
 obtain⟨n',st',e⟩:=hb
 rcases hx with ⟨rfl,_⟩|⟨o,cs0,rfl,h2,h3,_⟩
 ·cases e
 ·cases e;exact⟨h2,(List.getElem?_eq_some_iff.1 h3).1,cs0,h3⟩
theorem oB.low {B:Nat} {h:aB} {st bk:AV} {P:List Int} (hp:oB B h st bk P) {q:Nat} (hb:stb st q):B≤q∧q<h.length∧∃cs0,h[q]?=some (.own 78 cs0):=by
 rcases hp with ⟨-,hx⟩|⟨-,o,k,m,cs0,e1,-,hB,h3,_⟩
 ·exact hx.low (hx.stb hb)
 ·obtain⟨off,n',st',e⟩:=hb
  rw[e1] at e;cases e
  exact⟨hB,(List.getElem?_eq_some_iff.1 h3).1,cs0,h3⟩
theorem oB.keep {B:Nat} {h h':aB} {st bk:AV} {P:List Int} (hp:oB B h st bk P) {S:Nat→Prop} (hk:cR S h h') (hs:∀q,stb st q→¬S q):oB B h' st bk P:=by
 rcases hp with ⟨e,hx⟩|⟨e,o,k,m,cs0,e1,e2,hB,h3,h4⟩
 ·exact .inl ⟨e,hx.keep hk fun q hq=>hs q (by obtain⟨a,b,e⟩:=hq;exact⟨0,a,b,e⟩)⟩
 ·exact .inr ⟨e,o,k,m,cs0,e1,e2,hB,hk o _ h3 (hs o ⟨_,_,_,e1⟩),h4⟩
theorem ItC.ne (c:ItC h1 h rr ob r sp mo p n yd wn bw nw ho mi se ea ts I P):rr≠ob:=fun e=>by
 obtain⟨cs,h2,-⟩:=c.rule
 rw[e,c.obj] at h2
 simp at h2
theorem ItQ.num (q:ItQ h1 h rr ob r sp mo p n yd wn bw nw ho mi se ea ts I P T) {I':It} (hlen:h.length≤hk.length) (hK:cR (fun x=>x=ob∨x=rr) h hk) (hs:I'={I with year:=I'.year,month:=I'.month,day:=I'.day,hour:=I'.hour,minute:=I'.minute,second:=I'.second,weekday:=I'.weekday,tot:=I'.tot,cnt:=I'.cnt,fin:=I'.fin})
  (hob:hk[ob]?=some (.own 122 I'.cells)) (hru:∃cs,hk[rr]?=some (.own 112 cs)∧RRc cs r sp mo p n yd wn bw nw ho mi se ea ts):ItQ h1 hk rr ob r sp mo p n yd wn bw nw ho mi se ea ts I' P T∧Stp h1.length rr ob I h I' hk:=by
 obtain⟨G,hG⟩:=q.front
 obtain⟨cs0,hr0,-⟩:=q.rule
 have hty:∀(x:Nat) t cs,h[x]?=some (.own t cs)→t≠122→t≠112→¬(x=ob∨x=rr):=fun x t cs hx n1 n2=>by
  rintro (rfl|rfl)
  ·rw[q.obj] at hx;cases hx;exact n1 rfl
  ·rw[hr0] at hx;cases hx;exact n2 rfl
 have hints:∀x l,bW h x l→bW hk x l:=fun x l hx=>hx.keep hK fun p cs hp=>hty p _ cs hp (by decide) (by decide)
 have hfr:∃G',hk=h1++G':=by
  rw[hG] at hK
  exact hK.front fun x hx=>by
   rcases hx with rfl|rfl
   ·exact q.obB
   ·exact q.rrB
 have e1:I'.rr=I.rr:=by rw[hs]
 have e2:I'.st=I.st:=by rw[hs]
 have e3:I'.bk=I.bk:=by rw[hs]
 have e4:I'.ds=I.ds:=by rw[hs]
 have e5:I'.ts=I.ts:=by rw[hs]
 have e6:I'.ly=I.ly:=by rw[hs]
 have e7:I'.lm=I.lm:=by rw[hs]
 have hyt:=q.yt.of hints
 have hwno:=q.wno.of hints
 have hnw:=q.nwm.of hints
 have hea:=q.eam.of hints
 refine⟨⟨⟨hfr,hob,by rw[e1];exact q.ptr,hru,q.obB,q.rrB,?_,?_,q.pl,by rw[e3];exact q.bk1,fun x hx=>Nat.lt_of_lt_of_le (q.tsl x (by rw[e5] at hx;exact hx)) hlen⟩,?_,?_,?_,?_,fun f=>by rw[e5];exact q.ts4 f,fun f=>?_,fun f x hx=>?_,q.tl⟩,hlen,?_,?_⟩
 ·rw[e2,e3]
  exact q.pend.keep hK fun x hx=>by
   obtain⟨-,-,cs,hc⟩:=q.pend.low hx
   exact hty x _ cs hc (by decide) (by decide)
 ·obtain⟨n0,c0,hx,hn⟩:=q.ds
  rw[e4]
  exact⟨n0,c0,hx.keep hK fun x hb=>by
   obtain⟨-,-,cs,hc⟩:=hx.low hb
   exact hty x _ cs hc (by decide) (by decide),hn⟩
 ·rw[e6,hs];exact⟨hyt.yl,hyt.nyl,hyt.fy,hyt.yw,hyt.mm,hyt.mr,hyt.md,hyt.nmd,hyt.wd⟩
 ·rw[e6,hs];exact hwno
 ·rw[e6,e7,hs];exact hnw
 ·rw[e6,hs];exact hea
 ·rw[e5]
  exact (q.ts5 f).keep hK fun x hb=>by
   obtain⟨-,-,cs,hc⟩:=(q.ts5 f).low hb
   exact hty x _ cs hc (by decide) (by decide)
 ·rw[e5] at hx;rw[e2];exact q.sep f x hx
 ·exact hK.mono fun x hx=>by
   rcases hx with rfl|rfl
   ·exact .inr (.inl rfl)
   ·exact .inl rfl
 ·intro x hx
  unfold i7 at hx ⊢
  rw[e5,e4,e2] at hx
  exact .inl hx
theorem ItQ.more (q:ItQ h1 h rr ob r sp mo p n yd wn bw nw ho mi se ea ts I P T) (G:aB):ItQ h1 (h++G) rr ob r sp mo p n yd wn bw nw ho mi se ea ts I P T∧Stp h1.length rr ob I h I (h++G):=by
 obtain⟨cs,a,b⟩:=q.rule
 exact q.num (by simp) (cR.app _ _ _) rfl (aZ q.obj) ⟨cs,aZ a,b⟩
theorem ItQ.setI (q:ItQ h1 h rr ob r sp mo p n yd wn bw nw ho mi se ea ts I P T) {I':It} (hs:I'={I with year:=I'.year,month:=I'.month,day:=I'.day,hour:=I'.hour,minute:=I'.minute,second:=I'.second,weekday:=I'.weekday,tot:=I'.tot,cnt:=I'.cnt,fin:=I'.fin}) :
  ItQ h1 (h.set ob (.own 122 I'.cells)) rr ob r sp mo p n yd wn bw nw ho mi se ea ts I' P T∧Stp h1.length rr ob I h I' (h.set ob (.own 122 I'.cells)):=by
 obtain⟨cs,a,b⟩:=q.rule
 refine q.num (by simp) ((cR.refl _ _).set (.inl rfl)) hs (List.getElem?_set_self (List.getElem?_eq_some_iff.1 q.obj).1) ⟨cs,?_,b⟩
 rw[List.getElem?_set_ne (fun e=>q.ne e.symm)];exact a
theorem ItQ.setL (q:ItQ h1 h rr ob r sp mo p n yd wn bw nw ho mi se ea ts I P T) {cs:List AV} (hc:RRc cs r sp mo p n yd wn bw nw ho mi se ea ts) (v:AV) :
  ItQ h1 (h.set rr (.own 112 (cs.set 59 v))) rr ob r sp mo p n yd wn bw nw ho mi se ea ts I P T∧Stp h1.length rr ob I h I (h.set rr (.own 112 (cs.set 59 v))):=by
 obtain⟨cs0,a,b⟩:=q.rule
 refine q.num (by simp) ((cR.refl _ _).set (.inr rfl)) rfl ?_ ⟨_,List.getElem?_set_self (List.getElem?_eq_some_iff.1 a).1,hc.len59 v⟩
 rw[List.getElem?_set_ne q.ne];exact q.obj
theorem ItQ.times (q:ItQ h1 h rr ob r sp mo p n yd wn bw nw ho mi se ea ts I P T) (hs:qO h1 r sp mo p n yd wn bw nw ho mi se ea ts):d9 h I.ts T:=by
 by_cases f:r.freq<4
 ·obtain⟨a,b⟩:=q.ts4 f
  rw[a,b]
  obtain⟨G,e⟩:=q.front
  rw[e];exact (hs.ts f).more G
 ·exact (q.ts5 (by omega)).times
theorem ItQ.day (q:ItQ h1 h rr ob r sp mo p n yd wn bw nw ho mi se ea ts I P T) {x:AV} {m:Nat} {c:List AV} (d:aDq I ob h1.length h hk x m c) (hm:m≤1000) :
  ItQ h1 hk rr ob r sp mo p n yd wn bw nw ho mi se ea ts {I with ds:=x} P T∧Stp h1.length rr ob I h {I with ds:=x} hk:=by
 obtain⟨G,hG⟩:=q.front
 obtain⟨cs0,hr0,hc0⟩:=q.rule
 obtain⟨n0,c0,hx0,-⟩:=q.ds
 have hK:=d.keep
 have hty:∀(x:Nat) t cs,h[x]?=some (.own t cs)→t≠122→t≠219→¬(x=ob∨blk I.ds x):=fun x t cs hx n1 n2=>by
  rintro (rfl|hb)
  ·rw[q.obj] at hx;cases hx;exact n1 rfl
  ·exact hx0.ne hx n2 hb
 have hints:∀x l,bW h x l→bW hk x l:=fun x l hx=>hx.keep hK fun p cs hp=>hty p _ cs hp (by decide) (by decide)
 have hfr:∃G',hk=h1++G':=by
  rw[hG] at hK
  exact hK.front fun x hx=>by
   rcases hx with rfl|hb
   ·exact q.obB
   ·exact (hx0.low hb).1
 have hyt:=q.yt.of hints
 refine⟨⟨⟨hfr,d.it,q.ptr,⟨cs0,hK _ _ hr0 (hty _ _ _ hr0 (by decide) (by decide)),hc0⟩,q.obB,q.rrB,?_,⟨m,c,d.gr,hm⟩,q.pl,q.bk1,fun x hx=>Nat.lt_of_lt_of_le (q.tsl x hx) d.len⟩,⟨hyt.yl,hyt.nyl,hyt.fy,hyt.yw,hyt.mm,hyt.mr,hyt.md,hyt.nmd,hyt.wd⟩,q.wno.of hints,q.nwm.of hints,q.eam.of hints,q.ts4,fun f=>?_,q.sep,q.tl⟩,d.len,?_,?_⟩
 ·exact q.pend.keep hK fun x hx=>by
   obtain⟨-,-,cs,hc⟩:=q.pend.low hx
   exact hty x _ cs hc (by decide) (by decide)
 ·exact (q.ts5 f).keep hK fun x hb=>by
   obtain⟨-,-,cs,hc⟩:=(q.ts5 f).low hb
   exact hty x _ cs hc (by decide) (by decide)
 ·exact hK.mono fun x hx=>by
   rcases hx with rfl|hb
   ·exact .inr (.inl rfl)
   ·exact .inr (.inr (.inr (.inl hb)))
 ·rintro x (hx|hx|hx|hx|hx)
  ·exact .inl (.inl hx)
  ·exact .inl (.inr (.inl hx))
  ·exact .inl (.inr (.inr (.inl hx)))
  ·rcases d.blk x hx with hb|hb
   ·exact .inl (.inr (.inr (.inr (.inl hb))))
   ·exact .inr hb
  ·exact .inl (.inr (.inr (.inr (.inr hx))))
theorem ItQ.tim (q:ItQ h1 h rr ob r sp mo p n yd wn bw nw ho mi se ea ts I P T) (hf:4≤r.freq) {x:AV} {T':List Int} (d:i5 I ob h1.length h hk x T'.length (bE T')) (hm:T'.length≤60) :
  ItQ h1 hk rr ob r sp mo p n yd wn bw nw ho mi se ea ts {I with ts:=x} P T'∧Stp h1.length rr ob I h {I with ts:=x} hk:=by
 obtain⟨G,hG⟩:=q.front
 obtain⟨cs0,hr0,hc0⟩:=q.rule
 obtain⟨n0,c0,hx0,hn0⟩:=q.ds
 have ht0:=q.ts5 hf
 have hK:=d.keep
 have hty:∀(x:Nat) t cs,h[x]?=some (.own t cs)→t≠122→t≠78→¬(x=ob∨blk I.ts x):=fun x t cs hx n1 n2=>by
  rintro (rfl|hb)
  ·rw[q.obj] at hx;cases hx;exact n1 rfl
  ·exact ht0.ne hx n2 hb
 have hints:∀x l,bW h x l→bW hk x l:=fun x l hx=>hx.keep hK fun p cs hp=>hty p _ cs hp (by decide) (by decide)
 have hfr:∃G',hk=h1++G':=by
  rw[hG] at hK
  exact hK.front fun x hx=>by
   rcases hx with rfl|hb
   ·exact q.obB
   ·exact (ht0.low hb).1
 have hyt:=q.yt.of hints
 refine⟨⟨⟨hfr,d.it,q.ptr,⟨cs0,hK _ _ hr0 (hty _ _ _ hr0 (by decide) (by decide)),hc0⟩,q.obB,q.rrB,?_,⟨n0,c0,?_,hn0⟩,q.pl,q.bk1,fun y hy=>(d.gr.low hy).2.1⟩,⟨hyt.yl,hyt.nyl,hyt.fy,hyt.yw,hyt.mm,hyt.mr,hyt.md,hyt.nmd,hyt.wd⟩,q.wno.of hints,q.nwm.of hints,q.eam.of hints,fun f=>by omega,fun f=>d.gr,fun f x hb hs=>?_,hm⟩,d.len,?_,?_⟩
 ·refine q.pend.keep hK fun x hx=>?_
  rintro (rfl|hb)
  ·obtain⟨-,-,cs,hc⟩:=q.pend.low hx
   rw[q.obj] at hc;simp at hc
  ·exact q.sep hf x hb hx
 ·exact hx0.keep hK fun x hb=>by
   obtain⟨-,-,cs,hc⟩:=hx0.low hb
   exact hty x _ cs hc (by decide) (by decide)
 ·rcases d.blk x hb with hb|hb
  ·exact q.sep hf x hb hs
  ·have:=(q.pend.low hs).2.1
   omega
 ·exact hK.mono fun x hx=>by
   rcases hx with rfl|hb
   ·exact .inr (.inl rfl)
   ·exact .inr (.inr (.inl ⟨(ht0.low hb).1,hb⟩))
 ·rintro x (hx|hx|hx|hx|hx)
  ·exact .inl (.inl hx)
  ·exact .inl (.inr (.inl hx))
  ·rcases d.blk x hx.2 with hb|hb
   ·exact .inl (.inr (.inr (.inl ⟨hx.1,hb⟩)))
   ·exact .inr hb
  ·exact .inl (.inr (.inr (.inr (.inl hx))))
  ·exact .inl (.inr (.inr (.inr (.inr hx))))
theorem ItQ.reb (q:ItQ h1 h rr ob r sp mo p n yd wn bw nw ho mi se ea ts I P T) {I2:It} {G:aB} {y m:Int} (ht:aE9 (h.set ob (.own 122 I2.cells)++G) I2 r y m) (hs:I.same I2) :
  ItQ h1 (h.set ob (.own 122 I2.cells)++G) rr ob r sp mo p n yd wn bw nw ho mi se ea ts I2 P T∧Stp h1.length rr ob I h I2 (h.set ob (.own 122 I2.cells)++G):=by
 obtain⟨G0,hG⟩:=q.front
 obtain⟨cs0,hr0,hc0⟩:=q.rule
 obtain⟨n0,c0,hx0,hn0⟩:=q.ds
 have hlt:=(List.getElem?_eq_some_iff.1 q.obj).1
 have hK:cR (fun x=>x=ob) h (h.set ob (.own 122 I2.cells)++G):=fun x y hx hn=>by
  refine aZ ?_
  rw[List.getElem?_set_ne (fun e=>hn e.symm)];exact hx
 have hob:(h.set ob (.own 122 I2.cells)++G)[ob]?=some (.own 122 I2.cells):=aZ (List.getElem?_set_self hlt)
 have hl:h.length≤(h.set ob (.own 122 I2.cells)++G).length:=by simp
 generalize h.set ob (.own 122 I2.cells)++G=hk at *
 have hty:∀(x:Nat) t cs,h[x]?=some (.own t cs)→t≠122→¬(x=ob):=fun x t cs hx n1=>by
  rintro rfl
  rw[q.obj] at hx;cases hx;exact n1 rfl
 have hfr:∃G',hk=h1++G':=by
  rw[hG] at hK
  exact hK.front fun x hx=>by rw[hx];exact q.obB
 unfold It.same at hs
 have e1:I2.rr=I.rr:=by rw[hs]
 have e2:I2.st=I.st:=by rw[hs]
 have e3:I2.bk=I.bk:=by rw[hs]
 have e4:I2.ds=I.ds:=by rw[hs]
 have e5:I2.ts=I.ts:=by rw[hs]
 refine⟨⟨⟨hfr,hob,by rw[e1];exact q.ptr,⟨cs0,hK _ _ hr0 (hty _ _ _ hr0 (by decide)),hc0⟩,q.obB,q.rrB,?_,⟨n0,c0,?_,hn0⟩,q.pl,by rw[e3];exact q.bk1,fun x hx=>Nat.lt_of_lt_of_le (q.tsl x (by rw[e5] at hx;exact hx)) hl⟩,by rw[ht.ly];exact ht.yt,by rw[ht.ly];exact ht.wno,by rw[ht.ly,ht.lm];exact ht.nw,by rw[ht.ly];exact ht.ea,fun f=>by rw[e5];exact q.ts4 f,fun f=>?_,fun f x hx=>by rw[e5] at hx;rw[e2];exact q.sep f x hx,q.tl⟩,hl,hK.mono fun x hx=>.inr (.inl hx),?_⟩
 ·rw[e2,e3]
  exact q.pend.keep hK fun x hx=>by
   obtain⟨-,-,cs,hc⟩:=q.pend.low hx
   exact hty x _ cs hc (by decide)
 ·rw[e4]
  exact hx0.keep hK fun x hb=>by
   obtain⟨-,-,cs,hc⟩:=hx0.low hb
   exact hty x _ cs hc (by decide)
 ·rw[e5]
  exact (q.ts5 f).keep hK fun x hb=>by
   obtain⟨-,-,cs,hc⟩:=(q.ts5 f).low hb
   exact hty x _ cs hc (by decide)
 ·intro x hx
  unfold i7 at hx ⊢
  rw[e5,e4,e2] at hx
  exact .inl hx
theorem ItQ.app (q:ItQ h1 h rr ob r sp mo p n yd wn bw nw ho mi se ea ts I P T) (g:GrT 78 2 h1.length h I.st P.length (bE P)) {t:Int} {x:AV} (g':GrT 78 2 h1.length hk x (P.length+1) (bE P++[vI t,vI 0])) (hob:hk[ob]?=some (.own 122 {I with st:=x,bk:=x}.cells)) (hl:h.length≤hk.length) (hK:cR (fun p=>p=ob∨blk I.st p) h hk) (hb:∀p,blk x p→h.length≤p) (hpl:P.length<1000000) :
  ItQ h1 hk rr ob r sp mo p n yd wn bw nw ho mi se ea ts {I with st:=x,bk:=x} (P++[t]) T∧GrT 78 2 h1.length hk x (P++[t]).length (bE (P++[t]))∧Stp h1.length rr ob I h {I with st:=x,bk:=x} hk:=by
 obtain⟨G0,hG⟩:=q.front
 obtain⟨cs0,hr0,hc0⟩:=q.rule
 obtain⟨n0,c0,hx0,hn0⟩:=q.ds
 have g2:GrT 78 2 h1.length hk x (P++[t]).length (bE (P++[t])):=by
  rw[List.length_append,kZ];exact g'
 have hty:∀(x:Nat) t cs,h[x]?=some (.own t cs)→t≠122→t≠78→¬(x=ob∨blk I.st x):=fun x t cs hx n1 n2=>by
  rintro (rfl|hb)
  ·rw[q.obj] at hx;cases hx;exact n1 rfl
  ·exact g.ne hx n2 hb
 have hints:∀x l,bW h x l→bW hk x l:=fun x l hx=>hx.keep hK fun p cs hp=>hty p _ cs hp (by decide) (by decide)
 have hfr:∃G',hk=h1++G':=by
  rw[hG] at hK
  exact hK.front fun x hx=>by
   rcases hx with rfl|hb
   ·exact q.obB
   ·exact (g.low hb).1
 have hyt:=q.yt.of hints
 refine⟨⟨⟨hfr,hob,q.ptr,⟨cs0,hK _ _ hr0 (hty _ _ _ hr0 (by decide) (by decide)),hc0⟩,q.obB,q.rrB,?_,⟨n0,c0,?_,hn0⟩,by rw[List.length_append];simp;omega,g2.one,fun x hx=>Nat.lt_of_lt_of_le (q.tsl x hx) hl⟩,⟨hyt.yl,hyt.nyl,hyt.fy,hyt.yw,hyt.mm,hyt.mr,hyt.md,hyt.nmd,hyt.wd⟩,q.wno.of hints,q.nwm.of hints,q.eam.of hints,q.ts4,fun f=>?_,fun f y hy hs=>?_,q.tl⟩,g2,hl,?_,?_⟩
 ·refine .inr ⟨by simp,?_⟩
  rcases g2 with ⟨-,e,-⟩|⟨o,cs1,e1,e2,e3,e4,e5⟩
  ·simp at e
  ·exact⟨o,0,(P++[t]).length,cs1,by rw[Nat.zero_mul];exact e1,e1,e2,e3,e5,by rw[Nat.zero_mul,List.drop_zero];exact e4,by omega⟩
 ·exact hx0.keep hK fun x hb=>by
   obtain⟨-,-,cs,hc⟩:=hx0.low hb
   exact hty x _ cs hc (by decide) (by decide)
 ·refine (q.ts5 f).keep hK fun y hy=>?_
  rintro (rfl|hb2)
  ·obtain⟨-,-,cs,hc⟩:=(q.ts5 f).low hy
   rw[q.obj] at hc;simp at hc
  ·exact q.sep f y hy (by obtain⟨a,b,e⟩:=hb2;exact⟨0,a,b,e⟩)
 ·have h1:=hb y (g2.stb hs)
  have h2:=((q.ts5 f).low hy).2.1
  omega
 ·exact hK.mono fun x hx=>by
   rcases hx with rfl|hb
   ·exact .inr (.inl rfl)
   ·exact .inr (.inr (.inr (.inr (by obtain⟨a,b,e⟩:=hb;exact⟨0,a,b,e⟩))))
 ·rintro y (hx|hx|hx|hx|hx)
  ·exact .inl (.inl hx)
  ·exact .inl (.inr (.inl hx))
  ·exact .inl (.inr (.inr (.inl hx)))
  ·exact .inl (.inr (.inr (.inr (.inl hx))))
  ·exact .inr (hb y (g2.stb hx))
end
end F
namespace AL
open Go.RowKit
section
variable {P:Program} {C:dC} {d:Option (List Nat)} {ops:Array Oper}
theorem aFc {l2:List Oper} {K:Env→aB→Prop} (l1:List Oper):∀{env:Env} {H:aB},bJ P C d ops l1 env H (fun e h=>bJ P C d ops l2 e h K)→bJ P C d ops (l1++l2) env H K:=by
 induction l1 with
 |nil=>
  intro env H h
  rw[aDL] at h
  exact h
 |cons o rest ih=>
  intro env H h
  rw[List.cons_append]
  unfold bJ at h ⊢
  split at h
  ·exact ih h
  ·split at h
   ·split at h
    ·unfold jM at h ⊢
     split at h
     ·exact h.mono fun r H' h=>ih h
     ·rcases h with ⟨r,H',h1,h2,h4,h3⟩|⟨h1,R,h2,h3,h4,h5⟩
      ·exact .inl ⟨r,H',h1,h2,h4,ih h3⟩
      ·exact .inr ⟨h1,R,h2,h3,h4,fun r H' hr=>ih (h5 r H' hr)⟩
    ·split at h
     ·exact⟨h.1,h.2.mono fun r H' h=>ih h⟩
     ·exact⟨h.1,fun k h1 h2=>ih (h.2 k h1 h2)⟩
     ·split at h
      ·exact ih h
      ·exact h.elim
   ·split at h
    ·exact ih h
    ·exact h.elim
  ·exact h.elim
theorem lD (n:Nat) (J:Env→aB→Prop) {x:Option Bool} {o:Oper} {rest:List Oper} {env:Env} {H:aB} {K:Env→aB→Prop} (h1:gR x P C d ops o (rest.take n) env H J) (h2:∀e h,J e h→bJ P C d ops (rest.drop n) (mk e []) h K):gR x P C d ops o rest env H K:=by
 have e:rest=rest.take n++rest.drop n:=(List.take_append_drop n rest).symm
 have h3:gR x P C d ops o (rest.take n) env H fun e h=>bJ P C d ops (rest.drop n) e h K:=by
  unfold gR at h1 ⊢
  split at h1
  ·exact eD h2 h1
  ·exact eD h2 h1
  ·exact h1.elim
 unfold gR at h3 ⊢
 rw[e]
 split at h3
 ·have:=aFc (l2:=rest.drop n) (o::rest.take n) h3
  exact this
 ·have:=aFc (l2:=rest.drop n) (rest.take n) h3
  exact this
 ·exact h3.elim
end
def iF:List Nat→Code→Code
 |[],c=>c
 |i::p,.seq a b=>iF p (if i=0 then a else b)
 |i::p,.cond _ a b=>iF p (if i=0 then a else b)
 |_::p,.block _ b=>iF p b
 |_::p,.loop b=>iF p b
 |_,c=>c
end AL
namespace F
open Go.RowKit Go.Proofs.YtnoppodfngkoeaaGreat.AL
noncomputable def fW:Code:=match Tryz.f149.body with|some c=>c|none=>.skip
noncomputable def aHs:Code:=iF [1,1,0,0,1,0,1,1,1,1,0] fW
noncomputable def aKR:Code:=iF [1,1,0,0,1,0,1,1,1,1,1,0,1,0] fW
noncomputable def aKS:Code:=iF [1,1,0,0,1,0,1,1,1,1,1,0,1,1] fW
noncomputable def aO3:Code:=iF [1,1,0,0,1,0,1,1,1,1,1,1,1,0] fW
noncomputable def aKT:Code:=iF [1,1,0,0,1,0,1,1,1,1,1,1,1,1] fW
section
variable {h1 h hk hk':aB} {rr ob:Nat} {r:Ru} {sp mo p n yd wn bw nw ho mi se ea ts:AV} {I0 I:It} {x:AV} {l:List (Int×Bool)} {A T:List Int}
structure GSt (h1 h hk:aB) (rr ob:Nat) (r:Ru) (sp mo p n yd wn bw nw ho mi se ea ts:AV) (I0 I:It) (x:AV) (l:List (Int×Bool)) (A T:List Int):Prop where
 q:ItQ h1 hk rr ob r sp mo p n yd wn bw nw ho mi se ea ts I A T
 g:GrT 78 2 h1.length hk I.st A.length (bE A)
 gd:GrT 219 2 h1.length hk x l.length (iR l)
 stp:Stp h1.length rr ob I0 h I hk
 same:I={I0 with tot:=I.tot,cnt:=I.cnt,st:=I.st,bk:=I.bk}
theorem GSt.more (s:GSt h1 h hk rr ob r sp mo p n yd wn bw nw ho mi se ea ts I0 I x l A T) (G:aB):GSt h1 h (hk++G) rr ob r sp mo p n yd wn bw nw ho mi se ea ts I0 I x l A T:=by
 obtain⟨a,b⟩:=s.q.more G
 exact⟨a,s.g.more G,s.gd.more G,s.stp.trans b,s.same⟩
theorem GSt.num (s:GSt h1 h hk rr ob r sp mo p n yd wn bw nw ho mi se ea ts I0 I x l A T) {I':It} (hK:cR (fun x=>x=ob∨x=rr) hk hk') (q':ItQ h1 hk' rr ob r sp mo p n yd wn bw nw ho mi se ea ts I' A T∧Stp h1.length rr ob I hk I' hk') (hs:I'={I with tot:=I'.tot,cnt:=I'.cnt}):GSt h1 h hk' rr ob r sp mo p n yd wn bw nw ho mi se ea ts I0 I' x l A T:=by
 obtain⟨cs0,hr0,-⟩:=s.q.rule
 have e:I'.st=I.st:=by rw[hs]
 refine⟨q'.1,?_,?_,s.stp.trans q'.2,by rw[hs,s.same]⟩
 ·rw[e]
  refine s.g.keep hK fun y hy=>?_
  obtain⟨-,-,cs,hc⟩:=s.g.low hy
  rintro (rfl|rfl)
  ·rw[s.q.obj] at hc;simp at hc
  ·rw[hr0] at hc;simp at hc
 ·refine s.gd.keep hK fun y hy=>?_
  obtain⟨-,-,cs,hc⟩:=s.gd.low hy
  rintro (rfl|rfl)
  ·rw[s.q.obj] at hc;simp at hc
  ·rw[hr0] at hc;simp at hc
theorem GSt.setI (s:GSt h1 h hk rr ob r sp mo p n yd wn bw nw ho mi se ea ts I0 I x l A T) (t c:Int):GSt h1 h (hk.set ob (.own 122 {I with tot:=t,cnt:=c}.cells)) rr ob r sp mo p n yd wn bw nw ho mi se ea ts I0 {I with tot:=t,cnt:=c} x l A T:=
 s.num ((cR.refl _ _).set (.inl rfl)) (s.q.setI rfl) rfl
theorem GSt.app (s:GSt h1 h hk rr ob r sp mo p n yd wn bw nw ho mi se ea ts I0 I x l A T) {t:Int} {y:AV} (g':GrT 78 2 h1.length hk' y (A.length+1) (bE A++[vI t,vI 0])) (hob:hk'[ob]?=some (.own 122 {I with st:=y,bk:=y}.cells)) (hl:hk.length≤hk'.length) (hK:cR (fun p=>p=ob∨blk I.st p) hk hk') (hb:∀p,blk y p→hk.length≤p) (hpl:A.length<1000000) :
  GSt h1 h hk' rr ob r sp mo p n yd wn bw nw ho mi se ea ts I0 {I with st:=y,bk:=y} x l (A++[t]) T:=by
 obtain⟨a,b,c⟩:=s.q.app s.g g' hob hl hK hb hpl
 refine⟨a,b,?_,s.stp.trans c,by rw[s.same]⟩
 refine s.gd.keep hK fun z hz=>?_
 obtain⟨-,-,cs,hc⟩:=s.gd.low hz
 rintro (rfl|hb2)
 ·rw[s.q.obj] at hc;simp at hc
 ·exact s.g.ne hc (by decide) hb2
theorem aBz:∀{l:List (Int×Bool)} {i:Nat} {d:Int×Bool},l[i]?=some d→(iR l)[i*2]?=some (vI d.1)∧(iR l)[i*2+1]?=some (vB d.2)
 |[],_,_,h=>by cases h
 |d::l,0,_,h=>by cases h;exact⟨rfl,rfl⟩
 |d::l,i+1,d',h=>by
  have:=aBz (l:=l) (i:=i) (d:=d') h
  rw[show (i+1)*2=i*2+1+1 by omega]
  exact this
theorem GrT.days {h:aB} {B:Nat} {x:AV} {l:List (Int×Bool)} (g:GrT 219 2 B h x l.length (iR l)) {i:Nat} {d:Int×Bool} (hi:l[i]?=some d):∃o cs,x=.sl true o 0 l.length 2∧h[o]?=some (.own 219 cs)∧i*2+2≤cs.length∧(cs.drop (i*2)).take 2=[vI d.1,vB d.2]:=by
 have hl:=(List.getElem?_eq_some_iff.1 hi).1
 rcases g with ⟨-,e,-⟩|⟨o,cs,e1,-,e2,e3,e4⟩
 ·omega
 ·refine⟨o,cs,e1,e2,by omega,?_⟩
  obtain⟨a,b⟩:=aBz hi
  rw[←e3,List.getElem?_take_of_lt (by omega)] at a b
  exact (aEE a b).2
end
def cV (y:Int) (l:List (Int×Bool)):List Int:=(l.filter (·.2)).map fun d=>aC y+d.1
theorem uN (y:Int) (l m:List (Int×Bool)):cV y (l++m)=cV y l++cV y m:=by unfold cV;rw[List.filter_append,List.map_append]
theorem z7 (D E T:List Int):K.dR (D++E) T=K.dR D T++K.dR E T:=by unfold K.dR;rw[List.flatMap_append]
theorem aBA {l:List (Int×Bool)} {i:Nat} {d:Int×Bool} (h:l[i]?=some d):l.take (i+1)=l.take i++[d]:=by
 rw[List.take_add_one,h];rfl
structure aIN (r:Ru) (k:Nat) (y c0:Int) (l:List (Int×Bool)) (T L:List Int):Prop where
 hG:K.GP r
 hu:r.hasUntil=true
 per:K.z5 r k L
 days:∀d∈l,0≤d.1∧d.1≤400
 ll:l.length≤400
 yr:2≤y∧y≤9999
 tim:∀t∈T,0≤t∧t<86400
 tl:T.length≤60
 c0:0≤c0∧c0≤1000000
theorem aBB {r:Ru} (h:r.hasUntil=true):(K.whole r).til=r.til:=by unfold K.whole;simp[h]
theorem z8 {y:Int} (hy:2≤y∧y≤9999):365≤aC y∧aC y≤3652059:=by
 have h1:=K.cK (show 2≤y by omega)
 have h2:=K.cK (show y≤9999 by omega)
 have e1:aC 2=365:=rfl
 have e2:aC 9999=3651694:=rfl
 omega
theorem aHt {r:Ru} {c0 c:Int} {P A:List Int} (h:K.Did r c0 P A c):A.length≤P.length:=by rw[h.eA];exact List.length_filter_le _ _
set_option maxHeartbeats 4000000 in
theorem aL8 {w0:World} {h1 h hk:aB} {rr ob:Nat} {r:Ru} {sp mo p n yd wn bw nw ho mi se ea ts:AV} {I0 I:It} {x:AV} {l:List (Int×Bool)} {T L:List Int} {k:Nat} {y:Int} (hs:qO h1 r sp mo p n yd wn bw nw ho mi se ea ts) (gi:aIN r k y I.cnt l T L) (hL:L=K.dR (cV y l) T) (s:GSt h1 h hk rr ob r sp mo p n yd wn bw nw ho mi se ea ts I0 I x l [] T) (hfy:I.fy=aC y*86400) (hfin:I.fin=false)
  (e:Env) (he:len e=1418) (g0:AL.get e 0=.ptr ob 0) (g2:AL.get e 2=.ptr rr 0) (g5:AL.get e 5=x) (fl:AV) (g6:AL.get e 6=fl) (Q:Exit→Env→aB→Prop)
  (hN:∀e' hk' I' A,len e'=1418→AL.get e' 0=.ptr ob 0→AL.get e' 2=.ptr rr 0→AL.get e' 6=fl→GSt h1 h hk' rr ob r sp mo p n yd wn bw nw ho mi se ea ts I0 I' x l A T→K.Did r I.cnt L A I'.cnt→Q .normal (mk e' []) hk')
  (hR:∀e' hk' I',ItC h1 hk' rr ob r sp mo p n yd wn bw nw ho mi se ea ts I' (K.left I.cnt (K.rest r k))→I'.fin=true→Stp h1.length rr ob I0 h I' hk'→Q .ret e' hk') :
  cB prog (CB w0) aKS (mk e []) hk Q:=by
 have hw:=gi.hG.toWP
 have hby:=z8 gi.yr
 have hyl':T.length≤60:=gi.tl
 have x1:=s.gd.one
 have hlx:lenK (some (.slice 219)) x=some (vI l.length):=by
  rcases s.gd with ⟨e1,e2,-⟩|⟨o,cs,e1,-⟩
  ·rw[e1,e2];rfl
  ·rw[e1];rfl
 conv=>
  arg 3
  whnf
 simp only[go_sem,he,g0,g2,g5,g6,hlx]
 refine bG l.length (fun k2 e hk=>len e=1418∧AL.get e 0=.ptr ob 0∧AL.get e 2=.ptr rr 0∧AL.get e 6=fl∧AL.get e 547=x∧AL.get e 548=vI l.length∧∃(i:Nat) (I':It) (A:List Int),AL.get e 549=vI i∧i+k2=l.length∧GSt h1 h hk rr ob r sp mo p n yd wn bw nw ho mi se ea ts I0 I' x l A T∧K.Did r I.cnt (K.dR (cV y (l.take i)) T) A I'.cnt∧I'.fy=I.fy∧I'.fin=false) (fun e hk=>len e=1418∧AL.get e 0=.ptr ob 0∧AL.get e 2=.ptr rr 0∧AL.get e 6=fl∧∃(I':It) (A:List Int),GSt h1 h hk rr ob r sp mo p n yd wn bw nw ho mi se ea ts I0 I' x l A T∧K.Did r I.cnt L A I'.cnt) (by kernel_rfl) ?_ ?_ ?_
 ·simp only[go_sem,he,g0,g2,g5,g6]
  exact⟨0,I,[],rfl,by omega,s,K.aHo r gi.c0.1,rfl,hfin⟩
 ·clear he g0 g2 g5 g6 s
  rintro k2 e hk ⟨he,g0,g2,g6,g547,g548,i,I',A,g549,hik,s,hd,hfy',hfin'⟩
  simp only[go_sem,he,g0,g2,g6,g547,g548,g549]
  refine aF (fun hcc=>?_) fun hcc=>?_
  ·have hcc:=odT hcc
   have hi:i<l.length:=by omega
   have hll:=gi.ll
   have wi:i64.wrap ((i:Int)+1)=((i+1:Nat):Int):=wN _ (by omega) (by omega)
   obtain⟨d,hdi⟩:∃d,l[i]?=some d:=⟨_,List.getElem?_eq_getElem hi⟩
   have hdm:=gi.days d (List.mem_of_getElem? hdi)
   have htk:=aBA hdi
   obtain⟨o,co,ex,e2,e3,e4⟩:=s.gd.days hdi
   rw[ex] at g547
   obtain⟨dn,db⟩:=d
   simp only at hdm e4
   have hal:∀(Z:aD),(hk++[Z])[hk.length]?=some Z:=fun Z=>by rw[bB];rfl
   have s2:=s.more [.own 219 [vI dn,vB db]]
   simp only[go_sem,he,g0,g2,g6,g547,g548,g549,e2,e4,hal,Int.toNat_natCast,List.replicate]
   refine⟨by omega,by omega,?_⟩
   have hxI:∀I':It,I'.rr=.ptr rr 0→I'.cells=[vI I'.year,vI I'.month,vI I'.day,vI I'.hour,vI I'.minute,vI I'.second,vI I'.weekday,.ptr rr 0,vI I'.ly,vI I'.lm,vI I'.yl,vI I'.nyl,vI I'.fy,vI 0,vI I'.yw,I'.mm,I'.mr,I'.md,I'.nmd,I'.wd,I'.wno,I'.nwd,I'.ea,I'.ts,vI I'.tot,vI I'.cnt,I'.st,I'.bk,vB I'.fin,I'.ds]:=fun I' h=>by rw[←h];rfl
   refine aF (fun hdb=>?_) fun hdb=>?_
   ·have hdb:db=false:=by simpa using hdb
    simp only[go_sem,he,g0,g2,g6,g547,g548,g549,wi]
    refine⟨k2-1,by omega,ex.symm,i+1,I',A,rfl,by omega,s2,?_,hfy',hfin'⟩
    rw[htk,uN]
    have:cV y [((dn:Int),db)]=[]:=by rw[hdb];rfl
    rw[this,List.append_nil];exact hd
   ·have hdb:db=true:=by simpa using hdb
    have hds1:cV y (l.take (i+1))=cV y (l.take i)++[aC y+dn]:=by
     rw[htk,uN,hdb];rfl
    have hob:=aZ (G:=[.own 219 [vI dn,vB db]]) s.q.obj
    rw[hxI I' s.q.ptr] at hob
    have hfyE:I'.fy=aC y*86400:=by rw[hfy',hfy]
    have hInY:InY I'.fy:=by rw[hfyE];unfold InY;omega
    have hT2:=s2.q.times hs
    have hlT:lenK (some (.slice 78)) I'.ts=some (vI T.length):=hT2.len 78
    simp only[go_sem,he,g0,g2,g6,g547,g548,g549,hal,hob]
    refine aSh (aBk I'.fy dn hInY (by omega) _) ?_
    simp only[go_sem,he,g0,g2,g6,g547,g548,g549,aA]
    have hdn:(I'.fy+dn*86400)/86400=aC y+dn:=by rw[hfyE];omega
    have hDO:=fun H=>mI (w0:=w0) (I'.fy+dn*86400) (by rw[hfyE];unfold InY;omega) H
    rw[hdn] at hDO
    refine aSh (hDO _) ?_
    obtain⟨yy,hyy⟩:∃yy,yy=aK (aC y+dn):=⟨_,rfl⟩
    obtain⟨mo',hmo'⟩:∃mo',mo'=(aL (aC y+dn)).1:=⟨_,rfl⟩
    obtain⟨dd,hdd⟩:∃dd,dd=(aL (aC y+dn)).2:=⟨_,rfl⟩
    obtain⟨c1,c2,c3,c4,c5⟩:=K.gO (n:=aC y+dn) (by omega)
    have hyr:=eW (n:=aC y+dn) (by omega)
    have hyb:=dG hyr.2.1
    rw[←hyy,←hmo',←hdd] at c5
    rw[←hyy,←hmo'] at c4
    rw[←hmo'] at c1 c2
    rw[←hdd] at c3 c4
    rw[←hyy] at hyr hyb
    rw[←hyy,←hmo',←hdd]
    have hmd:=bP yy mo'
    have hy3:yy≤10001:=by
     apply Classical.byContradiction
     intro hh
     have h1:=K.cK (show 10002≤yy by omega)
     have e1:aC 10002=3652790:=rfl
     omega
    simp only[go_sem,he,g0,g2,g6,g547,g548,g549,aA,hob,hlT]
    refine bG T.length (fun k3 e hk=>len e=1418∧AL.get e 0=.ptr ob 0∧AL.get e 2=.ptr rr 0∧AL.get e 6=fl∧AL.get e 547=x∧AL.get e 548=vI l.length∧AL.get e 549=vI i∧AL.get e 33=vI yy∧AL.get e 34=vI mo'∧AL.get e 35=vI dd∧AL.get e 573=I'.ts∧AL.get e 574=vI T.length∧∃(j:Nat) (I2:It) (A:List Int),AL.get e 575=vI j∧j+k3=T.length∧GSt h1 h hk rr ob r sp mo p n yd wn bw nw ho mi se ea ts I0 I2 x l A T∧K.Did r I.cnt (K.dR (cV y (l.take i)) T++(T.take j).map fun t=>(aC y+dn)*86400+t) A I2.cnt∧I2.fy=I.fy∧I2.fin=false∧I2.ts=I'.ts) (fun e hk=>len e=1418∧AL.get e 0=.ptr ob 0∧AL.get e 2=.ptr rr 0∧AL.get e 6=fl∧AL.get e 547=x∧AL.get e 548=vI l.length∧AL.get e 549=vI i∧∃(I2:It) (A:List Int),GSt h1 h hk rr ob r sp mo p n yd wn bw nw ho mi se ea ts I0 I2 x l A T∧K.Did r I.cnt (K.dR (cV y (l.take (i+1))) T) A I2.cnt∧I2.fy=I.fy∧I2.fin=false) (by kernel_rfl) ?_ ?_ ?_
    ·simp only[go_sem,he,g0,g2,g6,g547,g548,g549]
     exact⟨ex.symm,0,I',A,rfl,by omega,s2,by rw[List.take_zero,List.map_nil,List.append_nil];exact hd,hfy',hfin',rfl⟩
    ·clear he g0 g2 g6 g547 g548 g549 s s2 hd hob hal hfyE hInY hDO hT2 hfin' hfy' hdn
     rintro k3 e hk ⟨he,g0,g2,g6,g547,g548,g549,g33,g34,g35,g573,g574,j,I2,A,g575,hjk,s,hd,hfy2,hfin2,hts2⟩
     simp only[go_sem,he,g0,g2,g6,g547,g548,g549,g33,g34,g35,g573,g574,g575]
     refine aF (fun hcj=>?_) fun hcj=>?_
     ·have hcj:=odT hcj
      have hj:j<T.length:=by omega
      have wj:i64.wrap ((j:Int)+1)=((j+1:Nat):Int):=wN _ (by omega) (by omega)
      have hT3:=s.q.times hs
      rw[hts2] at hT3
      obtain⟨own,q0,off,ct,e1,e2,e3,e4⟩:=hT3.get hj
      have htm:=gi.tim _ (show T.getD j 0∈T by rw[List.getD_eq_getElem?_getD,List.getElem?_eq_getElem hj];exact List.getElem_mem hj)
      have htk2:=eE hj
      generalize T.getD j 0=t at e4 htm htk2
      have g573':=g573
      rw[e1] at g573
      have hal:∀(Z:aD),(hk++[Z])[hk.length]?=some Z:=fun Z=>by rw[bB];rfl
      obtain⟨res,hres⟩:∃res:Int,res=(aC y+dn)*86400+t:=⟨_,rfl⟩
      have hds:eL yy mo' dd (t%86400/3600) (t%86400/60%60) (t%86400%60)=res:=by
       rw[sA yy mo' dd ⟨c1,c2⟩,c5,hres];omega
      simp only[go_sem,he,g0,g2,g6,g547,g548,g549,g33,g34,g35,g573,g574,g575,e2,e4,hal,Int.toNat_natCast,List.replicate]
      refine⟨by omega,by omega,?_⟩
      refine aSh (lZ t (by unfold InY;omega) _) ?_
      simp only[go_sem,he,g0,g2,g6,g547,g548,g549,g33,g34,g35,g574,g575,aA]
      refine bU [180,129,128] bI (by kernel_rfl) ?_
      simp only[go_sem,he,g0,g2,g6,g547,g548,g549,g33,g34,g35,g574,g575,hal]
      refine aS (fun _=>aHh t _) ?_
      simp only[go_sem,he,g0,g2,g6,g547,g548,g549,g33,g34,g35,g574,g575,hal,aA]
      refine aS (fun _=>gX t _) ?_
      simp only[go_sem,he,g0,g2,g6,g547,g548,g549,g33,g34,g35,g574,g575,hal,aA]
      refine aS (fun _=>gZ yy mo' dd (t%86400/3600) (t%86400/60%60) (t%86400%60) 0 ⟨by omega,by omega,by omega,by omega,by omega,by omega,by omega⟩ _ rfl _) ?_
      rw[hds]
      simp only[go_sem,he,g0,g2,g6,g547,g548,g549,g33,g34,g35,g574,g575,hal,aA,List.replicate]
      obtain⟨cs,hru0,hc⟩:=s.q.rule
      obtain⟨t2,ht2,htil⟩:=hc.til
      rw[aBB gi.hu] at htil
      have hru:=aZ (G:=[.own 78 [vI t,vI 0],.own 78 [vI res,vI 0]]) hru0
      have hal2:(hk++[.own 78 [vI t,vI 0],.own 78 [vI res,vI 0]])[hk.length+1]?=some (.own 78 [vI res,vI 0]):=by
       rw[List.getElem?_append_right (by omega),Nat.add_sub_cancel_left];rfl
      have hcl:=hc.len
      have s3:=s.more [.own 78 [vI t,vI 0],.own 78 [vI res,vI 0]]
      have hst:=hw.start
      have htl:=hw.til
      have dz:decide (r.til=0)=false:=dcF (by omega)
      have dt2:decide (t2<0)=false:=dcF (by omega)
      refine bU [60,157] bI (by kernel_rfl) ?_
      simp only[go_sem,he,g0,g2,g6,g547,g548,g549,g33,g34,g35,g574,g575,hru,hcl,htil]
      refine aS (fun _=>rC r.til t2 _) ?_
      rw[dz]
      simp only[go_sem,he,g0,g2,g6,g547,g548,g549,g33,g34,g35,g574,g575,hru,hcl,htil,hal2,aA,Bool.false_and,Bool.not_false]
      refine aS (fun _=>aEN res 0 r.til t2 _) ?_
      rw[dt2,Bool.and_false,Bool.or_false]
      simp only[go_sem,he,g0,g2,g6,g547,g548,g549,g33,g34,g35,g574,g575,aA]
      have hPs:(K.dR (cV y (l.take i)) T++(T.take (j+1)).map fun t=>(aC y+dn)*86400+t)=(K.dR (cV y (l.take i)) T++(T.take j).map fun t=>(aC y+dn)*86400+t)++[res]:=by
       rw[htk2,List.map_append,List.append_assoc,hres];rfl
      have hLs:∃Q',L=(K.dR (cV y (l.take i)) T++(T.take j).map fun t=>(aC y+dn)*86400+t)++res::Q':=by
       refine⟨((T.drop (j+1)).map fun t=>(aC y+dn)*86400+t)++K.dR (cV y (l.drop (i+1))) T,?_⟩
       have e1:T.map (fun t=>(aC y+dn)*86400+t)=((T.take j).map fun t=>(aC y+dn)*86400+t)++res::((T.drop (j+1)).map fun t=>(aC y+dn)*86400+t):=by
        have e2:T=T.take j++t::T.drop (j+1):=by
         have:=(List.take_append_drop (j+1) T).symm
         rw[htk2] at this
         simpa using this
        have e3:=congrArg (List.map fun t=>(aC y+dn)*86400+t) e2
        rw[List.map_append,List.map_cons] at e3
        rw[e3,hres]
       have e4:K.dR [aC y+(dn:Int)] T=T.map fun t=>(aC y+dn)*86400+t:=by unfold K.dR;simp
       have e5:cV y l=cV y (l.take (i+1))++cV y (l.drop (i+1)):=by rw[←uN,List.take_append_drop]
       rw[hL,e5,hds1,z7,z7,e4,e1]
       simp only[List.append_assoc,List.cons_append]
      obtain⟨Q',hLs⟩:=hLs
      have hput:∀v:AV,List.take 59 cs++v::List.drop 60 cs=cs.set 59 v:=fun v=>by rw[List.set_eq_take_append_cons_drop,if_pos (by omega)]
      have hobB:=s3.q.obj
      rw[hxI I2 s3.q.ptr] at hobB
      have hne:=s3.q.ne
      generalize hk++[.own 78 [vI t,vI 0],.own 78 [vI res,vI 0]]=hB at *
      have hltB:=(List.getElem?_eq_some_iff.1 hobB).1
      have hltR:=(List.getElem?_eq_some_iff.1 hru).1
      have hO1:∀Z,(hB.set rr Z)[ob]?=hB[ob]?:=fun Z=>List.getElem?_set_ne hne
      have hO2:∀Z,(hB.set ob Z)[ob]?=some Z:=fun Z=>List.getElem?_set_self hltB
      have hO3:∀Z,(hB.set ob Z)[rr]?=some (.own 112 cs):=fun Z=>by rw[List.getElem?_set_ne (fun e=>hne e.symm)];exact hru
      refine aF (fun hct=>?_) fun hct=>?_
      ·have hct:=odT hct
       have hA:=K.aHp hw gi.per hd hLs hct
       have q1:=s3.q.setL hc (vI I2.tot)
       have q2:=q1.1.setI (I':={I2 with fin:=true}) rfl
       have hst:=(s3.stp.trans q1.2).trans q2.2
       rw[←hA] at q2
       have hfin:=fun e'=>hR e' _ _ q2.1.toItC rfl hst
       rw[hxI {I2 with fin:=true} s3.q.ptr] at hfin
       simp only[go_sem,he,g0,g2,g6,g547,g548,g549,hobB,hru,hcl,hO1]
       rw[hput]
       exact hfin _
      ·have hct:=odF hct
       simp only[go_sem,he,g0,g2,g6,g547,g548,g549]
       refine bU [158] bI (by kernel_rfl) ?_
       simp only[go_sem,he,g0,g2,g6,g547,g548,g549,g33,g34,g35,g574,g575,hru,hcl,hc.start,hal2]
       refine aS (fun _=>rJ res 0 r.start 0 _) ?_
       have d00:decide ((0:Int)<0)=false:=rfl
       rw[d00,Bool.and_false,Bool.or_false]
       simp only[go_sem,he,g0,g2,g6,g547,g548,g549,g33,g34,g35,g574,g575,aA]
       refine aF (fun hcs=>?_) fun hcs=>?_
       ·have hcs:¬res<r.start:=by simpa using hcs
        have hcnt:=K.aIK hd
        obtain⟨tt,htt⟩:∃tt:Int,tt=i64.wrap (I2.tot+1):=⟨_,rfl⟩
        have s4:=s3.setI tt I2.cnt
        have hI4:=hxI {I2 with tot:=tt,cnt:=I2.cnt} s3.q.ptr
        have hlB:=s4.q.pl
        have hAl:A.length<1000000:=by
         have:=aHt hd
         have e1:(K.dR (cV y (l.take i)) T).length=(cV y (l.take i)).length*T.length:=K.uE _ _
         have e2:(cV y (l.take i)).length≤400:=by
          unfold cV
          rw[List.length_map]
          have:=List.length_filter_le (fun d:Int×Bool=>d.2) (l.take i)
          rw[List.length_take] at this
          omega
         have e3:(cV y (l.take i)).length*T.length≤400*60:=Nat.mul_le_mul e2 gi.tl
         rw[List.length_append,List.length_map,List.length_take,e1] at this
         omega
        have hap:=aEZ (w0:=w0) {I2 with tot:=tt,cnt:=I2.cnt} ob h1.length _ s4.q.obj res A.length (bE A) s4.g (by rw[List.length_set];have:=s3.q.front;obtain⟨G,e⟩:=this;rw[e,List.length_append];omega) (by omega)
        rw[hI4] at hap s4
        simp only[go_sem,he,g0,g2,g6,g547,g548,g549,hobB,←htt]
        refine fT [] 4 bI (by kernel_rfl) (by kernel_rfl) (by kernel_rfl) ?_
        have hal3:∀Z,(hB.set ob Z)[hk.length+1]?=some (.own 78 [vI res,vI 0]):=fun Z=>by
         rw[List.getElem?_set_ne (by rintro rfl;rw[hal2] at hobB;simp at hobB)];exact hal2
        simp only[go_sem,he,g0,g2,g6,g547,g548,g549,hal3]
        refine aI hap ?_
        rintro r' h5 ⟨rfl,x',gx,hob5,hl5,hK5,hb5⟩
        have s5:=s4.app gx hob5 hl5 hK5 hb5 hAl
        have hI5:=hxI {I2 with tot:=tt,cnt:=I2.cnt,st:=x',bk:=x'} s3.q.ptr
        rw[hI5] at hob5
        have hne5:=s5.q.ne
        obtain⟨cs5,hru5,hc5⟩:=s5.q.rule
        have hput5:∀v:AV,List.take 59 cs5++v::List.drop 60 cs5=cs5.set 59 v:=fun v=>by rw[List.set_eq_take_append_cons_drop,if_pos (by rw[hc5.len];omega)]
        have hcl5:=hc5.len
        have hlt5:=(List.getElem?_eq_some_iff.1 hob5).1
        simp only[go_sem,he,g0,g2,g6,g547,g548,g549,bL,aA,hob5]
        refine aF (fun hc0=>?_) fun hc0=>?_
        ·have hc0:I2.cnt≠0:=by simpa using hc0
         have hcb:I2.cnt≤1000000:=by
          rcases hd.eC with ⟨a1,a2⟩|⟨a1,a2,a3⟩
          ·omega
          ·have:=gi.c0;omega
         have wc:i64.wrap (I2.cnt-1)=I2.cnt-1:=aJ (by omega)
         have hO5:∀Z,(h5.set ob Z)[ob]?=some Z:=fun Z=>List.getElem?_set_self hlt5
         simp only[go_sem,he,g0,g2,g6,g547,g548,g549,hob5,wc,hO5]
         have s6:=s5.setI tt (I2.cnt-1)
         have hI6:=hxI {I2 with tot:=tt,cnt:=I2.cnt-1,st:=x',bk:=x'} s3.q.ptr
         refine aF (fun hc1=>?_) fun hc1=>?_
         ·have hc1:=odT hc1
          have hA:=K.aC7 hw gi.per hd hLs (by omega) (by omega) hc0 hc1
          obtain⟨cs6,hru6,hc6⟩:=s6.q.rule
          have q1:=s6.q.setL hc6 (vI tt)
          have q2:=q1.1.setI (I':={I2 with tot:=tt,cnt:=I2.cnt-1,st:=x',bk:=x',fin:=true}) rfl
          have hst:=(s6.stp.trans q1.2).trans q2.2
          rw[←hA] at q2
          have hfin:=fun e'=>hR e' _ _ q2.1.toItC rfl hst
          rw[hxI {I2 with tot:=tt,cnt:=I2.cnt-1,st:=x',bk:=x',fin:=true} s3.q.ptr] at hfin
          rw[hI6] at hfin hru6
          have hput6:∀v:AV,List.take 59 cs6++v::List.drop 60 cs6=cs6.set 59 v:=fun v=>by rw[List.set_eq_take_append_cons_drop,if_pos (by rw[hc6.len];omega)]
          have hcl6:=hc6.len
          have hO6:∀Y Z,((h5.set ob Y).set rr Z)[ob]?=some Y:=fun Y Z=>by rw[List.getElem?_set_ne hne5];exact hO5 Y
          simp only[go_sem,he,g0,g2,g6,g547,g548,g549,hO5,hru6,hcl6,hO6]
          rw[hput6]
          exact hfin _
         ·have hc1:=odF hc1
          rw[hI6] at s6
          simp only[go_sem,he,g0,g2,g6,g547,g548,g549,g33,g34,g35,g574,g575,wj]
          refine⟨k3-1,by omega,g573',j+1,_,A++[res],rfl,by omega,s6,?_,hfy2,hfin2,hts2⟩
          have:=hd.take (show res≤r.til by omega) (by omega) (.inr hc1)
          rw[if_neg hc0] at this
          rw[hPs];exact this
        ·have hc0:I2.cnt=0:=by simpa using hc0
         simp only[go_sem,he,g0,g2,g6,g547,g548,g549,g33,g34,g35,g574,g575,wj]
         refine⟨k3-1,by omega,g573',j+1,_,A++[res],rfl,by omega,s5,?_,hfy2,hfin2,hts2⟩
         have:=hd.take (show res≤r.til by omega) (by omega) (.inl hc0)
         rw[if_pos hc0] at this
         rw[hPs,hc0];exact this
       ·have hcs:res<r.start:=by simpa using hcs
        simp only[go_sem,he,g0,g2,g6,g547,g548,g549,g33,g34,g35,g574,g575,wj]
        exact⟨k3-1,by omega,g573',j+1,I2,A,rfl,by omega,s3,by rw[hPs];exact hd.skip (by omega) hcs,hfy2,hfin2,hts2⟩
     ·have hcj:=odF hcj
      obtain rfl:j=T.length:=by omega
      rw[List.take_length] at hd
      simp only[go_sem,he,g0,g2,g6,g547,g548,g549]
      refine⟨I2,A,s,?_,hfy2,hfin2⟩
      rw[hds1,z7]
      have:K.dR [aC y+(dn:Int)] T=T.map fun t=>(aC y+dn)*86400+t:=by unfold K.dR;simp
      rw[this];exact hd
    ·clear he g0 g2 g6 g547 g548 g549
     rintro e hk ⟨he,g0,g2,g6,g547,g548,g549,I2,A,s,hd,hfy',hfin'⟩
     simp only[go_sem,he,g0,g2,g6,g547,g548,g549,wi]
     exact⟨k2-1,by omega,i+1,I2,A,rfl,by omega,s,hd,hfy',hfin'⟩
  ·have hcc:=odF hcc
   obtain rfl:i=l.length:=by omega
   rw[List.take_length,←hL] at hd
   simp only[go_sem,he,g0,g2,g6]
   exact⟨I',A,s,hd⟩
 ·clear he g0 g2 g5 g6 s
  rintro e hk ⟨he,g0,g2,g6,I',A,s,hd⟩
  exact hN e hk I' A he g0 g2 g6 s hd
theorem aKU {w0:World} (H:aB):aH prog (CB w0) 130 [.ifc 177 aP] H fun r H'=>r=.tup []∧H'=H:=by
 have mN : rQ prog 177 "Len" = some 258 := by kernel_rfl
 have hl:aH prog (CB w0) 258 [aP] H fun r H'=>r=vI (0:Nat)∧H'=H:=by
  refine aSi (N:=5) (rs:=[.tmp 2]) Tryz.func258 ?_
  rintro e he ⟨g0,-⟩
  have hl0:lenK (some (.slice 78)) aP=some (vI (0:Nat)):=rfl
  simp only[go_sem,he,g0,hl0]
 refine aSi (N:=15) (rs:=[]) Tryz.func130 ?_
 rintro e he ⟨g0,-⟩
 simp only[go_sem,he,g0,mN]
 refine aG hl (List.prefix_refl _) ?_
 have d1:decide (((0:Nat):Int)≤1)=true:=rfl
 simp only[go_sem,he,g0,aA,d1]
theorem aIO (y:Int) (l:List (Int×Bool)):(cV y l).length=(l.filter (·.2)).length:=List.length_map _
theorem aIP (y:Int) (l:List (Int×Bool)) (j:Nat) (hj:j<(l.filter (·.2)).length):(cV y l).getD j 0=aC y+((l.filter (·.2)).map (·.1)).getD j 0:=by
 unfold cV
 rw[List.getD_eq_getElem?_getD,List.getD_eq_getElem?_getD,List.getElem?_map,List.getElem?_map,List.getElem?_eq_getElem hj]
 rfl
set_option maxHeartbeats 4000000 in
theorem aL9 {w0:World} {h1 h hk:aB} {rr ob:Nat} {r:Ru} {sp mo p n yd wn bw nw ho mi se ea ts:AV} {I0 I:It} {x:AV} {l:List (Int×Bool)} {T L:List Int} {k:Nat} {y:Int} (hs:qO h1 r sp mo p n yd wn bw nw ho mi se ea ts) (gi:aIN r k y I.cnt l T L) (hL:L=K.dU (K.dR (cV y l) T) r.setPos) (hasc:K.Asc (K.dR (cV y l) T)) (hsp0:r.setPos≠[]) (hT0:T≠[]) (s:GSt h1 h hk rr ob r sp mo p n yd wn bw nw ho mi se ea ts I0 I x l [] T) (hfy:I.fy=aC y*86400) (hfin:I.fin=false)
  (e:Env) (he:len e=1418) (g0:AL.get e 0=.ptr ob 0) (g2:AL.get e 2=.ptr rr 0) (g5:AL.get e 5=x) (fl:AV) (g6:AL.get e 6=fl) (Q:Exit→Env→aB→Prop)
  (hN:∀e' hk' I' A,len e'=1418→AL.get e' 0=.ptr ob 0→AL.get e' 2=.ptr rr 0→AL.get e' 6=fl→GSt h1 h hk' rr ob r sp mo p n yd wn bw nw ho mi se ea ts I0 I' x l A T→K.Did r I.cnt L A I'.cnt→Q .normal (mk e' []) hk')
  (hR:∀e' hk' I',ItC h1 hk' rr ob r sp mo p n yd wn bw nw ho mi se ea ts I' (K.left I.cnt (K.rest r k))→I'.fin=true→Stp h1.length rr ob I0 h I' hk'→Q .ret e' hk') :
  cB prog (CB w0) aKR (mk e []) hk Q:=by
 have hw:=gi.hG.toWP
 have hby:=z8 gi.yr
 have x1:=s.gd.one
 have hTl:=gi.tl
 have hTp:0<T.length:=List.length_pos_iff.2 hT0
 have hll:=gi.ll
 have hlx:lenK (some (.slice 219)) x=some (vI l.length):=by
  rcases s.gd with ⟨e1,e2,-⟩|⟨o,cs,e1,-⟩
  ·rw[e1,e2];rfl
  ·rw[e1];rfl
 have hspl:=gi.hG.lens.1
 have hfr:=s.q.front
 have hSP:∀G:aB,aQ (hk++G) sp r.setPos:=fun G=>by
  obtain⟨G0,e⟩:=hfr
  rw[e,List.append_assoc];exact hs.sp.more _
 have hlsp:lenK (some (.slice 3)) sp=some (vI r.setPos.length):=hs.sp.len 3
 have sp1:=hs.sp.one
 obtain⟨cs,hru0,hc⟩:=s.q.rule
 have hru:∀G:aB,(hk++G)[rr]?=some (.own 112 cs):=fun G=>aZ hru0
 have hcl:=hc.len
 have hxI:∀I':It,I'.rr=.ptr rr 0→I'.cells=[vI I'.year,vI I'.month,vI I'.day,vI I'.hour,vI I'.minute,vI I'.second,vI I'.weekday,.ptr rr 0,vI I'.ly,vI I'.lm,vI I'.yl,vI I'.nyl,vI I'.fy,vI 0,vI I'.yw,I'.mm,I'.mr,I'.md,I'.nmd,I'.wd,I'.wno,I'.nwd,I'.ea,I'.ts,vI I'.tot,vI I'.cnt,I'.st,I'.bk,vB I'.fin,I'.ds]:=fun I' h=>by rw[←h];rfl
 have hob0:=s.q.obj
 rw[hxI I s.q.ptr] at hob0
 have hob:∀G:aB,(hk++G)[ob]?=_:=fun G=>aZ hob0
 have hTT:∀G:aB,d9 (hk++G) I.ts T:=fun G=>(s.q.times hs).more G
 have hlT:lenK (some (.slice 78)) I.ts=some (vI T.length):=(s.q.times hs).len 78
 have ts1:=(s.q.times hs).one
 obtain⟨D,hD⟩:∃D,D=cV y l:=⟨_,rfl⟩
 rw[←hD] at hL hasc
 obtain⟨tm,htm⟩:∃tm:List Int,tm=(l.filter (·.2)).map (·.1):=⟨_,rfl⟩
 have hDl:D.length=tm.length:=by rw[hD,aIO,htm,List.length_map]
 conv=>
  arg 3
  whnf
 have hru1:=hru []
 rw[List.append_nil] at hru1
 simp only[go_sem,he,g0,g2,g5,g6,hru1,hcl,hc.setPos,hlsp]
 refine bG r.setPos.length (fun k2 e hk'=>len e=1418∧AL.get e 0=.ptr ob 0∧AL.get e 2=.ptr rr 0∧AL.get e 5=x∧AL.get e 6=fl∧AL.get e 371=sp∧AL.get e 372=vI r.setPos.length∧∃(i:Nat) (xp:AV) (Gn:aB) (PL:List Int),AL.get e 373=vI i∧i+k2=r.setPos.length∧AL.get e 10=xp∧hk'=hk++Gn∧GrN 78 2 hk (hk++Gn) xp PL.length (bE PL)∧K.sB D T (r.setPos.take i) PL∧PL.length≤i) (fun e hk'=>len e=1418∧AL.get e 0=.ptr ob 0∧AL.get e 2=.ptr rr 0∧AL.get e 6=fl∧∃(xp:AV) (Gn:aB) (PL:List Int),AL.get e 10=xp∧hk'=hk++Gn∧GrN 78 2 hk (hk++Gn) xp PL.length (bE PL)∧K.sB D T r.setPos PL∧PL.length≤12) (by kernel_rfl) ?_ ?_ ?_
 ·simp only[go_sem,he,g0,g2,g5,g6]
  exact⟨0,aP,[],[],rfl,by omega,rfl,(List.append_nil _).symm,by rw[List.append_nil];exact GrN.nil ⟨[],(List.append_nil _).symm⟩,K.aL7 D T,Nat.le_refl _⟩
 ·clear he g0 g2 g5 g6
  rintro k2 e hk' ⟨he,g0,g2,g5,g6,g371,g372,i,xp,Gn,PL,g373,hik,g10,rfl,hgr,hpos,hpl⟩
  simp only[go_sem,he,g0,g2,g5,g6,g371,g372,g373,g10]
  refine aF (fun hcc=>?_) fun hcc=>?_
  ·have hcc:=odT hcc
   have hi:i<r.setPos.length:=by omega
   have wi:i64.wrap ((i:Int)+1)=((i+1:Nat):Int):=wN _ (by omega) (by omega)
   obtain⟨own,q,off,cs2,e1,e2,e3⟩:=(hSP Gn).get hi
   have hpm:=gi.hG.setPos _ (show r.setPos.getD i 0∈r.setPos by rw[List.getD_eq_getElem?_getD,List.getElem?_eq_getElem hi];exact List.getElem_mem hi)
   have htk:=eE hi
   generalize r.setPos.getD i 0=pos at e3 hpm htk
   have g371':=g371
   rw[e1] at g371
   obtain⟨dp,hdp⟩:∃dp,dp=K.bS T.length pos:=⟨_,rfl⟩
   obtain⟨tp,htp⟩:∃tp,tp=K.iK T.length pos:=⟨_,rfl⟩
   simp only[go_sem,he,g0,g2,g5,g6,g371,g372,g373,g10,e2,e3,Int.toNat_natCast]
   refine⟨by omega,?_⟩
   refine bC (fun e hk'=>len e=1418∧AL.get e 0=.ptr ob 0∧AL.get e 2=.ptr rr 0∧AL.get e 5=x∧AL.get e 6=fl∧AL.get e 371=sp∧AL.get e 372=vI r.setPos.length∧AL.get e 373=vI i∧AL.get e 10=xp∧AL.get e 13=vI dp∧AL.get e 14=vI tp∧hk'=hk++Gn) (fun hn=>?_) (fun hn=>?_) ?_
   ·have hn:=odT hn
    simp only[go_sem,he,g0,g2,g5,g6,g371,g372,g373,g10,hob,hlT]
    refine aSh (i4 pos T.length (by omega) (by omega) _) ?_
    simp only[go_sem,he,g0,g2,g5,g6,g371,g372,g373,g10,aA]
    unfold K.bS at hdp
    unfold K.iK at htp
    rw[if_pos hn] at hdp htp
    rw[hdp,htp]
    exact⟨e1.symm,rfl,rfl⟩
   ·have hn:=odF hn
    have w1:i64.wrap (pos-1)=pos-1:=aJ (by omega)
    simp only[go_sem,he,g0,g2,g5,g6,g371,g372,g373,g10,hob,hlT,w1]
    refine aSh (i4 (pos-1) T.length (by omega) (by omega) _) ?_
    simp only[go_sem,he,g0,g2,g5,g6,g371,g372,g373,g10,aA]
    unfold K.bS at hdp
    unfold K.iK at htp
    rw[if_neg hn] at hdp htp
    rw[hdp,htp]
    exact⟨e1.symm,rfl,rfl⟩
   clear he g0 g2 g5 g6 g371 g372 g373 g10
   rintro e hk' ⟨he,g0,g2,g5,g6,g371,g372,g373,g10,g13,g14,rfl⟩
   simp only[go_sem,he,g0,g2,g5,g6,g371,g372,g373,g10,g13,g14,hlx]
   refine bG l.length (fun k3 e hk'=>len e=1418∧AL.get e 0=.ptr ob 0∧AL.get e 2=.ptr rr 0∧AL.get e 5=x∧AL.get e 6=fl∧AL.get e 371=sp∧AL.get e 372=vI r.setPos.length∧AL.get e 373=vI i∧AL.get e 10=xp∧AL.get e 13=vI dp∧AL.get e 14=vI tp∧AL.get e 400=x∧AL.get e 401=vI l.length∧∃(j:Nat) (xt:AV) (Gn:aB),AL.get e 402=vI j∧j+k3=l.length∧AL.get e 15=xt∧hk'=hk++Gn∧GrN 78 2 hk (hk++Gn) xp PL.length (bE PL)∧GrN 3 1 hk (hk++Gn) xt (((l.take j).filter (·.2)).map (·.1)).length ((((l.take j).filter (·.2)).map (·.1)).map vI)∧Sep xt xp) (fun e hk'=>len e=1418∧AL.get e 0=.ptr ob 0∧AL.get e 2=.ptr rr 0∧AL.get e 5=x∧AL.get e 6=fl∧AL.get e 371=sp∧AL.get e 372=vI r.setPos.length∧AL.get e 373=vI i∧AL.get e 10=xp∧AL.get e 13=vI dp∧AL.get e 14=vI tp∧∃(xt:AV) (Gn:aB),AL.get e 15=xt∧hk'=hk++Gn∧GrN 78 2 hk (hk++Gn) xp PL.length (bE PL)∧GrN 3 1 hk (hk++Gn) xt tm.length (tm.map vI)) (by kernel_rfl) ?_ ?_ ?_
   ·simp only[go_sem,he,g0,g2,g5,g6,g371,g372,g373,g10,g13,g14]
    exact⟨0,aP,Gn,rfl,by omega,rfl,rfl,hgr,GrN.nil ⟨Gn,rfl⟩,Sep.nilL⟩
   ·clear he g0 g2 g5 g6 g371 g372 g373 g10 g13 g14 hgr
    rintro k3 e hk' ⟨he,g0,g2,g5,g6,g371,g372,g373,g10,g13,g14,g400,g401,j,xt,Gn,g402,hjk,g15,rfl,hgr,hgt,hsep⟩
    simp only[go_sem,he,g0,g2,g5,g6,g371,g372,g373,g10,g13,g14,g400,g401,g402,g15]
    refine aF (fun hcj=>?_) fun hcj=>?_
    ·have hcj:=odT hcj
     have hj:j<l.length:=by omega
     have wj:i64.wrap ((j:Int)+1)=((j+1:Nat):Int):=wN _ (by omega) (by omega)
     obtain⟨d,hdj⟩:∃d,l[j]?=some d:=⟨_,List.getElem?_eq_getElem hj⟩
     have htk2:=aBA hdj
     obtain⟨o,co,ex,y2,y3,y4⟩:=(s.more Gn).gd.days hdj
     have g400':=g400
     rw[ex] at g400
     obtain⟨dn,db⟩:=d
     simp only at y4
     have hal:∀(Z:aD) (G:aB),(hk++(Gn++(Z::G)))[hk.length+Gn.length]?=some Z:=fun Z G=>by
      rw[←List.append_assoc,List.getElem?_append_right (by rw[List.length_append];omega),List.length_append,Nat.sub_self];rfl
     simp only[go_sem,he,g0,g2,g5,g6,g371,g372,g373,g10,g13,g14,g400,g401,g402,g15,y2,y4,hal,Int.toNat_natCast,List.replicate]
     refine⟨by omega,by omega,?_⟩
     have gr2:=hgr.more [.own 219 [vI dn,vB db]]
     have gt2:=hgt.more [.own 219 [vI dn,vB db]]
     rw[List.append_assoc] at gr2 gt2
     refine aF (fun hdb=>?_) fun hdb=>?_
     ·have hdb:db=true:=hdb
      obtain⟨x',Gn',ha,hx',-,hoth⟩:=push2 mW (by decide) gt2 (c:=[vI dn]) rfl rfl (by rw[List.length_map];have:=List.length_filter_le (fun d:Int×Bool=>d.2) (l.take j);rw[List.length_take] at this;omega)
      obtain⟨gr3,hsep3⟩:=hoth hsep gr2
      have q1:=hx'.one
      simp only[List.length_append,List.length_cons,List.length_nil,List.append_assoc,List.cons_append,List.nil_append] at ha
      simp only[go_sem,he,g0,g2,g5,g6,g371,g372,g373,g10,g13,g14,g400,g401,g402,g15,hal,ha,aN q1,wj]
      refine⟨k3-1,by omega,ex.symm,j+1,x',Gn',rfl,by omega,rfl,rfl,gr3,?_,hsep3⟩
      have e9:((l.take (j+1)).filter (fun d:Int×Bool=>d.2)).map (fun d=>d.1)=((l.take j).filter (fun d:Int×Bool=>d.2)).map (fun d=>d.1)++[(dn:Int)]:=by
       rw[htk2,List.filter_append,List.map_append,hdb];rfl
      rw[e9,List.length_append,List.map_append]
      exact hx'
     ·have hdb:db=false:=hdb
      simp only[go_sem,he,g0,g2,g5,g6,g371,g372,g373,g10,g13,g14,g400,g401,g402,g15,wj]
      refine⟨k3-1,by omega,ex.symm,j+1,xt,_,rfl,by omega,rfl,rfl,gr2,?_,hsep⟩
      rw[htk2,List.filter_append]
      have:List.filter (fun d:Int×Bool=>d.2) [((dn:Int),db)]=[]:=by rw[hdb];rfl
      rw[this,List.append_nil];exact gt2
    ·have hcj:=odF hcj
     obtain rfl:j=l.length:=by omega
     rw[List.take_length,←htm] at hgt
     simp only[go_sem,he,g0,g2,g5,g6,g371,g372,g373,g10,g13,g14,g15]
     exact⟨xt,Gn,rfl,rfl,hgr,hgt⟩
   ·clear he g0 g2 g5 g6 g371 g372 g373 g10 g13 g14 hgr
    rintro e hk' ⟨he,g0,g2,g5,g6,g371,g372,g373,g10,g13,g14,xt,Gn,g15,rfl,hgr,hgt⟩
    simp only[go_sem,he,g0,g2,g5,g6,g371,g372,g373,g10,g13,g14,g15]
    have htl:tm.length≤400:=by
     rw[htm,List.length_map]
     have:=List.length_filter_le (fun d:Int×Bool=>d.2) l
     omega
    have hcz:(T.length:Int)≠0:=by omega
    have hdpb:-400≤dp∧dp≤400:=by
     rw[hdp]
     unfold K.bS
     have hb:=jD (if pos<0 then pos else pos-1) T.length (by omega)
     have h3:-400≤(if pos<0 then pos else pos-1)∧(if pos<0 then pos else pos-1)≤400:=by split<;>omega
     generalize (if pos<0 then pos else pos-1)=P0 at *
     by_cases h0:0≤P0
     ·have:=hb.1 h0;omega
     ·have:=hb.2 (by omega);omega
    have htpb:0≤tp∧tp<T.length:=by
     rw[htp]
     unfold K.iK
     exact⟨Int.emod_nonneg _ hcz,Int.emod_lt_of_pos _ (by omega)⟩
    obtain⟨ix,hix⟩:∃ix:Int,ix=if dp<0 then dp+tm.length else dp:=⟨_,rfl⟩
    have hps:=aPo (w0:=w0) tm (by omega) dp (by omega) xt (hk++Gn) hgt.ints
    rw[←hix] at hps
    refine aG hps (List.prefix_refl _) ?_
    by_cases hin:0≤ix∧ix<tm.length
    ·rw[if_pos hin]
     simp only[go_sem,he,g0,g2,g5,g6,g371,g372,g373,g10,g13,g14,g15,aA]
     have hTn:tp.toNat<T.length:=by omega
     obtain⟨own2,q2,off2,ct,y1,y2,y3,y4⟩:=(hTT Gn).get hTn
     have htmm:=gi.tim _ (show T.getD tp.toNat 0∈T by rw[List.getD_eq_getElem?_getD,List.getElem?_eq_getElem hTn];exact List.getElem_mem hTn)
     obtain⟨t,ht⟩:∃t,t=T.getD tp.toNat 0:=⟨_,rfl⟩
     rw[←ht] at y4 htmm
     have hixn:ix.toNat<tm.length:=by omega
     obtain⟨dn,hdn⟩:∃dn,dn=tm.getD ix.toNat 0:=⟨_,rfl⟩
     rw[←hdn]
     have hdnm:0≤dn∧dn≤400:=by
      have:dn∈tm:=by rw[hdn,List.getD_eq_getElem?_getD,List.getElem?_eq_getElem hixn];exact List.getElem_mem hixn
      rw[htm] at this
      obtain⟨d,hd1,rfl⟩:=List.mem_map.1 this
      exact gi.days d (List.mem_filter.1 hd1).1
     obtain⟨res,hres⟩:∃res:Int,res=(aC y+dn)*86400+t:=⟨_,rfl⟩
     have hob1:=hob Gn
     rw[y1] at hob1
     have hal:∀(Z:aD) (G:aB),(hk++(Gn++(Z::G)))[hk.length+Gn.length]?=some Z:=fun Z G=>by
      rw[←List.append_assoc,List.getElem?_append_right (by rw[List.length_append];omega),List.length_append,Nat.sub_self];rfl
     have hob2:=hob (Gn++[.own 78 [vI t,vI 0]])
     have hInY:InY I.fy:=by rw[hfy];unfold InY;omega
     simp only[go_sem,he,g0,g2,g5,g6,g371,g372,g373,g10,g13,g14,g15,hob1,y2,y4,hal,List.replicate]
     refine⟨by omega,by omega,?_⟩
     rw[←y1]
     simp only[go_sem,he,g0,g2,g5,g6,g371,g372,g373,g10,g13,g14,g15,hob2]
     refine aSh (aBk I.fy dn hInY (by omega) _) ?_
     simp only[go_sem,he,g0,g2,g5,g6,g371,g372,g373,g10,g13,g14,g15,aA]
     have hdnE:(I.fy+dn*86400)/86400=aC y+dn:=by rw[hfy];omega
     have hDO:=fun H=>mI (w0:=w0) (I.fy+dn*86400) (by rw[hfy];unfold InY;omega) H
     rw[hdnE] at hDO
     refine aSh (hDO _) ?_
     obtain⟨yy,hyy⟩:∃yy,yy=aK (aC y+dn):=⟨_,rfl⟩
     obtain⟨mo',hmo'⟩:∃mo',mo'=(aL (aC y+dn)).1:=⟨_,rfl⟩
     obtain⟨dd,hdd⟩:∃dd,dd=(aL (aC y+dn)).2:=⟨_,rfl⟩
     obtain⟨c1,c2,c3,c4,c5⟩:=K.gO (n:=aC y+dn) (by omega)
     have hyr:=eW (n:=aC y+dn) (by omega)
     have hyb:=dG hyr.2.1
     rw[←hyy,←hmo',←hdd] at c5
     rw[←hyy,←hmo'] at c4
     rw[←hmo'] at c1 c2
     rw[←hdd] at c3 c4
     rw[←hyy] at hyr hyb
     rw[←hyy,←hmo',←hdd]
     have hmd:=bP yy mo'
     have hy3:yy≤10001:=by
      apply Classical.byContradiction
      intro hh
      have h1:=K.cK (show 10002≤yy by omega)
      have e1:aC 10002=3652790:=rfl
      omega
     have hds:eL yy mo' dd (t%86400/3600) (t%86400/60%60) (t%86400%60)=res:=by
      rw[sA yy mo' dd ⟨c1,c2⟩,c5,hres];omega
     simp only[go_sem,he,g0,g2,g5,g6,g371,g372,g373,g10,g13,g14,g15,aA,hal]
     refine aSh (lZ t (by unfold InY;omega) _) ?_
     simp only[go_sem,he,g0,g2,g5,g6,g371,g372,g373,g10,g13,g14,g15,aA]
     refine bU [180,129,128] bI (by kernel_rfl) ?_
     simp only[go_sem,he,g0,g2,g5,g6,g371,g372,g373,g10,g13,g14,g15,hal]
     refine aS (fun _=>aHh t _) ?_
     simp only[go_sem,he,g0,g2,g5,g6,g371,g372,g373,g10,g13,g14,g15,hal,aA]
     refine aS (fun _=>gX t _) ?_
     simp only[go_sem,he,g0,g2,g5,g6,g371,g372,g373,g10,g13,g14,g15,hal,aA]
     refine aS (fun _=>gZ yy mo' dd (t%86400/3600) (t%86400/60%60) (t%86400%60) 0 ⟨by omega,by omega,by omega,by omega,by omega,by omega,by omega⟩ _ rfl _) ?_
     rw[hds]
     have hal2:∀(Z Z2:aD) (G:aB),(hk++(Gn++(Z::Z2::G)))[hk.length+(Gn.length+1)]?=some Z2:=fun Z Z2 G=>by
      rw[←List.append_assoc,List.getElem?_append_right (by rw[List.length_append];omega),List.length_append,show hk.length+(Gn.length+1)-(hk.length+Gn.length)=1 by omega];rfl
     simp only[go_sem,he,g0,g2,g5,g6,g371,g372,g373,g10,g13,g14,g15,hal,hal2,aA,List.replicate]
     have gr2:=hgr.more [.own 78 [vI t,vI 0],.own 78 [vI res,vI 0]]
     rw[List.append_assoc] at gr2
     have htc:d9 (hk++(Gn++[.own 78 [vI t,vI 0],.own 78 [vI res,vI 0]])) xp PL:=by
      have:=gr2
      rw[aEX] at this
      exact this.days
     refine aSh (aBY PL (by omega) res xp _ htc) ?_
     have hin2:0≤(if K.bS T.length pos<0 then K.bS T.length pos+D.length else K.bS T.length pos)∧(if K.bS T.length pos<0 then K.bS T.length pos+D.length else K.bS T.length pos)<D.length:=by
      rw[←hdp,hDl,←hix];exact hin
     have hval:res=D.getD (if K.bS T.length pos<0 then K.bS T.length pos+D.length else K.bS T.length pos).toNat 0*86400+T.getD (K.iK T.length pos).toNat 0:=by
      rw[←hdp,←htp,hDl,←hix,←ht,hres,hdn,hD,aIP y l _ (by rw[htm,List.length_map] at hixn;exact hixn),←htm]
     have hpush:=hpos.push hin2 hval
     rw[←htk] at hpush
     simp only[go_sem,he,g0,g2,g5,g6,g371,g372,g373,g10,g13,g14,g15,aA]
     refine aF (fun hcn=>?_) fun hcn=>?_
     ·have hcn:res∉PL:=by simpa using hcn
      rw[if_neg hcn] at hpush
      obtain⟨x',Gn',ha,hx',-,-⟩:=push2 vW (by decide) gr2 (c:=[vI res,vI 0]) rfl rfl (by omega)
      have q1:=hx'.one
      simp only[List.length_append,List.length_cons,List.length_nil,List.append_assoc,List.cons_append,List.nil_append] at ha
      simp only[go_sem,he,g0,g2,g5,g6,g371,g372,g373,g10,g13,g14,g15,hal,hal2,ha,aN q1,wi]
      refine⟨k2-1,by omega,i+1,x',Gn',PL++[res],rfl,by omega,rfl,rfl,?_,hpush,by rw[List.length_append];simp;omega⟩
      rw[List.length_append,kZ];exact hx'
     ·have hcn:res∈PL:=by simpa using hcn
      rw[if_pos hcn] at hpush
      simp only[go_sem,he,g0,g2,g5,g6,g371,g372,g373,g10,g13,g14,g15,wi]
      exact⟨k2-1,by omega,i+1,xp,_,PL,rfl,by omega,rfl,rfl,gr2,hpush,by omega⟩
    ·rw[if_neg hin]
     simp only[go_sem,he,g0,g2,g5,g6,g371,g372,g373,g10,g13,g14,g15,aA,wi]
     refine⟨k2-1,by omega,i+1,xp,Gn,PL,rfl,by omega,rfl,rfl,hgr,?_,by omega⟩
     rw[htk]
     refine hpos.skip fun hin2=>hin ?_
     rw[←hdp,hDl,←hix] at hin2
     exact hin2
  ·have hcc:=odF hcc
   obtain rfl:i=r.setPos.length:=by omega
   rw[List.take_length] at hpos
   simp only[go_sem,he,g0,g2,g6,g10]
   exact⟨xp,Gn,PL,rfl,rfl,hgr,hpos,by omega⟩
 ·clear he g0 g2 g5 g6
  rintro e hk' ⟨he,g0,g2,g6,xp,Gn,PL,g10,rfl,hgr,hpos,hpl⟩
  have hms:=K.aFE hTp hsp0 (fun p hp=>(gi.hG.setPos p hp).2.2) hasc hpos
  rw[←hL] at hms
  have hLl:L.length=PL.length:=by rw[←hms,jJ]
  simp only[go_sem,he,g0,g2,g6,g10]
  refine tZ (fun e hk'=>len e=1418∧AL.get e 0=.ptr ob 0∧AL.get e 2=.ptr rr 0∧AL.get e 6=fl∧AL.get e 10=xp∧GSt h1 h hk' rr ob r sp mo p n yd wn bw nw ho mi se ea ts I0 I x l [] T∧((xp=aP∧L=[])∨∃o,xp=.sl true o 0 L.length 2∧hk'[o]?=some (.own 78 (bE L))∧¬blk I.st o)) ?_ ?_
  ·rcases hgr.2.2 with ⟨e1,e2⟩|⟨o,e1,e2,e3⟩
   ·have hP0:PL=[]:=List.length_eq_zero_iff.1 e2
    have hL0:L=[]:=List.length_eq_zero_iff.1 (by omega)
    rw[e1]
    refine aSh (aKU _) ?_
    simp only[go_sem,he,g0,g2,g6,g10,e1,bL,aA]
    exact⟨s.more Gn,.inl hL0⟩
   ·have hsr:=r5 (w0:=w0) (hk++Gn) o PL (by omega) e2
    rw[hms] at hsr
    rw[e1]
    refine aI hsr ?_
    rintro r' hk' ⟨rfl,rfl⟩
    simp only[go_sem,he,g0,g2,g6,g10,e1,bL,aA]
    have hlt:=(List.getElem?_eq_some_iff.1 e2).1
    have hse:(hk++Gn).set o (.own 78 (bE L))=hk++Gn.set (o-hk.length) (.own 78 (bE L)):=List.set_append_right _ _ e3
    rw[hse]
    refine⟨s.more _,.inr ⟨o,by rw[hLl],?_,fun hb=>?_⟩⟩
    ·rw[←hse,List.getElem?_set_self hlt]
    ·have:=(s.g.low hb).2.1;omega
  clear he g0 g2 g6 g10 hgr hpos
  rintro e hk2 ⟨he,g0,g2,g6,g10,s,hxp⟩
  have xp1:xp.one=true:=by
   rcases hxp with ⟨e1,-⟩|⟨o,e1,-⟩<;>rw[e1]<;>rfl
  have hlX:lenK (some (.slice 78)) xp=some (vI L.length):=by
   rcases hxp with ⟨e1,e2⟩|⟨o,e1,-⟩
   ·rw[e1,e2];rfl
   ·rw[e1];rfl
  simp only[go_sem,he,g0,g2,g6,g10,hlX]
  refine bG L.length (fun k3 e hk=>len e=1418∧AL.get e 0=.ptr ob 0∧AL.get e 2=.ptr rr 0∧AL.get e 6=fl∧AL.get e 470=xp∧AL.get e 471=vI L.length∧∃(j:Nat) (I2:It) (A:List Int),AL.get e 472=vI j∧j+k3=L.length∧GSt h1 h hk rr ob r sp mo p n yd wn bw nw ho mi se ea ts I0 I2 x l A T∧K.Did r I.cnt (L.take j) A I2.cnt∧I2.fin=false∧((xp=aP∧L=[])∨∃o,xp=.sl true o 0 L.length 2∧hk[o]?=some (.own 78 (bE L))∧¬blk I2.st o)) (fun e hk=>len e=1418∧AL.get e 0=.ptr ob 0∧AL.get e 2=.ptr rr 0∧AL.get e 6=fl∧∃(I2:It) (A:List Int),GSt h1 h hk rr ob r sp mo p n yd wn bw nw ho mi se ea ts I0 I2 x l A T∧K.Did r I.cnt L A I2.cnt) (by kernel_rfl) ?_ ?_ ?_
  ·simp only[go_sem,he,g0,g2,g6]
   exact⟨0,I,[],rfl,by omega,s,K.aHo r gi.c0.1,hfin,hxp⟩
  ·clear he g0 g2 g6 g10 s hxp
   rintro k3 e hk ⟨he,g0,g2,g6,g470,g471,j,I2,A,g472,hjk,s,hd,hfin2,hxp⟩
   simp only[go_sem,he,g0,g2,g6,g470,g471,g472]
   refine aF (fun hcj=>?_) fun hcj=>?_
   ·have hcj:=odT hcj
    have hj:j<L.length:=by omega
    have wj:i64.wrap ((j:Int)+1)=((j+1:Nat):Int):=wN _ (by omega) (by omega)
    rcases hxp with ⟨-,e2⟩|⟨o,ex,hxo,hnb⟩
    ·rw[e2] at hj;simp at hj
    obtain⟨own,q0,off,ct,e1,e2,e3,e4⟩:=(wQ hxo).get hj
    have e1':=e1
    simp only[AV.sl.injEq] at e1
    obtain⟨rfl,rfl,rfl,-,-⟩:=e1
    rw[Nat.zero_add] at e3 e4
    have htk2:=eE hj
    have hLd:L=L.take j++L.getD j 0::L.drop (j+1):=by
     have:=(List.take_append_drop (j+1) L).symm
     rw[htk2] at this
     simpa using this
    have hrm:L.getD j 0∈L:=by rw[List.getD_eq_getElem?_getD,List.getElem?_eq_getElem hj];exact List.getElem_mem hj
    generalize L.getD j 0=res at e4 htk2 hLd hrm
    rw[ex] at g470
    have hal:∀(Z:aD),(hk++[Z])[hk.length]?=some Z:=fun Z=>by rw[bB];rfl
    simp only[go_sem,he,g0,g2,g6,g470,g471,g472,e2,e4,hal,Int.toNat_natCast,List.replicate]
    refine⟨by omega,by omega,?_⟩
    obtain⟨cs,hru0,hc⟩:=s.q.rule
    obtain⟨t2,ht2,htil⟩:=hc.til
    rw[aBB gi.hu] at htil
    have hru:=aZ (G:=[.own 78 [vI res,vI 0]]) hru0
    have hal2:(hk++[.own 78 [vI res,vI 0]])[hk.length]?=some (.own 78 [vI res,vI 0]):=hal _
    have hxoB:=aZ (G:=[.own 78 [vI res,vI 0]]) hxo
    have hcl:=hc.len
    have s3:=s.more [.own 78 [vI res,vI 0]]
    have hst:=hw.start
    have htl:=hw.til
    have dz:decide (r.til=0)=false:=dcF (by omega)
    have dt2:decide (t2<0)=false:=dcF (by omega)
    refine bU [60,157] bI (by kernel_rfl) ?_
    simp only[go_sem,he,g0,g2,g6,g470,g471,g472,hru,hcl,htil]
    refine aS (fun _=>rC r.til t2 _) ?_
    rw[dz]
    simp only[go_sem,he,g0,g2,g6,g470,g471,g472,hru,hcl,htil,hal2,aA,Bool.false_and,Bool.not_false]
    refine aS (fun _=>aEN res 0 r.til t2 _) ?_
    rw[dt2,Bool.and_false,Bool.or_false]
    simp only[go_sem,he,g0,g2,g6,g470,g471,g472,aA]
    have hput:∀v:AV,List.take 59 cs++v::List.drop 60 cs=cs.set 59 v:=fun v=>by rw[List.set_eq_take_append_cons_drop,if_pos (by omega)]
    have hobB:=s3.q.obj
    rw[hxI I2 s3.q.ptr] at hobB
    have hne:=s3.q.ne
    generalize hk++[.own 78 [vI res,vI 0]]=hB at *
    have hltB:=(List.getElem?_eq_some_iff.1 hobB).1
    have hltR:=(List.getElem?_eq_some_iff.1 hru).1
    have hoo:o≠ob:=by rintro rfl;rw[hobB] at hxoB;simp at hxoB
    have hO1:∀Z,(hB.set rr Z)[ob]?=hB[ob]?:=fun Z=>List.getElem?_set_ne hne
    have hO2:∀Z,(hB.set ob Z)[ob]?=some Z:=fun Z=>List.getElem?_set_self hltB
    have hO3:∀Z,(hB.set ob Z)[rr]?=some (.own 112 cs):=fun Z=>by rw[List.getElem?_set_ne (fun e=>hne e.symm)];exact hru
    refine aF (fun hct=>?_) fun hct=>?_
    ·have hct:=odT hct
     have hA:=K.aHp hw gi.per hd hLd hct
     have q1:=s3.q.setL hc (vI I2.tot)
     have q2:=q1.1.setI (I':={I2 with fin:=true}) rfl
     have hst:=(s3.stp.trans q1.2).trans q2.2
     rw[←hA] at q2
     have hfin:=fun e'=>hR e' _ _ q2.1.toItC rfl hst
     rw[hxI {I2 with fin:=true} s3.q.ptr] at hfin
     simp only[go_sem,he,g0,g2,g6,hobB,hru,hcl,hO1]
     rw[hput]
     exact hfin _
    ·have hct:=odF hct
     simp only[go_sem,he,g0,g2,g6]
     refine bU [158] bI (by kernel_rfl) ?_
     simp only[go_sem,he,g0,g2,g6,g470,g471,g472,hru,hcl,hc.start,hal2]
     refine aS (fun _=>rJ res 0 r.start 0 _) ?_
     have d00:decide ((0:Int)<0)=false:=rfl
     rw[d00,Bool.and_false,Bool.or_false]
     simp only[go_sem,he,g0,g2,g6,g470,g471,g472,aA]
     refine aF (fun hcs=>?_) fun hcs=>?_
     ·have hcs:¬res<r.start:=by simpa using hcs
      have hcnt:=K.aIK hd
      obtain⟨tt,htt⟩:∃tt:Int,tt=i64.wrap (I2.tot+1):=⟨_,rfl⟩
      have s4:=s3.setI tt I2.cnt
      have hI4:=hxI {I2 with tot:=tt,cnt:=I2.cnt} s3.q.ptr
      have hAl:A.length<1000000:=by
       have:=aHt hd
       rw[List.length_take] at this
       omega
      have hap:=aEZ (w0:=w0) {I2 with tot:=tt,cnt:=I2.cnt} ob h1.length _ s4.q.obj res A.length (bE A) s4.g (by rw[List.length_set];have:=s3.q.front;obtain⟨G,e⟩:=this;rw[e,List.length_append];omega) (by omega)
      rw[hI4] at hap s4
      simp only[go_sem,he,g0,g2,g6,hobB,←htt]
      refine fT [] 4 bI (by kernel_rfl) (by kernel_rfl) (by kernel_rfl) ?_
      have hal3:∀Z,(hB.set ob Z)[hk.length]?=some (.own 78 [vI res,vI 0]):=fun Z=>by
       rw[List.getElem?_set_ne (by rintro rfl;rw[hal2] at hobB;simp at hobB)];exact hal2
      simp only[go_sem,he,g0,g2,g6,hal3]
      refine aI hap ?_
      rintro r' h5 ⟨rfl,x',gx,hob5,hl5,hK5,hb5⟩
      have s5:=s4.app gx hob5 hl5 hK5 hb5 hAl
      have hI5:=hxI {I2 with tot:=tt,cnt:=I2.cnt,st:=x',bk:=x'} s3.q.ptr
      rw[hI5] at hob5
      have hne5:=s5.q.ne
      have hxo5:h5[o]?=some (.own 78 (bE L)):=by
       refine hK5 o _ ?_ ?_
       ·rw[List.getElem?_set_ne (fun e=>hoo e.symm)];exact hxoB
       ·rintro (h|h)
        ·exact hoo h
        ·exact hnb h
      have hnb5:¬blk x' o:=fun hb=>by
       have h1:=hb5 o hb
       have h2:=(List.getElem?_eq_some_iff.1 hxoB).1
       rw[List.length_set] at h1
       omega
      have hlt5:=(List.getElem?_eq_some_iff.1 hob5).1
      simp only[go_sem,he,g0,g2,g6,bL,aA,hob5]
      refine aF (fun hc0=>?_) fun hc0=>?_
      ·have hc0:I2.cnt≠0:=by simpa using hc0
       have hcb:I2.cnt≤1000000:=by
        rcases hd.eC with ⟨a1,a2⟩|⟨a1,a2,a3⟩
        ·omega
        ·have:=gi.c0;omega
       have wc:i64.wrap (I2.cnt-1)=I2.cnt-1:=aJ (by omega)
       have hO5:∀Z,(h5.set ob Z)[ob]?=some Z:=fun Z=>List.getElem?_set_self hlt5
       simp only[go_sem,he,g0,g2,g6,hob5,wc,hO5]
       have s6:=s5.setI tt (I2.cnt-1)
       have hI6:=hxI {I2 with tot:=tt,cnt:=I2.cnt-1,st:=x',bk:=x'} s3.q.ptr
       refine aF (fun hc1=>?_) fun hc1=>?_
       ·have hc1:=odT hc1
        have hA:=K.aC7 hw gi.per hd hLd (by omega) (by omega) hc0 hc1
        obtain⟨cs6,hru6,hc6⟩:=s6.q.rule
        have q1:=s6.q.setL hc6 (vI tt)
        have q2:=q1.1.setI (I':={I2 with tot:=tt,cnt:=I2.cnt-1,st:=x',bk:=x',fin:=true}) rfl
        have hst:=(s6.stp.trans q1.2).trans q2.2
        rw[←hA] at q2
        have hfin:=fun e'=>hR e' _ _ q2.1.toItC rfl hst
        rw[hxI {I2 with tot:=tt,cnt:=I2.cnt-1,st:=x',bk:=x',fin:=true} s3.q.ptr] at hfin
        rw[hI6] at hfin hru6
        have hput6:∀v:AV,List.take 59 cs6++v::List.drop 60 cs6=cs6.set 59 v:=fun v=>by rw[List.set_eq_take_append_cons_drop,if_pos (by rw[hc6.len];omega)]
        have hcl6:=hc6.len
        have hO6:∀Y Z,((h5.set ob Y).set rr Z)[ob]?=some Y:=fun Y Z=>by rw[List.getElem?_set_ne hne5];exact hO5 Y
        simp only[go_sem,he,g0,g2,g6,hO5,hru6,hcl6,hO6]
        rw[hput6]
        exact hfin _
       ·have hc1:=odF hc1
        rw[hI6] at s6
        simp only[go_sem,he,g0,g2,g6,g470,g471,g472,wj]
        refine⟨k3-1,by omega,ex.symm,j+1,_,A++[res],rfl,by omega,s6,?_,hfin2,.inr ⟨o,ex,?_,hnb5⟩⟩
        ·have:=hd.take (show res≤r.til by omega) (by omega) (.inr hc1)
         rw[if_neg hc0] at this
         rw[htk2];exact this
        ·rw[List.getElem?_set_ne (fun e=>hoo e.symm)];exact hxo5
      ·have hc0:I2.cnt=0:=by simpa using hc0
       simp only[go_sem,he,g0,g2,g6,g470,g471,g472,wj]
       refine⟨k3-1,by omega,ex.symm,j+1,_,A++[res],rfl,by omega,s5,?_,hfin2,.inr ⟨o,ex,hxo5,hnb5⟩⟩
       have:=hd.take (show res≤r.til by omega) (by omega) (.inl hc0)
       rw[if_pos hc0] at this
       rw[htk2,hc0];exact this
     ·have hcs:res<r.start:=by simpa using hcs
      simp only[go_sem,he,g0,g2,g6,g470,g471,g472,wj]
      exact⟨k3-1,by omega,ex.symm,j+1,I2,A,rfl,by omega,s3,by rw[htk2];exact hd.skip (by omega) hcs,hfin2,.inr ⟨o,ex,hxoB,hnb⟩⟩
   ·have hcj:=odF hcj
    obtain rfl:j=L.length:=by omega
    rw[List.take_length] at hd
    simp only[go_sem,he,g0,g2,g6]
    exact⟨I2,A,s,hd⟩
  ·clear he g0 g2 g6 g10 s
   rintro e hk ⟨he,g0,g2,g6,I2,A,s,hd⟩
   exact hN e hk I2 A he g0 g2 g6 s hd
section
variable {h1 h hk:aB} {rr ob:Nat} {r:Ru} {sp mo p n yd wn bw nw ho mi se ea ts:AV} {I I0:It} {P T A:List Int}
theorem ItQ.setD (q:ItQ h1 h rr ob r sp mo p n yd wn bw nw ho mi se ea ts I P T) {o m:Nat} (hx:I.ds=.sl true o 0 m 2) {cs cs':List AV} (hoO:h[o]?=some (.own 219 cs)) (hl:cs'.length=cs.length) :
  ItQ h1 (h.set o (.own 219 cs')) rr ob r sp mo p n yd wn bw nw ho mi se ea ts I P T∧Stp h1.length rr ob I h I (h.set o (.own 219 cs')):=by
 obtain⟨G,hG⟩:=q.front
 obtain⟨cs0,hr0,hc0⟩:=q.rule
 obtain⟨n0,c0,hx0,hn0⟩:=q.ds
 have hlt:=(List.getElem?_eq_some_iff.1 hoO).1
 have hK:cR (fun x=>x=o) h (h.set o (.own 219 cs')):=fun y z hy hn=>by
  rw[List.getElem?_set_ne (fun e=>hn e.symm)];exact hy
 have hself:(h.set o (.own 219 cs'))[o]?=some (.own 219 cs'):=List.getElem?_set_self hlt
 have hlen:(h.set o (.own 219 cs')).length=h.length:=List.length_set
 generalize h.set o (.own 219 cs')=hk at *
 have hB:h1.length≤o:=(hx0.low ⟨m,2,hx⟩).1
 have hty:∀(x:Nat) t cs,h[x]?=some (.own t cs)→t≠219→¬(x=o):=fun y t cs hy n1=>by
  rintro rfl
  rw[hoO] at hy;cases hy;exact n1 rfl
 have hints:∀x l,bW h x l→bW hk x l:=fun x l hx=>hx.keep hK fun p cs hp=>hty p _ cs hp (by decide)
 have hfr:∃G',hk=h1++G':=by
  rw[hG] at hK
  exact hK.front fun x hx=>by rw[hx];exact hB
 refine⟨⟨⟨hfr,hK _ _ q.obj (hty _ _ _ q.obj (by decide)),q.ptr,⟨cs0,hK _ _ hr0 (hty _ _ _ hr0 (by decide)),hc0⟩,q.obB,q.rrB,?_,?_,q.pl,q.bk1,fun x hx=>by have:=q.tsl x hx;omega⟩,q.yt.of hints,q.wno.of hints,q.nwm.of hints,q.eam.of hints,q.ts4,fun f=>?_,q.sep,q.tl⟩,by omega,hK.mono fun x hx2=>.inr (.inr (.inr (.inl ⟨m,2,by rw[hx2];exact hx⟩))),fun y hy=>.inl hy⟩
 ·exact q.pend.keep hK fun x hx=>by
   obtain⟨-,-,cs,hc⟩:=q.pend.low hx
   exact hty x _ cs hc (by decide)
 ·refine⟨n0,cs'.take (n0*2),?_,hn0⟩
  rcases hx0 with ⟨e1,-⟩|⟨o2,cs2,e1,e2,e3,e4,e5⟩
  ·rw[hx] at e1;cases e1
  ·rw[hx] at e1
   simp only[AV.sl.injEq] at e1
   obtain⟨-,rfl,-,rfl,-⟩:=e1
   rw[hoO] at e3
   cases e3
   exact .inr ⟨o,cs',hx,hB,hself,rfl,by omega⟩
 ·exact (q.ts5 f).keep hK fun x hb=>by
   obtain⟨-,-,cs,hc⟩:=(q.ts5 f).low hb
   exact hty x _ cs hc (by decide)
theorem aBC:∀{l:List (Int×Bool)} {i:Nat} {d:Int×Bool},l[i]?=some d→(iR l).set (i*2+1) (vB false)=iR (l.set i (d.1,false))
 |[],_,_,h=>by cases h
 |d::l,0,_,h=>by cases h;rfl
 |d::l,i+1,d',h=>by
  have:=aBC (l:=l) (i:=i) (d:=d') h
  rw[show (i+1)*2+1=(i*2+1)+1+1 by omega]
  simp only[iR,List.set_cons_succ]
  rw[this]
theorem GSt.setD {x:AV} {l:List (Int×Bool)} (s:GSt h1 h hk rr ob r sp mo p n yd wn bw nw ho mi se ea ts I0 I x l A T) (hx:I.ds=x) {o:Nat} (ex:x=.sl true o 0 l.length 2) {cs:List AV} (hoO:hk[o]?=some (.own 219 cs)) {i:Nat} {d:Int×Bool} (hi:l[i]?=some d) :
  GSt h1 h (hk.set o (.own 219 (cs.set (i*2+1) (vB false)))) rr ob r sp mo p n yd wn bw nw ho mi se ea ts I0 I x (l.set i (d.1,false)) A T:=by
 have q2:=s.q.setD (m:=l.length) (by rw[hx,ex]) hoO (cs':=cs.set (i*2+1) (vB false)) (by simp)
 refine⟨q2.1,?_,?_,s.stp.trans q2.2,s.same⟩
 ·exact s.g.set fun hb=>by
   obtain⟨-,-,cs2,hc⟩:=s.g.low hb
   rw[hoO] at hc;simp at hc
 ·have hli:=(List.getElem?_eq_some_iff.1 hi).1
  rcases s.gd with ⟨e1,-⟩|⟨o2,cs2,e1,e2,e3,e4,e5⟩
  ·rw[ex] at e1;cases e1
  ·rw[ex] at e1
   simp only[AV.sl.injEq] at e1
   obtain⟨-,rfl,-,-,-⟩:=e1
   rw[hoO] at e3
   cases e3
   refine .inr ⟨o,_,by rw[List.length_set];exact ex,e2,List.getElem?_set_self (List.getElem?_eq_some_iff.1 hoO).1,?_,by rw[List.length_set,List.length_set];exact e5⟩
   rw[List.length_set,List.take_set,e4,aBC hi]
end
set_option maxHeartbeats 8000000 in
theorem aKV {w0:World} {h1 h hk:aB} {rr ob:Nat} {r:Ru} {sp mo p n yd wn bw nw ho mi se ea ts:AV} {I0 I:It} {x:AV} {T:List Int} {y:Int} (hs:qO h1 r sp mo p n yd wn bw nw ho mi se ea ts) (hG:K.GP r) (s0 n0:Nat) (s:GSt h1 h hk rr ob r sp mo p n yd wn bw nw ho mi se ea ts I0 I x (nH s0 n0) [] T) (hxd:I.ds=x) (hly:I.ly=y) (hy:2≤y∧y≤9999) (hsn:s0+n0≤K.aM (aR y)+7) (hlate:r.freq≠2→s0+n0≤K.aM (aR y))
  (e:Env) (he:len e=1418) (g0:AL.get e 0=.ptr ob 0) (g2:AL.get e 2=.ptr rr 0) (g5:AL.get e 5=x) (g6:AL.get e 6=vB false) (Q:Exit→Env→aB→Prop)
  (hN:∀e' hk',len e'=1418→AL.get e' 0=.ptr ob 0→AL.get e' 2=.ptr rr 0→AL.get e' 5=x→AL.get e' 6=vB ((List.range n0).any fun j=>!K.dZ r y I.lm (s0+j))→GSt h1 h hk' rr ob r sp mo p n yd wn bw nw ho mi se ea ts I0 I x ((List.range n0).map fun j=>(((s0+j:Nat):Int),K.dZ r y I.lm (s0+j))) [] T→Q .normal (mk e' []) hk') :
  cB prog (CB w0) aHs (mk e []) hk Q:=by
 have hw:=hG.toWP
 have x1:=s.gd.one
 have hyl:K.aM (aR y)=365∨K.aM (aR y)=366:=by cases aR y<;>simp[K.aM]
 have hall:(nH s0 n0).length=n0:=by unfold nH;simp
 have hxI:∀I':It,I'.rr=.ptr rr 0→I'.cells=[vI I'.year,vI I'.month,vI I'.day,vI I'.hour,vI I'.minute,vI I'.second,vI I'.weekday,.ptr rr 0,vI I'.ly,vI I'.lm,vI I'.yl,vI I'.nyl,vI I'.fy,vI 0,vI I'.yw,I'.mm,I'.mr,I'.md,I'.nmd,I'.wd,I'.wno,I'.nwd,I'.ea,I'.ts,vI I'.tot,vI I'.cnt,I'.st,I'.bk,vB I'.fin,I'.ds]:=fun I' h=>by rw[←h];rfl
 obtain⟨lst,hlst⟩:∃lst:Nat→List (Int×Bool),lst=fun j=>(List.range n0).map fun t=>(((s0+t:Nat):Int),if t<j then K.dZ r y I.lm (s0+t) else true):=⟨_,rfl⟩
 have hlen:∀j,(lst j).length=n0:=fun j=>by rw[hlst];simp
 have hlst0:lst 0=nH s0 n0:=by rw[hlst];unfold nH;simp
 have hlstn:lst n0=(List.range n0).map fun j=>(((s0+j:Nat):Int),K.dZ r y I.lm (s0+j)):=by
  rw[hlst]
  refine List.map_congr_left fun t ht=>?_
  rw[if_pos (List.mem_range.1 ht)]
 have hlstg:∀j,j<n0→(lst j)[j]?=some (((s0+j:Nat):Int),true):=fun j hj=>by
  rw[hlst]
  simp[hj]
 have hlsts:∀j,j<n0→lst (j+1)=if K.dZ r y I.lm (s0+j)=true then lst j else (lst j).set j (((s0+j:Nat):Int),false):=fun j hj=>by
  apply List.ext_getElem?
  intro t
  by_cases ht:t<n0
  ·have e1:∀m,(lst m)[t]?=some (((s0+t:Nat):Int),if t<m then K.dZ r y I.lm (s0+t) else true):=fun m=>by rw[hlst];simp[ht]
   rw[e1]
   by_cases hjt:j=t
   ·subst hjt
    rw[if_pos (by omega)]
    split
    ·rename_i hp
     rw[e1,if_neg (by omega),hp]
    ·rename_i hp
     rw[List.getElem?_set_self (by rw[hlen];exact hj)]
     simp only[Bool.not_eq_true] at hp
     rw[hp]
   ·have e2:(if t<j+1 then K.dZ r y I.lm (s0+t) else true)=(if t<j then K.dZ r y I.lm (s0+t) else true):=by
     by_cases h:t<j
     ·rw[if_pos h,if_pos (by omega)]
     ·rw[if_neg h,if_neg (by omega)]
    rw[e2]
    by_cases hp:K.dZ r y I.lm (s0+j)=true
    ·rw[if_pos hp,e1]
    ·rw[if_neg hp,List.getElem?_set_ne hjt,e1]
  ·rw[List.getElem?_eq_none (by rw[hlen];omega)]
   split
   ·rw[List.getElem?_eq_none (by rw[hlen];omega)]
   ·rw[List.getElem?_eq_none (by rw[List.length_set,hlen];omega)]
 have hlx:lenK (some (.slice 219)) x=some (vI n0):=by
  rcases s.gd with ⟨e1,e2,-⟩|⟨o,cs,e1,-⟩
  ·rw[e1];rw[hall] at e2;rw[e2];rfl
  ·rw[e1];show some (vI ((nH s0 n0).length:Nat))=_;rw[hall]
 rw[←hlst0] at s
 rw[←hlstn] at hN
 conv=>
  arg 3
  whnf
 simp only[go_sem,he,g0,g2,g5,g6,hlx]
 refine bG n0 (fun k2 e hk=>len e=1418∧AL.get e 0=.ptr ob 0∧AL.get e 2=.ptr rr 0∧AL.get e 5=x∧AL.get e 98=x∧AL.get e 99=vI n0∧∃j:Nat,AL.get e 100=vI j∧j+k2=n0∧AL.get e 6=vB ((List.range j).any fun j=>!K.dZ r y I.lm (s0+j))∧GSt h1 h hk rr ob r sp mo p n yd wn bw nw ho mi se ea ts I0 I x (lst j) [] T) (fun e hk=>len e=1418∧AL.get e 0=.ptr ob 0∧AL.get e 2=.ptr rr 0∧AL.get e 5=x∧AL.get e 6=vB ((List.range n0).any fun j=>!K.dZ r y I.lm (s0+j))∧GSt h1 h hk rr ob r sp mo p n yd wn bw nw ho mi se ea ts I0 I x (lst n0) [] T) (by kernel_rfl) ?_ ?_ ?_
 ·simp only[go_sem,he,g0,g2,g5,g6]
  exact⟨0,rfl,by omega,rfl,s⟩
 ·clear he g0 g2 g5 g6 s
  rintro k2 e hk ⟨he,g0,g2,g5,g98,g99,j,g100,hjk,g6,s⟩
  simp only[go_sem,he,g0,g2,g5,g6,g98,g99,g100]
  refine aF (fun hcc=>?_) fun hcc=>?_
  ·have hcc:=odT hcc
   have hj:j<n0:=by omega
   have wj:i64.wrap ((j:Int)+1)=((j+1:Nat):Int):=wN _ (by omega) (by omega)
   obtain⟨f0,hf0⟩:∃f0:Bool,f0=(List.range j).any fun j=>!K.dZ r y I.lm (s0+j):=⟨_,rfl⟩
   have hf1:((List.range (j+1)).any fun j=>!K.dZ r y I.lm (s0+j))=(f0||!K.dZ r y I.lm (s0+j)):=by
    rw[List.range_succ,List.any_append,hf0];simp
   rw[←hf0] at g6
   obtain⟨od,cd,ex,y2,y3,y4⟩:=s.gd.days (hlstg j hj)
   rw[hlen] at ex
   simp only at y4
   have g98':=g98
   rw[ex] at g98
   have hal:∀(Z:aD),(hk++[Z])[hk.length]?=some Z:=fun Z=>by rw[bB];rfl
   simp only[go_sem,he,g0,g2,g5,g6,g98,g99,g100,y2,y4,hal,Int.toNat_natCast,List.replicate]
   refine⟨by omega,by omega,?_⟩
   have s2:=s.more [.own 219 [vI (s0+j:Nat),vB true]]
   have y2B:=aZ (G:=[.own 219 [vI (s0+j:Nat),vB true]]) y2
   obtain⟨H,hH⟩:∃H,H=hk++[.own 219 [vI (s0+j:Nat),vB true]]:=⟨_,rfl⟩
   rw[←hH] at s2 y2B ⊢
   refine fJ (fun e hk'=>len e=1418∧AL.get e 0=.ptr ob 0∧AL.get e 2=.ptr rr 0∧AL.get e 5=x∧AL.get e 6=vB f0∧AL.get e 7=vI j∧AL.get e 9=vI (s0+j:Nat)∧AL.get e 98=x∧AL.get e 99=vI n0∧AL.get e 100=vI j∧AL.get e 348=vB (!K.dZ r y I.lm (s0+j))∧hk'=H) ?_ ?_
   ·skip
    have hfrH:=s2.q.front
    have hobH:=s2.q.obj
    rw[hxI I s2.q.ptr] at hobH
    obtain⟨cs,hru,hc⟩:=s2.q.rule
    have hcl:=hc.len
    have hfH:∀{x:AV} {l:List Int},aQ h1 x l→aQ H x l:=fun hx=>by obtain⟨G',e⟩:=hfrH;rw[e];exact hx.more G'
    have hMO:=hfH hs.mo
    have hBW:=hfH hs.bw
    have hPD:=hfH hs.p
    have hND:=hfH hs.n
    have hYD:=hfH hs.yd
    have hlMO:lenK (some (.slice 3)) mo=some (vI r.month.length):=hs.mo.len 3
    have hlWN:lenK (some (.slice 3)) wn=some (vI r.weekNo.length):=hs.wn.len 3
    have hlBW:lenK (some (.slice 3)) bw=some (vI (K.iZ r).length):=hs.bw.len 3
    have hlEA:lenK (some (.slice 3)) ea=some (vI r.easter.length):=hs.ea.len 3
    have hlPD:lenK (some (.slice 3)) p=some (vI (K.mC r).length):=hs.p.len 3
    have hlND:lenK (some (.slice 3)) n=some (vI (K.jS r).length):=hs.n.len 3
    have hlYD:lenK (some (.slice 3)) yd=some (vI r.yearDay.length):=hs.yd.len 3
    have mo1:=hs.mo.one
    have wn1:=hs.wn.one
    have bw1:=hs.bw.one
    have ea1:=hs.ea.one
    have p1:=hs.p.one
    have n1:=hs.n.one
    have yd1:=hs.yd.one
    have hlens:=hG.lens
    have hmdl:(K.mC r).length≤12∧(K.jS r).length≤12:=⟨Nat.le_trans (List.length_filter_le _ _) hlens.2.2.1,Nat.le_trans (List.length_filter_le _ _) hlens.2.2.1⟩
    have hbwl:(K.iZ r).length≤12:=by unfold K.iZ;rw[List.length_map];exact Nat.le_trans (List.length_filter_le _ _) hlens.2.2.2.2.2.1
    have hyt:=s2.q.yt
    rw[hly] at hyt
    have hi7:s0+j<K.aM (aR y)+7:=by omega
    obtain⟨z1,z2,z3⟩:=K.aLr (y:=y) (by omega) hi7
    obtain⟨om,fm,cm,am1,am2,am3⟩:=hyt.mm.cell
    obtain⟨od2,fd,cd2,ad1,ad2,ad3⟩:=hyt.md.cell
    obtain⟨on,fn,cn,an1,an2,an3⟩:=hyt.nmd.cell
    obtain⟨ow,fw,cw,aw1,aw2,aw3⟩:=hyt.wd.cell
    have am4:=am3 _ _ z1
    have ad4:=ad3 _ _ z2
    have an4:=an3 _ _ z3
    have aw4:=aw3 _ _ (aO2 (y:=y) (b:=s0+j) (by omega))
    have hlm0:s0+j<(K.rD (aR y)).length:=(List.getElem?_eq_some_iff.1 z1).1
    have hld0:s0+j<(K.v7 (aR y)).length:=(List.getElem?_eq_some_iff.1 z2).1
    have hln0:s0+j<(K.rE (aR y)).length:=(List.getElem?_eq_some_iff.1 z3).1
    have hlw0:s0+j<((fY 55).drop (aC y%7).toNat).length:=by rw[List.length_drop,fA];omega
    rw[am1,ad1,an1,aw1,hyt.yl,hyt.nyl] at hobH
    obtain⟨mv,hmv⟩:∃mv,mv=(aL (aC y+(s0+j:Nat))).1:=⟨_,rfl⟩
    obtain⟨dv,hdv⟩:∃dv,dv=(aL (aC y+(s0+j:Nat))).2:=⟨_,rfl⟩
    obtain⟨nv,hnv⟩:∃nv,nv=(aL (aC y+(s0+j:Nat))).2-aO (aK (aC y+(s0+j:Nat))) (aL (aC y+(s0+j:Nat))).1-1:=⟨_,rfl⟩
    obtain⟨wv,hwv⟩:∃wv,wv=(aC y%7+(s0+j:Nat))%7:=⟨_,rfl⟩
    rw[←hnv] at an4
    rw[←hmv] at am4
    rw[←hdv] at ad4
    rw[←hwv] at aw4
    have LL:∀l:List Int,(decide ((l.length:Int)=0)=true∧l=[])∨(decide ((l.length:Int)=0)=false∧l≠[]):=fun l=>by
     by_cases h:l=[]
     ·exact .inl ⟨by rw[h];rfl,h⟩
     ·exact .inr ⟨dcF fun e=>h (List.length_eq_zero_iff.1 (by omega)),h⟩
    have NE:∀l:List Int,l≠[]→l.isEmpty=false:=fun l h=>List.isEmpty_eq_false_iff.2 h
    obtain⟨A1,hA1⟩:∃A1,A1=K.aY r.month mv:=⟨_,rfl⟩
    obtain⟨A2,hA2⟩:∃A2,A2=(r.weekNo.isEmpty||K.rZ r y (s0+j)):=⟨_,rfl⟩
    obtain⟨A3,hA3⟩:∃A3,A3=((K.iZ r).isEmpty||(K.iZ r).contains wv):=⟨_,rfl⟩
    obtain⟨A4,hA4⟩:∃A4,A4=((K.cX r).isEmpty||K.nwB r y I.lm (s0+j)):=⟨_,rfl⟩
    obtain⟨A5,hA5⟩:∃A5,A5=(r.easter.isEmpty||r.easter.contains ((s0+j:Nat)-(K.cS y-aC y))):=⟨_,rfl⟩
    obtain⟨A6,hA6⟩:∃A6,A6=(((K.mC r).isEmpty&&(K.jS r).isEmpty)||(K.mC r).contains dv||(K.jS r).contains nv):=⟨_,rfl⟩
    obtain⟨A7,hA7⟩:∃A7,A7=(r.yearDay.isEmpty||r.yearDay.contains (((s0+j:Nat):Int)+1)||r.yearDay.contains (((s0+j:Nat):Int)-K.aM (aR y))):=⟨_,rfl⟩
    have hpk:K.dZ r y I.lm (s0+j)=(A1&&A2&&A3&&A4&&A5&&A6&&A7):=by
     unfold K.dZ
     rw[hA1,hA2,hA3,hA4,hA5,hA6,hA7,hmv,hdv,hnv,hwv]
    obtain⟨P1,hP1⟩:∃P,P=A1:=⟨_,rfl⟩
    obtain⟨P2,hP2⟩:∃P,P=(P1&&A2):=⟨_,rfl⟩
    obtain⟨P3,hP3⟩:∃P,P=(P2&&A3):=⟨_,rfl⟩
    obtain⟨P4,hP4⟩:∃P,P=(P3&&A4):=⟨_,rfl⟩
    obtain⟨P5,hP5⟩:∃P,P=(P4&&A5):=⟨_,rfl⟩
    obtain⟨P6,hP6⟩:∃P,P=(P5&&A6):=⟨_,rfl⟩
    obtain⟨P7,hP7⟩:∃P,P=(P6&&A7):=⟨_,rfl⟩
    rw[hpk,←hP1,←hP2,←hP3,←hP4,←hP5,←hP6,←hP7]
    have hob:=hobH
    refine bU [84] bI (by kernel_rfl) ?_
    simp only[go_sem,he,g0,g2,g5,g6,g98,g99,g100,hob,hru,hcl,hc.month,hlMO]
    refine lD 15 (fun e hk'=>len e=1418∧AL.get e 0=.ptr ob 0∧AL.get e 2=.ptr rr 0∧AL.get e 5=x∧AL.get e 6=vB f0∧AL.get e 7=vI j∧AL.get e 9=vI (s0+j:Nat)∧AL.get e 98=x∧AL.get e 99=vI n0∧AL.get e 100=vI j∧AL.get e 129=vB (!P1)∧hk'=H) ?_ ?_
    ·rcases LL r.month with ⟨l1,m1⟩|⟨l1,m1⟩
     ·have:P1=true:=by rw[hP1,hA1,m1];rfl
      rw[this]
      simp only[go_sem,he,g0,g2,g5,g6,g98,g99,g100,hob,hru,hcl,List.take_succ_cons,List.take_zero,List.drop_succ_cons,List.drop_zero,l1,Bool.not_true]
      exact ex.symm
     ·simp only[go_sem,he,g0,g2,g5,g6,g98,g99,g100,hob,hru,hcl,List.take_succ_cons,List.take_zero,List.drop_succ_cons,List.drop_zero,l1,hc.month,am2,am4,Int.toNat_natCast]
      refine⟨by omega,?_⟩
      refine aS (fun _=>bO r.month (by omega) mv mo _ (hMO.more _)) ?_
      have:P1=r.month.contains mv:=by rw[hP1,hA1];unfold K.aY;rw[NE _ m1,Bool.false_or]
      rw[←this]
      simp only[go_sem,he,g0,g2,g5,g6,g98,g99,g100,hob,hru,hcl,List.take_succ_cons,List.take_zero,List.drop_succ_cons,List.drop_zero,l1,aA]
      exact ex.symm
    clear he g0 g2 g5 g6 g98 g99 g100
    rintro e hk' ⟨he,g0,g2,g5,g6,g7,g9,g98,g99,g100,gp,gH⟩
    rw[gH];clear gH
    simp only[go_sem,he,g0,g2,g5,g6,g7,g9,g98,g99,g100,hob,hru,hcl,gp,List.take_succ_cons,List.take_zero,List.drop_succ_cons,List.drop_zero,hc.wno,hlWN]
    refine lD 18 (fun e hk'=>len e=1418∧AL.get e 0=.ptr ob 0∧AL.get e 2=.ptr rr 0∧AL.get e 5=x∧AL.get e 6=vB f0∧AL.get e 7=vI j∧AL.get e 9=vI (s0+j:Nat)∧AL.get e 98=x∧AL.get e 99=vI n0∧AL.get e 100=vI j∧AL.get e 148=vB (!P2)∧hk'=H) ?_ ?_
    ·cases P1 with
     |false=>
      have:P2=false:=hP2
      rw[this]
      simp only[go_sem,he,g0,g2,g5,g6,g7,g9,g98,g99,g100,hob,hru,hcl,gp,Bool.not_true,Bool.not_false,List.take_succ_cons,List.take_zero,List.drop_succ_cons,List.drop_zero]
     |true=>
      have hPk:P2=A2:=by rw[hP2,Bool.true_and]
      rw[hPk]
      have hwo:=s2.q.wno
      rw[hly] at hwo
      rcases hwo with ⟨m1,-⟩|⟨m1,Lw,w1,w2,w3⟩
      ·have l1:decide ((r.weekNo.length:Int)=0)=true:=by rw[m1];rfl
       have:A2=true:=by rw[hA2,m1];rfl
       rw[this]
       simp only[go_sem,he,g0,g2,g5,g6,g7,g9,g98,g99,g100,hob,hru,hcl,gp,Bool.not_true,Bool.not_false,List.take_succ_cons,List.take_zero,List.drop_succ_cons,List.drop_zero,l1,hc.wno,hlWN]
      ·have l1:decide ((r.weekNo.length:Int)=0)=false:=dcF fun e=>m1 (List.length_eq_zero_iff.1 (by omega))
       have hlt:s0+j<K.aM (aR y):=by
        have:=hlate (by rw[hG.weekYear m1];decide)
        omega
       obtain⟨owm,fwm,cwm,v1,v2,v3⟩:=w2.cell
       have v4:=v3 _ _ (w3 _ hlt)
       have:A2=K.rZ r y (s0+j):=by rw[hA2,NE _ m1,Bool.false_or]
       rw[this]
       have hob2:=hob
       rw[v1] at hob2
       cases hwb:K.rZ r y (s0+j) with
       |true=>
        rw[hwb,if_pos rfl] at v4
        have d1:decide ((1:Int)=0)=false:=rfl
        simp only[go_sem,he,g0,g2,g5,g6,g7,g9,g98,g99,g100,hob2,hru,hcl,gp,Bool.not_true,Bool.not_false,List.take_succ_cons,List.take_zero,List.drop_succ_cons,List.drop_zero,l1,hc.wno,hlWN,v2,v4,d1,Int.toNat_natCast]
        omega
       |false=>
        rw[hwb,if_neg (by decide)] at v4
        have d1:decide ((0:Int)=0)=true:=rfl
        simp only[go_sem,he,g0,g2,g5,g6,g7,g9,g98,g99,g100,hob2,hru,hcl,gp,Bool.not_true,Bool.not_false,List.take_succ_cons,List.take_zero,List.drop_succ_cons,List.drop_zero,l1,hc.wno,hlWN,v2,v4,d1,Int.toNat_natCast]
        omega
    clear he g0 g2 g5 g6 g7 g9 g98 g99 g100 gp
    rintro e hk' ⟨he,g0,g2,g5,g6,g7,g9,g98,g99,g100,gp,gH⟩
    rw[gH];clear gH
    simp only[go_sem,he,g0,g2,g5,g6,g7,g9,g98,g99,g100,hob,hru,hcl,gp,List.take_succ_cons,List.take_zero,List.drop_succ_cons,List.drop_zero,hc.bwd,hlBW]
    refine lD 23 (fun e hk'=>len e=1418∧AL.get e 0=.ptr ob 0∧AL.get e 2=.ptr rr 0∧AL.get e 5=x∧AL.get e 6=vB f0∧AL.get e 7=vI j∧AL.get e 9=vI (s0+j:Nat)∧AL.get e 98=x∧AL.get e 99=vI n0∧AL.get e 100=vI j∧AL.get e 172=vB (!P3)∧hk'=H) ?_ ?_
    ·cases P2 with
     |false=>
      have:P3=false:=hP3
      rw[this]
      simp only[go_sem,he,g0,g2,g5,g6,g7,g9,g98,g99,g100,hob,hru,hcl,gp,Bool.not_true,Bool.not_false,List.take_succ_cons,List.take_zero,List.drop_succ_cons,List.drop_zero]
     |true=>
      have hPk:P3=A3:=by rw[hP3,Bool.true_and]
      rw[hPk]
      rcases LL (K.iZ r) with ⟨l1,m1⟩|⟨l1,m1⟩
      ·have:A3=true:=by rw[hA3,m1];rfl
       rw[this]
       simp only[go_sem,he,g0,g2,g5,g6,g7,g9,g98,g99,g100,hob,hru,hcl,gp,Bool.not_true,Bool.not_false,List.take_succ_cons,List.take_zero,List.drop_succ_cons,List.drop_zero,l1,hc.bwd,hlBW]
      ·simp only[go_sem,he,g0,g2,g5,g6,g7,g9,g98,g99,g100,hob,hru,hcl,gp,Bool.not_true,Bool.not_false,List.take_succ_cons,List.take_zero,List.drop_succ_cons,List.drop_zero,l1,hc.bwd,hlBW,aw2,aw4,Int.toNat_natCast]
       refine⟨by omega,?_⟩
       refine aS (fun _=>bO (K.iZ r) (by omega) wv bw _ (hBW.more _)) ?_
       have:A3=(K.iZ r).contains wv:=by rw[hA3,NE _ m1,Bool.false_or]
       rw[←this]
       simp only[go_sem,he,g0,g2,g5,g6,g7,g9,g98,g99,g100,hob,hru,hcl,gp,Bool.not_true,Bool.not_false,List.take_succ_cons,List.take_zero,List.drop_succ_cons,List.drop_zero,l1,aA]
    clear he g0 g2 g5 g6 g7 g9 g98 g99 g100 gp
    rintro e hk' ⟨he,g0,g2,g5,g6,g7,g9,g98,g99,g100,gp,gH⟩
    rw[gH];clear gH
    simp only[go_sem,he,g0,g2,g5,g6,g7,g9,g98,g99,g100,hob,hru,hcl,gp,List.take_succ_cons,List.take_zero,List.drop_succ_cons,List.drop_zero,hlMO]
    refine lD 19 (fun e hk'=>len e=1418∧AL.get e 0=.ptr ob 0∧AL.get e 2=.ptr rr 0∧AL.get e 5=x∧AL.get e 6=vB f0∧AL.get e 7=vI j∧AL.get e 9=vI (s0+j:Nat)∧AL.get e 98=x∧AL.get e 99=vI n0∧AL.get e 100=vI j∧AL.get e 192=vB (!P4)∧hk'=H) ?_ ?_
    ·cases P3 with
     |false=>
      have:P4=false:=hP4
      rw[this]
      simp only[go_sem,he,g0,g2,g5,g6,g7,g9,g98,g99,g100,hob,hru,hcl,gp,Bool.not_true,Bool.not_false,List.take_succ_cons,List.take_zero,List.drop_succ_cons,List.drop_zero]
     |true=>
      have hPk:P4=A4:=by rw[hP4,Bool.true_and]
      rw[hPk]
      have hwo:=s2.q.nwm
      rw[hly] at hwo
      rcases hwo with ⟨m1,nn⟩|⟨m1,Lw,w1,w2,w3⟩
      ·have:A4=true:=by rw[hA4,m1];rfl
       rw[this]
       have hob2:=hob
       rw[nn] at hob2
       have l0:lenK (some (.slice 3)) aP=some (vI (0:Nat)):=rfl
       have l1:decide (((0:Nat):Int)=0)=true:=rfl
       simp only[go_sem,he,g0,g2,g5,g6,g7,g9,g98,g99,g100,hob2,hru,hcl,gp,Bool.not_true,Bool.not_false,List.take_succ_cons,List.take_zero,List.drop_succ_cons,List.drop_zero,l0,l1]
      ·have hlt:s0+j<K.aM (aR y):=by
        have hf:r.freq≤1:=by
         obtain⟨x,hx⟩:=List.exists_mem_of_ne_nil _ m1
         exact (K.rL hG hx).1
        have:=hlate (by omega)
        omega
       have hltL:s0+j<Lw.length:=by omega
       obtain⟨owm,fwm,cwm,v1,v2,v3⟩:=w2.cell
       have v4:=v3 _ _ (w3 _ hltL)
       have:A4=K.nwB r y I.lm (s0+j):=by rw[hA4,List.isEmpty_eq_false_iff.2 m1,Bool.false_or]
       rw[this]
       have hob2:=hob
       rw[v1] at hob2
       have l1:decide ((Lw.length:Int)=0)=false:=dcF (by omega)
       cases hwb:K.nwB r y I.lm (s0+j) with
       |true=>
        rw[hwb,if_pos rfl] at v4
        have d1:decide ((1:Int)=0)=false:=rfl
        simp only[go_sem,he,g0,g2,g5,g6,g7,g9,g98,g99,g100,hob2,hru,hcl,gp,Bool.not_true,Bool.not_false,List.take_succ_cons,List.take_zero,List.drop_succ_cons,List.drop_zero,l1,v2,v4,d1,Int.toNat_natCast]
        omega
       |false=>
        rw[hwb,if_neg (by decide)] at v4
        have d1:decide ((0:Int)=0)=true:=rfl
        simp only[go_sem,he,g0,g2,g5,g6,g7,g9,g98,g99,g100,hob2,hru,hcl,gp,Bool.not_true,Bool.not_false,List.take_succ_cons,List.take_zero,List.drop_succ_cons,List.drop_zero,l1,v2,v4,d1,Int.toNat_natCast]
        omega
    clear he g0 g2 g5 g6 g7 g9 g98 g99 g100 gp
    rintro e hk' ⟨he,g0,g2,g5,g6,g7,g9,g98,g99,g100,gp,gH⟩
    rw[gH];clear gH
    simp only[go_sem,he,g0,g2,g5,g6,g7,g9,g98,g99,g100,hob,hru,hcl,gp,List.take_succ_cons,List.take_zero,List.drop_succ_cons,List.drop_zero,hc.easter,hlEA]
    refine lD 18 (fun e hk'=>len e=1418∧AL.get e 0=.ptr ob 0∧AL.get e 2=.ptr rr 0∧AL.get e 5=x∧AL.get e 6=vB f0∧AL.get e 7=vI j∧AL.get e 9=vI (s0+j:Nat)∧AL.get e 98=x∧AL.get e 99=vI n0∧AL.get e 100=vI j∧AL.get e 211=vB (!P5)∧hk'=H) ?_ ?_
    ·cases P4 with
     |false=>
      have:P5=false:=hP5
      rw[this]
      simp only[go_sem,he,g0,g2,g5,g6,g7,g9,g98,g99,g100,hob,hru,hcl,gp,Bool.not_true,Bool.not_false,List.take_succ_cons,List.take_zero,List.drop_succ_cons,List.drop_zero]
     |true=>
      have hPk:P5=A5:=by rw[hP5,Bool.true_and]
      rw[hPk]
      have hwo:=s2.q.eam
      rw[hly] at hwo
      rcases hwo with ⟨m1,-⟩|⟨m1,Lw,w1,w2,w3⟩
      ·have l1:decide ((r.easter.length:Int)=0)=true:=by rw[m1];rfl
       have:A5=true:=by rw[hA5,m1];rfl
       rw[this]
       simp only[go_sem,he,g0,g2,g5,g6,g7,g9,g98,g99,g100,hob,hru,hcl,gp,Bool.not_true,Bool.not_false,List.take_succ_cons,List.take_zero,List.drop_succ_cons,List.drop_zero,l1,hc.easter,hlEA]
      ·have l1:decide ((r.easter.length:Int)=0)=false:=dcF fun e=>m1 (List.length_eq_zero_iff.1 (by omega))
       have hltL:s0+j<Lw.length:=by omega
       obtain⟨owm,fwm,cwm,v1,v2,v3⟩:=w2.cell
       have v4:=v3 _ _ (w3 _ hltL)
       have:A5=r.easter.contains ((s0+j:Nat)-(K.cS y-aC y)):=by rw[hA5,NE _ m1,Bool.false_or]
       rw[this]
       have hob2:=hob
       rw[v1] at hob2
       cases hwb:r.easter.contains (((s0+j:Nat):Int)-(K.cS y-aC y)) with
       |true=>
        rw[hwb,if_pos rfl] at v4
        have d1:decide ((1:Int)=0)=false:=rfl
        simp only[go_sem,he,g0,g2,g5,g6,g7,g9,g98,g99,g100,hob2,hru,hcl,gp,Bool.not_true,Bool.not_false,List.take_succ_cons,List.take_zero,List.drop_succ_cons,List.drop_zero,l1,hc.easter,hlEA,v2,v4,d1,Int.toNat_natCast]
        omega
       |false=>
        rw[hwb,if_neg (by decide)] at v4
        have d1:decide ((0:Int)=0)=true:=rfl
        simp only[go_sem,he,g0,g2,g5,g6,g7,g9,g98,g99,g100,hob2,hru,hcl,gp,Bool.not_true,Bool.not_false,List.take_succ_cons,List.take_zero,List.drop_succ_cons,List.drop_zero,l1,hc.easter,hlEA,v2,v4,d1,Int.toNat_natCast]
        omega
    clear he g0 g2 g5 g6 g7 g9 g98 g99 g100 gp
    rintro e hk' ⟨he,g0,g2,g5,g6,g7,g9,g98,g99,g100,gp,gH⟩
    rw[gH];clear gH
    simp only[go_sem,he,g0,g2,g5,g6,g7,g9,g98,g99,g100,hob,hru,hcl,gp,List.take_succ_cons,List.take_zero,List.drop_succ_cons,List.drop_zero,hc.pday,hlPD]
    refine lD 47 (fun e hk'=>len e=1418∧AL.get e 0=.ptr ob 0∧AL.get e 2=.ptr rr 0∧AL.get e 5=x∧AL.get e 6=vB f0∧AL.get e 7=vI j∧AL.get e 9=vI (s0+j:Nat)∧AL.get e 98=x∧AL.get e 99=vI n0∧AL.get e 100=vI j∧AL.get e 259=vB (!P6)∧hk'=H) ?_ ?_
    ·cases P5 with
     |false=>
      have:P6=false:=hP6
      rw[this]
      simp only[go_sem,he,g0,g2,g5,g6,g7,g9,g98,g99,g100,hob,hru,hcl,gp,Bool.not_true,Bool.not_false,List.take_succ_cons,List.take_zero,List.drop_succ_cons,List.drop_zero]
     |true=>
      have hPk:P6=A6:=by rw[hP6,Bool.true_and]
      rw[hPk]
      rcases LL (K.mC r) with ⟨l1,m1⟩|⟨l1,m1⟩
      ·rcases LL (K.jS r) with ⟨l2,m2⟩|⟨l2,m2⟩
       ·have:A6=true:=by rw[hA6,m1,m2];rfl
        rw[this]
        simp only[go_sem,he,g0,g2,g5,g6,g7,g9,g98,g99,g100,hob,hru,hcl,gp,Bool.not_true,Bool.not_false,List.take_succ_cons,List.take_zero,List.drop_succ_cons,List.drop_zero,l1,l2,hc.pday,hlPD,hc.nday,hlND,ad2,ad4,an2,an4,Int.toNat_natCast,aA]
       ·simp only[go_sem,he,g0,g2,g5,g6,g7,g9,g98,g99,g100,hob,hru,hcl,gp,Bool.not_true,Bool.not_false,List.take_succ_cons,List.take_zero,List.drop_succ_cons,List.drop_zero,l1,l2,hc.pday,hlPD,hc.nday,hlND,ad2,ad4,an2,an4,Int.toNat_natCast,aA]
        refine⟨by omega,?_⟩
        refine aS (fun _=>bO (K.mC r) (by omega) dv p _ (hPD.more _)) ?_
        cases hcp:(K.mC r).contains dv with
        |true=>
         rw[hA6,hcp,Bool.or_true,Bool.true_or]
         simp only[go_sem,he,g0,g2,g5,g6,g7,g9,g98,g99,g100,hob,hru,hcl,gp,Bool.not_true,Bool.not_false,List.take_succ_cons,List.take_zero,List.drop_succ_cons,List.drop_zero,l1,l2,hc.pday,hlPD,hc.nday,hlND,ad2,ad4,an2,an4,Int.toNat_natCast,aA]
        |false=>
         have e6:A6=(K.jS r).contains nv:=by rw[hA6,hcp,Bool.or_false,m1,NE _ m2,List.isEmpty_nil,Bool.true_and,Bool.false_or]
         rw[e6]
         simp only[go_sem,he,g0,g2,g5,g6,g7,g9,g98,g99,g100,hob,hru,hcl,gp,Bool.not_true,Bool.not_false,List.take_succ_cons,List.take_zero,List.drop_succ_cons,List.drop_zero,l1,l2,hc.pday,hlPD,hc.nday,hlND,ad2,ad4,an2,an4,Int.toNat_natCast,aA]
         refine⟨by omega,?_⟩
         refine aS (fun _=>bO (K.jS r) (by omega) nv n _ (hND.more _)) ?_
         simp only[go_sem,he,g0,g2,g5,g6,g7,g9,g98,g99,g100,hob,hru,hcl,gp,Bool.not_true,Bool.not_false,List.take_succ_cons,List.take_zero,List.drop_succ_cons,List.drop_zero,l1,l2,hc.pday,hlPD,hc.nday,hlND,ad2,ad4,an2,an4,Int.toNat_natCast,aA]
      ·simp only[go_sem,he,g0,g2,g5,g6,g7,g9,g98,g99,g100,hob,hru,hcl,gp,Bool.not_true,Bool.not_false,List.take_succ_cons,List.take_zero,List.drop_succ_cons,List.drop_zero,l1,hc.pday,hlPD,hc.nday,hlND,ad2,ad4,an2,an4,Int.toNat_natCast,aA]
       refine⟨by omega,?_⟩
       refine aS (fun _=>bO (K.mC r) (by omega) dv p _ (hPD.more _)) ?_
       cases hcp:(K.mC r).contains dv with
       |true=>
        rw[hA6,hcp,Bool.or_true,Bool.true_or]
        simp only[go_sem,he,g0,g2,g5,g6,g7,g9,g98,g99,g100,hob,hru,hcl,gp,Bool.not_true,Bool.not_false,List.take_succ_cons,List.take_zero,List.drop_succ_cons,List.drop_zero,l1,hc.pday,hlPD,hc.nday,hlND,ad2,ad4,an2,an4,Int.toNat_natCast,aA]
       |false=>
        have e6:A6=(K.jS r).contains nv:=by rw[hA6,hcp,Bool.or_false,NE _ m1,Bool.false_and,Bool.false_or]
        rw[e6]
        simp only[go_sem,he,g0,g2,g5,g6,g7,g9,g98,g99,g100,hob,hru,hcl,gp,Bool.not_true,Bool.not_false,List.take_succ_cons,List.take_zero,List.drop_succ_cons,List.drop_zero,l1,hc.pday,hlPD,hc.nday,hlND,ad2,ad4,an2,an4,Int.toNat_natCast,aA]
        refine⟨by omega,?_⟩
        refine aS (fun _=>bO (K.jS r) (by omega) nv n _ (hND.more _)) ?_
        simp only[go_sem,he,g0,g2,g5,g6,g7,g9,g98,g99,g100,hob,hru,hcl,gp,Bool.not_true,Bool.not_false,List.take_succ_cons,List.take_zero,List.drop_succ_cons,List.drop_zero,l1,hc.pday,hlPD,hc.nday,hlND,ad2,ad4,an2,an4,Int.toNat_natCast,aA]
    clear he g0 g2 g5 g6 g7 g9 g98 g99 g100 gp
    rintro e hk' ⟨he,g0,g2,g5,g6,g7,g9,g98,g99,g100,gp,gH⟩
    rw[gH];clear gH
    simp only[go_sem,he,g0,g2,g5,g6,g7,g9,g98,g99,g100,hob,hru,hcl,gp,List.take_succ_cons,List.take_zero,List.drop_succ_cons,List.drop_zero,hc.yday,hlYD]
    cases P6 with
    |false=>
     have:P7=false:=hP7
     rw[this]
     simp only[go_sem,he,g0,g2,g5,g6,g7,g9,g98,g99,g100,hob,hru,hcl,gp,Bool.not_true,Bool.not_false,List.take_succ_cons,List.take_zero,List.drop_succ_cons,List.drop_zero]
    |true=>
     have hPk:P7=A7:=by rw[hP7,Bool.true_and]
     rw[hPk]
     have wy1:i64.wrap (((s0+j:Nat):Int)+1)=((s0+j:Nat):Int)+1:=aJ (by omega)
     have wy2:i64.wrap (0-((K.aM (aR y):Nat):Int))=-((K.aM (aR y):Nat):Int):=by rw[aJ (by omega)];omega
     have wy3:i64.wrap (-((K.aM (aR y):Nat):Int)+((s0+j:Nat):Int))=((s0+j:Nat):Int)-K.aM (aR y):=by rw[aJ (by omega)];omega
     rcases LL r.yearDay with ⟨l1,m1⟩|⟨l1,m1⟩
     ·have:A7=true:=by rw[hA7,m1];rfl
      rw[this]
      simp only[go_sem,he,g0,g2,g5,g6,g7,g9,g98,g99,g100,hob,hru,hcl,gp,Bool.not_true,Bool.not_false,List.take_succ_cons,List.take_zero,List.drop_succ_cons,List.drop_zero,l1,hc.yday,hlYD]
     ·have hlt:s0+j<K.aM (aR y):=by
       have:=hlate fun h2=>m1 (hG.yearDayFreq (.inr (.inl h2)))
       omega
      have dl:decide (((s0+j:Nat):Int)<((K.aM (aR y):Nat):Int))=true:=dcT (by omega)
      have dg:decide (((K.aM (aR y):Nat):Int)≤((s0+j:Nat):Int))=false:=dcF (by omega)
      simp only[go_sem,he,g0,g2,g5,g6,g7,g9,g98,g99,g100,hob,hru,hcl,gp,Bool.not_true,Bool.not_false,List.take_succ_cons,List.take_zero,List.drop_succ_cons,List.drop_zero,l1,hc.yday,hlYD,dl,dg,wy1]
      refine aS (fun _=>bO r.yearDay (by omega) (((s0+j:Nat):Int)+1) yd _ (hYD.more _)) ?_
      cases hcp:r.yearDay.contains (((s0+j:Nat):Int)+1) with
      |true=>
       have:A7=true:=by rw[hA7,hcp,Bool.or_true,Bool.true_or]
       rw[this]
       simp only[go_sem,he,g0,g2,g5,g6,g7,g9,g98,g99,g100,hob,hru,hcl,gp,Bool.not_true,Bool.not_false,List.take_succ_cons,List.take_zero,List.drop_succ_cons,List.drop_zero,l1,hc.yday,hlYD,dl,dg,wy1,aA]
      |false=>
       have e7:A7=r.yearDay.contains (((s0+j:Nat):Int)-K.aM (aR y)):=by rw[hA7,hcp,NE _ m1,Bool.false_or,Bool.false_or]
       rw[e7]
       simp only[go_sem,he,g0,g2,g5,g6,g7,g9,g98,g99,g100,hob,hru,hcl,gp,Bool.not_true,Bool.not_false,List.take_succ_cons,List.take_zero,List.drop_succ_cons,List.drop_zero,l1,hc.yday,hlYD,dl,dg,wy1,wy2,wy3,aA]
       refine aS (fun _=>bO r.yearDay (by omega) (((s0+j:Nat):Int)-K.aM (aR y)) yd _ (hYD.more _)) ?_
       cases hcp2:r.yearDay.contains (((s0+j:Nat):Int)-K.aM (aR y)) with
       |true=>simp only[go_sem,he,g0,g2,g5,g6,g7,g9,g98,g99,g100,hob,hru,hcl,gp,Bool.not_true,Bool.not_false,List.take_succ_cons,List.take_zero,List.drop_succ_cons,List.drop_zero,l1,hc.yday,hlYD,dl,dg,wy1,wy2,wy3,aA]
       |false=>simp only[go_sem,he,g0,g2,g5,g6,g7,g9,g98,g99,g100,hob,hru,hcl,gp,Bool.not_true,Bool.not_false,List.take_succ_cons,List.take_zero,List.drop_succ_cons,List.drop_zero,l1,hc.yday,hlYD,dl,dg,wy1,wy2,wy3,aA]
   ·clear g0 g2 g5 g6 g98 g99 g100 he
    rintro e hk' ⟨he,g0,g2,g5,g6,g7,g9,g98,g99,g100,gp,gH⟩
    rw[gH];clear gH
    have hiw:=hlstg j hj
    have s4:=s2.setD hxd (by rw[hlen];exact ex) y2B hiw
    have hput:∀v:AV,List.take (j*2+1) cd++v::List.drop (j*2+1+1) cd=cd.set (j*2+1) v:=fun v=>by rw[List.set_eq_take_append_cons_drop,if_pos (by omega)]
    have g5':=g5
    rw[ex] at g5
    have hsn:=hlsts j hj
    cases hpk:K.dZ r y I.lm (s0+j) with
    |true=>
     rw[hpk] at gp hf1
     rw[if_pos hpk] at hsn
     simp only[go_sem,he,g0,g2,g5,g6,g7,g9,g98,g99,g100,gp,Bool.not_true,wj]
     refine⟨k2-1,by omega,ex.symm,j+1,rfl,by omega,?_,?_⟩
     ·rw[hf1];simp
     ·rw[hsn];exact s2
    |false=>
     rw[hpk] at gp hf1
     rw[if_neg (by rw[hpk];decide)] at hsn
     simp only[go_sem,he,g0,g2,g5,g6,g7,g9,g98,g99,g100,gp,Bool.not_false,wj,y2B,Int.toNat_natCast]
     refine⟨by omega,by omega,k2-1,by omega,ex.symm,j+1,rfl,by omega,?_,?_⟩
     ·rw[hf1];simp
     ·rw[hsn,hput];exact s4
  ·have hcc:=odF hcc
   obtain rfl:j=n0:=by omega
   simp only[go_sem,he,g0,g2,g5,g6]
   exact s
 ·clear he g0 g2 g5 g6 s
  rintro e hk ⟨he,g0,g2,g5,g6,s⟩
  exact hN e hk he g0 g2 g5 g6 s
end F
end Go.Proofs.YtnoppodfngkoeaaGreat
