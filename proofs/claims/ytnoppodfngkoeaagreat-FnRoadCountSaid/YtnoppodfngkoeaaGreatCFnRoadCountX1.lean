/- Merged texts of one proof. -/
import Derived.Test.YtnoppodfngkoeaaGreatM6
set_option linter.unusedVariables false
set_option linter.unusedSimpArgs false
set_option maxRecDepth 20000
namespace Go.Proofs.YtnoppodfngkoeaaGreat
open Go.Proofs.Tryz Go.IntKind
namespace F
open Go.RowKit Go.Proofs.YtnoppodfngkoeaaGreat.AL
end F
open Go.RowKit Go.Proofs.YtnoppodfngkoeaaGreat.AL Go.Proofs.YtnoppodfngkoeaaGreat.F
attribute [local irreducible] bJ cB gT eJ mP gI jM aDi aAC aAE aDS lT gR aBQ lY oI rV rA kT tX AWp cW aDk
attribute [local go_sem] aDZ vO tQ tP tO gD vJ aAl rS aAm aCi aAn iW aCj aDI xV aDJ aBR aBS aDK vR aAT aCF mT aAU aCG aAo xW aCk aCl aDM aDN aDO aDL aPW aAs aAt xX xY vK xZ aCm yA aCn uR aAu aCo vL sG sH aAv aAw vM aAx oX uS aAy aCp yB aAz aDP qY sI vN aAA yC sJ aDQ yD aCq aFL aCh aAk aDH aI9 aDG aFJ aFK aDF Nat.reduceLT Nat.reduceBEq List.map_cons List.map_nil Option.map_some Option.map_none aAB aDR yE aCr aAD aDT aDU aCs aCt aFN aFO aFP aFQ aFR aFS aFT aFU aFV aFW aFX aFY aD2 aD3 yF yG tV aAG yH yI aAJ aAH aAI aEe aEf aEg aF4 aJe aJf aJg aD4 aD5 aFZ aAK aCw aD6 aCH aCI aCJ qF mU aCK aAV aCL aCM aAW aCN aAX aAY aAZ aEb mkS aAL aCx aCy aAM aCz aAN aAP aAQ yJ aD7 bB bX qZ tW aD8 yK aD9 aEa aCA aCB aCC aCD aCE List.length_cons List.length_nil List.getElem?_cons_zero List.getElem?_cons_succ List.set_cons_zero List.set_cons_succ List.cons_append List.nil_append List.append_assoc Nat.reduceAdd Nat.zero_add Nat.add_zero Int.reduceBEq List.all_cons List.all_nil Value.oneCell' Bool.and_true Bool.and_self if_true if_false Bool.false_eq_true hZ aAq lG pH Option.bind_some fQ List.drop_succ_cons List.drop_zero List.take_succ_cons List.take_zero List.take_nil List.drop_nil Nat.reduceLeDiff and_self and_true true_and reduceIte Option.some.injEq Nat.reduceEqDiff ne_eq Int.reduceEq Int.reduceLE Int.reduceLT Int.reduceNe not_false_eq_true Option.map_map List.getElem?_toArray beq_self_eq_true Bool.true_beq Bool.false_beq Bool.not_true Bool.not_false decide_true decide_false beq_true Nat.reduceMul Nat.mul_one Nat.one_mul Nat.zero_mul bsA gW iM List.append_nil Nat.reduceSub Int.reduceToNat Int.toNat_natCast Int.toNat_zero aK9 sM aF0 aJh aJi aF1 aJj yL yM uT vV yN aA0 aA1 yO aA2 aEc aF2 gF jY aAr nO aA4 aEh aEd kd1 sz1 zc1 if1 kd2 sz2 zc2 if2 kd3 sz3 zc3 if3 kd4 sz4 zc4 if4 kd5 sz5 zc5 if5 kd7 sz7 zc7 fp7 aMj aMk aMl aMm if7 kd9 sz9 zc9 if9 aPZ aP0 aP1 aP2 aP3 aP4 aP5 aP6 aJm aJn aP7 aP8 aP9 aQa aQb aJo aQc aQd aQe aQf aQg aQh aQi aQj aQk aQl aQm mW aQn aQo aQp aQq aLd aQr aQs aQt aQu aQv aJp aJq aJr aJs aJt aJu aJv aJw aJx aJy aF5 aF6 aF7 aF8 aF9 aGa aGb aGc aQw aQx aQy aQz aBT aQA aQB aQC aQD aLe aQE aQF aQG aQH aQI aJz aJA aJB aJC aJD aJE aJF aJG aJH aJI aGd aGe aGf aGg aGh aGi aGj aGk aQJ aQK aQL aQM aQN aJJ aJK aJL aQO aQP aQQ aQR aQS aQT aQU aQV aQW aQX aQY aQZ aQ0 aQ1 aQ2 aQ3 aJM aJN aJO aQ4 aQ5 aQ6 aQ7 aQ8 aJP aJQ aJR aQ9 aRa aRb aRc aH1 aRd aRe aRf aRg aRh aJS aJT aJU aJV aJW aJX aJY aJZ aJ0 aJ1 aGl aGm aGn aGo aGp aGq aRi aRj aRk aRl aRm aRn aRo aRp aRq aJ2 aJ3 aJ4 aRr aRs aRt aRu aRv aRw aRx aRy vW aRz aMn aMo aMp aMq aGr aGs aGt aGu aGv aGw aGx aGy aGz aGA aEi aEj aEk aEl aEm aEn aEo aEp aEq aEr aEs aEt aMr aMs aMt aMu aMv aMw aMx aMy aMz aGB aGC aGD aGE aGF aGG aGH aGI aGJ aGK aEu aEv aEw aEx aEy aMA aMB aMC aMD aME aGL aGM aMF aMG aMH aMI aA5 aMJ aMK aML aMM aMN aGN aGO aGP aGQ aGR aGS aGT aGU aGV aGW aEz aEA aEB aEC aMO aMP aMQ aMR aMS aMT aMU aMV aMW aMX aMY aMZ aM0 aM1 aM2 aM3 aM4 aM5 aM6 aM7 aM8 aM9 aNa aNb aNc aJ5 aNd aNe aNf aNg aNh aNi aJ6 aNj aNk aNl aNm aNn aNo aGX aGY aGZ aG0 aNp aNq aNr aNs aNt aNu aNv aNw aNx aG1 aG2 aG3 aNy aNz aNA aNB aNC aG4 aG5 aG6 aG7 aND aNE aNF aNG aNH aNI aNJ aNK aNL aNM aNN aNO aNP aNQ aNR aNS aNT aNU aNV aNW aNX aNY aNZ aN0 aN1 aN2 aN3 aH2 aN4 aN5 aN6 aN7 aN8 aN9 aOa aOb aOc aOd aOe aOf aOg aOh aOi aOj aOk aJ7 aOl aOm aOn aOo aOp aOq aOr aOs aOt aOu aG8 aOv aOw aOx aOy aOz aOA aOB aOC aOD aOE aOF aOG aG9 aHa aOH aOI aOJ aOK aOL aOM aON aOO aOP aOQ aOR aOS aOT aOU aOV aOW aOX Tryz.underlying1 Tryz.underlying2 Tryz.underlying3 Tryz.underlying4 Tryz.underlying5 Tryz.underlying7 Tryz.underlying9 Tryz.underlying12 Tryz.underlying13 Tryz.underlying18 Tryz.underlying20 Tryz.underlying21 Tryz.underlying22 Tryz.underlying23 Tryz.underlying25 Tryz.underlying27 Tryz.underlying32 Tryz.underlying34 Tryz.underlying41 Tryz.underlying71 Tryz.underlying73 Tryz.underlying76 Tryz.underlying78 Tryz.underlying80 Tryz.underlying81 Tryz.underlying83 Tryz.underlying86 Tryz.underlying90 Tryz.underlying95 Tryz.underlying99 Tryz.underlying112 Tryz.underlying115 Tryz.underlying117 Tryz.underlying119 Tryz.underlying120 Tryz.underlying122 Tryz.underlying128 Tryz.underlying132 Tryz.underlying134 Tryz.underlying143 Tryz.underlying145 Tryz.underlying151 Tryz.underlying152 Tryz.underlying154 Tryz.underlying157 Tryz.underlying159 Tryz.underlying164 Tryz.underlying165 Tryz.underlying169 Tryz.underlying174 Tryz.underlying177 Tryz.underlying182 Tryz.underlying186 Tryz.underlying189 Tryz.underlying194 Tryz.underlying199 Tryz.underlying200 Tryz.underlying205 Tryz.underlying207 Tryz.underlying210 Tryz.underlying214 Tryz.underlying219 Tryz.underlying226 Tryz.underlying232 Tryz.underlying240 Tryz.underlying251
attribute [local go_sem_proc] Nat.reduceLT Nat.reduceBEq Nat.reduceAdd Int.reduceBEq Nat.reduceLeDiff reduceIte Nat.reduceEqDiff Int.reduceEq Int.reduceLE Int.reduceLT Int.reduceNe Nat.reduceMul Nat.reduceSub Int.reduceToNat
namespace F
open Go.RowKit Go.Proofs.YtnoppodfngkoeaaGreat.AL
def aSk (r:Ru) (n:Nat) (H:aB) (v:AV) (H':aB):Prop:=(∃G,H'=H++G)∧∃y l ok is,v=.tup [y,vB ok,vB is]∧aQ H' y l∧(is=true→K.pF r∧ok=true∧l=(K.gK r).take n)
set_option maxHeartbeats 1000000 in
theorem aSr {w0:World} (r:Ru) (x:Rs) (hl:xF r) (hn:aA7 r) (n:Nat) (hnn:n≤1000) (H:aB) (hx:cN H r x) :
  aH prog (CB w0) 26 [.agg (aE r x),vI n] H (aSk r n H):=by
 refine aSi (N:=24) (rs:=[.tmp 4,.tmp 5,.tmp 6]) Tryz.func26 ?_
 rintro e he ⟨g0,g1,-⟩
 have ha:=aPM (w0:=w0) r x hl hn n hnn _ (hx.more [aD.own 25 (aE r x)])
 unfold aE at g0 ha
 simp only[go_sem,he,g0,g1,hx.setPos.one,hx.month.one,hx.monthDay.one,hx.yearDay.one,hx.weekNo.one,hx.day.one,hx.hour.one,hx.minute.one,hx.second.one,hx.easter.one]
 refine aI ha ?_
 rintro _ _ ⟨y,l,ok,rfl,hS,hok⟩
 obtain⟨G,rfl⟩:=hS.front
 simp only[go_sem,he,g0,g1,aA]
 cases ok with
 |false=>
  simp only[go_sem,he,g0,g1]
  exact⟨⟨_,rfl⟩,aP,[],_,_,rfl,nM,fun h=>by cases h⟩
 |true=>
 obtain⟨g,-⟩:=hok rfl
 have ht:=aLL (w0:=w0) r (by have:=g.clean.dayLen;omega) x _ (hx.more (aD.own 25 (aE r x)::G))
 unfold aE at ht
 simp only[go_sem,he,g0,g1]
 refine aI ht ?_
 rintro _ _ ⟨⟨z,rfl,hz⟩,G2,rfl⟩
 have hf:=aHw (w0:=w0) r g z _ hz n hnn
 unfold aE at hf
 simp only[go_sem,he,g0,g1,aA] at hf ⊢
 refine aI hf ?_
 rintro _ _ ⟨⟨q,rfl,hq⟩,G3,rfl⟩
 have q1:=hq.one
 simp only[go_sem,he,g0,g1,aA]
 have hq2:=GrT.at hq
 try simp only[go_sem] at hq2
 exact⟨⟨_,rfl⟩,q,_,_,_,rfl,hq2,fun _=>⟨g,rfl,rfl⟩⟩
def aSn (r:Ru):Ru:={r with hasUntil:=false,til:=0,count:=0}
theorem aSo {r:Ru} (h:aA7 r):aA7 (aSn r):=⟨h.freq,h.start,⟨by show -9223372036854775808≤(0:Int);omega,by show (0:Int)≤_;omega⟩,h.interval,h.wkst,⟨by show -9223372036854775808≤(0:Int);omega,by show (0:Int)≤_;omega⟩,h.setPos,h.month,h.monthDay,h.yearDay,h.weekNo,h.hour,h.minute,h.second,h.easter,h.day⟩
theorem aSp {r:Ru} (h:aA7 r) {c:Int} (hc:0≤c∧c≤100000):aA7 {r with count:=c}:=⟨h.freq,h.start,h.til,h.interval,h.wkst,⟨by show -9223372036854775808≤c;omega,by show c≤_;omega⟩,h.setPos,h.month,h.monthDay,h.yearDay,h.weekNo,h.hour,h.minute,h.second,h.easter,h.day⟩
theorem cN.same {H:aB} {r r':Ru} {x:Rs} (h:cN H r x) (e1:r'.setPos=r.setPos) (e2:r'.month=r.month) (e3:r'.monthDay=r.monthDay) (e4:r'.yearDay=r.yearDay) (e5:r'.weekNo=r.weekNo) (e6:r'.day=r.day) (e7:r'.hour=r.hour) (e8:r'.minute=r.minute) (e9:r'.second=r.second) (e10:r'.easter=r.easter):cN H r' x:=
 ⟨e1▸h.setPos,e2▸h.month,e3▸h.monthDay,e4▸h.yearDay,e5▸h.weekNo,e6▸h.day,e7▸h.hour,e8▸h.minute,e9▸h.second,e10▸h.easter⟩
theorem xF.same {r r':Ru} (h:xF r) (e1:r'.setPos=r.setPos) (e2:r'.month=r.month) (e3:r'.monthDay=r.monthDay) (e4:r'.yearDay=r.yearDay) (e5:r'.weekNo=r.weekNo) (e6:r'.day=r.day) (e7:r'.hour=r.hour) (e8:r'.minute=r.minute) (e9:r'.second=r.second) (e10:r'.easter=r.easter):xF r':=
 ⟨e1▸h.setPos,e2▸h.month,e3▸h.monthDay,e4▸h.yearDay,e5▸h.weekNo,e6▸h.day,e7▸h.hour,e8▸h.minute,e9▸h.second,e10▸h.easter⟩
theorem aSq {r:Ru} {x:Rs}:(aE r x).length=18:=rfl
theorem aSm {r:Ru} {x:Rs}:(aE r x).take 18=aE r x:=rfl
theorem aSk.take {r:Ru} {n:Nat} {H H':aB} {v:AV} (h:aSk r n H v H'):∃G y l ok is,H'=H++G∧v=.tup [y,vB ok,vB is]∧y.one=true∧aQ H' y l∧(is=true→K.pF r∧ok=true∧l=(K.gK r).take n):=by
 obtain⟨⟨G,e⟩,y,l,ok,is,h1,h2,h3⟩:=h
 exact⟨G,y,l,ok,is,e,h1,h2.one,h2,h3⟩
theorem aSl {r:Ru} (h0:r.count=0) {m:Nat} (hm:0<m):K.gK {r with count:=(m:Int)}=(K.gK r).take m:=by
 unfold K.gK
 have e1:(0:Int)<(m:Int):=by omega
 rw[if_pos e1,if_neg (by omega)]
 rfl
set_option maxHeartbeats 2000000 in
theorem aSj {w0:World} (r:Ru) (x:Rs) (hn:aA7 r) (n:Nat) (hnn:n≤255) (H:aB) (hx:cN H r x) :
  aH prog (CB w0) 4 [.agg (aE r x),vU n] H fun v H'=>v=vB true:=by
 refine aSi (N:=68) (rs:=[.tmp 4]) Tryz.func4 ?_
 rintro e he ⟨g0,g1,-⟩
 have hz:=aKa (w0:=w0) r x _ (hx.more [aD.own 25 (aE r x)])
 unfold aE at g0 hz
 simp only[go_sem,he,g0,g1,hx.setPos.one,hx.month.one,hx.monthDay.one,hx.yearDay.one,hx.weekNo.one,hx.day.one,hx.hour.one,hx.minute.one,hx.second.one,hx.easter.one]
 refine aI hz ?_
 rintro _ _ ⟨rfl,rfl⟩
 simp only[go_sem,he,g0,g1,aA]
 refine aF (fun hf=>?_) fun hf=>?_
 ·simp only[go_sem,he,g0,g1]
 rw[Bool.not_eq_false'] at hf
 have hl:=aLm hf
 have e16:i64.wrap (1+((n:Int)).tmod 12)=((1+n%12:Nat):Int):=by
  rw[Int.tmod_eq_emod_of_nonneg (by omega),aJ (by omega)];omega
 obtain⟨m,hm⟩:∃m:Nat,m=1+n%12:=⟨_,rfl⟩
 rw[←hm] at e16
 obtain⟨r0,hr0⟩:∃r0,r0=aSn r:=⟨_,rfl⟩
 obtain⟨rn,hrn⟩:∃rn,rn={r0 with count:=(m:Int)}:=⟨_,rfl⟩
 have hn0:aA7 r0:=by rw[hr0];exact aSo hn
 have hnn':aA7 rn:=by rw[hrn];exact aSp hn0 (by omega)
 have hl0:xF r0:=by rw[hr0];exact hl.same rfl rfl rfl rfl rfl rfl rfl rfl rfl rfl
 have hln:xF rn:=by rw[hrn,hr0];exact hl.same rfl rfl rfl rfl rfl rfl rfl rfl rfl rfl
 have hx0:∀G,cN (H++G) r0 x:=fun G=>by rw[hr0];exact (hx.more G).same rfl rfl rfl rfl rfl rfl rfl rfl rfl rfl
 have hxn:∀G,cN (H++G) rn x:=fun G=>by rw[hrn,hr0];exact (hx.more G).same rfl rfl rfl rfl rfl rfl rfl rfl rfl rfl
 simp only[go_sem,he,g0,g1,aSb n hnn,e16,List.replicate,hx.setPos.one,hx.month.one,hx.monthDay.one,hx.yearDay.one,hx.weekNo.one,hx.day.one,hx.hour.one,hx.minute.one,hx.second.one,hx.easter.one]
 have hc0:[vU r.freq,vB r.hasStart,vI r.start,vI r.interval,vI r.wkst,vI 0,vB false,vI 0,x.setPos,x.month,x.monthDay,x.yearDay,x.weekNo,x.day,x.hour,x.minute,x.second,x.easter]=aE r0 x:=by rw[hr0];rfl
 have hcn:[vU r.freq,vB r.hasStart,vI r.start,vI r.interval,vI r.wkst,vI m,vB false,vI 0,x.setPos,x.month,x.monthDay,x.yearDay,x.weekNo,x.day,x.hour,x.minute,x.second,x.easter]=aE rn x:=by rw[hrn,hr0];rfl
 rw[hc0,hcn]
 have hd0:r0.count=0:=by rw[hr0];rfl
 have hdn:K.gK rn=(K.gK r0).take m:=by rw[hrn];exact aSl hd0 (by omega)
 clear hc0 hcn g0 hrn hr0
 refine aI (aSr (w0:=w0) r0 x hl0 hn0 m (by omega) _ (hx0 _)) ?_
 rintro _ _ hfr
 obtain⟨G,y,l,ok,is,rfl,rfl,y1,hy,hok⟩:=hfr.take
 have e37:i64.wrap ((m:Int)+1)=((m+1:Nat):Int):=by rw[aJ (by omega)];rfl
 simp only[go_sem,he,g1,aA,aSq,aSm,e37] at hy ⊢
 refine aI (aPM (w0:=w0) rn x hln hnn' (m+1) (by omega) _ (hxn _)) ?_
 rintro _ _ ⟨z,l2,ok2,rfl,hS,hok2⟩
 obtain⟨G2,rfl⟩:=hS.front
 have hy:=hy.more G2
 simp only[go_sem,he,g1,aA] at hy ⊢
 have aw:∀H,aH prog (CB w0) 22 [] H fun v H'=>v=vB true∧H'=H:=aHy
 cases is with
 |false=>
  simp only[go_sem,he,g1]
  refine aI (aw _) ?_
  rintro _ _ ⟨rfl,rfl⟩
  simp only[go_sem,he,g1,aA]
 |true=>
 cases ok2 with
 |false=>
  simp only[go_sem,he,g1]
  refine aI (aw _) ?_
  rintro _ _ ⟨rfl,rfl⟩
  simp only[go_sem,he,g1,aA]
 |true=>
 obtain⟨gd,rfl,hld⟩:=hok rfl
 obtain⟨gn,-⟩:=hok2 rfl
 simp only[go_sem,he,g1,aSq,aSm]
 refine aI (aLL (w0:=w0) rn (by have:=gn.clean.dayLen;omega) x _ (hxn _)) ?_
 rintro _ _ ⟨⟨q,rfl,hq⟩,G3,rfl⟩
 have hy:=hy.more G3
 have hfi:=aHw (w0:=w0) rn gn q _ hq (m+1) (by omega)
 simp only[go_sem,he,g1,aA,e37] at hfi hy ⊢
 refine aI hfi ?_
 rintro _ _ ⟨⟨t,rfl,ht⟩,G4,rfl⟩
 have t1:=ht.one
 have ht:=GrT.at ht
 have hy:=hy.more G4
 simp only[go_sem,he,g1,aA] at hy ⊢
 refine aI (aw _) ?_
 rintro _ _ ⟨rfl,rfl⟩
 simp only[go_sem,he,g1,aA]
 try simp only[go_sem] at ht
 refine aI (aHx _ _ (by rw[hld,List.length_take];omega) (by rw[List.length_take];omega) y t _ hy ht) ?_
 rintro _ _ ⟨rfl,rfl⟩
 rw[dcT (by rw[hld,hdn,List.take_take,Nat.min_eq_right (by omega)])]
 simp only[go_sem,he,g1,aA]
end F
end Go.Proofs.YtnoppodfngkoeaaGreat
