/- Texts of the proof, merged: WC3 WC4 CwA CwB CwC CwD Fl1 Pv1 Pv2 Pv3 CrA CrB CrC CwE CrD CnA CwF CwG CwH CrE CwI. -/
import Derived.Test.YtllnonlmibanfaaGreatDoorM5
set_option linter.unusedVariables false
set_option maxRecDepth 100000
set_option linter.unusedSimpArgs false
set_option linter.unusedSectionVars false
namespace Go.Proofs.YtllnonlmibanfaaGreatDoor.WC
open Go Go.Av
noncomputable section
noncomputable def F87_g4(N:Nat)(self:T1→Ce→Ce→T5→Option T2)(v2 v252:Ce)(v253:Int)(r4:Int→Int→(List Int)→Int→Int→Option T2)(v263 v264:Int)(v265:List Int)(v266 v267:Int):Option T2:=
 (bif(decide ((v263:Int)<v253))then((F80 N v252 v263).bind fun v268=>(self (v265,v266,v267,()) v2 (Ce.ifc 72 (Ce.ptr [(Ce.int .i64 v268.1.1),(Ce.int .i64 v268.1.2.1),(Ce.fl v268.1.2.2.1),(Ce.int .i64 v268.1.2.2.2.1)])) (((v264,()),()),())).bind fun v269=>Sum.elim (fun v270=>(some (Sum.inl (v270.1,v270.2.1,(((v270.2.2.1.1.1.1,()),()),()),())))) (fun v271=>Sum.elim (fun v272=>(some (Sum.inr (Sum.inl (v272.1,v272.2.1,(((v272.2.2.1.1.1.1,()),()),()),()))))) (fun v273=>Sum.elim (fun v274=>((r4 (IntKind.i64.wrap (v263+1)) v274.2.2.1.1.1.1 v274.2.1.1 v274.2.1.2.1 v274.2.1.2.2.1))) (fun v275=>(some (Sum.inr (Sum.inr (Sum.inr ((v275.1.1,()),v275.2.1,(((v275.2.2.1.1.1.1,()),()),()),())))))) v273) v271) v269)else(some (i2 ((),(v265,v266,v267,()),(((v264,()),()),()),()))))
noncomputable def F87_l4(N:Nat)(self:T1→Ce→Ce→T5→Option T2):Nat→Ce→Ce→Int→Int→Int→(List Int)→Int→Int→Option T2
 |0,_,_,_,_,_,_,_,_=>none
 |n+1,v2,v252,v253,v263,v264,v265,v266,v267=>F87_g4 N self v2 v252 v253 (F87_l4 N self n v2 v252 v253) v263 v264 v265 v266 v267
noncomputable def F87_g5(N:Nat)(self:T1→Ce→Ce→T5→Option T2)(v2 v277:Ce)(v278:Int)(r5:Int→Int→(List Int)→Int→Int→Option T2)(v288 v289:Int)(v290:List Int)(v291 v292:Int):Option T2:=
 (bif(decide ((v288:Int)<v278))then((F83 N v277 v288).bind fun v293=>(self (v290,v291,v292,()) v2 (Ce.ifc 75 (Ce.ptr [(Ce.int .i64 v293.1.1),(Ce.int .i64 v293.1.2.1),(Ce.fl v293.1.2.2.1),(Ce.int .i64 v293.1.2.2.2.1)])) (((v289,()),()),())).bind fun v294=>Sum.elim (fun v295=>(some (Sum.inl (v295.1,v295.2.1,(((v295.2.2.1.1.1.1,()),()),()),())))) (fun v296=>Sum.elim (fun v297=>(some (Sum.inr (Sum.inl (v297.1,v297.2.1,(((v297.2.2.1.1.1.1,()),()),()),()))))) (fun v298=>Sum.elim (fun v299=>((r5 (IntKind.i64.wrap (v288+1)) v299.2.2.1.1.1.1 v299.2.1.1 v299.2.1.2.1 v299.2.1.2.2.1))) (fun v300=>(some (Sum.inr (Sum.inr (Sum.inr ((v300.1.1,()),v300.2.1,(((v300.2.2.1.1.1.1,()),()),()),())))))) v298) v296) v294)else(some (i2 ((),(v290,v291,v292,()),(((v289,()),()),()),()))))
noncomputable def F87_l5(N:Nat)(self:T1→Ce→Ce→T5→Option T2):Nat→Ce→Ce→Int→Int→Int→(List Int)→Int→Int→Option T2
 |0,_,_,_,_,_,_,_,_=>none
 |n+1,v2,v277,v278,v288,v289,v290,v291,v292=>F87_g5 N self v2 v277 v278 (F87_l5 N self n v2 v277 v278) v288 v289 v290 v291 v292
noncomputable def F87_g6(N:Nat)(self:T1→Ce→Ce→T5→Option T2)(v2 v302:Ce)(v303:Int)(r6:Int→Int→(List Int)→Int→Int→Option T2)(v313 v314:Int)(v315:List Int)(v316 v317:Int):Option T2:=
 (bif(decide ((v313:Int)<v303))then((F86 N v302 v313).bind fun v318=>(self (v315,v316,v317,()) v2 (Ce.ifc 81 (Ce.ptr [(Ce.int .i64 v318.1.1),(Ce.int .i64 v318.1.2.1),(Ce.fl v318.1.2.2.1),(Ce.int .i64 v318.1.2.2.2.1),(Ce.il v318.1.2.2.2.2.1)])) (((v314,()),()),())).bind fun v319=>Sum.elim (fun v320=>(some (Sum.inl (v320.1,v320.2.1,(((v320.2.2.1.1.1.1,()),()),()),())))) (fun v321=>Sum.elim (fun v322=>(some (Sum.inr (Sum.inl (v322.1,v322.2.1,(((v322.2.2.1.1.1.1,()),()),()),()))))) (fun v323=>Sum.elim (fun v324=>((r6 (IntKind.i64.wrap (v313+1)) v324.2.2.1.1.1.1 v324.2.1.1 v324.2.1.2.1 v324.2.1.2.2.1))) (fun v325=>(some (Sum.inr (Sum.inr (Sum.inr ((v325.1.1,()),v325.2.1,(((v325.2.2.1.1.1.1,()),()),()),())))))) v323) v321) v319)else(some (i2 ((),(v315,v316,v317,()),(((v314,()),()),()),()))))
noncomputable def F87_l6(N:Nat)(self:T1→Ce→Ce→T5→Option T2):Nat→Ce→Ce→Int→Int→Int→(List Int)→Int→Int→Option T2
 |0,_,_,_,_,_,_,_,_=>none
 |n+1,v2,v302,v303,v313,v314,v315,v316,v317=>F87_g6 N self v2 v302 v303 (F87_l6 N self n v2 v302 v303) v313 v314 v315 v316 v317
noncomputable def F87_g7(N:Nat)(self:T1→Ce→Ce→T5→Option T2)(v2 v327:Ce)(v328:Int)(r7:Int→Int→(List Int)→Int→Int→Option T2)(v338 v339:Int)(v340:List Int)(v341 v342:Int):Option T2:=
 (bif(decide ((v338:Int)<v328))then((F53 N v327 v338).bind fun v343=>(self (v340,v341,v342,()) v2 v343 (((v339,()),()),())).bind fun v344=>Sum.elim (fun v345=>(some (Sum.inl (v345.1,v345.2.1,(((v345.2.2.1.1.1.1,()),()),()),())))) (fun v346=>Sum.elim (fun v347=>(some (Sum.inr (Sum.inl (v347.1,v347.2.1,(((v347.2.2.1.1.1.1,()),()),()),()))))) (fun v348=>Sum.elim (fun v349=>((r7 (IntKind.i64.wrap (v338+1)) v349.2.2.1.1.1.1 v349.2.1.1 v349.2.1.2.1 v349.2.1.2.2.1))) (fun v350=>(some (Sum.inr (Sum.inr (Sum.inr ((v350.1.1,()),v350.2.1,(((v350.2.2.1.1.1.1,()),()),()),())))))) v348) v346) v344)else(some (i2 ((),(v340,v341,v342,()),(((v339,()),()),()),()))))
noncomputable def F87_l7(N:Nat)(self:T1→Ce→Ce→T5→Option T2):Nat→Ce→Ce→Int→Int→Int→(List Int)→Int→Int→Option T2
 |0,_,_,_,_,_,_,_,_=>none
 |n+1,v2,v327,v328,v338,v339,v340,v341,v342=>F87_g7 N self v2 v327 v328 (F87_l7 N self n v2 v327 v328) v338 v339 v340 v341 v342
noncomputable def F87_g3(N:Nat)(self:T1→Ce→Ce→T5→Option T2)(v2 v3:Ce)(v5:T15)(v9:T21)(c4 c5 c6 c7:Ce→Ce→Int→Int→Int→(List Int)→Int→Int→Option T2)(v213:Int):Option T2:=
 (F61 N v9.2.1 v2 v213).bind fun v214=>((isT 72 v3).bind fun v215=>(bif v215 then((asT .any 72 v3).bind fun v216=>((isNilp v216).bind fun v217=>(bif v217 then none else((ptrD p0 v216).bind fun v218=>(F57 N v218.1).bind fun v219=>(bif v219.1 then(bif(v5.1.1==1)then((isNilp v216).bind fun v220=>(bif v220 then none else((ptrD p0 v216).bind fun v221=>(F62 N v221.1).bind fun v222=>(F69 N v214.2.1 v2 v222.1).bind fun v223=>(some (i2 ((),v223.2.1,(((v5.2.1.1.1.1,()),()),()),()))))))else(bif(v5.1.1==0)then((F70 N (⟨#[99,97,110,110,111,116,32,101,110,99,111,100,101,32,101,109,112,116,121,32,80,111,105,110,116,32,105,110,32,87,75,66]⟩:ByteArray)).bind fun v224=>(some (Sum.inr (Sum.inr (Sum.inr ((v224.1.1,()),v214.2.1,(((v5.2.1.1.1.1,()),()),()),()))))))else((F70 N (⟨#[99,97,110,110,111,116,32,101,110,99,111,100,101,32,101,109,112,116,121,32,80,111,105,110,116,32,105,110,32,87,75,66,32,40,117,110,107,110,111,119,110,32,111,112,116,105,111,110,41]⟩:ByteArray)).bind fun v225=>(some (Sum.inr (Sum.inr (Sum.inr ((v225.1.1,()),v214.2.1,(((v5.2.1.1.1.1,()),()),()),()))))))))else((isNilp v216).bind fun v226=>(bif v226 then none else((ptrD p0 v216).bind fun v227=>(F71 N v227.1).bind fun v228=>(F73 N v214.2.1 v2 v228.1).bind fun v229=>(some (i2 ((),v229.2.1,(((v5.2.1.1.1.1,()),()),()),())))))))))))else((isT 75 v3).bind fun v230=>(bif v230 then((asT .any 75 v3).bind fun v231=>((isNilp v231).bind fun v232=>(bif v232 then none else((ptrD (.pair p0 .unit) v231).bind fun v233=>(F71 N v233.1.1).bind fun v234=>(isNilp v231).bind fun v235=>(bif v235 then none else((ptrD (.pair p0 .unit) v231).bind fun v236=>(F62 N v236.1.1).bind fun v237=>(F74 N v214.2.1 v2 v234.1 v237.1).bind fun v238=>(some (i2 ((),v238.2.1,(((v5.2.1.1.1.1,()),()),()),())))))))))else((isT 81 v3).bind fun v239=>(bif v239 then((asT .any 81 v3).bind fun v240=>((isNilp v240).bind fun v241=>(bif v241 then none else((ptrD p1 v240).bind fun v242=>(F71 N v242.1.1.1).bind fun v243=>(isNilp v240).bind fun v244=>(bif v244 then none else((ptrD p1 v240).bind fun v245=>(F75 N v245.1).bind fun v246=>(isNilp v240).bind fun v247=>(bif v247 then none else((ptrD p1 v240).bind fun v248=>(F62 N v248.1.1.1).bind fun v249=>(F76 N v214.2.1 v2 v243.1 v246.1 v249.1).bind fun v250=>(some (i2 ((),v250.2.1,(((v5.2.1.1.1.1,()),()),()),())))))))))))else((isT 85 v3).bind fun v251=>(bif v251 then((asT .any 85 v3).bind fun v252=>((F49 N v252).bind fun v253=>((F61 N v214.2.1 v2 (IntKind.u32.wrap v253)).bind fun v254=>((c4 v2 v252 v253 0 v5.2.1.1.1.1 v254.2.1.1 v254.2.1.2.1 v254.2.1.2.2.1)))))else((isT 91 v3).bind fun v276=>(bif v276 then((asT .any 91 v3).bind fun v277=>((F50 N v277).bind fun v278=>((F61 N v214.2.1 v2 (IntKind.u32.wrap v278)).bind fun v279=>((c5 v2 v277 v278 0 v5.2.1.1.1.1 v279.2.1.1 v279.2.1.2.1 v279.2.1.2.2.1)))))else((isT 94 v3).bind fun v301=>(bif v301 then((asT .any 94 v3).bind fun v302=>((F51 N v302).bind fun v303=>((F61 N v214.2.1 v2 (IntKind.u32.wrap v303)).bind fun v304=>((c6 v2 v302 v303 0 v5.2.1.1.1.1 v304.2.1.1 v304.2.1.2.1 v304.2.1.2.2.1)))))else((isT 98 v3).bind fun v326=>(bif v326 then((asT .any 98 v3).bind fun v327=>((F52 N v327).bind fun v328=>((F61 N v214.2.1 v2 (IntKind.u32.wrap v328)).bind fun v329=>((c7 v2 v327 v328 0 v5.2.1.1.1.1 v329.2.1.1 v329.2.1.2.1 v329.2.1.2.2.1)))))else none))))))))))))))
noncomputable def F87_j3(N:Nat)(self:T1→Ce→Ce→T5→Option T2)(v2 v3:Ce)(v5:T15)(v9:T21)(v213:Int):Option T2:=
 gate N (F87_g3 N self v2 v3 v5 v9 (F87_l4 N self N) (F87_l5 N self N) (F87_l6 N self N) (F87_l7 N self N) v213)
noncomputable def F87_g2(N:Nat)(self:T1→Ce→Ce→T5→Option T2)(v2 v3:Ce)(v24:Int)(v5:T15)(v9:T21)(c3:Ce→Ce→T15→T21→Int→Option T2)(v64:Bool):Option T2:=
 bif(!v64)then(((isT 104 v3).bind fun v102=>(bif v102 then((asT .unit 104 v3).bind fun v103=>none)else((isT 105 v3).bind fun v104=>(bif v104 then((asT .unit 105 v3).bind fun v105=>none)else((isT 72 v3).bind fun v106=>(bif v106 then((asT .any 72 v3).bind fun v107=>(ptrD p0 v107).bind fun v108=>(F38 N v108.1).bind fun v109=>some v109.1)else((isT 75 v3).bind fun v110=>(bif v110 then((asT .any 75 v3).bind fun v111=>(ptrD (.pair p0 .unit) v111).bind fun v112=>(F38 N v112.1.1).bind fun v113=>some v113.1)else((isT 78 v3).bind fun v114=>(bif v114 then((asT .any 78 v3).bind fun v115=>(ptrD (.pair p0 .unit) v115).bind fun v116=>(F38 N v116.1.1).bind fun v117=>some v117.1)else((isT 81 v3).bind fun v118=>(bif v118 then((asT .any 81 v3).bind fun v119=>(ptrD p1 v119).bind fun v120=>(F38 N v120.1.1.1).bind fun v121=>some v121.1)else((isT 85 v3).bind fun v122=>(bif v122 then((asT .any 85 v3).bind fun v123=>(ptrD p1 v123).bind fun v124=>(F38 N v124.1.1.1).bind fun v125=>some v125.1)else((isT 91 v3).bind fun v126=>(bif v126 then((asT .any 91 v3).bind fun v127=>(ptrD p1 v127).bind fun v128=>(F38 N v128.1.1.1).bind fun v129=>some v129.1)else((isT 94 v3).bind fun v130=>(bif v130 then((asT .any 94 v3).bind fun v131=>(ptrD p3 v131).bind fun v132=>(F38 N v132.1.1.1).bind fun v133=>some v133.1)else((isT 98 v3).bind fun v134=>(bif v134 then((asT .any 98 v3).bind fun v135=>(ptrD p2 v135).bind fun v136=>(F39 N N v136).bind fun v137=>some v137.1)else none)))))))))))))))))))).bind fun v138=>(some (Sum.inr (Sum.inl (v138,v9.2.1,(((v5.2.1.1.1.1,()),()),()),())))))else(((isT 104 v3).bind fun v65=>(bif v65 then((asT .unit 104 v3).bind fun v66=>none)else((isT 105 v3).bind fun v67=>(bif v67 then((asT .unit 105 v3).bind fun v68=>none)else((isT 72 v3).bind fun v69=>(bif v69 then((asT .any 72 v3).bind fun v70=>(ptrD p0 v70).bind fun v71=>(F57 N v71.1).bind fun v72=>some v72.1)else((isT 75 v3).bind fun v73=>(bif v73 then((asT .any 75 v3).bind fun v74=>(ptrD (.pair p0 .unit) v74).bind fun v75=>(F57 N v75.1.1).bind fun v76=>some v76.1)else((isT 78 v3).bind fun v77=>(bif v77 then((asT .any 78 v3).bind fun v78=>(ptrD (.pair p0 .unit) v78).bind fun v79=>(F57 N v79.1.1).bind fun v80=>some v80.1)else((isT 81 v3).bind fun v81=>(bif v81 then((asT .any 81 v3).bind fun v82=>(ptrD p1 v82).bind fun v83=>(F57 N v83.1.1.1).bind fun v84=>some v84.1)else((isT 85 v3).bind fun v85=>(bif v85 then((asT .any 85 v3).bind fun v86=>(ptrD p1 v86).bind fun v87=>(F57 N v87.1.1.1).bind fun v88=>some v88.1)else((isT 91 v3).bind fun v89=>(bif v89 then((asT .any 91 v3).bind fun v90=>(ptrD p1 v90).bind fun v91=>(F57 N v91.1.1.1).bind fun v92=>some v92.1)else((isT 94 v3).bind fun v93=>(bif v93 then((asT .any 94 v3).bind fun v94=>(ptrD p3 v94).bind fun v95=>(F57 N v95.1.1.1).bind fun v96=>some v96.1)else((isT 98 v3).bind fun v97=>(bif v97 then((asT .any 98 v3).bind fun v98=>(ptrD p2 v98).bind fun v99=>(F58 N N v99).bind fun v100=>some v100.1)else none)))))))))))))))))))).bind fun v101=>(bif(!v101)then(((isT 104 v3).bind fun v139=>(bif v139 then((asT .unit 104 v3).bind fun v140=>none)else((isT 105 v3).bind fun v141=>(bif v141 then((asT .unit 105 v3).bind fun v142=>none)else((isT 72 v3).bind fun v143=>(bif v143 then((asT .any 72 v3).bind fun v144=>(ptrD p0 v144).bind fun v145=>(F38 N v145.1).bind fun v146=>some v146.1)else((isT 75 v3).bind fun v147=>(bif v147 then((asT .any 75 v3).bind fun v148=>(ptrD (.pair p0 .unit) v148).bind fun v149=>(F38 N v149.1.1).bind fun v150=>some v150.1)else((isT 78 v3).bind fun v151=>(bif v151 then((asT .any 78 v3).bind fun v152=>(ptrD (.pair p0 .unit) v152).bind fun v153=>(F38 N v153.1.1).bind fun v154=>some v154.1)else((isT 81 v3).bind fun v155=>(bif v155 then((asT .any 81 v3).bind fun v156=>(ptrD p1 v156).bind fun v157=>(F38 N v157.1.1.1).bind fun v158=>some v158.1)else((isT 85 v3).bind fun v159=>(bif v159 then((asT .any 85 v3).bind fun v160=>(ptrD p1 v160).bind fun v161=>(F38 N v161.1.1.1).bind fun v162=>some v162.1)else((isT 91 v3).bind fun v163=>(bif v163 then((asT .any 91 v3).bind fun v164=>(ptrD p1 v164).bind fun v165=>(F38 N v165.1.1.1).bind fun v166=>some v166.1)else((isT 94 v3).bind fun v167=>(bif v167 then((asT .any 94 v3).bind fun v168=>(ptrD p3 v168).bind fun v169=>(F38 N v169.1.1.1).bind fun v170=>some v170.1)else((isT 98 v3).bind fun v171=>(bif v171 then((asT .any 98 v3).bind fun v172=>(ptrD p2 v172).bind fun v173=>(F39 N N v173).bind fun v174=>some v174.1)else none)))))))))))))))))))).bind fun v175=>(some (Sum.inr (Sum.inl (v175,v9.2.1,(((v5.2.1.1.1.1,()),()),()),())))))else(c3 v2 v3 v5 v9 v24)))
noncomputable def F87_j2(N:Nat)(self:T1→Ce→Ce→T5→Option T2)(v2 v3:Ce)(v24:Int)(v5:T15)(v9:T21)(v64:Bool):Option T2:=
 gate N (F87_g2 N self v2 v3 v24 v5 v9 (F87_j3 N self) v64)
noncomputable def F87_g1(N:Nat)(self:T1→Ce→Ce→T5→Option T2)(v2 v3:Ce)(v5:T15)(v9:T21)(c2:Ce→Ce→Int→T15→T21→Bool→Option T2)(c3:Ce→Ce→T15→T21→Int→Option T2)(v24:Int):Option T2:=
 ((isT 104 v3).bind fun v25=>(bif v25 then((asT .unit 104 v3).bind fun v26=>none)else((isT 105 v3).bind fun v27=>(bif v27 then((asT .unit 105 v3).bind fun v28=>none)else((isT 72 v3).bind fun v29=>(bif v29 then((asT .any 72 v3).bind fun v30=>(ptrD p0 v30).bind fun v31=>(F38 N v31.1).bind fun v32=>some v32.1)else((isT 75 v3).bind fun v33=>(bif v33 then((asT .any 75 v3).bind fun v34=>(ptrD (.pair p0 .unit) v34).bind fun v35=>(F38 N v35.1.1).bind fun v36=>some v36.1)else((isT 78 v3).bind fun v37=>(bif v37 then((asT .any 78 v3).bind fun v38=>(ptrD (.pair p0 .unit) v38).bind fun v39=>(F38 N v39.1.1).bind fun v40=>some v40.1)else((isT 81 v3).bind fun v41=>(bif v41 then((asT .any 81 v3).bind fun v42=>(ptrD p1 v42).bind fun v43=>(F38 N v43.1.1.1).bind fun v44=>some v44.1)else((isT 85 v3).bind fun v45=>(bif v45 then((asT .any 85 v3).bind fun v46=>(ptrD p1 v46).bind fun v47=>(F38 N v47.1.1.1).bind fun v48=>some v48.1)else((isT 91 v3).bind fun v49=>(bif v49 then((asT .any 91 v3).bind fun v50=>(ptrD p1 v50).bind fun v51=>(F38 N v51.1.1.1).bind fun v52=>some v52.1)else((isT 94 v3).bind fun v53=>(bif v53 then((asT .any 94 v3).bind fun v54=>(ptrD p3 v54).bind fun v55=>(F38 N v55.1.1.1).bind fun v56=>some v56.1)else((isT 98 v3).bind fun v57=>(bif v57 then((asT .any 98 v3).bind fun v58=>(ptrD p2 v58).bind fun v59=>(F39 N N v59).bind fun v60=>some v60.1)else none)))))))))))))))))))).bind fun v61=>(bif(v61==0)then((isT 98 v3).bind fun v62=>(bif v62 then((asT .any 98 v3).bind fun v63=>(c2 v2 v3 v24 v5 v9 true))else(c2 v2 v3 v24 v5 v9 false)))else(bif(v61==1)then(c3 v2 v3 v5 v9 (IntKind.u32.wrap (v24+0)))else(bif(v61==2)then(c3 v2 v3 v5 v9 (IntKind.u32.wrap (v24+1000)))else(bif(v61==3)then(c3 v2 v3 v5 v9 (IntKind.u32.wrap (v24+2000)))else(bif(v61==4)then(c3 v2 v3 v5 v9 (IntKind.u32.wrap (v24+3000)))else(((isT 104 v3).bind fun v176=>(bif v176 then((asT .unit 104 v3).bind fun v177=>none)else((isT 105 v3).bind fun v178=>(bif v178 then((asT .unit 105 v3).bind fun v179=>none)else((isT 72 v3).bind fun v180=>(bif v180 then((asT .any 72 v3).bind fun v181=>(ptrD p0 v181).bind fun v182=>(F38 N v182.1).bind fun v183=>some v183.1)else((isT 75 v3).bind fun v184=>(bif v184 then((asT .any 75 v3).bind fun v185=>(ptrD (.pair p0 .unit) v185).bind fun v186=>(F38 N v186.1.1).bind fun v187=>some v187.1)else((isT 78 v3).bind fun v188=>(bif v188 then((asT .any 78 v3).bind fun v189=>(ptrD (.pair p0 .unit) v189).bind fun v190=>(F38 N v190.1.1).bind fun v191=>some v191.1)else((isT 81 v3).bind fun v192=>(bif v192 then((asT .any 81 v3).bind fun v193=>(ptrD p1 v193).bind fun v194=>(F38 N v194.1.1.1).bind fun v195=>some v195.1)else((isT 85 v3).bind fun v196=>(bif v196 then((asT .any 85 v3).bind fun v197=>(ptrD p1 v197).bind fun v198=>(F38 N v198.1.1.1).bind fun v199=>some v199.1)else((isT 91 v3).bind fun v200=>(bif v200 then((asT .any 91 v3).bind fun v201=>(ptrD p1 v201).bind fun v202=>(F38 N v202.1.1.1).bind fun v203=>some v203.1)else((isT 94 v3).bind fun v204=>(bif v204 then((asT .any 94 v3).bind fun v205=>(ptrD p3 v205).bind fun v206=>(F38 N v206.1.1.1).bind fun v207=>some v207.1)else((isT 98 v3).bind fun v208=>(bif v208 then((asT .any 98 v3).bind fun v209=>(ptrD p2 v209).bind fun v210=>(F39 N N v210).bind fun v211=>some v211.1)else none)))))))))))))))))))).bind fun v212=>(some (Sum.inr (Sum.inl (v212,v9.2.1,(((v5.2.1.1.1.1,()),()),()),()))))))))))
noncomputable def F87_j1(N:Nat)(self:T1→Ce→Ce→T5→Option T2)(v2 v3:Ce)(v5:T15)(v9:T21)(v24:Int):Option T2:=
 gate N (F87_g1 N self v2 v3 v5 v9 (F87_j2 N self) (F87_j3 N self) v24)
noncomputable def F87_g0(N:Nat)(self:T1→Ce→Ce→T5→Option T2)(v2 v3:Ce)(v5:T15)(v1:T1)(c1:Ce→Ce→T15→T21→Int→Option T2)(v8:Int):Option T2:=
 (F56 N (v1.1,v1.2.1,v1.2.2.1,()) v8).bind fun v9=>((isT 72 v3).bind fun v10=>(bif v10 then((asT .any 72 v3).bind fun v11=>(c1 v2 v3 v5 v9 1))else((isT 75 v3).bind fun v12=>(bif v12 then((asT .any 75 v3).bind fun v13=>(c1 v2 v3 v5 v9 2))else((isT 81 v3).bind fun v14=>(bif v14 then((asT .any 81 v3).bind fun v15=>(c1 v2 v3 v5 v9 3))else((isT 85 v3).bind fun v16=>(bif v16 then((asT .any 85 v3).bind fun v17=>(c1 v2 v3 v5 v9 4))else((isT 91 v3).bind fun v18=>(bif v18 then((asT .any 91 v3).bind fun v19=>(c1 v2 v3 v5 v9 5))else((isT 94 v3).bind fun v20=>(bif v20 then((asT .any 94 v3).bind fun v21=>(c1 v2 v3 v5 v9 6))else((isT 98 v3).bind fun v22=>(bif v22 then((asT .any 98 v3).bind fun v23=>(c1 v2 v3 v5 v9 7))else none))))))))))))))
noncomputable def F87_j0(N:Nat)(self:T1→Ce→Ce→T5→Option T2)(v2 v3:Ce)(v5:T15)(v1:T1)(v8:Int):Option T2:=
 gate N (F87_g0 N self v2 v3 v5 v1 (F87_j1 N self) v8)
noncomputable def F87_g(N:Nat)(self:T1→Ce→Ce→T5→Option T2)(v1:T1)(v2 v3:Ce)(v4:T5)(c0:Ce→Ce→T15→T1→Int→Option T2):Option T2:=
 ((F55 N (0,()) (((v4.1.1.1,()),()),())).bind fun v5=>((isU 104 v2).bind fun v6=>(bif v6 then(c0 v2 v3 v5 v1 0)else((isU 105 v2).bind fun v7=>(bif v7 then(c0 v2 v3 v5 v1 1)else(some (Sum.inl ((),(v1.1,v1.2.1,v1.2.2.1,()),(((v5.2.1.1.1.1,()),()),()),()))))))))
noncomputable def F87(N:Nat):Nat→T1→Ce→Ce→T5→Option T2
 |0,_,_,_,_=>none
 |d+1,v1,v2,v3,v4=>F87_g N (F87 N d) v1 v2 v3 v4 (F87_j0 N (F87 N d))
noncomputable def F87_con'(N d:Nat):Con2:=⟨63,[.ifc 66 (.box s1), .tr, .tr, .bsl s4],a1,fun x=>F87 N d x.1 x.2.1 x.2.2.1 x.2.2.2.1⟩
noncomputable def F87_E(N d:Nat):Env:=⟨PG,N,[F49_con N,F50_con N,F51_con N,F52_con N,F53_con N],[nm 0 [0,1,2,3] [1000000,1000001,1000002,1000003],nm 1 [0,1,2,3] [1000000,1000001,1000002,1000003],nm 2 [0,1,2,3,9] [9,102101,1000000,1000001,1000002],nm 3 [0,1,2,3,9] [9,102101,1000000,1000001,1000002],nm 5 [0,1,2,3,9,43] [9,102101,1000000,1000001,1000002],nm 6 [0,1,2,3,9,43,46] [9,102101,1000000,1000001,1000002],nm 8 [0,1,2,3,9,50] [9,102101,1000000,1000001,1000002],ng N 9 [0,1,2,3,9,10] [9,102101,1000000,1000001,1000002],nm 10 [0,1,2,3,9,11] [9,102101,102801,1000000,1000002],nm 11 [0,1,2,3,9,11,58] [9,102101,102801,1000000,1000002],nm 12 [0,1,2,3,9] [9,102101,102801,1000000,1000002],nm 13 [0,1,2,3,9] [9,102101,102801,1000000,1000002],nm 15 [0,1,2,3,9,60] [9,102101,102801,1000000,1000002],nm 16 [0,1,2,3,9,60,65] [9,102101,102801,1000000,1000002],nm 18 [0,1,2,3,9,60,68] [9,102101,102801,1000000,1000002],nm 20 [0,1,2,3,9,60,71] [9,102101,102801,1000000,1000002],nm 22 [0,1,2,3,9,60,74] [9,102101,102801,1000000,1000002],nm 24 [0,1,2,3,9,60,77] [9,102101,102801,1000000,1000002],nm 26 [0,1,2,3,9,60,80] [9,102101,102801,1000000,1000002],nm 28 [0,1,2,3,9,83] [9,102101,102801,1000000,1000002],ng N 29 [0,1,2,3,9,12] [9,102101,102801,1000000,1000002],nm 31 [0,1,2,3,9,12,86] [9,102101,102801,1000000,1000002],nm 32 [0,1,2,3,9,12,86,90] [9,102101,102801,1000000,1000002],ng N 33 [0,1,2,3,9,12,14] [9,102101,102801,1000000,1000002],nm 34 [0,1,2,3,9,12,103] [9,102101,102801,1000000,1000002],nm 36 [0,1,2,3,9,12,86,107] [9,102101,102801,1000000,1000002],nm 38 [0,1,2,3,9,12,86,111] [9,102101,102801,1000000,1000002],nm 40 [0,1,2,3,9,12,86,115] [9,102101,102801,1000000,1000002],nm 42 [0,1,2,3,9,12,119] [9,102101,102801,1000000,1000002],ng N 43 [0,1,2,3,9,12] [9,102101,102801,1000000,1000002],nm 44 [0,1,2,3,9,15] [9,102101,102801,1000000,1000002],nm 45 [0,1,2,3,9,15,128] [9,102101,102801,1000000,1000002],nm 46 [0,1,2,3,9] [9,102101,102801,1000000,1000002],nm 48 [39] [102101,102801,1000000,1000002],nm 49 [0,1,3,9,130] [9,102101,102801,1000000,1000002],nm 50 [0,1,3,9,130,135,136] [9,102101,102801,1000000,1000002],nm 51 [0,1,9,16] [9,102101,102801,1000000,1000002],nm 52 [0,1,9,16,140] [9,102101,102801,1000000,1000002],nm 54 [0,1,16,142] [102101,102801,1000000,1000002],nm 55 [0,1,16,142,144] [102101,102801,1000000,1000002],nm 57 [153] [102101,102801,1000000,1000002],nm 58 [0,1,16] [102101,102801,1000000,1000002],nm 60 [0,1,3,130,164,165] [102101,102801,1000000,1000002],nm 61 [0,1,17] [102101,102801,1000000,1000002],nm 63 [0,1,3,130,180,181] [102101,102801,1000000,1000002],nm 64 [0,1,18] [102101,102801,1000000,1000002],nm 66 [0,1,3,130,202,203] [102101,102801,1000000,1000002],nm 67 [0,1,3,19] [102101,102801,1000000,1000002],nm 68 [0,1,3,19,20] [102101,102801,1000000,1000002],nm 69 [0,1,3,19,20,21] [102101,102801,1000000,1000002],nm 70 [0,1,3,19,20,21,212] [102101,102801,1000000,1000002],nm 71 [0,1,3,19,20] [102101,102801,1000000,1000002],nm 72 [0,1,3,19,214,215] [102101,102801,1000000,1000002],nm 73 [0,1,3,19,214,215] [102101,102801,1000000,1000002],nm 74 [0,1,3,19,22,214,215] [102101,102801,1000000,1000002],nm 75 [0,1,3,19,23,214,215] [102101,102801,111250,1000000,1000002],nm 76 [0,1,3,19,23,214,215,227] [102101,102801,111250,1000000,1000002],nm 77 [0,1,3,19,214,215] [102101,102801,1000000,1000002],nm 78 [] [102101,102801,1000000,1000002],nm 80 [0,1,3,130,231,232] [102101,102801,1000000,1000002],nm 81 [0,1,3,24] [102101,102801,1000000,1000002],nm 82 [0,1,3,24,25] [102101,102801,1000000,1000002],nm 83 [0,1,3,24,25,26] [102101,102801,1000000,1000002],nm 84 [0,1,3,24,25,26,241] [102101,102801,1000000,1000002],nm 85 [0,1,3,24,25] [102101,102801,1000000,1000002],nm 86 [0,1,3,24,243,244] [102101,102801,1000000,1000002],nm 87 [0,1,3,24,243,244] [102101,102801,1000000,1000002],nm 88 [0,1,3,24,27,243,244] [102101,102801,1000000,1000002],nm 89 [0,1,3,24,28,243,244] [102101,102801,112700,1000000,1000002],nm 90 [0,1,3,24,28,243,244,256] [102101,102801,112700,1000000,1000002],nm 91 [0,1,3,24,243,244] [102101,102801,1000000,1000002],nm 92 [] [102101,102801,1000000,1000002],nm 94 [0,1,3,130,260,261] [102101,102801,1000000,1000002],nm 95 [0,1,3,29] [102101,102801,1000000,1000002],nm 96 [0,1,3,29,30] [102101,102801,1000000,1000002],nm 97 [0,1,3,29,30,31] [102101,102801,1000000,1000002],nm 98 [0,1,3,29,30,31,270] [102101,102801,1000000,1000002],nm 99 [0,1,3,29,30] [102101,102801,1000000,1000002],nm 100 [0,1,3,29,272,273] [102101,102801,1000000,1000002],nm 101 [0,1,3,29,272,273] [102101,102801,1000000,1000002],nm 102 [0,1,3,29,32,272,273] [102101,102801,1000000,1000002],nm 103 [0,1,3,29,33,272,273] [102101,102801,114150,1000000,1000002],nm 104 [0,1,3,29,33,272,273,285] [102101,102801,114150,1000000,1000002],nm 105 [0,1,3,29,272,273] [102101,102801,1000000,1000002],nm 106 [] [102101,102801,1000000,1000002],nm 108 [0,1,3,130,289,290] [102101,102801,1000000,1000002],nm 109 [0,1,3,34] [102101,102801,1000000,1000002],nm 110 [0,1,3,34,35] [102101,102801,1000000,1000002],nm 111 [0,1,3,34,35,36] [102101,102801,1000000,1000002],nm 112 [0,1,3,34,35,36,299] [102101,102801,1000000,1000002],nm 113 [0,1,3,34,35] [102101,102801,1000000,1000002],nm 114 [0,1,3,34,301,302] [102101,102801,1000000,1000002],nm 115 [0,1,3,34,301,302] [102101,102801,1000000,1000002],nm 116 [0,1,3,34,37,301,302] [102101,102801,1000000,1000002],nm 117 [0,1,3,34,38,301,302] [102101,102801,115550,1000000,1000002],nm 118 [0,1,3,34,38,301,302,313] [102101,102801,115550,1000000,1000002],nm 119 [0,1,3,34,301,302] [102101,102801,1000000,1000002],nm 120 [] [102101,102801,1000000,1000002]],kdL [(4, .bool),(70,(.int .i64)),(72, .any),(75, .any),(78, .any),(81, .any),(85, .any),(91, .any),(94, .any),(98, .any),(104, .unit),(105, .unit),(140,p0),(147,(.pair p0 .unit)),(152,p1),(155,(.pair p0 .unit)),(157,p1),(158,p1),(162,p3),(165,p2)],[F87_con' N d,F55_con N,F56_con N,F38_con N,F39_con N,F57_con N,F58_con N,F61_con N,F62_con N,F69_con N,F70_con N,F71_con N,F73_con N,F74_con N,F75_con N,F76_con N,F80_con N,F83_con N,F86_con N],[],(GL N),tl0,[(86,(.int .i64)),(88,(.int .i64)),(101, .bool),(105,(.int .i64))]⟩
noncomputable def q18(N d:Nat):=kEnd2 (F87_E N d) [] Tryz.f63.results.toList a1 [.iface 66 (.ref 1000000 0), .dead, .dead, .bsl 1000002 1]
noncomputable def F87_e4(N d n:Nat)(v2 v252:Ce)(v253 v263 v264:Int)(v265:List Int)(v266 v267:Int):=
 lq (F87_E N d) (c63 [1,1,1,1,1,1,1,1,1,1,0,1,1,1,1,1,1,1,0,1,1,1,0,1,0,0]) n ⟨[(0, .iface 66 (.ref 1000000 0)),(1, .pv .any v2),(3, .bsl 1000002 1),(19, .pv .any v252),(214, .pv (.int .i64) v253),(215, .pv (.int .i64) v263)],[(102101, .box [.pv (.int .u8) v264]),(102801, .arr 5 (.int .u8) v265),(1000000, .box [.own (.int .u8) 102801, .pv (.int .i64) v266, .pv (.int .i8) v267]),(1000002, .box [.func 109 [.ref 102101 0]])],[]⟩ (kBlock 5 (kq (F87_E N d) (c63 [1,1,1,1,1,1,1,1,1,1,0,1,1,1,1,1,1,1,0,1,1,1,1]) (kBlock 3 (q18 N d))))
noncomputable def F87_e5(N d n:Nat)(v2 v277:Ce)(v278 v288 v289:Int)(v290:List Int)(v291 v292:Int):=
 lq (F87_E N d) (c63 [1,1,1,1,1,1,1,1,1,1,0,1,1,1,1,1,1,1,1,1,0,1,1,1,0,1,0,0]) n ⟨[(0, .iface 66 (.ref 1000000 0)),(1, .pv .any v2),(3, .bsl 1000002 1),(24, .pv .any v277),(243, .pv (.int .i64) v278),(244, .pv (.int .i64) v288)],[(102101, .box [.pv (.int .u8) v289]),(102801, .arr 5 (.int .u8) v290),(1000000, .box [.own (.int .u8) 102801, .pv (.int .i64) v291, .pv (.int .i8) v292]),(1000002, .box [.func 109 [.ref 102101 0]])],[]⟩ (kBlock 7 (kq (F87_E N d) (c63 [1,1,1,1,1,1,1,1,1,1,0,1,1,1,1,1,1,1,1,1,0,1,1,1,1]) (kBlock 3 (q18 N d))))
noncomputable def F87_e6(N d n:Nat)(v2 v302:Ce)(v303 v313 v314:Int)(v315:List Int)(v316 v317:Int):=
 lq (F87_E N d) (c63 [1,1,1,1,1,1,1,1,1,1,0,1,1,1,1,1,1,1,1,1,1,1,0,1,1,1,0,1,0,0]) n ⟨[(0, .iface 66 (.ref 1000000 0)),(1, .pv .any v2),(3, .bsl 1000002 1),(29, .pv .any v302),(272, .pv (.int .i64) v303),(273, .pv (.int .i64) v313)],[(102101, .box [.pv (.int .u8) v314]),(102801, .arr 5 (.int .u8) v315),(1000000, .box [.own (.int .u8) 102801, .pv (.int .i64) v316, .pv (.int .i8) v317]),(1000002, .box [.func 109 [.ref 102101 0]])],[]⟩ (kBlock 9 (kq (F87_E N d) (c63 [1,1,1,1,1,1,1,1,1,1,0,1,1,1,1,1,1,1,1,1,1,1,0,1,1,1,1]) (kBlock 3 (q18 N d))))
noncomputable def F87_e7(N d n:Nat)(v2 v327:Ce)(v328 v338 v339:Int)(v340:List Int)(v341 v342:Int):=
 lq (F87_E N d) (c63 [1,1,1,1,1,1,1,1,1,1,0,1,1,1,1,1,1,1,1,1,1,1,1,1,0,1,1,1,0,1,0,0]) n ⟨[(0, .iface 66 (.ref 1000000 0)),(1, .pv .any v2),(3, .bsl 1000002 1),(34, .pv .any v327),(301, .pv (.int .i64) v328),(302, .pv (.int .i64) v338)],[(102101, .box [.pv (.int .u8) v339]),(102801, .arr 5 (.int .u8) v340),(1000000, .box [.own (.int .u8) 102801, .pv (.int .i64) v341, .pv (.int .i8) v342]),(1000002, .box [.func 109 [.ref 102101 0]])],[]⟩ (kBlock 11 (kq (F87_E N d) (c63 [1,1,1,1,1,1,1,1,1,1,0,1,1,1,1,1,1,1,1,1,1,1,1,1,0,1,1,1,1]) (kBlock 3 (q18 N d))))
noncomputable def F87_e3(N d:Nat)(v2 v3:Ce)(v5:T15)(v9:T21)(v213:Int):=
 gate N (evC (F87_E N d) (c63 [1,1,1,1,1,1,1,1]) ⟨[(0, .iface 66 (.ref 1000000 0)),(1, .pv .any v2),(2, .pv .any v3),(3, .bsl 1000002 1),(9, .ref 9 0),(12, .pv (.int .u32) v213)],[(9, .box [.pv (.int .u8) v5.1.1]),(102101, .box [.pv (.int .u8) v5.2.1.1.1.1]),(102801, .arr 5 (.int .u8) v9.2.1.1),(1000000, .box [.own (.int .u8) 102801, .pv (.int .i64) v9.2.1.2.1, .pv (.int .i8) v9.2.1.2.2.1]),(1000002, .box [.func 109 [.ref 102101 0]])],[]⟩ (q18 N d))
noncomputable def F87_e2(N d:Nat)(v2 v3:Ce)(v24:Int)(v5:T15)(v9:T21)(v64:Bool):=
 gate N (evC (F87_E N d) (c63 [1,1,1,1,1,1,1,0,1,0,1,0,1]) ⟨[(0, .iface 66 (.ref 1000000 0)),(1, .pv .any v2),(2, .pv .any v3),(3, .bsl 1000002 1),(9, .ref 9 0),(12, .pv (.int .u32) v24),(14, .pv .bool v64)],[(9, .box [.pv (.int .u8) v5.1.1]),(102101, .box [.pv (.int .u8) v5.2.1.1.1.1]),(102801, .arr 5 (.int .u8) v9.2.1.1),(1000000, .box [.own (.int .u8) 102801, .pv (.int .i64) v9.2.1.2.1, .pv (.int .i8) v9.2.1.2.2.1]),(1000002, .box [.func 109 [.ref 102101 0]])],[]⟩ (kBlock 2 (kq (F87_E N d) (c63 [1,1,1,1,1,1,1,1]) (q18 N d))))
noncomputable def F87_e1(N d:Nat)(v2 v3:Ce)(v5:T15)(v9:T21)(v24:Int):=
 gate N (evC (F87_E N d) (c63 [1,1,1,1,1,1,1]) ⟨[(0, .iface 66 (.ref 1000000 0)),(1, .pv .any v2),(2, .pv .any v3),(3, .bsl 1000002 1),(9, .ref 9 0),(12, .pv (.int .u32) v24)],[(9, .box [.pv (.int .u8) v5.1.1]),(102101, .box [.pv (.int .u8) v5.2.1.1.1.1]),(102801, .arr 5 (.int .u8) v9.2.1.1),(1000000, .box [.own (.int .u8) 102801, .pv (.int .i64) v9.2.1.2.1, .pv (.int .i8) v9.2.1.2.2.1]),(1000002, .box [.func 109 [.ref 102101 0]])],[]⟩ (q18 N d))
noncomputable def F87_e0(N d:Nat)(v2 v3:Ce)(v5:T15)(v1:T1)(v8:Int):=
 gate N (evC (F87_E N d) (c63 [1,1,1,1]) ⟨[(0, .iface 66 (.ref 1000000 0)),(1, .pv .any v2),(2, .pv .any v3),(3, .bsl 1000002 1),(9, .ref 9 0),(10, .pv (.int .u8) v8)],[(9, .box [.pv (.int .u8) v5.1.1]),(102101, .box [.pv (.int .u8) v5.2.1.1.1.1]),(1000000, .box [.own (.int .u8) 1000001, .pv (.int .i64) v1.2.1, .pv (.int .i8) v1.2.2.1]),(1000001, .arr 5 (.int .u8) v1.1),(1000002, .box [.func 109 [.ref 102101 0]])],[]⟩ (q18 N d))
theorem F87_t4(N d:Nat):∀(n:Nat) (v2 v252:Ce) (v253 v263 v264:Int) (v265:List Int) (v266 v267:Int),F87_e4 N d n v2 v252 v253 v263 v264 v265 v266 v267=F87_l4 N (F87 N d) n v2 v252 v253 v263 v264 v265 v266 v267
 |0,_,_,_,_,_,_,_,_=>rfl
 |n+1,v2,v252,v253,v263,v264,v265,v266,v267=>by
  have h:F87_e4 N d n v2 v252 v253=F87_l4 N (F87 N d) n v2 v252 v253:=by funext v263 v264 v265 v266 v267;exact F87_t4 N d n v2 v252 v253 v263 v264 v265 v266 v267
  exact Eq.trans (b:=F87_g4 N (F87 N d) v2 v252 v253 (F87_e4 N d n v2 v252 v253) v263 v264 v265 v266 v267) (by kernel_rfl) (by rw[h];rfl)
theorem F87_t5(N d:Nat):∀(n:Nat) (v2 v277:Ce) (v278 v288 v289:Int) (v290:List Int) (v291 v292:Int),F87_e5 N d n v2 v277 v278 v288 v289 v290 v291 v292=F87_l5 N (F87 N d) n v2 v277 v278 v288 v289 v290 v291 v292
 |0,_,_,_,_,_,_,_,_=>rfl
 |n+1,v2,v277,v278,v288,v289,v290,v291,v292=>by
  have h:F87_e5 N d n v2 v277 v278=F87_l5 N (F87 N d) n v2 v277 v278:=by funext v288 v289 v290 v291 v292;exact F87_t5 N d n v2 v277 v278 v288 v289 v290 v291 v292
  exact Eq.trans (b:=F87_g5 N (F87 N d) v2 v277 v278 (F87_e5 N d n v2 v277 v278) v288 v289 v290 v291 v292) (by kernel_rfl) (by rw[h];rfl)
theorem F87_t6(N d:Nat):∀(n:Nat) (v2 v302:Ce) (v303 v313 v314:Int) (v315:List Int) (v316 v317:Int),F87_e6 N d n v2 v302 v303 v313 v314 v315 v316 v317=F87_l6 N (F87 N d) n v2 v302 v303 v313 v314 v315 v316 v317
 |0,_,_,_,_,_,_,_,_=>rfl
 |n+1,v2,v302,v303,v313,v314,v315,v316,v317=>by
  have h:F87_e6 N d n v2 v302 v303=F87_l6 N (F87 N d) n v2 v302 v303:=by funext v313 v314 v315 v316 v317;exact F87_t6 N d n v2 v302 v303 v313 v314 v315 v316 v317
  exact Eq.trans (b:=F87_g6 N (F87 N d) v2 v302 v303 (F87_e6 N d n v2 v302 v303) v313 v314 v315 v316 v317) (by kernel_rfl) (by rw[h];rfl)
theorem F87_t7(N d:Nat):∀(n:Nat) (v2 v327:Ce) (v328 v338 v339:Int) (v340:List Int) (v341 v342:Int),F87_e7 N d n v2 v327 v328 v338 v339 v340 v341 v342=F87_l7 N (F87 N d) n v2 v327 v328 v338 v339 v340 v341 v342
 |0,_,_,_,_,_,_,_,_=>rfl
 |n+1,v2,v327,v328,v338,v339,v340,v341,v342=>by
  have h:F87_e7 N d n v2 v327 v328=F87_l7 N (F87 N d) n v2 v327 v328:=by funext v338 v339 v340 v341 v342;exact F87_t7 N d n v2 v327 v328 v338 v339 v340 v341 v342
  exact Eq.trans (b:=F87_g7 N (F87 N d) v2 v327 v328 (F87_e7 N d n v2 v327 v328) v338 v339 v340 v341 v342) (by kernel_rfl) (by rw[h];rfl)
theorem F87_t3(N d:Nat)(v2 v3:Ce)(v5:T15)(v9:T21)(v213:Int):F87_e3 N d v2 v3 v5 v9 v213=F87_j3 N (F87 N d) v2 v3 v5 v9 v213:=by
 have h4:(F87_e4 N d N)=(F87_l4 N (F87 N d) N):=by funext v2 v252 v253 v263 v264 v265 v266 v267;exact F87_t4 N d N v2 v252 v253 v263 v264 v265 v266 v267
 have h5:(F87_e5 N d N)=(F87_l5 N (F87 N d) N):=by funext v2 v277 v278 v288 v289 v290 v291 v292;exact F87_t5 N d N v2 v277 v278 v288 v289 v290 v291 v292
 have h6:(F87_e6 N d N)=(F87_l6 N (F87 N d) N):=by funext v2 v302 v303 v313 v314 v315 v316 v317;exact F87_t6 N d N v2 v302 v303 v313 v314 v315 v316 v317
 have h7:(F87_e7 N d N)=(F87_l7 N (F87 N d) N):=by funext v2 v327 v328 v338 v339 v340 v341 v342;exact F87_t7 N d N v2 v327 v328 v338 v339 v340 v341 v342
 exact(congrArg (gate N) (show _=F87_g3 N (F87 N d) v2 v3 v5 v9 (F87_e4 N d N) (F87_e5 N d N) (F87_e6 N d N) (F87_e7 N d N) v213 from by kernel_rfl)).trans (by rw[h4,h5,h6,h7];rfl)
theorem F87_t2(N d:Nat)(v2 v3:Ce)(v24:Int)(v5:T15)(v9:T21)(v64:Bool):F87_e2 N d v2 v3 v24 v5 v9 v64=F87_j2 N (F87 N d) v2 v3 v24 v5 v9 v64:=by
 have h3:(F87_e3 N d)=(F87_j3 N (F87 N d)):=by funext v2 v3 v5 v9 v213;exact F87_t3 N d v2 v3 v5 v9 v213
 exact(congrArg (gate N) (show _=F87_g2 N (F87 N d) v2 v3 v24 v5 v9 (F87_e3 N d) v64 from by kernel_rfl)).trans (by rw[h3];rfl)
theorem F87_t1(N d:Nat)(v2 v3:Ce)(v5:T15)(v9:T21)(v24:Int):F87_e1 N d v2 v3 v5 v9 v24=F87_j1 N (F87 N d) v2 v3 v5 v9 v24:=by
 have h2:(F87_e2 N d)=(F87_j2 N (F87 N d)):=by funext v2 v3 v24 v5 v9 v64;exact F87_t2 N d v2 v3 v24 v5 v9 v64
 have h3:(F87_e3 N d)=(F87_j3 N (F87 N d)):=by funext v2 v3 v5 v9 v213;exact F87_t3 N d v2 v3 v5 v9 v213
 exact(congrArg (gate N) (show _=F87_g1 N (F87 N d) v2 v3 v5 v9 (F87_e2 N d) (F87_e3 N d) v24 from by kernel_rfl)).trans (by rw[h2,h3];rfl)
theorem F87_t0(N d:Nat)(v2 v3:Ce)(v5:T15)(v1:T1)(v8:Int):F87_e0 N d v2 v3 v5 v1 v8=F87_j0 N (F87 N d) v2 v3 v5 v1 v8:=by
 have h1:(F87_e1 N d)=(F87_j1 N (F87 N d)):=by funext v2 v3 v5 v9 v24;exact F87_t1 N d v2 v3 v5 v9 v24
 exact(congrArg (gate N) (show _=F87_g0 N (F87 N d) v2 v3 v5 v1 (F87_e1 N d) v8 from by kernel_rfl)).trans (by rw[h1];rfl)
theorem F87_t(N d:Nat)(v1:T1)(v2 v3:Ce)(v4:T5):evF2 (F87_E N d) [] Tryz.f63 [.ifc 66 (.box s1), .tr, .tr, .bsl s4] a1 (v1,v2,v3,v4,())=F87 N (d+1) v1 v2 v3 v4:=by
 have h0:(F87_e0 N d)=(F87_j0 N (F87 N d)):=by funext v2 v3 v5 v1 v8;exact F87_t0 N d v2 v3 v5 v1 v8
 exact Eq.trans (b:=F87_g N (F87 N d) v1 v2 v3 v4 (F87_e0 N d)) (by kernel_rfl) (by rw[h0];rfl)
theorem F87_s'(N:Nat):∀d,(F87_con' N d).Sound PG (GL N)
 |0=>fun _ _ _ _ _ _ _ _ _ _ _ h=>by cases h
 |d+1=>Con2.sound_of (c:=F87_con' N (d+1)) (E:=(F87_E N d)) (idle:=[]) Tryz.func63 (by kernel_rfl) (by kernel_rfl) ⟨(allCons (F49_s N) (allCons (F50_s N) (allCons (F51_s N) (allCons (F52_s N) (allCons (F53_s N) allNil))))),(allCons (F87_s' N d) (allCons (F55_s N) (allCons (F56_s N) (allCons (F38_s N) (allCons (F39_s N) (allCons (F57_s N) (allCons (F58_s N) (allCons (F61_s N) (allCons (F62_s N) (allCons (F69_s N) (allCons (F70_s N) (allCons (F71_s N) (allCons (F73_s N) (allCons (F74_s N) (allCons (F75_s N) (allCons (F76_s N) (allCons (F80_s N) (allCons (F83_s N) (allCons (F86_s N) allNil))))))))))))))))))),rfl⟩ allNil (fun x y h=>(F87_t N d x.1 x.2.1 x.2.2.1 x.2.2.2.1).trans h)
noncomputable def F87_con(N:Nat):Con2:=F87_con' N N
theorem F87_s(N:Nat):(F87_con N).Sound PG (GL N):=F87_s' N N
noncomputable def F88_E(N:Nat):Env:=⟨PG,N,[],[nm 0 [0] [1000000,1000001],nm 1 [0] [1000000,1000001]],kdL [],[],[],(GL N),tl0,[]⟩
noncomputable def F88_g(N:Nat)(v1:T1):Option (((List Int)×T1×Unit)):=
 ((chk2 v1.2.1 (v1.1.length:Int) v1.1.length).bind fun v2=>(some (((v1.1.drop v2.1).take (v2.2-v2.1)),(v1.1,v1.2.1,v1.2.2.1,()),())))
noncomputable def F88(N:Nat)(v1:T1):Option (((List Int)×T1×Unit)):=
 F88_g N v1
theorem F88_t(N:Nat)(v1:T1):evF2 (F88_E N) [] Tryz.f37 [.box s1] [⟨[.k (.list (.int .u8))],[some (.box s0)]⟩] (v1,())=F88 N v1:=
 Eq.trans (b:=F88_g N v1) (by kernel_rfl) rfl
noncomputable def F88_con(N:Nat):Con2:=⟨37,[.box s1],[⟨[.k (.list (.int .u8))],[some (.box s0)]⟩],fun x=>F88 N x.1⟩
theorem F88_s(N:Nat):(F88_con N).Sound PG (GL N):=
 Con2.sound_of (c:=F88_con N) (E:=(F88_E N)) (idle:=[]) Tryz.func37 (by kernel_rfl) (by kernel_rfl) ⟨allNil,allNil,rfl⟩ allNil (fun x y h=>(F88_t N x.1).trans h)
noncomputable def F89_E(N:Nat):Env:=⟨PG,N,[],[nm 0 [0,1,2] [1000000,1000001],nm 1 [0,1,2] [1000000,1000001],nm 2 [0,1,2,8] [100500,100501,1000000,1000001],nm 3 [8,9] [100500,100501,100800,100803,100804,1000000],nm 4 [8,9,18] [100500,100501,100800,100803,100804,1000000],nm 5 [8] [100500,100501,100803,1000000]],kdL [],[F48_con N,F87_con N,F88_con N],[],(GL N),tl0,[]⟩
noncomputable def F89_g(N:Nat)(v1 v2:Ce)(v3:T5):Option (((List Int)×Unit×T5×Unit)⊕((List Int)×Int×T5×Unit)⊕((List Int)×(ByteArray×Unit)×T5×Unit)⊕((List Int)×Unit×T5×Unit)):=
 ((F48 N ([]:List Int)).bind fun v4=>((F87 N N v4.1 v2 v1 (((v3.1.1.1,()),()),())).bind fun v5=>Sum.elim (fun v6=>(some (Sum.inl (([]:List Int),v6.1,(((v6.2.2.1.1.1.1,()),()),()),())))) (fun v7=>Sum.elim (fun v8=>(some (Sum.inr (Sum.inl (([]:List Int),v8.1,(((v8.2.2.1.1.1.1,()),()),()),()))))) (fun v9=>Sum.elim (fun v10=>((F88 N v10.2.1).bind fun v12=>(some (Sum.inr (Sum.inr (Sum.inr (v12.1,(),(((v10.2.2.1.1.1.1,()),()),()),()))))))) (fun v11=>(some (i2 (([]:List Int),(v11.1.1,()),(((v11.2.2.1.1.1.1,()),()),()),())))) v9) v7) v5))
noncomputable def F89(N:Nat)(v1 v2:Ce)(v3:T5):Option (((List Int)×Unit×T5×Unit)⊕((List Int)×Int×T5×Unit)⊕((List Int)×(ByteArray×Unit)×T5×Unit)⊕((List Int)×Unit×T5×Unit)):=
 F89_g N v1 v2 v3
theorem F89_t(N:Nat)(v1 v2:Ce)(v3:T5):evF2 (F89_E N) [] Tryz.f29 [.k .any, .k .any, .bsl s4] a31 (v1,v2,v3,())=F89 N v1 v2 v3:=
 Eq.trans (b:=F89_g N v1 v2 v3) (by kernel_rfl) rfl
noncomputable def F89_con(N:Nat):Con2:=⟨29,[.k .any, .k .any, .bsl s4],a31,fun x=>F89 N x.1 x.2.1 x.2.2.1⟩
theorem F89_s(N:Nat):(F89_con N).Sound PG (GL N):=
 Con2.sound_of (c:=F89_con N) (E:=(F89_E N)) (idle:=[]) Tryz.func29 (by kernel_rfl) (by kernel_rfl) ⟨allNil,(allCons (F48_s N) (allCons (F87_s N) (allCons (F88_s N) allNil))),rfl⟩ allNil (fun x y h=>(F89_t N x.1 x.2.1 x.2.2.1).trans h)
noncomputable def F90_E(N:Nat):Env:=⟨PG,N,[F15_con N],[nm 0 [0,1,2] [],nm 1 [1,2,3,6,7] [3,6,7],nm 2 [1,2,3,6,7] [3,6,7],nm 3 [6,7,8,9] [6,7,100900,100901],nm 4 [6,7,8,22] [6,7,100900],nm 5 [6,7,8] [6,7]],kdL [],[F45_con N,F47_con N,F89_con N],[],(GL N),tl0,[]⟩
noncomputable def F90_g(N:Nat)(v1:Geo)(v2 v3:Bool):Option ((List Int)×Bool):=
 ((F45 N N (Geo.mk v1.kind v1.layout v1.srid v1.flat v1.ends v1.endss v1.kids)).bind fun v4=>(F15 N v2).bind fun v5=>(F47 N v3).bind fun v6=>Sum.elim (fun v7=>(F89 N v4.1 v5 (((v7.1.1.1.1,()),()),())).bind fun v9=>Sum.elim (fun v10=>(some (([]:List Int),false))) (fun v11=>Sum.elim (fun v12=>(some (([]:List Int),false))) (fun v13=>Sum.elim (fun v14=>(some (([]:List Int),false))) (fun v15=>(some (v15.1,true))) v13) v11) v9) (fun v8=>none) v6)
noncomputable def F90(N:Nat)(v1:Geo)(v2 v3:Bool):Option ((List Int)×Bool):=
 F90_g N v1 v2 v3
theorem F90_t(N:Nat)(v1:Geo)(v2 v3:Bool):evF (F90_E N) [28] Tryz.f11 [.k .geo, .k .bool, .k .bool] [(.list (.int .u8)), .bool] (v1,v2,v3,())=F90 N v1 v2 v3:=
 Eq.trans (b:=F90_g N v1 v2 v3) (by kernel_rfl) rfl
noncomputable def F90_con(N:Nat):Con:=⟨11,[.k .geo, .k .bool, .k .bool],[(.list (.int .u8)), .bool],fun x=>F90 N x.1 x.2.1 x.2.2.1⟩
theorem F90_s(N:Nat):(F90_con N).Sound PG (GL N):=
 Con.sound_of (c:=F90_con N) (E:=(F90_E N)) (idle:=[28]) Tryz.func11 (by kernel_rfl) (by kernel_rfl) ⟨(allCons (F15_s N) allNil),(allCons (F45_s N) (allCons (F47_s N) (allCons (F89_s N) allNil))),rfl⟩ (allCons (idle_of Tryz.func28 (by kernel_rfl)) allNil) (fun x y h=>(F90_t N x.1 x.2.1 x.2.2.1).trans h)
noncomputable def F91_E(N:Nat):Env:=⟨PG,N,[],[nm 0 [0,1] [],nm 1 [0,1,4] [4],nm 2 [0,4,7] [4],nm 3 [0,4] []],kdL [],[],[],(GL N),tl0,[]⟩
noncomputable def F91_g(N:Nat)(v1:Ce)(v2:Int):Option (Geo×Bool):=
 (some ((Geo.mk 0 0 0 ([]:List Nat) ([]:List Int) ([]:List (List Int)) ([]:List Geo)),false))
noncomputable def F91(N:Nat)(v1:Ce)(v2:Int):Option (Geo×Bool):=
 F91_g N v1 v2
theorem F91_t(N:Nat)(v1:Ce)(v2:Int):evF (F91_E N) [] Tryz.f24 [.k .any, .ifc 175 (.int .u8)] [.geo, .bool] (v1,v2,())=F91 N v1 v2:=
 Eq.trans (b:=F91_g N v1 v2) (by kernel_rfl) rfl
noncomputable def F91_con(N:Nat):Con:=⟨24,[.k .any, .ifc 175 (.int .u8)],[.geo, .bool],fun x=>F91 N x.1 x.2.1⟩
theorem F91_s(N:Nat):(F91_con N).Sound PG (GL N):=
 Con.sound_of (c:=F91_con N) (E:=(F91_E N)) (idle:=[]) Tryz.func24 (by kernel_rfl) (by kernel_rfl) ⟨allNil,allNil,rfl⟩ allNil (fun x y h=>(F91_t N x.1 x.2.1).trans h)
noncomputable def F92_E(N:Nat):Env:=⟨PG,N,[],[nm 0 [0,1] [],nm 1 [0,1,4] [4],nm 2 [0,4,7] [4],nm 3 [0,4] []],kdL [],[],[],(GL N),tl0,[]⟩
noncomputable def F92_g(N:Nat)(v1:Ce)(v2:Int):Option (Geo×Bool):=
 (some ((Geo.mk 0 0 0 ([]:List Nat) ([]:List Int) ([]:List (List Int)) ([]:List Geo)),false))
noncomputable def F92(N:Nat)(v1:Ce)(v2:Int):Option (Geo×Bool):=
 F92_g N v1 v2
theorem F92_t(N:Nat)(v1:Ce)(v2:Int):evF (F92_E N) [] Tryz.f24 [.k .any, .ifc 179 (.int .u32)] [.geo, .bool] (v1,v2,())=F92 N v1 v2:=
 Eq.trans (b:=F92_g N v1 v2) (by kernel_rfl) rfl
noncomputable def F92_con(N:Nat):Con:=⟨24,[.k .any, .ifc 179 (.int .u32)],[.geo, .bool],fun x=>F92 N x.1 x.2.1⟩
theorem F92_s(N:Nat):(F92_con N).Sound PG (GL N):=
 Con.sound_of (c:=F92_con N) (E:=(F92_E N)) (idle:=[]) Tryz.func24 (by kernel_rfl) (by kernel_rfl) ⟨allNil,allNil,rfl⟩ allNil (fun x y h=>(F92_t N x.1 x.2.1).trans h)
noncomputable def F93_E(N:Nat):Env:=⟨PG,N,[],[nm 0 [0,1] [],nm 1 [0,1,4] [4],nm 2 [0,4,7] [4],nm 3 [0,4] []],kdL [],[],[],(GL N),tl0,[]⟩
noncomputable def F93_g(N:Nat)(v1:Ce)(v2:(Int×T20)):Option (Geo×Bool):=
 (some ((Geo.mk 0 0 0 ([]:List Nat) ([]:List Int) ([]:List (List Int)) ([]:List Geo)),false))
noncomputable def F93(N:Nat)(v1:Ce)(v2:(Int×T20)):Option (Geo×Bool):=
 F93_g N v1 v2
theorem F93_t(N:Nat)(v1:Ce)(v2:(Int×T20)):evF (F93_E N) [] Tryz.f24 [.k .any, .ifc 186 (.pair (.int .i64) p5)] [.geo, .bool] (v1,v2,())=F93 N v1 v2:=
 Eq.trans (b:=F93_g N v1 v2) (by kernel_rfl) rfl
noncomputable def F93_con(N:Nat):Con:=⟨24,[.k .any, .ifc 186 (.pair (.int .i64) p5)],[.geo, .bool],fun x=>F93 N x.1 x.2.1⟩
theorem F93_s(N:Nat):(F93_con N).Sound PG (GL N):=
 Con.sound_of (c:=F93_con N) (E:=(F93_E N)) (idle:=[]) Tryz.func24 (by kernel_rfl) (by kernel_rfl) ⟨allNil,allNil,rfl⟩ allNil (fun x y h=>(F93_t N x.1 x.2.1).trans h)
noncomputable def F94_E(N:Nat):Env:=⟨PG,N,[],[nm 0 [0,1] [],nm 1 [0,1,4] [4],nm 2 [0,4,7] [4],nm 3 [0,4] []],kdL [],[],[],(GL N),tl0,[]⟩
noncomputable def F94_g(N:Nat)(v1:Ce)(v2:T20):Option (Geo×Bool):=
 (some ((Geo.mk 0 0 0 ([]:List Nat) ([]:List Int) ([]:List (List Int)) ([]:List Geo)),false))
noncomputable def F94(N:Nat)(v1:Ce)(v2:T20):Option (Geo×Bool):=
 F94_g N v1 v2
theorem F94_t(N:Nat)(v1:Ce)(v2:T20):evF (F94_E N) [] Tryz.f24 [.k .any, .ifc 218 p5] [.geo, .bool] (v1,v2,())=F94 N v1 v2:=
 Eq.trans (b:=F94_g N v1 v2) (by kernel_rfl) rfl
noncomputable def F94_con(N:Nat):Con:=⟨24,[.k .any, .ifc 218 p5],[.geo, .bool],fun x=>F94 N x.1 x.2.1⟩
theorem F94_s(N:Nat):(F94_con N).Sound PG (GL N):=
 Con.sound_of (c:=F94_con N) (E:=(F94_E N)) (idle:=[]) Tryz.func24 (by kernel_rfl) (by kernel_rfl) ⟨allNil,allNil,rfl⟩ allNil (fun x y h=>(F94_t N x.1 x.2.1).trans h)
noncomputable def F95_E(N:Nat):Env:=⟨PG,N,[],[nm 0 [0,1] [],nm 1 [0,1,4] [4],nm 2 [0,4,7] [4],nm 3 [0,4] []],kdL [],[],[],(GL N),tl0,[]⟩
noncomputable def F95_g(N:Nat)(v1:Ce)(v2:Int):Option (Geo×Bool):=
 (some ((Geo.mk 0 0 0 ([]:List Nat) ([]:List Int) ([]:List (List Int)) ([]:List Geo)),false))
noncomputable def F95(N:Nat)(v1:Ce)(v2:Int):Option (Geo×Bool):=
 F95_g N v1 v2
theorem F95_t(N:Nat)(v1:Ce)(v2:Int):evF (F95_E N) [] Tryz.f24 [.k .any, .ifc 198 (.int .u32)] [.geo, .bool] (v1,v2,())=F95 N v1 v2:=
 Eq.trans (b:=F95_g N v1 v2) (by kernel_rfl) rfl
noncomputable def F95_con(N:Nat):Con:=⟨24,[.k .any, .ifc 198 (.int .u32)],[.geo, .bool],fun x=>F95 N x.1 x.2.1⟩
theorem F95_s(N:Nat):(F95_con N).Sound PG (GL N):=
 Con.sound_of (c:=F95_con N) (E:=(F95_E N)) (idle:=[]) Tryz.func24 (by kernel_rfl) (by kernel_rfl) ⟨allNil,allNil,rfl⟩ allNil (fun x y h=>(F95_t N x.1 x.2.1).trans h)
noncomputable def F96_E(N:Nat):Env:=⟨PG,N,[],[nm 0 [0] [],nm 1 [0] []],kdL [],[],[],(GL N),tl0,[]⟩
noncomputable def F96_g(N:Nat)(v1:List Int):Option ((T1×Unit)):=
 (some ((v1,0,0,()),()))
noncomputable def F96(N:Nat)(v1:List Int):Option ((T1×Unit)):=
 F96_g N v1
theorem F96_t(N:Nat)(v1:List Int):evF2 (F96_E N) [] Tryz.f35 [.k (.list (.int .u8))] [⟨[.box s0],[none]⟩] (v1,())=F96 N v1:=
 Eq.trans (b:=F96_g N v1) (by kernel_rfl) rfl
noncomputable def F96_con(N:Nat):Con2:=⟨35,[.k (.list (.int .u8))],[⟨[.box s0],[none]⟩],fun x=>F96 N x.1⟩
theorem F96_s(N:Nat):(F96_con N).Sound PG (GL N):=
 Con2.sound_of (c:=F96_con N) (E:=(F96_E N)) (idle:=[]) Tryz.func35 (by kernel_rfl) (by kernel_rfl) ⟨allNil,allNil,rfl⟩ allNil (fun x y h=>(F96_t N x.1).trans h)
noncomputable def F97_E(N:Nat):Env:=⟨PG,N,[],[nm 0 [0] [],nm 1 [0] []],kdL [],[],[],(GL N),tl0,[]⟩
noncomputable def F97_g(N:Nat)(v1:((List Int)×T20)):Option ((Bool×Unit)):=
 (some ((decide (((v1.1.length:Int):Int)≤v1.2.1)),()))
noncomputable def F97(N:Nat)(v1:((List Int)×T20)):Option ((Bool×Unit)):=
 F97_g N v1
theorem F97_t(N:Nat)(v1:((List Int)×T20)):evF2 (F97_E N) [] Tryz.f143 [.lref (.pair (.list (.int .u8)) (.pair (.int .i64) (.pair (.int .i8) .unit)))] a39 (v1,())=F97 N v1:=
 Eq.trans (b:=F97_g N v1) (by kernel_rfl) rfl
noncomputable def F97_con(N:Nat):Con2:=⟨143,[.lref (.pair (.list (.int .u8)) (.pair (.int .i64) (.pair (.int .i8) .unit)))],a39,fun x=>F97 N x.1⟩
theorem F97_s(N:Nat):(F97_con N).Sound PG (GL N):=
 Con2.sound_of (c:=F97_con N) (E:=(F97_E N)) (idle:=[]) Tryz.func143 (by kernel_rfl) (by kernel_rfl) ⟨allNil,allNil,rfl⟩ allNil (fun x y h=>(F97_t N x.1).trans h)
noncomputable def F98_E(N:Nat):Env:=⟨PG,N,[],[nm 0 [0] [1000000],nm 1 [0] [1000000],nm 2 [0] [1000000]],kdL [],[],[],(GL N),tl0,[]⟩
noncomputable def F98_g(N:Nat)(v1:T1):Option ((T1×Unit)):=
 (chk2 0 0 v1.1.length).bind fun v2=>(some ((((v1.1.drop v2.1).take (v2.2-v2.1)),0,0,()),()))
noncomputable def F98(N:Nat)(v1:T1):Option ((T1×Unit)):=
 F98_g N v1
theorem F98_t(N:Nat)(v1:T1):evF2 (F98_E N) [] Tryz.f140 [.box s0] [⟨[],[some (.box s0)]⟩] (v1,())=F98 N v1:=
 Eq.trans (b:=F98_g N v1) (by kernel_rfl) rfl
noncomputable def F98_con(N:Nat):Con2:=⟨140,[.box s0],[⟨[],[some (.box s0)]⟩],fun x=>F98 N x.1⟩
theorem F98_s(N:Nat):(F98_con N).Sound PG (GL N):=
 Con2.sound_of (c:=F98_con N) (E:=(F98_E N)) (idle:=[]) Tryz.func140 (by kernel_rfl) (by kernel_rfl) ⟨allNil,allNil,rfl⟩ allNil (fun x y h=>(F98_t N x.1).trans h)
noncomputable def F99_E(N:Nat):Env:=⟨PG,N,[],[nm 0 [0,1] [1000000,1000001],nm 1 [0,1] [1000000,1000001],nm 2 [0,1] [1000000,1000001],nm 3 [0,1,10] [1000000,1000001],nm 4 [1] [1000000,1000001],nm 5 [15] [1000000,1000001],nm 6 [] [1000000,1000001],nm 7 [0,1] [1000000,1000001],nm 8 [0,4] [1000000,1000001],nm 9 [0,4] [1000000,1000001],nm 10 [0,4,37] [1000000,1000001],ng N 11 [4] [1000000,1000001]],kdL [],[F97_con N,F98_con N],[],(GL N),tl0,[]⟩
noncomputable def F99_g0(N:Nat)(v1:T1)(v5:(Nat×Nat))(v2:List Int)(v6:Int):Option (T24⊕T24):=
 (some (Sum.inl (((min ((v1.1.drop v5.1).take (v5.2-v5.1)).length v2.length:Nat):Int),(),(v1.1,(IntKind.i64.wrap (v1.2.1+((min ((v1.1.drop v5.1).take (v5.2-v5.1)).length v2.length:Nat):Int))),v6,()),(((v1.1.drop v5.1).take (v5.2-v5.1)).take v2.length++v2.drop ((v1.1.drop v5.1).take (v5.2-v5.1)).length),())))
noncomputable def F99_j0(N:Nat)(v1:T1)(v5:(Nat×Nat))(v2:List Int)(v6:Int):Option (T24⊕T24):=
 gate N (F99_g0 N v1 v5 v2 v6)
noncomputable def F99_g(N:Nat)(v1:T1)(v2:List Int)(c0:T1→(Nat×Nat)→(List Int)→Int→Option (T24⊕T24)):Option (T24⊕T24):=
 ((F97 N (v1.1,v1.2.1,0,())).bind fun v3=>(bif v3.1 then((F98 N (v1.1,v1.2.1,0,())).bind fun v4=>(bif((v2.length:Int)==0)then(some (Sum.inl (0,(),v4.1,v2,())))else(some (Sum.inr (0,(),v4.1,v2,())))))else((chk2 v1.2.1 (v1.1.length:Int) v1.1.length).bind fun v5=>(bif(decide ((((min ((v1.1.drop v5.1).take (v5.2-v5.1)).length v2.length:Nat):Int):Int)>0))then(c0 v1 v5 v2 (-1))else(c0 v1 v5 v2 0)))))
noncomputable def F99(N:Nat)(v1:T1)(v2:List Int):Option (T24⊕T24):=
 F99_g N v1 v2 (F99_j0 N)
noncomputable def F99_e0(N:Nat)(v1:T1)(v5:(Nat×Nat))(v2:List Int)(v6:Int):=
 gate N (evC (F99_E N) (c139 [1,1,1,1,1,1]) ⟨[(4, .pv (.int .i64) ((min ((v1.1.drop v5.1).take (v5.2-v5.1)).length v2.length:Nat):Int))],[(1000000, .box [.pv (.list (.int .u8)) v1.1, .pv (.int .i64) (IntKind.i64.wrap (v1.2.1+((min ((v1.1.drop v5.1).take (v5.2-v5.1)).length v2.length:Nat):Int))), .pv (.int .i8) v6]),(1000001, .arr 204 (.int .u8) (((v1.1.drop v5.1).take (v5.2-v5.1)).take v2.length++v2.drop ((v1.1.drop v5.1).take (v5.2-v5.1)).length))],[]⟩ (kEnd2 (F99_E N) [] Tryz.f139.results.toList a20 [.ref 1000000 0, .own (.int .u8) 1000001]))
theorem F99_t0(N:Nat)(v1:T1)(v5:(Nat×Nat))(v2:List Int)(v6:Int):F99_e0 N v1 v5 v2 v6=F99_j0 N v1 v5 v2 v6:=by
 exact(congrArg (gate N) (show _=F99_g0 N v1 v5 v2 v6 from by kernel_rfl)).trans (by rfl)
theorem F99_t(N:Nat)(v1:T1)(v2:List Int):evF2 (F99_E N) [] Tryz.f139 [.box s0, .row 204 (.int .u8)] a20 (v1,v2,())=F99 N v1 v2:=by
 have h0:(F99_e0 N)=(F99_j0 N):=by funext v1 v5 v2 v6;exact F99_t0 N v1 v5 v2 v6
 exact Eq.trans (b:=F99_g N v1 v2 (F99_e0 N)) (by kernel_rfl) (by rw[h0];rfl)
noncomputable def F99_con(N:Nat):Con2:=⟨139,[.box s0, .row 204 (.int .u8)],a20,fun x=>F99 N x.1 x.2.1⟩
theorem F99_s(N:Nat):(F99_con N).Sound PG (GL N):=
 Con2.sound_of (c:=F99_con N) (E:=(F99_E N)) (idle:=[]) Tryz.func139 (by kernel_rfl) (by kernel_rfl) ⟨allNil,(allCons (F97_s N) (allCons (F98_s N) allNil)),rfl⟩ allNil (fun x y h=>(F99_t N x.1 x.2.1).trans h)
noncomputable def F100_E(N:Nat):Env:=⟨PG,N,[],[nm 0 [0] [1000000],nm 1 [0] [1000000],nm 2 [0,4] [4,1000000],nm 3 [4,6] [4,1000000],nm 4 [4,6,17] [4,1000000],nm 5 [4] [4,1000000]],kdL [(5,(.int .u8))],[F99_con N],[2000004],(GL N),tl0,[]⟩
noncomputable def F100_g(N:Nat)(v1:T1):Option (T13⊕T13):=
 ((F99 N (v1.1,v1.2.1,v1.2.2.1,()) ([0]:List Int)).bind fun v2=>Sum.elim (fun v3=>((chk 0 1).bind fun v5=>(v3.2.2.2.1[v5]?).bind fun v6=>(some (Sum.inr (v6,(),v3.2.2.1,()))))) (fun v4=>(some (Sum.inl (0,(),v4.2.2.1,())))) v2)
noncomputable def F100(N:Nat)(v1:T1):Option (T13⊕T13):=
 F100_g N v1
theorem F100_t(N:Nat)(v1:T1):evF2 (F100_E N) [] Tryz.f94 [.ifc 66 (.box s0)] a35 (v1,())=F100 N v1:=
 Eq.trans (b:=F100_g N v1) (by kernel_rfl) rfl
noncomputable def F100_con(N:Nat):Con2:=⟨94,[.ifc 66 (.box s0)],a35,fun x=>F100 N x.1⟩
theorem F100_s(N:Nat):(F100_con N).Sound PG (GL N):=
 Con2.sound_of (c:=F100_con N) (E:=(F100_E N)) (idle:=[]) Tryz.func94 (by kernel_rfl) (by kernel_rfl) ⟨allNil,(allCons (F99_s N) allNil),rfl⟩ allNil (fun x y h=>(F100_t N x.1).trans h)
noncomputable def F101_E(N:Nat):Env:=⟨PG,N,[],[nm 0 [0,1] [],nm 1 [1] [],nm 2 [1] []],kdL [],[],[],(GL N),tl0,[]⟩
noncomputable def F101_g(N:Nat)(v1:Unit)(v2:List Int):Option (Int):=
 ((nth v2 3).bind fun v3=>((nth v2 3).bind fun v4=>(nth v2 2).bind fun v5=>(nth v2 1).bind fun v6=>(nth v2 0).bind fun v7=>(some (bits .or .u32 (bits .or .u32 (bits .or .u32 (IntKind.u32.wrap v4) (IntKind.u32.wrap ((IntKind.u32.wrap v5)*2^(min (8:Int).toNat (IntKind.bits .u32))))) (IntKind.u32.wrap ((IntKind.u32.wrap v6)*2^(min (16:Int).toNat (IntKind.bits .u32))))) (IntKind.u32.wrap ((IntKind.u32.wrap v7)*2^(min (24:Int).toNat (IntKind.bits .u32))))))))
noncomputable def F101(N:Nat)(v1:Unit)(v2:List Int):Option (Int):=
 F101_g N v1 v2
theorem F101_t(N:Nat)(v1:Unit)(v2:List Int):evF (F101_E N) [] Tryz.f174 [.k .unit, .k (.list (.int .u8))] [(.int .u32)] (v1,v2,())=F101 N v1 v2:=
 Eq.trans (b:=F101_g N v1 v2) (by kernel_rfl) rfl
noncomputable def F101_con(N:Nat):Con:=⟨174,[.k .unit, .k (.list (.int .u8))],[(.int .u32)],fun x=>F101 N x.1 x.2.1⟩
theorem F101_s(N:Nat):(F101_con N).Sound PG (GL N):=
 Con.sound_of (c:=F101_con N) (E:=(F101_E N)) (idle:=[]) Tryz.func174 (by kernel_rfl) (by kernel_rfl) ⟨allNil,allNil,rfl⟩ allNil (fun x y h=>(F101_t N x.1 x.2.1).trans h)
noncomputable def F102_E(N:Nat):Env:=⟨PG,N,[],[nm 0 [0,1] [],nm 1 [1] [],nm 2 [1] []],kdL [],[],[],(GL N),tl0,[]⟩
noncomputable def F102_g(N:Nat)(v1:Unit)(v2:List Int):Option (Int):=
 ((nth v2 3).bind fun v3=>((nth v2 0).bind fun v4=>(nth v2 1).bind fun v5=>(nth v2 2).bind fun v6=>(nth v2 3).bind fun v7=>(some (bits .or .u32 (bits .or .u32 (bits .or .u32 (IntKind.u32.wrap v4) (IntKind.u32.wrap ((IntKind.u32.wrap v5)*2^(min (8:Int).toNat (IntKind.bits .u32))))) (IntKind.u32.wrap ((IntKind.u32.wrap v6)*2^(min (16:Int).toNat (IntKind.bits .u32))))) (IntKind.u32.wrap ((IntKind.u32.wrap v7)*2^(min (24:Int).toNat (IntKind.bits .u32))))))))
noncomputable def F102(N:Nat)(v1:Unit)(v2:List Int):Option (Int):=
 F102_g N v1 v2
theorem F102_t(N:Nat)(v1:Unit)(v2:List Int):evF (F102_E N) [] Tryz.f182 [.k .unit, .k (.list (.int .u8))] [(.int .u32)] (v1,v2,())=F102 N v1 v2:=
 Eq.trans (b:=F102_g N v1 v2) (by kernel_rfl) rfl
noncomputable def F102_con(N:Nat):Con:=⟨182,[.k .unit, .k (.list (.int .u8))],[(.int .u32)],fun x=>F102 N x.1 x.2.1⟩
theorem F102_s(N:Nat):(F102_con N).Sound PG (GL N):=
 Con.sound_of (c:=F102_con N) (E:=(F102_E N)) (idle:=[]) Tryz.func182 (by kernel_rfl) (by kernel_rfl) ⟨allNil,allNil,rfl⟩ allNil (fun x y h=>(F102_t N x.1 x.2.1).trans h)
noncomputable def F103_E(N:Nat):Env:=⟨PG,N,[],[nm 0 [0,1] [1000000,1000001],nm 1 [0,1] [1000000,1000001],nm 2 [0,1] [1000000,1000001],nm 3 [0,1,10] [1000000,1000001],nm 4 [1] [1000000,1000001],nm 5 [15] [1000000,1000001],nm 6 [] [1000000,1000001],nm 7 [0,1] [1000000,1000001],nm 8 [0,4] [1000000,1000001],nm 9 [0,4] [1000000,1000001],nm 10 [0,4,37] [1000000,1000001],ng N 11 [4] [1000000,1000001]],kdL [],[F97_con N,F98_con N],[],(GL N),tl0,[]⟩
noncomputable def F103_g0(N:Nat)(v1:T1)(v5:(Nat×Nat))(v2:T23)(v6:Int):Option (T11⊕T11):=
 (some (Sum.inl (((min ((v1.1.drop v5.1).take (v5.2-v5.1)).length v2.2.2:Nat):Int),(),(v1.1,(IntKind.i64.wrap (v1.2.1+((min ((v1.1.drop v5.1).take (v5.2-v5.1)).length v2.2.2:Nat):Int))),v6,()),((v2.1.take v2.2.1++(((v1.1.drop v5.1).take (v5.2-v5.1)).take v2.2.2++v2.1.drop (v2.2.1+min ((v1.1.drop v5.1).take (v5.2-v5.1)).length v2.2.2))),v2.2.1,v2.2.2),())))
noncomputable def F103_j0(N:Nat)(v1:T1)(v5:(Nat×Nat))(v2:T23)(v6:Int):Option (T11⊕T11):=
 gate N (F103_g0 N v1 v5 v2 v6)
noncomputable def F103_g(N:Nat)(v1:T1)(v2:T23)(c0:T1→(Nat×Nat)→T23→Int→Option (T11⊕T11)):Option (T11⊕T11):=
 ((F97 N (v1.1,v1.2.1,0,())).bind fun v3=>(bif v3.1 then((F98 N (v1.1,v1.2.1,0,())).bind fun v4=>(bif((v2.2.2:Int)==0)then(some (Sum.inl (0,(),v4.1,(v2.1,v2.2.1,v2.2.2),())))else(some (Sum.inr (0,(),v4.1,(v2.1,v2.2.1,v2.2.2),())))))else((chk2 v1.2.1 (v1.1.length:Int) v1.1.length).bind fun v5=>(bif(decide ((((min ((v1.1.drop v5.1).take (v5.2-v5.1)).length v2.2.2:Nat):Int):Int)>0))then(c0 v1 v5 v2 (-1))else(c0 v1 v5 v2 0)))))
noncomputable def F103(N:Nat)(v1:T1)(v2:T23):Option (T11⊕T11):=
 F103_g N v1 v2 (F103_j0 N)
noncomputable def F103_e0(N:Nat)(v1:T1)(v5:(Nat×Nat))(v2:T23)(v6:Int):=
 gate N (evC (F103_E N) (c139 [1,1,1,1,1,1]) ⟨[(4, .pv (.int .i64) ((min ((v1.1.drop v5.1).take (v5.2-v5.1)).length v2.2.2:Nat):Int))],[(1000000, .box [.pv (.list (.int .u8)) v1.1, .pv (.int .i64) (IntKind.i64.wrap (v1.2.1+((min ((v1.1.drop v5.1).take (v5.2-v5.1)).length v2.2.2:Nat):Int))), .pv (.int .i8) v6]),(1000001, .arr 207 (.int .u8) (v2.1.take v2.2.1++(((v1.1.drop v5.1).take (v5.2-v5.1)).take v2.2.2++v2.1.drop (v2.2.1+min ((v1.1.drop v5.1).take (v5.2-v5.1)).length v2.2.2))))],[]⟩ (kEnd2 (F103_E N) [] Tryz.f139.results.toList a21 [.ref 1000000 0, .sub (.int .u8) 1000001 v2.2.1 v2.2.2]))
theorem F103_t0(N:Nat)(v1:T1)(v5:(Nat×Nat))(v2:T23)(v6:Int):F103_e0 N v1 v5 v2 v6=F103_j0 N v1 v5 v2 v6:=by
 exact(congrArg (gate N) (show _=F103_g0 N v1 v5 v2 v6 from by kernel_rfl)).trans (by rfl)
theorem F103_t(N:Nat)(v1:T1)(v2:T23):evF2 (F103_E N) [] Tryz.f139 [.box s0, .sub 207 (.int .u8)] a21 (v1,v2,())=F103 N v1 v2:=by
 have h0:(F103_e0 N)=(F103_j0 N):=by funext v1 v5 v2 v6;exact F103_t0 N v1 v5 v2 v6
 exact Eq.trans (b:=F103_g N v1 v2 (F103_e0 N)) (by kernel_rfl) (by rw[h0];rfl)
noncomputable def F103_con(N:Nat):Con2:=⟨139,[.box s0, .sub 207 (.int .u8)],a21,fun x=>F103 N x.1 x.2.1⟩
theorem F103_s(N:Nat):(F103_con N).Sound PG (GL N):=
 Con2.sound_of (c:=F103_con N) (E:=(F103_E N)) (idle:=[]) Tryz.func139 (by kernel_rfl) (by kernel_rfl) ⟨allNil,(allCons (F97_s N) (allCons (F98_s N) allNil)),rfl⟩ allNil (fun x y h=>(F103_t N x.1 x.2.1).trans h)
noncomputable def F104_E(N:Nat):Env:=⟨PG,N,[],[nm 0 [0,1,2] [1000000,1000001],nm 1 [0,1,2,6,7] [1000000,1000001],nm 2 [0,1,2,6,7,12] [1000000,1000001],nm 3 [0,1,2,6,7] [1000000,1000001],nm 4 [0,1,2,6] [1000000,1000001],nm 5 [0,1,2,6] [1000000,1000001],nm 6 [0,1,2,6,7,8] [1000000,1000001],ng N 7 [2,6,7] [1000000,1000001],nm 8 [6,7,37] [1000000,1000001],ng N 10 [6,7,44] [1000000,1000001]],kdL [],[F103_con N],[],(GL N),tl0,[]⟩
noncomputable def F104_g3(N:Nat)(v3 v8:Int)(v16:T11):Option T3:=
 (bif(decide (((IntKind.i64.wrap (v8+v16.1)):Int)≥v3))then(some (Sum.inr (Sum.inl ((IntKind.i64.wrap (v8+v16.1)),(),v16.2.2.1,v16.2.2.2.1.1,()))))else(bif(decide (((IntKind.i64.wrap (v8+v16.1)):Int)>0))then(gate N (some (i2 ((IntKind.i64.wrap (v8+v16.1)),(),v16.2.2.1,v16.2.2.2.1.1,()))))else(gate N (some (Sum.inr (Sum.inr (Sum.inr ((IntKind.i64.wrap (v8+v16.1)),(),v16.2.2.1,v16.2.2.2.1.1,()))))))))
noncomputable def F104_j3(N:Nat)(v3 v8:Int)(v16:T11):Option T3:=
 gate N (F104_g3 N v3 v8 v16)
noncomputable def F104_g1(N:Nat)(v3 v8:Int)(v16:T11)(c3:Int→Int→T11→Option T3)(r1:Option T3):Option T3:=
 bif(decide (((IntKind.i64.wrap (v8+v16.1)):Int)<v3))then(c3 v3 v8 v16)else(c3 v3 v8 v16)
noncomputable def F104_l1(N:Nat):Nat→Int→Int→T11→Option T3
 |0,_,_,_=>none
 |n+1,v3,v8,v16=>F104_g1 N v3 v8 v16 (F104_j3 N) (F104_l1 N n v3 v8 v16)
noncomputable def F104_g2(N:Nat)(v8:Int)(v9:List Int)(v10 v11:Int)(v12:List Int):Option T3:=
 (some (Sum.inr (Sum.inl (v8,(),(v9,v10,v11,()),v12,()))))
noncomputable def F104_j2(N:Nat)(v8:Int)(v9:List Int)(v10 v11:Int)(v12:List Int):Option T3:=
 gate N (F104_g2 N v8 v9 v10 v11 v12)
noncomputable def F104_g0(N:Nat)(v3:Int)(c1:Int→Int→T11→Option T3)(c2 r0:Int→(List Int)→Int→Int→(List Int)→Option T3)(v8:Int)(v9:List Int)(v10 v11:Int)(v12:List Int):Option T3:=
 bif(decide ((v8:Int)<v3))then((chk2 v8 (v12.length:Int) v12.length).bind fun v13=>(F103 N (v9,v10,v11,()) (v12,v13.1,(v13.2-v13.1))).bind fun v14=>Sum.elim (fun v15=>(bif((((Nat.ble 1 (v13.2-v13.1)&&Nat.beq v15.2.2.2.1.2.1 v13.1)&&Nat.beq v15.2.2.2.1.2.2 (v13.2-v13.1))&&Nat.beq v15.2.2.2.1.1.length v12.length)&&true)then((r0 (IntKind.i64.wrap (v8+v15.1)) v15.2.2.1.1 v15.2.2.1.2.1 v15.2.2.1.2.2.1 v15.2.2.2.1.1))else none)) (fun v16=>(bif((((Nat.ble 1 (v13.2-v13.1)&&Nat.beq v16.2.2.2.1.2.1 v13.1)&&Nat.beq v16.2.2.2.1.2.2 (v13.2-v13.1))&&Nat.beq v16.2.2.2.1.1.length v12.length)&&true)then((c1 v3 v8 v16))else none)) v14)else(gate N (bif(decide ((v8:Int)≥v3))then(some (Sum.inr (Sum.inl (v8,(),(v9,v10,v11,()),v12,()))))else(bif(decide ((v8:Int)>0))then(c2 v8 v9 v10 v11 v12)else(c2 v8 v9 v10 v11 v12))))
noncomputable def F104_l0(N:Nat):Nat→Int→Int→(List Int)→Int→Int→(List Int)→Option T3
 |0,_,_,_,_,_,_=>none
 |n+1,v3,v8,v9,v10,v11,v12=>F104_g0 N v3 (F104_l1 N n) (F104_j2 N) (F104_l0 N n v3) v8 v9 v10 v11 v12
noncomputable def F104_g(N:Nat)(v1:T1)(v2:List Int)(v3:Int)(c0:Int→Int→(List Int)→Int→Int→(List Int)→Option T3):Option T3:=
 (bif(decide (((v2.length:Int):Int)<v3))then(some (Sum.inl (0,(),(v1.1,v1.2.1,v1.2.2.1,()),v2,())))else((c0 v3 0 v1.1 v1.2.1 v1.2.2.1 v2)))
noncomputable def F104(N:Nat)(v1:T1)(v2:List Int)(v3:Int):Option T3:=
 F104_g N v1 v2 v3 (F104_l0 N N)
noncomputable def q19(N:Nat):=kEnd2 (F104_E N) [] Tryz.f122.results.toList a2 [.iface 66 (.ref 1000000 0), .own (.int .u8) 1000001, .dead]
noncomputable def F104_e3(N:Nat)(v3 v8:Int)(v16:T11):=
 gate N (evC (F104_E N) (c122 [1,1,1]) ⟨[(2, .pv (.int .i64) v3),(6, .pv (.int .i64) (IntKind.i64.wrap (v8+v16.1))),(7, .iface 222 (.ep 5))],[(1000000, .box [.pv (.list (.int .u8)) v16.2.2.1.1, .pv (.int .i64) v16.2.2.1.2.1, .pv (.int .i8) v16.2.2.1.2.2.1]),(1000001, .arr 207 (.int .u8) v16.2.2.2.1.1)],[]⟩ (q19 N))
noncomputable def F104_e1(N n:Nat)(v3 v8:Int)(v16:T11):=
 lq (F104_E N) (c122 [1,1,0,0,0]) n ⟨[(0, .iface 66 (.ref 1000000 0)),(1, .own (.int .u8) 1000001),(2, .pv (.int .i64) v3),(6, .pv (.int .i64) (IntKind.i64.wrap (v8+v16.1))),(7, .iface 222 (.ep 5))],[(1000000, .box [.pv (.list (.int .u8)) v16.2.2.1.1, .pv (.int .i64) v16.2.2.1.2.1, .pv (.int .i8) v16.2.2.1.2.2.1]),(1000001, .arr 207 (.int .u8) v16.2.2.2.1.1)],[]⟩ (kBlock 0 (kq (F104_E N) (c122 [1,1,1]) (q19 N)))
noncomputable def F104_e2(N:Nat)(v8:Int)(v9:List Int)(v10 v11:Int)(v12:List Int):=
 gate N (evC (F104_E N) (c122 [1,1,1,0,1,1,1]) ⟨[(6, .pv (.int .i64) v8),(7, .niliface),(44, .pv .bool false)],[(1000000, .box [.pv (.list (.int .u8)) v9, .pv (.int .i64) v10, .pv (.int .i8) v11]),(1000001, .arr 207 (.int .u8) v12)],[]⟩ (kq (F104_E N) (c122 [1,1,1,1]) (q19 N)))
noncomputable def F104_e0(N n:Nat)(v3 v8:Int)(v9:List Int)(v10 v11:Int)(v12:List Int):=
 lq (F104_E N) (c122 [1,1,0,0,0]) n ⟨[(0, .iface 66 (.ref 1000000 0)),(1, .own (.int .u8) 1000001),(2, .pv (.int .i64) v3),(6, .pv (.int .i64) v8),(7, .niliface)],[(1000000, .box [.pv (.list (.int .u8)) v9, .pv (.int .i64) v10, .pv (.int .i8) v11]),(1000001, .arr 207 (.int .u8) v12)],[]⟩ (kBlock 0 (kq (F104_E N) (c122 [1,1,1]) (q19 N)))
theorem F104_t3(N:Nat)(v3 v8:Int)(v16:T11):F104_e3 N v3 v8 v16=F104_j3 N v3 v8 v16:=by
 exact(congrArg (gate N) (show _=F104_g3 N v3 v8 v16 from by kernel_rfl)).trans (by rfl)
theorem F104_t1(N:Nat):∀(n:Nat) (v3 v8:Int) (v16:T11),F104_e1 N n v3 v8 v16=F104_l1 N n v3 v8 v16
 |0,_,_,_=>rfl
 |n+1,v3,v8,v16=>by
  have h3:(F104_e3 N)=(F104_j3 N):=by funext v3 v8 v16;exact F104_t3 N v3 v8 v16
  have h:F104_e1 N n v3 v8 v16=F104_l1 N n v3 v8 v16:=by exact F104_t1 N n v3 v8 v16
  exact Eq.trans (b:=F104_g1 N v3 v8 v16 (F104_e3 N) (F104_e1 N n v3 v8 v16)) (by kernel_rfl) (by rw[h3,h];rfl)
theorem F104_t2(N:Nat)(v8:Int)(v9:List Int)(v10 v11:Int)(v12:List Int):F104_e2 N v8 v9 v10 v11 v12=F104_j2 N v8 v9 v10 v11 v12:=by
 exact(congrArg (gate N) (show _=F104_g2 N v8 v9 v10 v11 v12 from by kernel_rfl)).trans (by rfl)
theorem F104_t0(N:Nat):∀(n:Nat) (v3 v8:Int) (v9:List Int) (v10 v11:Int) (v12:List Int),F104_e0 N n v3 v8 v9 v10 v11 v12=F104_l0 N n v3 v8 v9 v10 v11 v12
 |0,_,_,_,_,_,_=>rfl
 |n+1,v3,v8,v9,v10,v11,v12=>by
  have h1:(F104_e1 N n)=(F104_l1 N n):=by funext v3 v8 v16;exact F104_t1 N n v3 v8 v16
  have h2:(F104_e2 N)=(F104_j2 N):=by funext v8 v9 v10 v11 v12;exact F104_t2 N v8 v9 v10 v11 v12
  have h:F104_e0 N n v3=F104_l0 N n v3:=by funext v8 v9 v10 v11 v12;exact F104_t0 N n v3 v8 v9 v10 v11 v12
  exact Eq.trans (b:=F104_g0 N v3 (F104_e1 N n) (F104_e2 N) (F104_e0 N n v3) v8 v9 v10 v11 v12) (by kernel_rfl) (by rw[h1,h2,h];rfl)
theorem F104_t(N:Nat)(v1:T1)(v2:List Int)(v3:Int):evF2 (F104_E N) [] Tryz.f122 [.ifc 66 (.box s0), .row 207 (.int .u8), .k (.int .i64)] a2 (v1,v2,v3,())=F104 N v1 v2 v3:=by
 have h0:(F104_e0 N N)=(F104_l0 N N):=by funext v3 v8 v9 v10 v11 v12;exact F104_t0 N N v3 v8 v9 v10 v11 v12
 exact Eq.trans (b:=F104_g N v1 v2 v3 (F104_e0 N N)) (by kernel_rfl) (by rw[h0];rfl)
noncomputable def F104_con(N:Nat):Con2:=⟨122,[.ifc 66 (.box s0), .row 207 (.int .u8), .k (.int .i64)],a2,fun x=>F104 N x.1 x.2.1 x.2.2.1⟩
theorem F104_s(N:Nat):(F104_con N).Sound PG (GL N):=
 Con2.sound_of (c:=F104_con N) (E:=(F104_E N)) (idle:=[]) Tryz.func122 (by kernel_rfl) (by kernel_rfl) ⟨allNil,(allCons (F103_s N) allNil),rfl⟩ allNil (fun x y h=>(F104_t N x.1 x.2.1 x.2.2.1).trans h)
noncomputable def F105_E(N:Nat):Env:=⟨PG,N,[],[nm 0 [0,1] [1000000,1000001],nm 1 [0,1] [1000000,1000001]],kdL [],[F104_con N],[],(GL N),tl0,[]⟩
noncomputable def F105_g(N:Nat)(v1:T1)(v2:List Int):Option T3:=
 ((F104 N (v1.1,v1.2.1,v1.2.2.1,()) v2 (v2.length:Int)).bind fun v3=>Sum.elim (fun v4=>(some (Sum.inl (v4.1,(),v4.2.2.1,v4.2.2.2.1,())))) (fun v5=>Sum.elim (fun v6=>(some (Sum.inr (Sum.inl (v6.1,(),v6.2.2.1,v6.2.2.2.1,()))))) (fun v7=>Sum.elim (fun v8=>(some (i2 (v8.1,(),v8.2.2.1,v8.2.2.2.1,())))) (fun v9=>(some (Sum.inr (Sum.inr (Sum.inr (v9.1,(),v9.2.2.1,v9.2.2.2.1,())))))) v7) v5) v3)
noncomputable def F105(N:Nat)(v1:T1)(v2:List Int):Option T3:=
 F105_g N v1 v2
theorem F105_t(N:Nat)(v1:T1)(v2:List Int):evF2 (F105_E N) [] Tryz.f118 [.ifc 66 (.box s0), .row 207 (.int .u8)] a17 (v1,v2,())=F105 N v1 v2:=
 Eq.trans (b:=F105_g N v1 v2) (by kernel_rfl) rfl
noncomputable def F105_con(N:Nat):Con2:=⟨118,[.ifc 66 (.box s0), .row 207 (.int .u8)],a17,fun x=>F105 N x.1 x.2.1⟩
theorem F105_s(N:Nat):(F105_con N).Sound PG (GL N):=
 Con2.sound_of (c:=F105_con N) (E:=(F105_E N)) (idle:=[]) Tryz.func118 (by kernel_rfl) (by kernel_rfl) ⟨allNil,(allCons (F104_s N) allNil),rfl⟩ allNil (fun x y h=>(F105_t N x.1 x.2.1).trans h)
noncomputable def F106_E(N:Nat):Env:=⟨PG,N,[F101_con N,F102_con N],[nm 0 [0,1] [1000000],nm 1 [0,1] [1000000],nm 2 [0,1,6] [6,1000000],nm 3 [1,6,8] [6,1000000],nm 4 [1,6,8,16] [6,1000000],nm 5 [1,6] [6,1000000]],kdL kd1,[F105_con N],[2000006],(GL N),tl0,[]⟩
noncomputable def F106_g(N:Nat)(v1:T1)(v2:Ce):Option (T13⊕T13⊕T13⊕T13):=
 ((F105 N (v1.1,v1.2.1,v1.2.2.1,()) ([0,0,0,0]:List Int)).bind fun v3=>Sum.elim (fun v4=>(some (Sum.inl (0,(),v4.2.2.1,())))) (fun v5=>Sum.elim (fun v6=>(((isT 104 v2).bind fun v19=>(bif v19 then(some ())else(isT 105 v2).bind fun v18=>(bif v18 then(some ())else(isT 72 v2).bind fun v17=>(bif v17 then none else(isT 75 v2).bind fun v16=>(bif v16 then none else(isT 78 v2).bind fun v15=>(bif v15 then none else(isT 81 v2).bind fun v14=>(bif v14 then none else(isT 85 v2).bind fun v13=>(bif v13 then none else(isT 91 v2).bind fun v12=>(bif v12 then none else(isT 94 v2).bind fun v11=>(bif v11 then none else(isT 98 v2).bind fun v10=>(bif v10 then none else none))))))))))).bind fun _=>(isT 104 v2).bind fun v20=>(bif v20 then((asT .unit 104 v2).bind fun v21=>(F101 N v21 v6.2.2.2.1).bind fun v22=>(some (Sum.inr (Sum.inr (Sum.inr (v22,(),v6.2.2.1,()))))))else((isT 105 v2).bind fun v23=>(bif v23 then((asT .unit 105 v2).bind fun v24=>(F102 N v24 v6.2.2.2.1).bind fun v25=>(some (Sum.inr (Sum.inr (Sum.inr (v25,(),v6.2.2.1,()))))))else((isT 72 v2).bind fun v26=>(bif v26 then((asT .any 72 v2).bind fun v27=>none)else((isT 75 v2).bind fun v29=>(bif v29 then((asT .any 75 v2).bind fun v30=>none)else((isT 78 v2).bind fun v32=>(bif v32 then((asT .any 78 v2).bind fun v33=>none)else((isT 81 v2).bind fun v35=>(bif v35 then((asT .any 81 v2).bind fun v36=>none)else((isT 85 v2).bind fun v38=>(bif v38 then((asT .any 85 v2).bind fun v39=>none)else((isT 91 v2).bind fun v41=>(bif v41 then((asT .any 91 v2).bind fun v42=>none)else((isT 94 v2).bind fun v44=>(bif v44 then((asT .any 94 v2).bind fun v45=>none)else((isT 98 v2).bind fun v47=>(bif v47 then((asT .any 98 v2).bind fun v48=>none)else none))))))))))))))))))))) (fun v7=>Sum.elim (fun v8=>(some (Sum.inr (Sum.inl (0,(),v8.2.2.1,()))))) (fun v9=>(some (i2 (0,(),v9.2.2.1,())))) v7) v5) v3)
noncomputable def F106(N:Nat)(v1:T1)(v2:Ce):Option (T13⊕T13⊕T13⊕T13):=
 F106_g N v1 v2
theorem F106_t(N:Nat)(v1:T1)(v2:Ce):evF2 (F106_E N) [] Tryz.f95 [.ifc 66 (.box s0), .k .any] a26 (v1,v2,())=F106 N v1 v2:=
 Eq.trans (b:=F106_g N v1 v2) (by kernel_rfl) rfl
noncomputable def F106_con(N:Nat):Con2:=⟨95,[.ifc 66 (.box s0), .k .any],a26,fun x=>F106 N x.1 x.2.1⟩
theorem F106_s(N:Nat):(F106_con N).Sound PG (GL N):=
 Con2.sound_of (c:=F106_con N) (E:=(F106_E N)) (idle:=[]) Tryz.func95 (by kernel_rfl) (by kernel_rfl) ⟨(allCons (F101_s N) (allCons (F102_s N) allNil)),(allCons (F105_s N) allNil),rfl⟩ allNil (fun x y h=>(F106_t N x.1 x.2.1).trans h)
noncomputable def F107_E(N:Nat):Env:=⟨PG,N,[],[nm 0 [0,1] [],nm 1 [1] [],nm 2 [1] []],kdL [],[],[],(GL N),tl0,[]⟩
noncomputable def F107_g(N:Nat)(v1:Unit)(v2:List Int):Option (Int):=
 ((nth v2 7).bind fun v3=>((nth v2 7).bind fun v4=>(nth v2 6).bind fun v5=>(nth v2 5).bind fun v6=>(nth v2 4).bind fun v7=>(nth v2 3).bind fun v8=>(nth v2 2).bind fun v9=>(nth v2 1).bind fun v10=>(nth v2 0).bind fun v11=>(some (bits .or .u64 (bits .or .u64 (bits .or .u64 (bits .or .u64 (bits .or .u64 (bits .or .u64 (bits .or .u64 (IntKind.u64.wrap v4) (IntKind.u64.wrap ((IntKind.u64.wrap v5)*2^(min (8:Int).toNat (IntKind.bits .u64))))) (IntKind.u64.wrap ((IntKind.u64.wrap v6)*2^(min (16:Int).toNat (IntKind.bits .u64))))) (IntKind.u64.wrap ((IntKind.u64.wrap v7)*2^(min (24:Int).toNat (IntKind.bits .u64))))) (IntKind.u64.wrap ((IntKind.u64.wrap v8)*2^(min (32:Int).toNat (IntKind.bits .u64))))) (IntKind.u64.wrap ((IntKind.u64.wrap v9)*2^(min (40:Int).toNat (IntKind.bits .u64))))) (IntKind.u64.wrap ((IntKind.u64.wrap v10)*2^(min (48:Int).toNat (IntKind.bits .u64))))) (IntKind.u64.wrap ((IntKind.u64.wrap v11)*2^(min (56:Int).toNat (IntKind.bits .u64))))))))
noncomputable def F107(N:Nat)(v1:Unit)(v2:List Int):Option (Int):=
 F107_g N v1 v2
theorem F107_t(N:Nat)(v1:Unit)(v2:List Int):evF (F107_E N) [] Tryz.f175 [.k .unit, .k (.list (.int .u8))] [(.int .u64)] (v1,v2,())=F107 N v1 v2:=
 Eq.trans (b:=F107_g N v1 v2) (by kernel_rfl) rfl
noncomputable def F107_con(N:Nat):Con:=⟨175,[.k .unit, .k (.list (.int .u8))],[(.int .u64)],fun x=>F107 N x.1 x.2.1⟩
theorem F107_s(N:Nat):(F107_con N).Sound PG (GL N):=
 Con.sound_of (c:=F107_con N) (E:=(F107_E N)) (idle:=[]) Tryz.func175 (by kernel_rfl) (by kernel_rfl) ⟨allNil,allNil,rfl⟩ allNil (fun x y h=>(F107_t N x.1 x.2.1).trans h)
noncomputable def F108_E(N:Nat):Env:=⟨PG,N,[],[nm 0 [0,1] [],nm 1 [1] [],nm 2 [1] []],kdL [],[],[],(GL N),tl0,[]⟩
noncomputable def F108_g(N:Nat)(v1:Unit)(v2:List Int):Option (Int):=
 ((nth v2 7).bind fun v3=>((nth v2 0).bind fun v4=>(nth v2 1).bind fun v5=>(nth v2 2).bind fun v6=>(nth v2 3).bind fun v7=>(nth v2 4).bind fun v8=>(nth v2 5).bind fun v9=>(nth v2 6).bind fun v10=>(nth v2 7).bind fun v11=>(some (bits .or .u64 (bits .or .u64 (bits .or .u64 (bits .or .u64 (bits .or .u64 (bits .or .u64 (bits .or .u64 (IntKind.u64.wrap v4) (IntKind.u64.wrap ((IntKind.u64.wrap v5)*2^(min (8:Int).toNat (IntKind.bits .u64))))) (IntKind.u64.wrap ((IntKind.u64.wrap v6)*2^(min (16:Int).toNat (IntKind.bits .u64))))) (IntKind.u64.wrap ((IntKind.u64.wrap v7)*2^(min (24:Int).toNat (IntKind.bits .u64))))) (IntKind.u64.wrap ((IntKind.u64.wrap v8)*2^(min (32:Int).toNat (IntKind.bits .u64))))) (IntKind.u64.wrap ((IntKind.u64.wrap v9)*2^(min (40:Int).toNat (IntKind.bits .u64))))) (IntKind.u64.wrap ((IntKind.u64.wrap v10)*2^(min (48:Int).toNat (IntKind.bits .u64))))) (IntKind.u64.wrap ((IntKind.u64.wrap v11)*2^(min (56:Int).toNat (IntKind.bits .u64))))))))
noncomputable def F108(N:Nat)(v1:Unit)(v2:List Int):Option (Int):=
 F108_g N v1 v2
theorem F108_t(N:Nat)(v1:Unit)(v2:List Int):evF (F108_E N) [] Tryz.f183 [.k .unit, .k (.list (.int .u8))] [(.int .u64)] (v1,v2,())=F108 N v1 v2:=
 Eq.trans (b:=F108_g N v1 v2) (by kernel_rfl) rfl
noncomputable def F108_con(N:Nat):Con:=⟨183,[.k .unit, .k (.list (.int .u8))],[(.int .u64)],fun x=>F108 N x.1 x.2.1⟩
theorem F108_s(N:Nat):(F108_con N).Sound PG (GL N):=
 Con.sound_of (c:=F108_con N) (E:=(F108_E N)) (idle:=[]) Tryz.func183 (by kernel_rfl) (by kernel_rfl) ⟨allNil,allNil,rfl⟩ allNil (fun x y h=>(F108_t N x.1 x.2.1).trans h)
noncomputable def F109_E(N:Nat):Env:=⟨PG,N,[F107_con N,F108_con N,math_Float64frombits_con N],[nm 0 [0,1] [],nm 1 [0,1] [],ng N 2 [5] []],kdL kd2,[],[],(GL N),tl0,[]⟩
noncomputable def F109_g0(N:Nat)(v33:Int):Option (Nat):=
 (math_Float64frombits N v33).bind fun v34=>(some v34)
noncomputable def F109_j0(N:Nat)(v33:Int):Option (Nat):=
 gate N (F109_g0 N v33)
noncomputable def F109_g(N:Nat)(v1:List Int)(v2:Ce)(c0:Int→Option (Nat)):Option (Nat):=
 ((isT 104 v2).bind fun v3=>(bif v3 then((asT .unit 104 v2).bind fun v4=>(F107 N v4 v1).bind fun v5=>(c0 v5))else((isT 105 v2).bind fun v6=>(bif v6 then((asT .unit 105 v2).bind fun v7=>(F108 N v7 v1).bind fun v8=>(c0 v8))else((isT 72 v2).bind fun v9=>(bif v9 then((asT .any 72 v2).bind fun v10=>none)else((isT 75 v2).bind fun v12=>(bif v12 then((asT .any 75 v2).bind fun v13=>none)else((isT 78 v2).bind fun v15=>(bif v15 then((asT .any 78 v2).bind fun v16=>none)else((isT 81 v2).bind fun v18=>(bif v18 then((asT .any 81 v2).bind fun v19=>none)else((isT 85 v2).bind fun v21=>(bif v21 then((asT .any 85 v2).bind fun v22=>none)else((isT 91 v2).bind fun v24=>(bif v24 then((asT .any 91 v2).bind fun v25=>none)else((isT 94 v2).bind fun v27=>(bif v27 then((asT .any 94 v2).bind fun v28=>none)else((isT 98 v2).bind fun v30=>(bif v30 then((asT .any 98 v2).bind fun v31=>none)else none))))))))))))))))))))
noncomputable def F109(N:Nat)(v1:List Int)(v2:Ce):Option (Nat):=
 F109_g N v1 v2 (F109_j0 N)
noncomputable def F109_e0(N:Nat)(v33:Int):=
 gate N (evC (F109_E N) (c123 [1,1]) ⟨[(5, .pv (.int .u64) v33)],[],[]⟩ (kEnd (F109_E N) [] Tryz.f123.results.toList [.float]))
theorem F109_t0(N:Nat)(v33:Int):F109_e0 N v33=F109_j0 N v33:=by
 exact(congrArg (gate N) (show _=F109_g0 N v33 from by kernel_rfl)).trans (by rfl)
theorem F109_t(N:Nat)(v1:List Int)(v2:Ce):evF (F109_E N) [] Tryz.f123 [.k (.list (.int .u8)), .k .any] [.float] (v1,v2,())=F109 N v1 v2:=by
 have h0:(F109_e0 N)=(F109_j0 N):=by funext v33;exact F109_t0 N v33
 exact Eq.trans (b:=F109_g N v1 v2 (F109_e0 N)) (by kernel_rfl) (by rw[h0];rfl)
noncomputable def F109_con(N:Nat):Con:=⟨123,[.k (.list (.int .u8)), .k .any],[.float],fun x=>F109 N x.1 x.2.1⟩
theorem F109_s(N:Nat):(F109_con N).Sound PG (GL N):=
 Con.sound_of (c:=F109_con N) (E:=(F109_E N)) (idle:=[]) Tryz.func123 (by kernel_rfl) (by kernel_rfl) ⟨(allCons (F107_s N) (allCons (F108_s N) (allCons (math_Float64frombits_s N) allNil))),allNil,rfl⟩ allNil (fun x y h=>(F109_t N x.1 x.2.1).trans h)
noncomputable def F110_E(N:Nat):Env:=⟨PG,N,[],[nm 0 [0,1] [1000000,1000001],nm 1 [0,1] [1000000,1000001],nm 2 [0,1] [1000000,1000001],nm 3 [0,1,10] [1000000,1000001],nm 4 [1] [1000000,1000001],nm 5 [15] [1000000,1000001],nm 6 [] [1000000,1000001],nm 7 [0,1] [1000000,1000001],nm 8 [0,4] [1000000,1000001],nm 9 [0,4] [1000000,1000001],nm 10 [0,4,37] [1000000,1000001],ng N 11 [4] [1000000,1000001]],kdL [],[F97_con N,F98_con N],[],(GL N),tl0,[]⟩
noncomputable def F110_g0(N:Nat)(v1:T1)(v5:(Nat×Nat))(v2:T23)(v6:Int):Option (T11⊕T11):=
 (some (Sum.inl (((min ((v1.1.drop v5.1).take (v5.2-v5.1)).length v2.2.2:Nat):Int),(),(v1.1,(IntKind.i64.wrap (v1.2.1+((min ((v1.1.drop v5.1).take (v5.2-v5.1)).length v2.2.2:Nat):Int))),v6,()),((v2.1.take v2.2.1++(((v1.1.drop v5.1).take (v5.2-v5.1)).take v2.2.2++v2.1.drop (v2.2.1+min ((v1.1.drop v5.1).take (v5.2-v5.1)).length v2.2.2))),v2.2.1,v2.2.2),())))
noncomputable def F110_j0(N:Nat)(v1:T1)(v5:(Nat×Nat))(v2:T23)(v6:Int):Option (T11⊕T11):=
 gate N (F110_g0 N v1 v5 v2 v6)
noncomputable def F110_g(N:Nat)(v1:T1)(v2:T23)(c0:T1→(Nat×Nat)→T23→Int→Option (T11⊕T11)):Option (T11⊕T11):=
 ((F97 N (v1.1,v1.2.1,0,())).bind fun v3=>(bif v3.1 then((F98 N (v1.1,v1.2.1,0,())).bind fun v4=>(bif((v2.2.2:Int)==0)then(some (Sum.inl (0,(),v4.1,(v2.1,v2.2.1,v2.2.2),())))else(some (Sum.inr (0,(),v4.1,(v2.1,v2.2.1,v2.2.2),())))))else((chk2 v1.2.1 (v1.1.length:Int) v1.1.length).bind fun v5=>(bif(decide ((((min ((v1.1.drop v5.1).take (v5.2-v5.1)).length v2.2.2:Nat):Int):Int)>0))then(c0 v1 v5 v2 (-1))else(c0 v1 v5 v2 0)))))
noncomputable def F110(N:Nat)(v1:T1)(v2:T23):Option (T11⊕T11):=
 F110_g N v1 v2 (F110_j0 N)
noncomputable def F110_e0(N:Nat)(v1:T1)(v5:(Nat×Nat))(v2:T23)(v6:Int):=
 gate N (evC (F110_E N) (c139 [1,1,1,1,1,1]) ⟨[(4, .pv (.int .i64) ((min ((v1.1.drop v5.1).take (v5.2-v5.1)).length v2.2.2:Nat):Int))],[(1000000, .box [.pv (.list (.int .u8)) v1.1, .pv (.int .i64) (IntKind.i64.wrap (v1.2.1+((min ((v1.1.drop v5.1).take (v5.2-v5.1)).length v2.2.2:Nat):Int))), .pv (.int .i8) v6]),(1000001, .arr 5 (.int .u8) (v2.1.take v2.2.1++(((v1.1.drop v5.1).take (v5.2-v5.1)).take v2.2.2++v2.1.drop (v2.2.1+min ((v1.1.drop v5.1).take (v5.2-v5.1)).length v2.2.2))))],[]⟩ (kEnd2 (F110_E N) [] Tryz.f139.results.toList a23 [.ref 1000000 0, .sub (.int .u8) 1000001 v2.2.1 v2.2.2]))
theorem F110_t0(N:Nat)(v1:T1)(v5:(Nat×Nat))(v2:T23)(v6:Int):F110_e0 N v1 v5 v2 v6=F110_j0 N v1 v5 v2 v6:=by
 exact(congrArg (gate N) (show _=F110_g0 N v1 v5 v2 v6 from by kernel_rfl)).trans (by rfl)
theorem F110_t(N:Nat)(v1:T1)(v2:T23):evF2 (F110_E N) [] Tryz.f139 [.box s0, .sub 5 (.int .u8)] a23 (v1,v2,())=F110 N v1 v2:=by
 have h0:(F110_e0 N)=(F110_j0 N):=by funext v1 v5 v2 v6;exact F110_t0 N v1 v5 v2 v6
 exact Eq.trans (b:=F110_g N v1 v2 (F110_e0 N)) (by kernel_rfl) (by rw[h0];rfl)
noncomputable def F110_con(N:Nat):Con2:=⟨139,[.box s0, .sub 5 (.int .u8)],a23,fun x=>F110 N x.1 x.2.1⟩
theorem F110_s(N:Nat):(F110_con N).Sound PG (GL N):=
 Con2.sound_of (c:=F110_con N) (E:=(F110_E N)) (idle:=[]) Tryz.func139 (by kernel_rfl) (by kernel_rfl) ⟨allNil,(allCons (F97_s N) (allCons (F98_s N) allNil)),rfl⟩ allNil (fun x y h=>(F110_t N x.1 x.2.1).trans h)
noncomputable def F111_E(N:Nat):Env:=⟨PG,N,[],[nm 0 [0,1,2] [1000000,1000001],nm 1 [0,1,2,6,7] [1000000,1000001],nm 2 [0,1,2,6,7,12] [1000000,1000001],nm 3 [0,1,2,6,7] [1000000,1000001],nm 4 [0,1,2,6] [1000000,1000001],nm 5 [0,1,2,6] [1000000,1000001],nm 6 [0,1,2,6,7,8] [1000000,1000001],ng N 7 [2,6,7] [1000000,1000001],nm 8 [6,7,37] [1000000,1000001],ng N 10 [6,7,44] [1000000,1000001]],kdL [],[F110_con N],[],(GL N),tl0,[]⟩
noncomputable def F111_g3(N:Nat)(v3 v8:Int)(v16:T11):Option T3:=
 (bif(decide (((IntKind.i64.wrap (v8+v16.1)):Int)≥v3))then(some (Sum.inr (Sum.inl ((IntKind.i64.wrap (v8+v16.1)),(),v16.2.2.1,v16.2.2.2.1.1,()))))else(bif(decide (((IntKind.i64.wrap (v8+v16.1)):Int)>0))then(gate N (some (i2 ((IntKind.i64.wrap (v8+v16.1)),(),v16.2.2.1,v16.2.2.2.1.1,()))))else(gate N (some (Sum.inr (Sum.inr (Sum.inr ((IntKind.i64.wrap (v8+v16.1)),(),v16.2.2.1,v16.2.2.2.1.1,()))))))))
noncomputable def F111_j3(N:Nat)(v3 v8:Int)(v16:T11):Option T3:=
 gate N (F111_g3 N v3 v8 v16)
noncomputable def F111_g1(N:Nat)(v3 v8:Int)(v16:T11)(c3:Int→Int→T11→Option T3)(r1:Option T3):Option T3:=
 bif(decide (((IntKind.i64.wrap (v8+v16.1)):Int)<v3))then(c3 v3 v8 v16)else(c3 v3 v8 v16)
noncomputable def F111_l1(N:Nat):Nat→Int→Int→T11→Option T3
 |0,_,_,_=>none
 |n+1,v3,v8,v16=>F111_g1 N v3 v8 v16 (F111_j3 N) (F111_l1 N n v3 v8 v16)
noncomputable def F111_g2(N:Nat)(v8:Int)(v9:List Int)(v10 v11:Int)(v12:List Int):Option T3:=
 (some (Sum.inr (Sum.inl (v8,(),(v9,v10,v11,()),v12,()))))
noncomputable def F111_j2(N:Nat)(v8:Int)(v9:List Int)(v10 v11:Int)(v12:List Int):Option T3:=
 gate N (F111_g2 N v8 v9 v10 v11 v12)
noncomputable def F111_g0(N:Nat)(v3:Int)(c1:Int→Int→T11→Option T3)(c2 r0:Int→(List Int)→Int→Int→(List Int)→Option T3)(v8:Int)(v9:List Int)(v10 v11:Int)(v12:List Int):Option T3:=
 bif(decide ((v8:Int)<v3))then((chk2 v8 (v12.length:Int) v12.length).bind fun v13=>(F110 N (v9,v10,v11,()) (v12,v13.1,(v13.2-v13.1))).bind fun v14=>Sum.elim (fun v15=>(bif((((Nat.ble 1 (v13.2-v13.1)&&Nat.beq v15.2.2.2.1.2.1 v13.1)&&Nat.beq v15.2.2.2.1.2.2 (v13.2-v13.1))&&Nat.beq v15.2.2.2.1.1.length v12.length)&&true)then((r0 (IntKind.i64.wrap (v8+v15.1)) v15.2.2.1.1 v15.2.2.1.2.1 v15.2.2.1.2.2.1 v15.2.2.2.1.1))else none)) (fun v16=>(bif((((Nat.ble 1 (v13.2-v13.1)&&Nat.beq v16.2.2.2.1.2.1 v13.1)&&Nat.beq v16.2.2.2.1.2.2 (v13.2-v13.1))&&Nat.beq v16.2.2.2.1.1.length v12.length)&&true)then((c1 v3 v8 v16))else none)) v14)else(gate N (bif(decide ((v8:Int)≥v3))then(some (Sum.inr (Sum.inl (v8,(),(v9,v10,v11,()),v12,()))))else(bif(decide ((v8:Int)>0))then(c2 v8 v9 v10 v11 v12)else(c2 v8 v9 v10 v11 v12))))
noncomputable def F111_l0(N:Nat):Nat→Int→Int→(List Int)→Int→Int→(List Int)→Option T3
 |0,_,_,_,_,_,_=>none
 |n+1,v3,v8,v9,v10,v11,v12=>F111_g0 N v3 (F111_l1 N n) (F111_j2 N) (F111_l0 N n v3) v8 v9 v10 v11 v12
noncomputable def F111_g(N:Nat)(v1:T1)(v2:List Int)(v3:Int)(c0:Int→Int→(List Int)→Int→Int→(List Int)→Option T3):Option T3:=
 (bif(decide (((v2.length:Int):Int)<v3))then(some (Sum.inl (0,(),(v1.1,v1.2.1,v1.2.2.1,()),v2,())))else((c0 v3 0 v1.1 v1.2.1 v1.2.2.1 v2)))
noncomputable def F111(N:Nat)(v1:T1)(v2:List Int)(v3:Int):Option T3:=
 F111_g N v1 v2 v3 (F111_l0 N N)
noncomputable def q20(N:Nat):=kEnd2 (F111_E N) [] Tryz.f122.results.toList a3 [.iface 66 (.ref 1000000 0), .own (.int .u8) 1000001, .dead]
noncomputable def F111_e3(N:Nat)(v3 v8:Int)(v16:T11):=
 gate N (evC (F111_E N) (c122 [1,1,1]) ⟨[(2, .pv (.int .i64) v3),(6, .pv (.int .i64) (IntKind.i64.wrap (v8+v16.1))),(7, .iface 222 (.ep 5))],[(1000000, .box [.pv (.list (.int .u8)) v16.2.2.1.1, .pv (.int .i64) v16.2.2.1.2.1, .pv (.int .i8) v16.2.2.1.2.2.1]),(1000001, .arr 5 (.int .u8) v16.2.2.2.1.1)],[]⟩ (q20 N))
noncomputable def F111_e1(N n:Nat)(v3 v8:Int)(v16:T11):=
 lq (F111_E N) (c122 [1,1,0,0,0]) n ⟨[(0, .iface 66 (.ref 1000000 0)),(1, .own (.int .u8) 1000001),(2, .pv (.int .i64) v3),(6, .pv (.int .i64) (IntKind.i64.wrap (v8+v16.1))),(7, .iface 222 (.ep 5))],[(1000000, .box [.pv (.list (.int .u8)) v16.2.2.1.1, .pv (.int .i64) v16.2.2.1.2.1, .pv (.int .i8) v16.2.2.1.2.2.1]),(1000001, .arr 5 (.int .u8) v16.2.2.2.1.1)],[]⟩ (kBlock 0 (kq (F111_E N) (c122 [1,1,1]) (q20 N)))
noncomputable def F111_e2(N:Nat)(v8:Int)(v9:List Int)(v10 v11:Int)(v12:List Int):=
 gate N (evC (F111_E N) (c122 [1,1,1,0,1,1,1]) ⟨[(6, .pv (.int .i64) v8),(7, .niliface),(44, .pv .bool false)],[(1000000, .box [.pv (.list (.int .u8)) v9, .pv (.int .i64) v10, .pv (.int .i8) v11]),(1000001, .arr 5 (.int .u8) v12)],[]⟩ (kq (F111_E N) (c122 [1,1,1,1]) (q20 N)))
noncomputable def F111_e0(N n:Nat)(v3 v8:Int)(v9:List Int)(v10 v11:Int)(v12:List Int):=
 lq (F111_E N) (c122 [1,1,0,0,0]) n ⟨[(0, .iface 66 (.ref 1000000 0)),(1, .own (.int .u8) 1000001),(2, .pv (.int .i64) v3),(6, .pv (.int .i64) v8),(7, .niliface)],[(1000000, .box [.pv (.list (.int .u8)) v9, .pv (.int .i64) v10, .pv (.int .i8) v11]),(1000001, .arr 5 (.int .u8) v12)],[]⟩ (kBlock 0 (kq (F111_E N) (c122 [1,1,1]) (q20 N)))
theorem F111_t3(N:Nat)(v3 v8:Int)(v16:T11):F111_e3 N v3 v8 v16=F111_j3 N v3 v8 v16:=by
 exact(congrArg (gate N) (show _=F111_g3 N v3 v8 v16 from by kernel_rfl)).trans (by rfl)
theorem F111_t1(N:Nat):∀(n:Nat) (v3 v8:Int) (v16:T11),F111_e1 N n v3 v8 v16=F111_l1 N n v3 v8 v16
 |0,_,_,_=>rfl
 |n+1,v3,v8,v16=>by
  have h3:(F111_e3 N)=(F111_j3 N):=by funext v3 v8 v16;exact F111_t3 N v3 v8 v16
  have h:F111_e1 N n v3 v8 v16=F111_l1 N n v3 v8 v16:=by exact F111_t1 N n v3 v8 v16
  exact Eq.trans (b:=F111_g1 N v3 v8 v16 (F111_e3 N) (F111_e1 N n v3 v8 v16)) (by kernel_rfl) (by rw[h3,h];rfl)
theorem F111_t2(N:Nat)(v8:Int)(v9:List Int)(v10 v11:Int)(v12:List Int):F111_e2 N v8 v9 v10 v11 v12=F111_j2 N v8 v9 v10 v11 v12:=by
 exact(congrArg (gate N) (show _=F111_g2 N v8 v9 v10 v11 v12 from by kernel_rfl)).trans (by rfl)
theorem F111_t0(N:Nat):∀(n:Nat) (v3 v8:Int) (v9:List Int) (v10 v11:Int) (v12:List Int),F111_e0 N n v3 v8 v9 v10 v11 v12=F111_l0 N n v3 v8 v9 v10 v11 v12
 |0,_,_,_,_,_,_=>rfl
 |n+1,v3,v8,v9,v10,v11,v12=>by
  have h1:(F111_e1 N n)=(F111_l1 N n):=by funext v3 v8 v16;exact F111_t1 N n v3 v8 v16
  have h2:(F111_e2 N)=(F111_j2 N):=by funext v8 v9 v10 v11 v12;exact F111_t2 N v8 v9 v10 v11 v12
  have h:F111_e0 N n v3=F111_l0 N n v3:=by funext v8 v9 v10 v11 v12;exact F111_t0 N n v3 v8 v9 v10 v11 v12
  exact Eq.trans (b:=F111_g0 N v3 (F111_e1 N n) (F111_e2 N) (F111_e0 N n v3) v8 v9 v10 v11 v12) (by kernel_rfl) (by rw[h1,h2,h];rfl)
theorem F111_t(N:Nat)(v1:T1)(v2:List Int)(v3:Int):evF2 (F111_E N) [] Tryz.f122 [.ifc 66 (.box s0), .row 5 (.int .u8), .k (.int .i64)] a3 (v1,v2,v3,())=F111 N v1 v2 v3:=by
 have h0:(F111_e0 N N)=(F111_l0 N N):=by funext v3 v8 v9 v10 v11 v12;exact F111_t0 N N v3 v8 v9 v10 v11 v12
 exact Eq.trans (b:=F111_g N v1 v2 v3 (F111_e0 N N)) (by kernel_rfl) (by rw[h0];rfl)
noncomputable def F111_con(N:Nat):Con2:=⟨122,[.ifc 66 (.box s0), .row 5 (.int .u8), .k (.int .i64)],a3,fun x=>F111 N x.1 x.2.1 x.2.2.1⟩
theorem F111_s(N:Nat):(F111_con N).Sound PG (GL N):=
 Con2.sound_of (c:=F111_con N) (E:=(F111_E N)) (idle:=[]) Tryz.func122 (by kernel_rfl) (by kernel_rfl) ⟨allNil,(allCons (F110_s N) allNil),rfl⟩ allNil (fun x y h=>(F111_t N x.1 x.2.1 x.2.2.1).trans h)
noncomputable def F112_E(N:Nat):Env:=⟨PG,N,[],[nm 0 [0,1] [1000000,1000001],nm 1 [0,1] [1000000,1000001]],kdL [],[F111_con N],[],(GL N),tl0,[]⟩
noncomputable def F112_g(N:Nat)(v1:T1)(v2:List Int):Option T3:=
 ((F111 N (v1.1,v1.2.1,v1.2.2.1,()) v2 (v2.length:Int)).bind fun v3=>Sum.elim (fun v4=>(some (Sum.inl (v4.1,(),v4.2.2.1,v4.2.2.2.1,())))) (fun v5=>Sum.elim (fun v6=>(some (Sum.inr (Sum.inl (v6.1,(),v6.2.2.1,v6.2.2.2.1,()))))) (fun v7=>Sum.elim (fun v8=>(some (i2 (v8.1,(),v8.2.2.1,v8.2.2.2.1,())))) (fun v9=>(some (Sum.inr (Sum.inr (Sum.inr (v9.1,(),v9.2.2.1,v9.2.2.2.1,())))))) v7) v5) v3)
noncomputable def F112(N:Nat)(v1:T1)(v2:List Int):Option T3:=
 F112_g N v1 v2
theorem F112_t(N:Nat)(v1:T1)(v2:List Int):evF2 (F112_E N) [] Tryz.f118 [.ifc 66 (.box s0), .row 5 (.int .u8)] a18 (v1,v2,())=F112 N v1 v2:=
 Eq.trans (b:=F112_g N v1 v2) (by kernel_rfl) rfl
noncomputable def F112_con(N:Nat):Con2:=⟨118,[.ifc 66 (.box s0), .row 5 (.int .u8)],a18,fun x=>F112 N x.1 x.2.1⟩
theorem F112_s(N:Nat):(F112_con N).Sound PG (GL N):=
 Con2.sound_of (c:=F112_con N) (E:=(F112_E N)) (idle:=[]) Tryz.func118 (by kernel_rfl) (by kernel_rfl) ⟨allNil,(allCons (F111_s N) allNil),rfl⟩ allNil (fun x y h=>(F112_t N x.1 x.2.1).trans h)
noncomputable def F113_E(N:Nat):Env:=⟨PG,N,[F109_con N],[nm 0 [0,1,2] [1000000,1000001],nm 1 [0,1,2] [1000000,1000001],nm 2 [0,1,2,7] [14,1000000,1000001],nm 3 [1,2,7,9] [14,1000000,1000001],nm 4 [1,2,7,9,22] [14,1000000,1000001],nm 5 [1,2,7] [14,1000000,1000001],nm 6 [1,2,7,25,26] [14,1000000,1000001],nm 7 [1,2,7,25,26] [14,1000000,1000001],nm 8 [1,2,7,10,25,26] [14,1000000,1000001],nm 9 [1,2,7,25,26] [14,1000000,1000001],nm 10 [] [1000000,1000001]],kdL [(5,(.int .u8))],[F112_con N],[],(GL N),tl0,[]⟩
noncomputable def F113_g0(N:Nat)(v2:Ce)(v3:List Nat)(v8:T24)(r0:Int→(List Nat)→Option (T19⊕T19⊕T19⊕T19))(v15:Int)(v16:List Nat):Option (T19⊕T19⊕T19⊕T19):=
 (bif(decide ((v15:Int)<(v3.length:Int)))then((chk2 (IntKind.i64.wrap (8*v15)) (v8.2.2.2.1.length:Int) v8.2.2.2.1.length).bind fun v17=>(F109 N ((v8.2.2.2.1.drop v17.1).take (v17.2-v17.1)) v2).bind fun v18=>(chk v15 v16.length).bind fun v19=>((r0 (IntKind.i64.wrap (v15+1)) (v16.set v19 v18))))else(some (Sum.inr (Sum.inr (Sum.inr ((),v8.2.2.1,v16,()))))))
noncomputable def F113_l0(N:Nat):Nat→Ce→(List Nat)→T24→Int→(List Nat)→Option (T19⊕T19⊕T19⊕T19)
 |0,_,_,_,_,_=>none
 |n+1,v2,v3,v8,v15,v16=>F113_g0 N v2 v3 v8 (F113_l0 N n v2 v3 v8) v15 v16
noncomputable def F113_g(N:Nat)(v1:T1)(v2:Ce)(v3:List Nat)(c0:Ce→(List Nat)→T24→Int→(List Nat)→Option (T19⊕T19⊕T19⊕T19)):Option (T19⊕T19⊕T19⊕T19):=
 ((mkn (IntKind.i64.wrap (8*(v3.length:Int))) (IntKind.i64.wrap (8*(v3.length:Int))) 1).bind fun v4=>((F112 N (v1.1,v1.2.1,v1.2.2.1,()) (List.replicate v4 (0:Int))).bind fun v5=>Sum.elim (fun v6=>(some (Sum.inl ((),v6.2.2.1,v3,())))) (fun v7=>Sum.elim (fun v8=>((c0 v2 v3 v8 0 v3))) (fun v9=>Sum.elim (fun v10=>(some (Sum.inr (Sum.inl ((),v10.2.2.1,v3,()))))) (fun v11=>(some (i2 ((),v11.2.2.1,v3,())))) v9) v7) v5))
noncomputable def F113(N:Nat)(v1:T1)(v2:Ce)(v3:List Nat):Option (T19⊕T19⊕T19⊕T19):=
 F113_g N v1 v2 v3 (F113_l0 N N)
noncomputable def F113_e0(N n:Nat)(v2:Ce)(v3:List Nat)(v8:T24)(v15:Int)(v16:List Nat):=
 lq (F113_E N) (c119 [1,1,1,0,1,0,0]) n ⟨[(1, .pv .any v2),(2, .own .float 1000001),(7, .own (.int .u8) 14),(25, .pv (.int .i64) (v3.length:Int)),(26, .pv (.int .i64) v15)],[(14, .arr 5 (.int .u8) v8.2.2.2.1),(1000000, .box [.pv (.list (.int .u8)) v8.2.2.1.1, .pv (.int .i64) v8.2.2.1.2.1, .pv (.int .i8) v8.2.2.1.2.2.1]),(1000001, .arr 65 .float v16)],[]⟩ (kBlock 0 (kq (F113_E N) (c119 [1,1,1,1]) (kEnd2 (F113_E N) [] Tryz.f119.results.toList a7 [.iface 66 (.ref 1000000 0), .dead, .own .float 1000001])))
theorem F113_t0(N:Nat):∀(n:Nat) (v2:Ce) (v3:List Nat) (v8:T24) (v15:Int) (v16:List Nat),F113_e0 N n v2 v3 v8 v15 v16=F113_l0 N n v2 v3 v8 v15 v16
 |0,_,_,_,_,_=>rfl
 |n+1,v2,v3,v8,v15,v16=>by
  have h:F113_e0 N n v2 v3 v8=F113_l0 N n v2 v3 v8:=by funext v15 v16;exact F113_t0 N n v2 v3 v8 v15 v16
  exact Eq.trans (b:=F113_g0 N v2 v3 v8 (F113_e0 N n v2 v3 v8) v15 v16) (by kernel_rfl) (by rw[h];rfl)
theorem F113_t(N:Nat)(v1:T1)(v2:Ce)(v3:List Nat):evF2 (F113_E N) [] Tryz.f119 [.ifc 66 (.box s0), .k .any, .row 65 .float] a7 (v1,v2,v3,())=F113 N v1 v2 v3:=by
 have h0:(F113_e0 N N)=(F113_l0 N N):=by funext v2 v3 v8 v15 v16;exact F113_t0 N N v2 v3 v8 v15 v16
 exact Eq.trans (b:=F113_g N v1 v2 v3 (F113_e0 N N)) (by kernel_rfl) (by rw[h0];rfl)
noncomputable def F113_con(N:Nat):Con2:=⟨119,[.ifc 66 (.box s0), .k .any, .row 65 .float],a7,fun x=>F113 N x.1 x.2.1 x.2.2.1⟩
theorem F113_s(N:Nat):(F113_con N).Sound PG (GL N):=
 Con2.sound_of (c:=F113_con N) (E:=(F113_E N)) (idle:=[]) Tryz.func119 (by kernel_rfl) (by kernel_rfl) ⟨(allCons (F109_s N) allNil),(allCons (F112_s N) allNil),rfl⟩ allNil (fun x y h=>(F113_t N x.1 x.2.1 x.2.2.1).trans h)
noncomputable def F114_E(N:Nat):Env:=⟨PG,N,[],[nm 0 [0,1,2] [1000000],nm 1 [0,1,2] [1000000],nm 2 [0,1,8] [11,1000000],nm 3 [8,9] [11,1000000],nm 4 [8,9,17] [11,1000000],nm 5 [8] [11,1000000]],kdL [(65, .float)],[F113_con N],[],(GL N),tl0,[]⟩
noncomputable def F114_g(N:Nat)(v1:T1)(v2:Ce)(v3:Int):Option (((List Nat)×Unit×T1×Unit)⊕((List Nat)×Unit×T1×Unit)⊕((List Nat)×Unit×T1×Unit)⊕((List Nat)×Unit×T1×Unit)):=
 ((mkn v3 v3 8).bind fun v4=>((F113 N (v1.1,v1.2.1,v1.2.2.1,()) v2 (List.replicate v4 (0:Nat))).bind fun v5=>Sum.elim (fun v6=>(some (Sum.inl (([]:List Nat),(),v6.2.1,())))) (fun v7=>Sum.elim (fun v8=>(some (Sum.inr (Sum.inl (([]:List Nat),(),v8.2.1,()))))) (fun v9=>Sum.elim (fun v10=>(some (i2 (([]:List Nat),(),v10.2.1,())))) (fun v11=>(some (Sum.inr (Sum.inr (Sum.inr (v11.2.2.1,(),v11.2.1,())))))) v9) v7) v5))
noncomputable def F114(N:Nat)(v1:T1)(v2:Ce)(v3:Int):Option (((List Nat)×Unit×T1×Unit)⊕((List Nat)×Unit×T1×Unit)⊕((List Nat)×Unit×T1×Unit)⊕((List Nat)×Unit×T1×Unit)):=
 F114_g N v1 v2 v3
theorem F114_t(N:Nat)(v1:T1)(v2:Ce)(v3:Int):evF2 (F114_E N) [] Tryz.f96 s7 a24 (v1,v2,v3,())=F114 N v1 v2 v3:=
 Eq.trans (b:=F114_g N v1 v2 v3) (by kernel_rfl) rfl
noncomputable def F114_con(N:Nat):Con2:=⟨96,s7,a24,fun x=>F114 N x.1 x.2.1 x.2.2.1⟩
theorem F114_s(N:Nat):(F114_con N).Sound PG (GL N):=
 Con2.sound_of (c:=F114_con N) (E:=(F114_E N)) (idle:=[]) Tryz.func96 (by kernel_rfl) (by kernel_rfl) ⟨allNil,(allCons (F113_s N) allNil),rfl⟩ allNil (fun x y h=>(F114_t N x.1 x.2.1 x.2.2.1).trans h)
noncomputable def F115_E(N:Nat):Env:=⟨PG,N,[math_Float64bits_con N],[nm 0 [0,1] [1000000],nm 1 [0,1] [1000000],nm 2 [0,1,5] [1000000],nm 3 [0,1,5,8,9,10] [1000000],nm 4 [0,1,5,8,9,10] [1000000],nm 5 [0,1,5,7,8,9,10] [1000000],nm 6 [0,1,5,8,9,10,16] [1000000],nm 7 [0,1,5,8,9,10] [1000000],ng N 8 [0,1,5] [1000000],nm 9 [0,1,18] [1000000],nm 10 [0,1] [1000000]],kdL [],[F78_con N,F18_con N],[],(GL N),tl0,[]⟩
noncomputable def F115_g1(N:Nat)(v1:Int)(v2:List Nat)(v10:Bool):Option ((T10×(List Nat)×Unit)⊕(T10×Unit)):=
 (bif v10 then((F78 N v1).bind fun v11=>(some (Sum.inl (v11.1,v2,()))))else((F18 N v1 v2).bind fun v12=>(some (Sum.inr (v12.1,())))))
noncomputable def F115_j1(N:Nat)(v1:Int)(v2:List Nat)(v10:Bool):Option ((T10×(List Nat)×Unit)⊕(T10×Unit)):=
 gate N (F115_g1 N v1 v2 v10)
noncomputable def F115_g0(N:Nat)(v1:Int)(v2:List Nat)(c1:Int→(List Nat)→Bool→Option ((T10×(List Nat)×Unit)⊕(T10×Unit)))(r0:Int→Option ((T10×(List Nat)×Unit)⊕(T10×Unit)))(v6:Int):Option ((T10×(List Nat)×Unit)⊕(T10×Unit)):=
 (bif(decide ((v6:Int)<(v2.length:Int)))then((chk v6 v2.length).bind fun v7=>(v2[v7]?).bind fun v8=>((math_Float64bits N v8).bind fun v9=>(bif(v9 !=9221120237041090560)then(c1 v1 v2 false)else((r0 (IntKind.i64.wrap (v6+1)))))))else(c1 v1 v2 true))
noncomputable def F115_l0(N:Nat):Nat→Int→(List Nat)→Int→Option ((T10×(List Nat)×Unit)⊕(T10×Unit))
 |0,_,_,_=>none
 |n+1,v1,v2,v6=>F115_g0 N v1 v2 (F115_j1 N) (F115_l0 N n v1 v2) v6
noncomputable def F115_g(N:Nat)(v1:Int)(v2:List Nat)(c0:Int→(List Nat)→Int→Option ((T10×(List Nat)×Unit)⊕(T10×Unit))):Option ((T10×(List Nat)×Unit)⊕(T10×Unit)):=
 ((c0 v1 v2 0))
noncomputable def F115(N:Nat)(v1:Int)(v2:List Nat):Option ((T10×(List Nat)×Unit)⊕(T10×Unit)):=
 F115_g N v1 v2 (F115_l0 N N)
noncomputable def q21(N:Nat):=kEnd2 (F115_E N) [] Tryz.f97.results.toList a15 [.dead, .own .float 1000000]
noncomputable def F115_e1(N:Nat)(v1:Int)(v2:List Nat)(v10:Bool):=
 gate N (evC (F115_E N) (c97 [1,1,1]) ⟨[(0, .pv (.int .i64) v1),(1, .own .float 1000000),(5, .pv .bool v10)],[(1000000, .arr 65 .float v2)],[]⟩ (q21 N))
noncomputable def F115_e0(N n:Nat)(v1:Int)(v2:List Nat)(v6:Int):=
 lq (F115_E N) (c97 [1,1,0,1,0,0]) n ⟨[(0, .pv (.int .i64) v1),(1, .own .float 1000000),(5, .pv .bool true),(8, .own .float 1000000),(9, .pv (.int .i64) (v2.length:Int)),(10, .pv (.int .i64) v6)],[(1000000, .arr 65 .float v2)],[]⟩ (kBlock 0 (kq (F115_E N) (c97 [1,1,1]) (q21 N)))
theorem F115_t1(N:Nat)(v1:Int)(v2:List Nat)(v10:Bool):F115_e1 N v1 v2 v10=F115_j1 N v1 v2 v10:=by
 exact(congrArg (gate N) (show _=F115_g1 N v1 v2 v10 from by kernel_rfl)).trans (by rfl)
theorem F115_t0(N:Nat):∀(n:Nat) (v1:Int) (v2:List Nat) (v6:Int),F115_e0 N n v1 v2 v6=F115_l0 N n v1 v2 v6
 |0,_,_,_=>rfl
 |n+1,v1,v2,v6=>by
  have h1:(F115_e1 N)=(F115_j1 N):=by funext v1 v2 v10;exact F115_t1 N v1 v2 v10
  have h:F115_e0 N n v1 v2=F115_l0 N n v1 v2:=by funext v6;exact F115_t0 N n v1 v2 v6
  exact Eq.trans (b:=F115_g0 N v1 v2 (F115_e1 N) (F115_e0 N n v1 v2) v6) (by kernel_rfl) (by rw[h1,h];rfl)
theorem F115_t(N:Nat)(v1:Int)(v2:List Nat):evF2 (F115_E N) [] Tryz.f97 s8 a15 (v1,v2,())=F115 N v1 v2:=by
 have h0:(F115_e0 N N)=(F115_l0 N N):=by funext v1 v2 v6;exact F115_t0 N N v1 v2 v6
 exact Eq.trans (b:=F115_g N v1 v2 (F115_e0 N N)) (by kernel_rfl) (by rw[h0];rfl)
noncomputable def F115_con(N:Nat):Con2:=⟨97,s8,a15,fun x=>F115 N x.1 x.2.1⟩
theorem F115_s(N:Nat):(F115_con N).Sound PG (GL N):=
 Con2.sound_of (c:=F115_con N) (E:=(F115_E N)) (idle:=[]) Tryz.func97 (by kernel_rfl) (by kernel_rfl) ⟨(allCons (math_Float64bits_s N) allNil),(allCons (F78_s N) (allCons (F18_s N) allNil)),rfl⟩ allNil (fun x y h=>(F115_t N x.1 x.2.1).trans h)
end
noncomputable section
noncomputable def F116_E(N:Nat):Env:=⟨PG,N,[],[nm 0 [0,1,2] [1000000],nm 1 [0,1,2] [1000000],nm 2 [0,1,2,8,9] [1000000],nm 3 [0,1,2,8,9,20] [1000000],nm 4 [0,1,2,8] [1000000],nm 5 [0,1,2,8,10] [1000000],nm 6 [0,1,2,8,10,31] [1000000],ng N 7 [0,1,2,8] [1000000],nm 8 [0,1,11] [41,1000000],nm 9 [11,12] [41,1000000],nm 10 [11,12,47] [41,1000000],nm 11 [11] [41,1000000]],kdL [(65, .float)],[F106_con N,F113_con N],[],(GL N),tl0,[]⟩
noncomputable def F116_g0(N:Nat)(v2:Ce)(v3:Int)(v10:T13):Option T18:=
 (mkn (IntKind.i64.wrap ((IntKind.i64.wrap v10.1)*v3)) (IntKind.i64.wrap ((IntKind.i64.wrap v10.1)*v3)) 8).bind fun v11=>((F113 N v10.2.2.1 v2 (List.replicate v11 (0:Nat))).bind fun v12=>Sum.elim (fun v13=>(some (Sum.inl (([]:List Nat),(),v13.2.1,())))) (fun v14=>Sum.elim (fun v15=>(some (Sum.inr (Sum.inl (([]:List Nat),(),v15.2.1,()))))) (fun v16=>Sum.elim (fun v17=>(some (i2 (([]:List Nat),(),v17.2.1,())))) (fun v18=>(some (Sum.inr (Sum.inr (Sum.inr (Sum.inr (v18.2.2.1,(),v18.2.1,()))))))) v16) v14) v12)
noncomputable def F116_j0(N:Nat)(v2:Ce)(v3:Int)(v10:T13):Option T18:=
 gate N (F116_g0 N v2 v3 v10)
noncomputable def F116_g(N:Nat)(v1:T1)(v2:Ce)(v3:Int)(c0:Ce→Int→T13→Option T18):Option T18:=
 ((F106 N (v1.1,v1.2.1,v1.2.2.1,()) v2).bind fun v4=>Sum.elim (fun v5=>(some (Sum.inl (([]:List Nat),(),v5.2.2.1,())))) (fun v6=>Sum.elim (fun v7=>(some (Sum.inr (Sum.inl (([]:List Nat),(),v7.2.2.1,()))))) (fun v8=>Sum.elim (fun v9=>(some (i2 (([]:List Nat),(),v9.2.2.1,())))) (fun v10=>(bif(decide ((-1:Int)≥0))then(bif(decide (((IntKind.i64.wrap v10.1):Int)>(-1)))then(some (i3 (([]:List Nat),(1,(IntKind.i64.wrap v10.1), -1,()),v10.2.2.1,())))else(c0 v2 v3 v10))else(c0 v2 v3 v10))) v8) v6) v4)
noncomputable def F116(N:Nat)(v1:T1)(v2:Ce)(v3:Int):Option T18:=
 F116_g N v1 v2 v3 (F116_j0 N)
noncomputable def F116_e0(N:Nat)(v2:Ce)(v3:Int)(v10:T13):=
 gate N (evC (F116_E N) (c98 [1,1,1,1]) ⟨[(0, .iface 66 (.ref 1000000 0)),(1, .pv .any v2),(2, .pv (.int .i64) v3),(8, .pv (.int .u32) v10.1)],[(1000000, .box [.pv (.list (.int .u8)) v10.2.2.1.1, .pv (.int .i64) v10.2.2.1.2.1, .pv (.int .i8) v10.2.2.1.2.2.1])],[]⟩ (kEnd2 (F116_E N) [] Tryz.f98.results.toList a6 [.iface 66 (.ref 1000000 0), .dead, .dead]))
theorem F116_t0(N:Nat)(v2:Ce)(v3:Int)(v10:T13):F116_e0 N v2 v3 v10=F116_j0 N v2 v3 v10:=by
 exact(congrArg (gate N) (show _=F116_g0 N v2 v3 v10 from by kernel_rfl)).trans (by rfl)
theorem F116_t(N:Nat)(v1:T1)(v2:Ce)(v3:Int):evF2 (F116_E N) [] Tryz.f98 s7 a6 (v1,v2,v3,())=F116 N v1 v2 v3:=by
 have h0:(F116_e0 N)=(F116_j0 N):=by funext v2 v3 v10;exact F116_t0 N v2 v3 v10
 exact Eq.trans (b:=F116_g N v1 v2 v3 (F116_e0 N)) (by kernel_rfl) (by rw[h0];rfl)
noncomputable def F116_con(N:Nat):Con2:=⟨98,s7,a6,fun x=>F116 N x.1 x.2.1 x.2.2.1⟩
theorem F116_s(N:Nat):(F116_con N).Sound PG (GL N):=
 Con2.sound_of (c:=F116_con N) (E:=(F116_E N)) (idle:=[]) Tryz.func98 (by kernel_rfl) (by kernel_rfl) ⟨allNil,(allCons (F106_s N) (allCons (F113_s N) allNil)),rfl⟩ allNil (fun x y h=>(F116_t N x.1 x.2.1 x.2.2.1).trans h)
noncomputable def F117_E(N:Nat):Env:=⟨PG,N,[],[nm 0 [0,1,2] [1000000],nm 1 [0,1,2] [1000000],nm 2 [0,1,2,9,10] [1000000],nm 3 [0,1,2,9,10,24] [1000000],nm 4 [0,1,2,9] [1000000],nm 5 [0,1,2,9,11] [1000000],nm 6 [0,1,2,9,11,35] [1000000],ng N 7 [0,1,2,9] [1000000],nm 8 [0,1,2,9,12] [1000000],nm 9 [0,1,2,9,12,13] [42,1000000],(10,⟨[(12,65, .float,91000)],[],[],[],[],[0,1,2,12,13,43,44],[42,91000,1000000],none⟩),nm 11 [0,1,2,12,13,43,44] [42,91000,1000000],nm 12 [0,1,2,12,13,14,43,44] [42,91000,1000000],nm 13 [0,1,2,12,13,14,15,16,43,44] [42,91000,102550,1000000],nm 14 [0,1,2,12,13,14,15,16,43,44,55] [42,91000,102550,1000000],nm 15 [0,1,2,12,13,14,15,43,44] [42,91000,102550,1000000],nm 16 [0,1,2,12,13,14,43,44] [42,59,1000000],nm 17 [0,1,2,12,13,43,44] [42,59,1000000],nm 18 [12,13] [42,91000,1000000]],kdL [(3,(.int .i64)),(65, .float)],[F106_con N,F116_con N],[],(GL N),tl0,[]⟩
noncomputable def F117_g1(N:Nat)(v2:Ce)(v3:Int)(v10:T13)(r1:Int→(List Int)→(List Nat)→(List Int)→Int→Int→Option T6)(v22:Int)(v23:List Int)(v24:List Nat)(v25:List Int)(v26 v27:Int):Option T6:=
 (bif(decide ((v22:Int)<v10.1))then((F116 N (v25,v26,v27,()) v2 v3).bind fun v28=>Sum.elim (fun v29=>(some (Sum.inl (([]:List Nat),([]:List Int),(),v29.2.2.1,())))) (fun v30=>Sum.elim (fun v31=>(some (Sum.inr (Sum.inl (([]:List Nat),([]:List Int),(),v31.2.2.1,()))))) (fun v32=>Sum.elim (fun v33=>(some (i2 (([]:List Nat),([]:List Int),(),v33.2.2.1,())))) (fun v34=>Sum.elim (fun v35=>(some (i3 (([]:List Nat),([]:List Int),v35.2.1,v35.2.2.1,())))) (fun v36=>((lim ((v24.length+v36.1.length)*8)).bind fun _=>((chk v22 v23.length).bind fun v37=>((r1 (IntKind.u32.wrap (v22+1)) (v23.set v37 ((v24++v36.1).length:Int)) (v24++v36.1) v36.2.2.1.1 v36.2.2.1.2.1 v36.2.2.1.2.2.1))))) v34) v32) v30) v28)else(some (Sum.inr (Sum.inr (Sum.inr (Sum.inr (v24,v23,(),(v25,v26,v27,()),())))))))
noncomputable def F117_l1(N:Nat):Nat→Ce→Int→T13→Int→(List Int)→(List Nat)→(List Int)→Int→Int→Option T6
 |0,_,_,_,_,_,_,_,_,_=>none
 |n+1,v2,v3,v10,v22,v23,v24,v25,v26,v27=>F117_g1 N v2 v3 v10 (F117_l1 N n v2 v3 v10) v22 v23 v24 v25 v26 v27
noncomputable def F117_g0(N:Nat)(v2:Ce)(v3:Int)(v10:T13)(c1:Ce→Int→T13→Int→(List Int)→(List Nat)→(List Int)→Int→Int→Option T6):Option T6:=
 ((mkn v10.1 v10.1 8).bind fun v11=>((c1 v2 v3 v10 0 (List.replicate v11 (0:Int)) ([]:List Nat) v10.2.2.1.1 v10.2.2.1.2.1 v10.2.2.1.2.2.1)))
noncomputable def F117_j0(N:Nat)(v2:Ce)(v3:Int)(v10:T13):Option T6:=
 gate N (F117_g0 N v2 v3 v10 (F117_l1 N N))
noncomputable def F117_g(N:Nat)(v1:T1)(v2:Ce)(v3:Int)(c0:Ce→Int→T13→Option T6):Option T6:=
 ((F106 N (v1.1,v1.2.1,v1.2.2.1,()) v2).bind fun v4=>Sum.elim (fun v5=>(some (Sum.inl (([]:List Nat),([]:List Int),(),v5.2.2.1,())))) (fun v6=>Sum.elim (fun v7=>(some (Sum.inr (Sum.inl (([]:List Nat),([]:List Int),(),v7.2.2.1,()))))) (fun v8=>Sum.elim (fun v9=>(some (i2 (([]:List Nat),([]:List Int),(),v9.2.2.1,())))) (fun v10=>(bif(decide ((-1:Int)≥0))then(bif(decide (((IntKind.i64.wrap v10.1):Int)>(-1)))then(some (i3 (([]:List Nat),([]:List Int),(2,(IntKind.i64.wrap v10.1), -1,()),v10.2.2.1,())))else(c0 v2 v3 v10))else(c0 v2 v3 v10))) v8) v6) v4)
noncomputable def F117(N:Nat)(v1:T1)(v2:Ce)(v3:Int):Option T6:=
 F117_g N v1 v2 v3 (F117_j0 N)
noncomputable def q22(N:Nat):=kEnd2 (F117_E N) [] Tryz.f99.results.toList a4 [.iface 66 (.ref 1000000 0), .dead, .dead]
noncomputable def F117_e1(N n:Nat)(v2:Ce)(v3:Int)(v10:T13)(v22:Int)(v23:List Int)(v24:List Nat)(v25:List Int)(v26 v27:Int):=
 lq (F117_E N) (c99 [1,1,1,1,1,1,0,1,0,0]) n ⟨[(0, .iface 66 (.ref 1000000 0)),(1, .pv .any v2),(2, .pv (.int .i64) v3),(12, .own .float 91000),(13, .own (.int .i64) 42),(43, .pv (.int .u32) v10.1),(44, .pv (.int .u32) v22)],[(42, .arr 3 (.int .i64) v23),(91000, .arr 65 .float v24),(1000000, .box [.pv (.list (.int .u8)) v25, .pv (.int .i64) v26, .pv (.int .i8) v27])],[]⟩ (kBlock 0 (kq (F117_E N) (c99 [1,1,1,1,1,1,1]) (q22 N)))
noncomputable def F117_e0(N:Nat)(v2:Ce)(v3:Int)(v10:T13):=
 gate N (evC (F117_E N) (c99 [1,1,1,1]) ⟨[(0, .iface 66 (.ref 1000000 0)),(1, .pv .any v2),(2, .pv (.int .i64) v3),(9, .pv (.int .u32) v10.1)],[(1000000, .box [.pv (.list (.int .u8)) v10.2.2.1.1, .pv (.int .i64) v10.2.2.1.2.1, .pv (.int .i8) v10.2.2.1.2.2.1])],[]⟩ (q22 N))
theorem F117_t1(N:Nat):∀(n:Nat) (v2:Ce) (v3:Int) (v10:T13) (v22:Int) (v23:List Int) (v24:List Nat) (v25:List Int) (v26 v27:Int),F117_e1 N n v2 v3 v10 v22 v23 v24 v25 v26 v27=F117_l1 N n v2 v3 v10 v22 v23 v24 v25 v26 v27
 |0,_,_,_,_,_,_,_,_,_=>rfl
 |n+1,v2,v3,v10,v22,v23,v24,v25,v26,v27=>by
  have h:F117_e1 N n v2 v3 v10=F117_l1 N n v2 v3 v10:=by funext v22 v23 v24 v25 v26 v27;exact F117_t1 N n v2 v3 v10 v22 v23 v24 v25 v26 v27
  exact Eq.trans (b:=F117_g1 N v2 v3 v10 (F117_e1 N n v2 v3 v10) v22 v23 v24 v25 v26 v27) (by kernel_rfl) (by rw[h];rfl)
theorem F117_t0(N:Nat)(v2:Ce)(v3:Int)(v10:T13):F117_e0 N v2 v3 v10=F117_j0 N v2 v3 v10:=by
 have h1:(F117_e1 N N)=(F117_l1 N N):=by funext v2 v3 v10 v22 v23 v24 v25 v26 v27;exact F117_t1 N N v2 v3 v10 v22 v23 v24 v25 v26 v27
 exact(congrArg (gate N) (show _=F117_g0 N v2 v3 v10 (F117_e1 N N)from by kernel_rfl)).trans (by rw[h1];rfl)
theorem F117_t(N:Nat)(v1:T1)(v2:Ce)(v3:Int):evF2 (F117_E N) [] Tryz.f99 s7 a4 (v1,v2,v3,())=F117 N v1 v2 v3:=by
 have h0:(F117_e0 N)=(F117_j0 N):=by funext v2 v3 v10;exact F117_t0 N v2 v3 v10
 exact Eq.trans (b:=F117_g N v1 v2 v3 (F117_e0 N)) (by kernel_rfl) (by rw[h0];rfl)
noncomputable def F117_con(N:Nat):Con2:=⟨99,s7,a4,fun x=>F117 N x.1 x.2.1 x.2.2.1⟩
theorem F117_s(N:Nat):(F117_con N).Sound PG (GL N):=
 Con2.sound_of (c:=F117_con N) (E:=(F117_E N)) (idle:=[]) Tryz.func99 (by kernel_rfl) (by kernel_rfl) ⟨allNil,(allCons (F106_s N) (allCons (F116_s N) allNil)),rfl⟩ allNil (fun x y h=>(F117_t N x.1 x.2.1 x.2.2.1).trans h)
noncomputable def F118_E(N:Nat):Env:=⟨PG,N,[F17_con N],[nm 0 [0,1,2] [1000000],nm 1 [0,1,2] [1000000],nm 2 [0,1,2,7] [12,1000000],nm 3 [0,1,2,7] [12,1000000],nm 4 [1,2,7] [12,1000000],nm 5 [1,2,7] [12,1000000],nm 6 [1,7,35,36,37] [12,1000000],nm 7 [1,7,35,36,37] [],nm 8 [1,7,9,35,36,37] [],nm 9 [1,7,35,36,37] [],nm 10 [1,7] [12,1000000],nm 11 [1,7,61] [12,1000000],nm 12 [1,7,10] [12,1000000],nm 13 [1,7,10,69] [12,1000000],ng N 14 [7,10] [12,1000000],nm 15 [7,10] [12,82,1000000],nm 16 [7,86,87] [12,82,1000000],nm 17 [7,86,87] [12,82,1000000],nm 18 [7,11,86,87] [12,82,1000000],nm 19 [7,86,87] [12,82,1000000],nm 20 [7] [12,82,1000000]],kdL [(3,(.int .i64))],[],[],(GL N),tl0,[(1000006, .unit)]⟩
noncomputable def F118_g1(N:Nat)(v4 v1 v3:Int)(v2:List Nat)(r1:Int→(List Int)→Option ((T4×Unit)))(v7:Int)(v8:List Int):Option ((T4×Unit)):=
 (bif(decide ((v7:Int)<v4))then((chk v7 v8.length).bind fun v9=>((r1 (IntKind.i64.wrap (v7+1)) (v8.set v9 (IntKind.i64.wrap ((IntKind.i64.wrap (v7+1))*v3))))))else(some ((v1,v3,v2,0,v8,()),())))
noncomputable def F118_l1(N:Nat):Nat→Int→Int→Int→(List Nat)→Int→(List Int)→Option ((T4×Unit))
 |0,_,_,_,_,_,_=>none
 |n+1,v4,v1,v3,v2,v7,v8=>F118_g1 N v4 v1 v3 v2 (F118_l1 N n v4 v1 v3 v2) v7 v8
noncomputable def F118_g0(N:Nat)(v1 v3:Int)(v2:List Nat)(c1:Int→Int→Int→(List Nat)→Int→(List Int)→Option ((T4×Unit)))(v4:Int):Option ((T4×Unit)):=
 (mkn v4 v4 8).bind fun v5=>((c1 v4 v1 v3 v2 0 (List.replicate v5 (0:Int))))
noncomputable def F118_j0(N:Nat)(v1 v3:Int)(v2:List Nat)(v4:Int):Option ((T4×Unit)):=
 gate N (F118_g0 N v1 v3 v2 (F118_l1 N N) v4)
noncomputable def F118_g(N:Nat)(v1:Int)(v2:List Nat)(c0:Int→Int→(List Nat)→Int→Option ((T4×Unit))):Option ((T4×Unit)):=
 ((F17 N v1).bind fun v3=>(bif(decide (((v2.length:Int):Int)>0))then(bif(decide ((v3:Int)>0))then(if v3=0 then none else(c0 v1 v3 v2 (IntKind.i64.wrap (Int.tdiv (v2.length:Int) v3))))else(c0 v1 v3 v2 0))else(some ((v1,v3,v2,0,([]:List Int),()),()))))
noncomputable def F118(N:Nat)(v1:Int)(v2:List Nat):Option ((T4×Unit)):=
 F118_g N v1 v2 (F118_j0 N)
noncomputable def q23(N:Nat):=kq (F118_E N) (c48 [1,1,1,1,1,1,1]) (kEnd2 (F118_E N) [] Tryz.f48.results.toList a5 [.dead, .own .float 1000000, .dead])
noncomputable def F118_e1(N n:Nat)(v4 v1 v3:Int)(v2:List Nat)(v7:Int)(v8:List Int):=
 lq (F118_E N) (c48 [1,1,1,1,1,1,0,1,0,1,1,1,1,0,0]) n ⟨[(7, .ref 12 0),(86, .pv (.int .i64) v4),(87, .pv (.int .i64) v7)],[(12, .box [.pv (.int .i64) v1, .pv (.int .i64) v3, .own .float 1000000, .pv (.int .i64) 0, .own (.int .i64) 82]),(82, .arr 3 (.int .i64) v8),(1000000, .arr 65 .float v2)],[]⟩ (kBlock 2 (q23 N))
noncomputable def F118_e0(N:Nat)(v1 v3:Int)(v2:List Nat)(v4:Int):=
 gate N (evC (F118_E N) (c48 [1,1,1,1,1,1,0,1,0,1,1]) ⟨[(7, .ref 12 0),(10, .pv (.int .i64) v4)],[(12, .box [.pv (.int .i64) v1, .pv (.int .i64) v3, .own .float 1000000, .pv (.int .i64) 0, .nils]),(1000000, .arr 65 .float v2)],[]⟩ (q23 N))
theorem F118_t1(N:Nat):∀(n:Nat) (v4 v1 v3:Int) (v2:List Nat) (v7:Int) (v8:List Int),F118_e1 N n v4 v1 v3 v2 v7 v8=F118_l1 N n v4 v1 v3 v2 v7 v8
 |0,_,_,_,_,_,_=>rfl
 |n+1,v4,v1,v3,v2,v7,v8=>by
  have h:F118_e1 N n v4 v1 v3 v2=F118_l1 N n v4 v1 v3 v2:=by funext v7 v8;exact F118_t1 N n v4 v1 v3 v2 v7 v8
  exact Eq.trans (b:=F118_g1 N v4 v1 v3 v2 (F118_e1 N n v4 v1 v3 v2) v7 v8) (by kernel_rfl) (by rw[h];rfl)
theorem F118_t0(N:Nat)(v1 v3:Int)(v2:List Nat)(v4:Int):F118_e0 N v1 v3 v2 v4=F118_j0 N v1 v3 v2 v4:=by
 have h1:(F118_e1 N N)=(F118_l1 N N):=by funext v4 v1 v3 v2 v7 v8;exact F118_t1 N N v4 v1 v3 v2 v7 v8
 exact(congrArg (gate N) (show _=F118_g0 N v1 v3 v2 (F118_e1 N N) v4 from by kernel_rfl)).trans (by rw[h1];rfl)
theorem F118_t(N:Nat)(v1:Int)(v2:List Nat):evF2 (F118_E N) [] Tryz.f48 [.k (.int .i64), .row 65 .float, .snil] a5 (v1,v2,(),())=F118 N v1 v2:=by
 have h0:(F118_e0 N)=(F118_j0 N):=by funext v1 v3 v2 v4;exact F118_t0 N v1 v3 v2 v4
 exact Eq.trans (b:=F118_g N v1 v2 (F118_e0 N)) (by kernel_rfl) (by rw[h0];rfl)
noncomputable def F118_con(N:Nat):Con2:=⟨48,[.k (.int .i64), .row 65 .float, .snil],a5,fun x=>F118 N x.1 x.2.1⟩
theorem F118_s(N:Nat):(F118_con N).Sound PG (GL N):=
 Con2.sound_of (c:=F118_con N) (E:=(F118_E N)) (idle:=[]) Tryz.func48 (by kernel_rfl) (by kernel_rfl) ⟨(allCons (F17_s N) allNil),allNil,rfl⟩ allNil (fun x y h=>(F118_t N x.1 x.2.1).trans h)
noncomputable def F119_E(N:Nat):Env:=⟨PG,N,[],[nm 0 [0] [],nm 1 [0] []],kdL [],[F118_con N],[],(GL N),tl0,[]⟩
noncomputable def F119_g(N:Nat)(v1:Int):Option ((T4×Unit)):=
 ((F118 N v1 ([]:List Nat)).bind fun v2=>(some (v2.1,())))
noncomputable def F119(N:Nat)(v1:Int):Option ((T4×Unit)):=
 F119_g N v1
theorem F119_t(N:Nat)(v1:Int):evF2 (F119_E N) [] Tryz.f100 s11 a25 (v1,())=F119 N v1:=
 Eq.trans (b:=F119_g N v1) (by kernel_rfl) rfl
noncomputable def F119_con(N:Nat):Con2:=⟨100,s11,a25,fun x=>F119 N x.1⟩
theorem F119_s(N:Nat):(F119_con N).Sound PG (GL N):=
 Con2.sound_of (c:=F119_con N) (E:=(F119_E N)) (idle:=[]) Tryz.func100 (by kernel_rfl) (by kernel_rfl) ⟨allNil,(allCons (F118_s N) allNil),rfl⟩ allNil (fun x y h=>(F119_t N x.1).trans h)
noncomputable def F120_E(N:Nat):Env:=⟨PG,N,[],[nm 0 [0,1] [1000000,1000001,1000002],nm 1 [0,1] [1000000,1000001,1000002],nm 2 [0,1,17] [1000000,1000001,1000002],nm 3 [0,1] [1000000,1000001,1000002],nm 4 [0,1,36] [1000000,1000001,1000002],nm 5 [0] [50,1000000,1000001,1000002],nm 6 [] [50,71,1000000,1000001]],kdL [(3,(.int .i64)),(65, .float),(140,p0)],[F57_con N],[],(GL N),tl0,[]⟩
noncomputable def F120_g(N:Nat)(v1:T4)(v2:Ce):Option ((T20×T4×Unit)⊕(Unit×T4×Unit)):=
 ((isNilp v2).bind fun v3=>(bif v3 then none else((ptrD p0 v2).bind fun v4=>(bif(v4.1.1 !=v1.1)then((isNilp v2).bind fun v5=>(bif v5 then none else((ptrD p0 v2).bind fun v6=>(some (Sum.inl ((v6.1.1,v1.1,()),(v1.1,v1.2.1,v1.2.2.1,v1.2.2.2.1,v1.2.2.2.2.1,()),()))))))else((isNilp v2).bind fun v7=>(bif v7 then none else((ptrD p0 v2).bind fun v8=>(F57 N v8.1).bind fun v9=>(bif(!v9.1)then((isNilp v2).bind fun v10=>(bif v10 then none else((ptrD p0 v2).bind fun v11=>(lim ((v1.2.2.1.length+v11.1.2.2.1.length)*8)).bind fun _=>((lim ((v1.2.2.2.2.1.length+([((v1.2.2.1++v11.1.2.2.1).length:Int)]:List Int).length)*8)).bind fun _=>(some (Sum.inr ((),(v1.1,v1.2.1,(v1.2.2.1++v11.1.2.2.1),v1.2.2.2.1,(v1.2.2.2.2.1++([((v1.2.2.1++v11.1.2.2.1).length:Int)]:List Int)),()),())))))))else((lim ((v1.2.2.2.2.1.length+([(v1.2.2.1.length:Int)]:List Int).length)*8)).bind fun _=>(some (Sum.inr ((),(v1.1,v1.2.1,v1.2.2.1,v1.2.2.2.1,(v1.2.2.2.2.1++([(v1.2.2.1.length:Int)]:List Int)),()),()))))))))))))
noncomputable def F120(N:Nat)(v1:T4)(v2:Ce):Option ((T20×T4×Unit)⊕(Unit×T4×Unit)):=
 F120_g N v1 v2
theorem F120_t(N:Nat)(v1:T4)(v2:Ce):evF2 (F120_E N) [] Tryz.f101 s6 a12 (v1,v2,())=F120 N v1 v2:=
 Eq.trans (b:=F120_g N v1 v2) (by kernel_rfl) rfl
noncomputable def F120_con(N:Nat):Con2:=⟨101,s6,a12,fun x=>F120 N x.1 x.2.1⟩
theorem F120_s(N:Nat):(F120_con N).Sound PG (GL N):=
 Con2.sound_of (c:=F120_con N) (E:=(F120_E N)) (idle:=[]) Tryz.func101 (by kernel_rfl) (by kernel_rfl) ⟨allNil,(allCons (F57_s N) allNil),rfl⟩ allNil (fun x y h=>(F120_t N x.1 x.2.1).trans h)
noncomputable def F121_E(N:Nat):Env:=⟨PG,N,[],[nm 0 [0] [],nm 1 [0] []],kdL [],[F31_con N],[],(GL N),tl0,[]⟩
noncomputable def F121_g(N:Nat)(v1:Int):Option ((T4×Unit)):=
 ((F31 N v1 ([]:List Nat) ([]:List Int)).bind fun v2=>(some (v2.1,())))
noncomputable def F121(N:Nat)(v1:Int):Option ((T4×Unit)):=
 F121_g N v1
theorem F121_t(N:Nat)(v1:Int):evF2 (F121_E N) [] Tryz.f102 s11 a25 (v1,())=F121 N v1:=
 Eq.trans (b:=F121_g N v1) (by kernel_rfl) rfl
noncomputable def F121_con(N:Nat):Con2:=⟨102,s11,a25,fun x=>F121 N x.1⟩
theorem F121_s(N:Nat):(F121_con N).Sound PG (GL N):=
 Con2.sound_of (c:=F121_con N) (E:=(F121_E N)) (idle:=[]) Tryz.func102 (by kernel_rfl) (by kernel_rfl) ⟨allNil,(allCons (F31_s N) allNil),rfl⟩ allNil (fun x y h=>(F121_t N x.1).trans h)
noncomputable def F122_E(N:Nat):Env:=⟨PG,N,[],[nm 0 [0,1] [1000000,1000001,1000002],nm 1 [0,1] [1000000,1000001,1000002],nm 2 [0,1,18] [1000000,1000001,1000002],nm 3 [0,1] [1000000,1000001,1000002],nm 4 [0] [48,1000000,1000002],nm 5 [] [48,69,1000000]],kdL [(3,(.int .i64)),(65, .float),(147,(.pair p0 .unit))],[],[],(GL N),tl0,[]⟩
noncomputable def F122_g(N:Nat)(v1:T4)(v2:Ce):Option ((T20×T4×Unit)⊕(Unit×T4×Unit)):=
 ((isNilp v2).bind fun v3=>(bif v3 then none else((ptrD (.pair p0 .unit) v2).bind fun v4=>(bif(v4.1.1.1 !=v1.1)then((isNilp v2).bind fun v5=>(bif v5 then none else((ptrD (.pair p0 .unit) v2).bind fun v6=>(some (Sum.inl ((v6.1.1.1,v1.1,()),(v1.1,v1.2.1,v1.2.2.1,v1.2.2.2.1,v1.2.2.2.2.1,()),()))))))else((isNilp v2).bind fun v7=>(bif v7 then none else((ptrD (.pair p0 .unit) v2).bind fun v8=>(lim ((v1.2.2.1.length+v8.1.1.2.2.1.length)*8)).bind fun _=>((lim ((v1.2.2.2.2.1.length+([((v1.2.2.1++v8.1.1.2.2.1).length:Int)]:List Int).length)*8)).bind fun _=>(some (Sum.inr ((),(v1.1,v1.2.1,(v1.2.2.1++v8.1.1.2.2.1),v1.2.2.2.1,(v1.2.2.2.2.1++([((v1.2.2.1++v8.1.1.2.2.1).length:Int)]:List Int)),()),())))))))))))
noncomputable def F122(N:Nat)(v1:T4)(v2:Ce):Option ((T20×T4×Unit)⊕(Unit×T4×Unit)):=
 F122_g N v1 v2
theorem F122_t(N:Nat)(v1:T4)(v2:Ce):evF2 (F122_E N) [] Tryz.f103 s6 a12 (v1,v2,())=F122 N v1 v2:=
 Eq.trans (b:=F122_g N v1 v2) (by kernel_rfl) rfl
noncomputable def F122_con(N:Nat):Con2:=⟨103,s6,a12,fun x=>F122 N x.1 x.2.1⟩
theorem F122_s(N:Nat):(F122_con N).Sound PG (GL N):=
 Con2.sound_of (c:=F122_con N) (E:=(F122_E N)) (idle:=[]) Tryz.func103 (by kernel_rfl) (by kernel_rfl) ⟨allNil,allNil,rfl⟩ allNil (fun x y h=>(F122_t N x.1 x.2.1).trans h)
noncomputable def F123_E(N:Nat):Env:=⟨PG,N,[],[nm 0 [0] [],nm 1 [0] []],kdL [],[F34_con N],[],(GL N),tl0,[]⟩
noncomputable def F123_g(N:Nat)(v1:Int):Option ((T7×Unit)):=
 ((F34 N v1 ([]:List Nat) ([]:List (List Int))).bind fun v2=>(some (v2.1,())))
noncomputable def F123(N:Nat)(v1:Int):Option ((T7×Unit)):=
 F123_g N v1
theorem F123_t(N:Nat)(v1:Int):evF2 (F123_E N) [] Tryz.f104 s11 a47 (v1,())=F123 N v1:=
 Eq.trans (b:=F123_g N v1) (by kernel_rfl) rfl
noncomputable def F123_con(N:Nat):Con2:=⟨104,s11,a47,fun x=>F123 N x.1⟩
theorem F123_s(N:Nat):(F123_con N).Sound PG (GL N):=
 Con2.sound_of (c:=F123_con N) (E:=(F123_E N)) (idle:=[]) Tryz.func104 (by kernel_rfl) (by kernel_rfl) ⟨allNil,(allCons (F34_s N) allNil),rfl⟩ allNil (fun x y h=>(F123_t N x.1).trans h)
noncomputable def F124_E(N:Nat):Env:=⟨PG,N,[],[nm 0 [0,1] [1000000,1000001,1000002],nm 1 [0,1] [1000000,1000001,1000002],nm 2 [0,1,23] [1000000,1000001,1000002],nm 3 [0,1] [1000000,1000001,1000002],nm 4 [0,1,5] [1000000,1000001,1000002],nm 5 [0,1,5,6] [1000000,1000001,1000002],nm 6 [0,1,5,6,54] [1000000,1000001,1000002],nm 7 [0,1,5,6] [61,1000000,1000001,1000002],nm 8 [0,1,5,6,63] [61,1000000,1000001,1000002],nm 10 [0,1,5,6,75,76,77] [61,1000000,1000001,1000002],nm 11 [0,1,5,6,75,76,77] [61,1000000,1000001,1000002],nm 12 [0,1,5,6,7,8,75,76,77] [61,1000000,1000001,1000002],nm 13 [0,1,5,6,75,76,77] [61,1000000,1000001,1000002],ng N 14 [0,1,6] [61,1000000,1000001,1000002],nm 15 [0,6] [61,104,1000000,1000002],nm 16 [] [104,118,1000000]],kdL [(3,(.int .i64)),(23,(.list (.int .i64))),(65, .float),(152,p1)],[],[],(GL N),tl0,[]⟩
noncomputable def F124_g1(N:Nat)(v2:Ce)(v1:T7)(v22:List Int):Option ((T20×T7×Unit)⊕(Unit×T7×Unit)):=
 (isNilp v2).bind fun v23=>(bif v23 then none else((ptrD p1 v2).bind fun v24=>(lim ((v1.2.2.1.length+v24.1.1.1.2.2.1.length)*8)).bind fun _=>((lim ((v1.2.2.2.2.1.length+([v22]:List (List Int)).length)*24)).bind fun _=>(some (Sum.inr ((),(v1.1,v1.2.1,(v1.2.2.1++v24.1.1.1.2.2.1),v1.2.2.2.1,(v1.2.2.2.2.1++([v22]:List (List Int))),()),()))))))
noncomputable def F124_j1(N:Nat)(v2:Ce)(v1:T7)(v22:List Int):Option ((T20×T7×Unit)⊕(Unit×T7×Unit)):=
 gate N (F124_g1 N v2 v1 v22)
noncomputable def F124_g0(N:Nat)(v2:Ce)(v1:T7)(v15:(((T14×Unit)×((List Int)×Unit))×Unit))(c1:Ce→T7→(List Int)→Option ((T20×T7×Unit)⊕(Unit×T7×Unit)))(r0:Int→(List Int)→Option ((T20×T7×Unit)⊕(Unit×T7×Unit)))(v18:Int)(v19:List Int):Option ((T20×T7×Unit)⊕(Unit×T7×Unit)):=
 (bif(decide ((v18:Int)<(v15.1.2.1.length:Int)))then((nth v15.1.2.1 v18).bind fun v20=>((chk v18 v19.length).bind fun v21=>((r0 (IntKind.i64.wrap (v18+1)) (v19.set v21 (IntKind.i64.wrap (v20+(v1.2.2.1.length:Int))))))))else(c1 v2 v1 v19))
noncomputable def F124_l0(N:Nat):Nat→Ce→T7→(((T14×Unit)×((List Int)×Unit))×Unit)→Int→(List Int)→Option ((T20×T7×Unit)⊕(Unit×T7×Unit))
 |0,_,_,_,_,_=>none
 |n+1,v2,v1,v15,v18,v19=>F124_g0 N v2 v1 v15 (F124_j1 N) (F124_l0 N n v2 v1 v15) v18 v19
noncomputable def F124_g(N:Nat)(v1:T7)(v2:Ce)(c1:Ce→T7→(List Int)→Option ((T20×T7×Unit)⊕(Unit×T7×Unit)))(c0:Ce→T7→(((T14×Unit)×((List Int)×Unit))×Unit)→Int→(List Int)→Option ((T20×T7×Unit)⊕(Unit×T7×Unit))):Option ((T20×T7×Unit)⊕(Unit×T7×Unit)):=
 ((isNilp v2).bind fun v3=>(bif v3 then none else((ptrD p1 v2).bind fun v4=>(bif(v4.1.1.1.1 !=v1.1)then((isNilp v2).bind fun v5=>(bif v5 then none else((ptrD p1 v2).bind fun v6=>(some (Sum.inl ((v6.1.1.1.1,v1.1,()),(v1.1,v1.2.1,v1.2.2.1,v1.2.2.2.1,v1.2.2.2.2.1,()),()))))))else((isNilp v2).bind fun v7=>(bif v7 then none else((ptrD p1 v2).bind fun v8=>(bif(decide (((v8.1.2.1.length:Int):Int)>0))then((isNilp v2).bind fun v9=>(bif v9 then none else((ptrD p1 v2).bind fun v10=>(mkn (v10.1.2.1.length:Int) (v10.1.2.1.length:Int) 8).bind fun v11=>(bif((v1.2.2.1.length:Int)==0)then((isNilp v2).bind fun v12=>(bif v12 then none else((ptrD p1 v2).bind fun v13=>(c1 v2 v1 (v13.1.2.1.take (List.replicate v11 (0:Int)).length++(List.replicate v11 (0:Int)).drop v13.1.2.1.length)))))else((isNilp v2).bind fun v14=>(bif v14 then none else((ptrD p1 v2).bind fun v15=>((c0 v2 v1 v15 0 (List.replicate v11 (0:Int)))))))))))else(gate N ((isNilp v2).bind fun v25=>(bif v25 then none else((ptrD p1 v2).bind fun v26=>(lim ((v1.2.2.1.length+v26.1.1.1.2.2.1.length)*8)).bind fun _=>((lim ((v1.2.2.2.2.1.length+([([]:List Int)]:List (List Int)).length)*24)).bind fun _=>(some (Sum.inr ((),(v1.1,v1.2.1,(v1.2.2.1++v26.1.1.1.2.2.1),v1.2.2.2.1,(v1.2.2.2.2.1++([([]:List Int)]:List (List Int))),()),()))))))))))))))))
noncomputable def F124(N:Nat)(v1:T7)(v2:Ce):Option ((T20×T7×Unit)⊕(Unit×T7×Unit)):=
 F124_g N v1 v2 (F124_j1 N) (F124_l0 N N)
noncomputable def q24(N:Nat):=kEnd2 (F124_E N) [] Tryz.f105.results.toList a10 [.ref 1000000 0, .dead]
noncomputable def F124_e1(N:Nat)(v2:Ce)(v1:T7)(v22:List Int):=
 gate N (evC (F124_E N) (c105 [1,1,1,1,1]) ⟨[(0, .ref 1000000 0),(1, .pv .any v2),(6, .own (.int .i64) 61)],[(61, .arr 3 (.int .i64) v22),(1000000, .box [.pv (.int .i64) v1.1, .pv (.int .i64) v1.2.1, .own .float 1000001, .pv (.int .i64) v1.2.2.2.1, .own (.list (.int .i64)) 1000002]),(1000001, .arr 65 .float v1.2.2.1),(1000002, .arr 23 (.list (.int .i64)) v1.2.2.2.2.1)],[]⟩ (q24 N))
noncomputable def F124_e0(N n:Nat)(v2:Ce)(v1:T7)(v15:(((T14×Unit)×((List Int)×Unit))×Unit))(v18:Int)(v19:List Int):=
 lq (F124_E N) (c105 [1,1,1,1,0,1,0,1,1,1,1,0,0]) n ⟨[(0, .ref 1000000 0),(1, .pv .any v2),(5, .pv (.int .i64) (v1.2.2.1.length:Int)),(6, .own (.int .i64) 61),(75, .pv (.list (.int .i64)) v15.1.2.1),(76, .pv (.int .i64) (v15.1.2.1.length:Int)),(77, .pv (.int .i64) v18)],[(61, .arr 3 (.int .i64) v19),(1000000, .box [.pv (.int .i64) v1.1, .pv (.int .i64) v1.2.1, .own .float 1000001, .pv (.int .i64) v1.2.2.2.1, .own (.list (.int .i64)) 1000002]),(1000001, .arr 65 .float v1.2.2.1),(1000002, .arr 23 (.list (.int .i64)) v1.2.2.2.2.1)],[]⟩ (kBlock 0 (kq (F124_E N) (c105 [1,1,1,1,1]) (q24 N)))
theorem F124_t1(N:Nat)(v2:Ce)(v1:T7)(v22:List Int):F124_e1 N v2 v1 v22=F124_j1 N v2 v1 v22:=by
 exact(congrArg (gate N) (show _=F124_g1 N v2 v1 v22 from by kernel_rfl)).trans (by rfl)
theorem F124_t0(N:Nat):∀(n:Nat) (v2:Ce) (v1:T7) (v15:(((T14×Unit)×((List Int)×Unit))×Unit)) (v18:Int) (v19:List Int),F124_e0 N n v2 v1 v15 v18 v19=F124_l0 N n v2 v1 v15 v18 v19
 |0,_,_,_,_,_=>rfl
 |n+1,v2,v1,v15,v18,v19=>by
  have h1:(F124_e1 N)=(F124_j1 N):=by funext v2 v1 v22;exact F124_t1 N v2 v1 v22
  have h:F124_e0 N n v2 v1 v15=F124_l0 N n v2 v1 v15:=by funext v18 v19;exact F124_t0 N n v2 v1 v15 v18 v19
  exact Eq.trans (b:=F124_g0 N v2 v1 v15 (F124_e1 N) (F124_e0 N n v2 v1 v15) v18 v19) (by kernel_rfl) (by rw[h1,h];rfl)
theorem F124_t(N:Nat)(v1:T7)(v2:Ce):evF2 (F124_E N) [] Tryz.f105 s19 a10 (v1,v2,())=F124 N v1 v2:=by
 have h1:(F124_e1 N)=(F124_j1 N):=by funext v2 v1 v22;exact F124_t1 N v2 v1 v22
 have h0:(F124_e0 N N)=(F124_l0 N N):=by funext v2 v1 v15 v18 v19;exact F124_t0 N N v2 v1 v15 v18 v19
 exact Eq.trans (b:=F124_g N v1 v2 (F124_e1 N) (F124_e0 N N)) (by kernel_rfl) (by rw[h1,h0];rfl)
noncomputable def F124_con(N:Nat):Con2:=⟨105,s19,a10,fun x=>F124 N x.1 x.2.1⟩
theorem F124_s(N:Nat):(F124_con N).Sound PG (GL N):=
 Con2.sound_of (c:=F124_con N) (E:=(F124_E N)) (idle:=[]) Tryz.func105 (by kernel_rfl) (by kernel_rfl) ⟨allNil,allNil,rfl⟩ allNil (fun x y h=>(F124_t N x.1 x.2.1).trans h)
noncomputable def F125_E(N:Nat):Env:=⟨PG,N,[],[nm 0 [0] [],nm 1 [0] []],kdL [],[],[],(GL N),tl0,[]⟩
noncomputable def F125_g(N:Nat)(v1:T12):Option ((Int×Unit)):=
 (some ((v1.2.1.length:Int),()))
noncomputable def F125(N:Nat)(v1:T12):Option ((Int×Unit)):=
 F125_g N v1
theorem F125_t(N:Nat)(v1:T12):evF2 (F125_E N) [] Tryz.f86 [.lref p2] a32 (v1,())=F125 N v1:=
 Eq.trans (b:=F125_g N v1) (by kernel_rfl) rfl
noncomputable def F125_con(N:Nat):Con2:=⟨86,[.lref p2],a32,fun x=>F125 N x.1⟩
theorem F125_s(N:Nat):(F125_con N).Sound PG (GL N):=
 Con2.sound_of (c:=F125_con N) (E:=(F125_E N)) (idle:=[]) Tryz.func86 (by kernel_rfl) (by kernel_rfl) ⟨allNil,allNil,rfl⟩ allNil (fun x y h=>(F125_t N x.1).trans h)
noncomputable def F126_g3(N:Nat)(self:T1→T5→Option T0)(v56:T13)(r3:Int→Int→Int→Int→Int→(List Nat)→(List Int)→(List Int)→Int→Int→Option T0)(v80 v81 v82 v83 v84:Int)(v85:List Nat)(v86 v87:List Int)(v88 v89:Int):Option T0:=
 (bif(decide ((v80:Int)<v56.1))then((self (v87,v88,v89,()) (((v81,()),()),())).bind fun v90=>Sum.elim (fun v91=>(some (Sum.inl (Ce.nili,(),v91.2.2.1,(((v91.2.2.2.1.1.1.1,()),()),()),())))) (fun v92=>Sum.elim (fun v93=>(some (Sum.inr (Sum.inl (Ce.nili,v93.2.1,v93.2.2.1,(((v93.2.2.2.1.1.1.1,()),()),()),()))))) (fun v94=>Sum.elim (fun v95=>(some (i2 (Ce.nili,(),v95.2.2.1,(((v95.2.2.2.1.1.1.1,()),()),()),())))) (fun v96=>Sum.elim (fun v97=>(some (i3 (Ce.nili,(),v97.2.2.1,(((v97.2.2.2.1.1.1.1,()),()),()),())))) (fun v98=>Sum.elim (fun v99=>(some (i4 (Ce.nili,v99.2.1,v99.2.2.1,(((v99.2.2.2.1.1.1.1,()),()),()),())))) (fun v100=>Sum.elim (fun v101=>((isT 72 v101.1).bind fun v107=>(bif v107 then((asT .any 72 v101.1).bind fun v108=>((F120 N (v82,v83,v85,v84,v86,()) v108).bind fun v109=>Sum.elim (fun v110=>(some (i7 (Ce.nili,v110.1,v101.2.2.1,(((v101.2.2.2.1.1.1.1,()),()),()),())))) (fun v111=>((r3 (IntKind.u32.wrap (v80+1)) v101.2.2.2.1.1.1.1 v111.2.1.1 v111.2.1.2.1 v111.2.1.2.2.2.1 v111.2.1.2.2.1 v111.2.1.2.2.2.2.1 v101.2.2.1.1 v101.2.2.1.2.1 v101.2.2.1.2.2.1))) v109))else none))) (fun v102=>Sum.elim (fun v103=>(some (i6 (Ce.nili,v103.2.1,v103.2.2.1,(((v103.2.2.2.1.1.1.1,()),()),()),())))) (fun v104=>Sum.elim (fun v105=>(some (i7 (Ce.nili,v105.2.1,v105.2.2.1,(((v105.2.2.2.1.1.1.1,()),()),()),())))) (fun v106=>(some (Sum.inr (Sum.inr (Sum.inr (Sum.inr (Sum.inr (Sum.inr (Sum.inr (Sum.inr (Ce.nili,v106.2.1,v106.2.2.1,(((v106.2.2.2.1.1.1.1,()),()),()),()))))))))))) v104) v102) v100) v98) v96) v94) v92) v90)else(some (i5 ((Ce.ifc 85 (Ce.ptr [(Ce.int .i64 v82),(Ce.int .i64 v83),(Ce.fl v85),(Ce.int .i64 v84),(Ce.il v86)])),(),(v87,v88,v89,()),(((v81,()),()),()),()))))
noncomputable def F126_l3(N:Nat)(self:T1→T5→Option T0):Nat→T13→Int→Int→Int→Int→Int→(List Nat)→(List Int)→(List Int)→Int→Int→Option T0
 |0,_,_,_,_,_,_,_,_,_,_,_=>none
 |n+1,v56,v80,v81,v82,v83,v84,v85,v86,v87,v88,v89=>F126_g3 N self v56 (F126_l3 N self n v56) v80 v81 v82 v83 v84 v85 v86 v87 v88 v89
noncomputable def F126_g2(N:Nat)(self:T1→T5→Option T0)(v15:Int)(v56:T13)(v3:T15)(c3:T13→Int→Int→Int→Int→Int→(List Nat)→(List Int)→(List Int)→Int→Int→Option T0):Option T0:=
 (F119 N v15).bind fun v57=>((c3 v56 0 v3.2.1.1.1.1 v57.1.1 v57.1.2.1 v57.1.2.2.2.1 v57.1.2.2.1 v57.1.2.2.2.2.1 v56.2.2.1.1 v56.2.2.1.2.1 v56.2.2.1.2.2.1))
noncomputable def F126_j2(N:Nat)(self:T1→T5→Option T0)(v15:Int)(v56:T13)(v3:T15):Option T0:=
 gate N (F126_g2 N self v15 v56 v3 (F126_l3 N self N))
noncomputable def F126_g5(N:Nat)(self:T1→T5→Option T0)(v118:T13)(r5:Int→Int→Int→Int→Int→(List Nat)→(List Int)→(List Int)→Int→Int→Option T0)(v142 v143 v144 v145 v146:Int)(v147:List Nat)(v148 v149:List Int)(v150 v151:Int):Option T0:=
 (bif(decide ((v142:Int)<v118.1))then((self (v149,v150,v151,()) (((v143,()),()),())).bind fun v152=>Sum.elim (fun v153=>(some (Sum.inl (Ce.nili,(),v153.2.2.1,(((v153.2.2.2.1.1.1.1,()),()),()),())))) (fun v154=>Sum.elim (fun v155=>(some (Sum.inr (Sum.inl (Ce.nili,v155.2.1,v155.2.2.1,(((v155.2.2.2.1.1.1.1,()),()),()),()))))) (fun v156=>Sum.elim (fun v157=>(some (i2 (Ce.nili,(),v157.2.2.1,(((v157.2.2.2.1.1.1.1,()),()),()),())))) (fun v158=>Sum.elim (fun v159=>(some (i3 (Ce.nili,(),v159.2.2.1,(((v159.2.2.2.1.1.1.1,()),()),()),())))) (fun v160=>Sum.elim (fun v161=>(some (i4 (Ce.nili,v161.2.1,v161.2.2.1,(((v161.2.2.2.1.1.1.1,()),()),()),())))) (fun v162=>Sum.elim (fun v163=>((isT 75 v163.1).bind fun v169=>(bif v169 then((asT .any 75 v163.1).bind fun v170=>((F122 N (v144,v145,v147,v146,v148,()) v170).bind fun v171=>Sum.elim (fun v172=>(some (i7 (Ce.nili,v172.1,v163.2.2.1,(((v163.2.2.2.1.1.1.1,()),()),()),())))) (fun v173=>((r5 (IntKind.u32.wrap (v142+1)) v163.2.2.2.1.1.1.1 v173.2.1.1 v173.2.1.2.1 v173.2.1.2.2.2.1 v173.2.1.2.2.1 v173.2.1.2.2.2.2.1 v163.2.2.1.1 v163.2.2.1.2.1 v163.2.2.1.2.2.1))) v171))else none))) (fun v164=>Sum.elim (fun v165=>(some (i6 (Ce.nili,v165.2.1,v165.2.2.1,(((v165.2.2.2.1.1.1.1,()),()),()),())))) (fun v166=>Sum.elim (fun v167=>(some (i7 (Ce.nili,v167.2.1,v167.2.2.1,(((v167.2.2.2.1.1.1.1,()),()),()),())))) (fun v168=>(some (Sum.inr (Sum.inr (Sum.inr (Sum.inr (Sum.inr (Sum.inr (Sum.inr (Sum.inr (Ce.nili,v168.2.1,v168.2.2.1,(((v168.2.2.2.1.1.1.1,()),()),()),()))))))))))) v166) v164) v162) v160) v158) v156) v154) v152)else(some (i5 ((Ce.ifc 91 (Ce.ptr [(Ce.int .i64 v144),(Ce.int .i64 v145),(Ce.fl v147),(Ce.int .i64 v146),(Ce.il v148)])),(),(v149,v150,v151,()),(((v143,()),()),()),()))))
noncomputable def F126_l5(N:Nat)(self:T1→T5→Option T0):Nat→T13→Int→Int→Int→Int→Int→(List Nat)→(List Int)→(List Int)→Int→Int→Option T0
 |0,_,_,_,_,_,_,_,_,_,_,_=>none
 |n+1,v118,v142,v143,v144,v145,v146,v147,v148,v149,v150,v151=>F126_g5 N self v118 (F126_l5 N self n v118) v142 v143 v144 v145 v146 v147 v148 v149 v150 v151
noncomputable def F126_g4(N:Nat)(self:T1→T5→Option T0)(v15:Int)(v118:T13)(v3:T15)(c5:T13→Int→Int→Int→Int→Int→(List Nat)→(List Int)→(List Int)→Int→Int→Option T0):Option T0:=
 (F121 N v15).bind fun v119=>((c5 v118 0 v3.2.1.1.1.1 v119.1.1 v119.1.2.1 v119.1.2.2.2.1 v119.1.2.2.1 v119.1.2.2.2.2.1 v118.2.2.1.1 v118.2.2.1.2.1 v118.2.2.1.2.2.1))
noncomputable def F126_j4(N:Nat)(self:T1→T5→Option T0)(v15:Int)(v118:T13)(v3:T15):Option T0:=
 gate N (F126_g4 N self v15 v118 v3 (F126_l5 N self N))
noncomputable def F126_g7(N:Nat)(self:T1→T5→Option T0)(v180:T13)(r7:Int→Int→Int→Int→Int→(List Nat)→T22→(List Int)→Int→Int→Option T0)(v204 v205 v206 v207 v208:Int)(v209:List Nat)(v210:T22)(v211:List Int)(v212 v213:Int):Option T0:=
 (bif(decide ((v204:Int)<v180.1))then((self (v211,v212,v213,()) (((v205,()),()),())).bind fun v214=>Sum.elim (fun v215=>(some (Sum.inl (Ce.nili,(),v215.2.2.1,(((v215.2.2.2.1.1.1.1,()),()),()),())))) (fun v216=>Sum.elim (fun v217=>(some (Sum.inr (Sum.inl (Ce.nili,v217.2.1,v217.2.2.1,(((v217.2.2.2.1.1.1.1,()),()),()),()))))) (fun v218=>Sum.elim (fun v219=>(some (i2 (Ce.nili,(),v219.2.2.1,(((v219.2.2.2.1.1.1.1,()),()),()),())))) (fun v220=>Sum.elim (fun v221=>(some (i3 (Ce.nili,(),v221.2.2.1,(((v221.2.2.2.1.1.1.1,()),()),()),())))) (fun v222=>Sum.elim (fun v223=>(some (i4 (Ce.nili,v223.2.1,v223.2.2.1,(((v223.2.2.2.1.1.1.1,()),()),()),())))) (fun v224=>Sum.elim (fun v225=>((isT 81 v225.1).bind fun v231=>(bif v231 then((asT .any 81 v225.1).bind fun v232=>((F124 N (v206,v207,v209,v208,v210,()) v232).bind fun v233=>Sum.elim (fun v234=>(some (i7 (Ce.nili,v234.1,v225.2.2.1,(((v225.2.2.2.1.1.1.1,()),()),()),())))) (fun v235=>((r7 (IntKind.u32.wrap (v204+1)) v225.2.2.2.1.1.1.1 v235.2.1.1 v235.2.1.2.1 v235.2.1.2.2.2.1 v235.2.1.2.2.1 v235.2.1.2.2.2.2.1 v225.2.2.1.1 v225.2.2.1.2.1 v225.2.2.1.2.2.1))) v233))else none))) (fun v226=>Sum.elim (fun v227=>(some (i6 (Ce.nili,v227.2.1,v227.2.2.1,(((v227.2.2.2.1.1.1.1,()),()),()),())))) (fun v228=>Sum.elim (fun v229=>(some (i7 (Ce.nili,v229.2.1,v229.2.2.1,(((v229.2.2.2.1.1.1.1,()),()),()),())))) (fun v230=>(some (Sum.inr (Sum.inr (Sum.inr (Sum.inr (Sum.inr (Sum.inr (Sum.inr (Sum.inr (Ce.nili,v230.2.1,v230.2.2.1,(((v230.2.2.2.1.1.1.1,()),()),()),()))))))))))) v228) v226) v224) v222) v220) v218) v216) v214)else(some (i5 ((Ce.ifc 94 (Ce.ptr [(Ce.int .i64 v206),(Ce.int .i64 v207),(Ce.fl v209),(Ce.int .i64 v208),(Ce.ill v210)])),(),(v211,v212,v213,()),(((v205,()),()),()),()))))
noncomputable def F126_l7(N:Nat)(self:T1→T5→Option T0):Nat→T13→Int→Int→Int→Int→Int→(List Nat)→T22→(List Int)→Int→Int→Option T0
 |0,_,_,_,_,_,_,_,_,_,_,_=>none
 |n+1,v180,v204,v205,v206,v207,v208,v209,v210,v211,v212,v213=>F126_g7 N self v180 (F126_l7 N self n v180) v204 v205 v206 v207 v208 v209 v210 v211 v212 v213
noncomputable def F126_g6(N:Nat)(self:T1→T5→Option T0)(v15:Int)(v180:T13)(v3:T15)(c7:T13→Int→Int→Int→Int→Int→(List Nat)→T22→(List Int)→Int→Int→Option T0):Option T0:=
 (F123 N v15).bind fun v181=>((c7 v180 0 v3.2.1.1.1.1 v181.1.1 v181.1.2.1 v181.1.2.2.2.1 v181.1.2.2.1 v181.1.2.2.2.2.1 v180.2.2.1.1 v180.2.2.1.2.1 v180.2.2.1.2.2.1))
noncomputable def F126_j6(N:Nat)(self:T1→T5→Option T0)(v15:Int)(v180:T13)(v3:T15):Option T0:=
 gate N (F126_g6 N self v15 v180 v3 (F126_l7 N self N))
noncomputable def F126_g9(N:Nat)(self:T1→T5→Option T0)(v265:Int)(v269:List Int)(v270 v271 v297 v298:Int)(v299:List Ce):Option T0:=
 (some (i5 ((Ce.ifc 98 (Ce.ptr [(Ce.int .i64 v297),(Ce.sl v299),(Ce.int .i64 v298)])),(),(v269,v270,v271,()),(((v265,()),()),()),())))
noncomputable def F126_j9(N:Nat)(self:T1→T5→Option T0)(v265:Int)(v269:List Int)(v270 v271 v297 v298:Int)(v299:List Ce):Option T0:=
 gate N (F126_g9 N self v265 v269 v270 v271 v297 v298 v299)
noncomputable def F126_g8(N:Nat)(self:T1→T5→Option T0)(v15:Int)(v242:T13)(c9:Int→(List Int)→Int→Int→Int→Int→(List Ce)→Option T0)(r8:Int→Int→Int→Int→(List Ce)→(List Int)→Int→Int→Option T0)(v264 v265 v266 v267:Int)(v268:List Ce)(v269:List Int)(v270 v271:Int):Option T0:=
 (bif(decide ((v264:Int)<v242.1))then((self (v269,v270,v271,()) (((v265,()),()),())).bind fun v272=>Sum.elim (fun v273=>(some (Sum.inl (Ce.nili,(),v273.2.2.1,(((v273.2.2.2.1.1.1.1,()),()),()),())))) (fun v274=>Sum.elim (fun v275=>(some (Sum.inr (Sum.inl (Ce.nili,v275.2.1,v275.2.2.1,(((v275.2.2.2.1.1.1.1,()),()),()),()))))) (fun v276=>Sum.elim (fun v277=>(some (i2 (Ce.nili,(),v277.2.2.1,(((v277.2.2.2.1.1.1.1,()),()),()),())))) (fun v278=>Sum.elim (fun v279=>(some (i3 (Ce.nili,(),v279.2.2.1,(((v279.2.2.2.1.1.1.1,()),()),()),())))) (fun v280=>Sum.elim (fun v281=>(some (i4 (Ce.nili,v281.2.1,v281.2.2.1,(((v281.2.2.2.1.1.1.1,()),()),()),())))) (fun v282=>Sum.elim (fun v283=>((F40 N (v266,v268,v267,()) ([v283.1]:List Ce)).bind fun v289=>Sum.elim (fun v290=>(some (i7 (Ce.nili,v290.1,v283.2.2.1,(((v283.2.2.2.1.1.1.1,()),()),()),())))) (fun v291=>((r8 (IntKind.u32.wrap (v264+1)) v283.2.2.2.1.1.1.1 v291.2.1.1 v291.2.1.2.2.1 v291.2.1.2.1 v283.2.2.1.1 v283.2.2.1.2.1 v283.2.2.1.2.2.1))) v289)) (fun v284=>Sum.elim (fun v285=>(some (i6 (Ce.nili,v285.2.1,v285.2.2.1,(((v285.2.2.2.1.1.1.1,()),()),()),())))) (fun v286=>Sum.elim (fun v287=>(some (i7 (Ce.nili,v287.2.1,v287.2.2.1,(((v287.2.2.2.1.1.1.1,()),()),()),())))) (fun v288=>(some (Sum.inr (Sum.inr (Sum.inr (Sum.inr (Sum.inr (Sum.inr (Sum.inr (Sum.inr (Ce.nili,v288.2.1,v288.2.2.1,(((v288.2.2.2.1.1.1.1,()),()),()),()))))))))))) v286) v284) v282) v280) v278) v276) v274) v272)else((F58 N N (v266,v268,v267,())).bind fun v292=>bif v292.1 then((F125 N (v266,v268,v267,())).bind fun v293=>(bif(v293.1==0)then((F43 N (v266,v268,v267,()) v15).bind fun v294=>Sum.elim (fun v295=>(some (i7 (Ce.nili,v295.1,(v269,v270,v271,()),(((v265,()),()),()),())))) (fun v296=>(c9 v265 v269 v270 v271 v296.2.1.1 v296.2.1.2.2.1 v296.2.1.2.1)) v294)else(c9 v265 v269 v270 v271 v266 v267 v268)))else(c9 v265 v269 v270 v271 v266 v267 v268)))
noncomputable def F126_l8(N:Nat)(self:T1→T5→Option T0):Nat→Int→T13→Int→Int→Int→Int→(List Ce)→(List Int)→Int→Int→Option T0
 |0,_,_,_,_,_,_,_,_,_,_=>none
 |n+1,v15,v242,v264,v265,v266,v267,v268,v269,v270,v271=>F126_g8 N self v15 v242 (F126_j9 N self) (F126_l8 N self n v15 v242) v264 v265 v266 v267 v268 v269 v270 v271
noncomputable def F126_g1(N:Nat)(self:T1→T5→Option T0)(v7:Ce)(v14:T13)(v3:T15)(c2 c4 c6:Int→T13→T15→Option T0)(c8:Int→T13→Int→Int→Int→Int→(List Ce)→(List Int)→Int→Int→Option T0)(v15:Int):Option T0:=
 (bif((Int.tmod v14.1 1000)==1)then((F17 N v15).bind fun v16=>(F114 N v14.2.2.1 v7 v16).bind fun v17=>Sum.elim (fun v18=>(some (i2 (Ce.nili,(),v18.2.2.1,(((v3.2.1.1.1.1,()),()),()),())))) (fun v19=>Sum.elim (fun v20=>(some (i3 (Ce.nili,(),v20.2.2.1,(((v3.2.1.1.1.1,()),()),()),())))) (fun v21=>Sum.elim (fun v22=>(some (Sum.inl (Ce.nili,(),v22.2.2.1,(((v3.2.1.1.1.1,()),()),()),())))) (fun v23=>(bif(v3.1.1==1)then((F115 N v15 v23.1).bind fun v24=>Sum.elim (fun v25=>(some (i5 ((Ce.ifc 72 (Ce.ptr [(Ce.int .i64 v25.1.1),(Ce.int .i64 v25.1.2.1),(Ce.fl v25.1.2.2.1),(Ce.int .i64 v25.1.2.2.2.1)])),(),v23.2.2.1,(((v3.2.1.1.1.1,()),()),()),())))) (fun v26=>(some (i5 ((Ce.ifc 72 (Ce.ptr [(Ce.int .i64 v26.1.1),(Ce.int .i64 v26.1.2.1),(Ce.fl v26.1.2.2.1),(Ce.int .i64 v26.1.2.2.2.1)])),(),v23.2.2.1,(((v3.2.1.1.1.1,()),()),()),())))) v24)else((F18 N v15 v23.1).bind fun v27=>(some (i5 ((Ce.ifc 72 (Ce.ptr [(Ce.int .i64 v27.1.1),(Ce.int .i64 v27.1.2.1),(Ce.fl v27.1.2.2.1),(Ce.int .i64 v27.1.2.2.2.1)])),(),v23.2.2.1,(((v3.2.1.1.1.1,()),()),()),())))))) v21) v19) v17)else(bif((Int.tmod v14.1 1000)==2)then((F17 N v15).bind fun v28=>(F116 N v14.2.2.1 v7 v28).bind fun v29=>Sum.elim (fun v30=>(some (i2 (Ce.nili,(),v30.2.2.1,(((v3.2.1.1.1.1,()),()),()),())))) (fun v31=>Sum.elim (fun v32=>(some (i3 (Ce.nili,(),v32.2.2.1,(((v3.2.1.1.1.1,()),()),()),())))) (fun v33=>Sum.elim (fun v34=>(some (Sum.inl (Ce.nili,(),v34.2.2.1,(((v3.2.1.1.1.1,()),()),()),())))) (fun v35=>Sum.elim (fun v36=>(some (i6 (Ce.nili,v36.2.1,v36.2.2.1,(((v3.2.1.1.1.1,()),()),()),())))) (fun v37=>((F20 N v15 v37.1).bind fun v38=>(some (i5 ((Ce.ifc 75 (Ce.ptr [(Ce.int .i64 v38.1.1),(Ce.int .i64 v38.1.2.1),(Ce.fl v38.1.2.2.1),(Ce.int .i64 v38.1.2.2.2.1)])),(),v37.2.2.1,(((v3.2.1.1.1.1,()),()),()),()))))) v35) v33) v31) v29)else(bif((Int.tmod v14.1 1000)==3)then((F17 N v15).bind fun v39=>(F117 N v14.2.2.1 v7 v39).bind fun v40=>Sum.elim (fun v41=>(some (i2 (Ce.nili,(),v41.2.2.2.1,(((v3.2.1.1.1.1,()),()),()),())))) (fun v42=>Sum.elim (fun v43=>(some (i3 (Ce.nili,(),v43.2.2.2.1,(((v3.2.1.1.1.1,()),()),()),())))) (fun v44=>Sum.elim (fun v45=>(some (Sum.inl (Ce.nili,(),v45.2.2.2.1,(((v3.2.1.1.1.1,()),()),()),())))) (fun v46=>Sum.elim (fun v47=>(some (i6 (Ce.nili,v47.2.2.1,v47.2.2.2.1,(((v3.2.1.1.1.1,()),()),()),())))) (fun v48=>((F25 N v15 v48.1 v48.2.1).bind fun v49=>(some (i5 ((Ce.ifc 81 (Ce.ptr [(Ce.int .i64 v49.1.1),(Ce.int .i64 v49.1.2.1),(Ce.fl v49.1.2.2.1),(Ce.int .i64 v49.1.2.2.2.1),(Ce.il v49.1.2.2.2.2.1)])),(),v48.2.2.2.1,(((v3.2.1.1.1.1,()),()),()),()))))) v46) v44) v42) v40)else(bif((Int.tmod v14.1 1000)==4)then((F106 N v14.2.2.1 v7).bind fun v50=>Sum.elim (fun v51=>(some (i2 (Ce.nili,(),v51.2.2.1,(((v3.2.1.1.1.1,()),()),()),())))) (fun v52=>Sum.elim (fun v53=>(some (i3 (Ce.nili,(),v53.2.2.1,(((v3.2.1.1.1.1,()),()),()),())))) (fun v54=>Sum.elim (fun v55=>(some (Sum.inl (Ce.nili,(),v55.2.2.1,(((v3.2.1.1.1.1,()),()),()),())))) (fun v56=>(bif(decide ((-1:Int)≥0))then(bif(decide (((IntKind.i64.wrap v56.1):Int)>(-1)))then(some (i6 (Ce.nili,(1,(IntKind.i64.wrap v56.1), -1,()),v56.2.2.1,(((v3.2.1.1.1.1,()),()),()),())))else(c2 v15 v56 v3))else(c2 v15 v56 v3))) v54) v52) v50)else(bif((Int.tmod v14.1 1000)==5)then((F106 N v14.2.2.1 v7).bind fun v112=>Sum.elim (fun v113=>(some (i2 (Ce.nili,(),v113.2.2.1,(((v3.2.1.1.1.1,()),()),()),())))) (fun v114=>Sum.elim (fun v115=>(some (i3 (Ce.nili,(),v115.2.2.1,(((v3.2.1.1.1.1,()),()),()),())))) (fun v116=>Sum.elim (fun v117=>(some (Sum.inl (Ce.nili,(),v117.2.2.1,(((v3.2.1.1.1.1,()),()),()),())))) (fun v118=>(bif(decide ((-1:Int)≥0))then(bif(decide (((IntKind.i64.wrap v118.1):Int)>(-1)))then(some (i6 (Ce.nili,(2,(IntKind.i64.wrap v118.1), -1,()),v118.2.2.1,(((v3.2.1.1.1.1,()),()),()),())))else(c4 v15 v118 v3))else(c4 v15 v118 v3))) v116) v114) v112)else(bif((Int.tmod v14.1 1000)==6)then((F106 N v14.2.2.1 v7).bind fun v174=>Sum.elim (fun v175=>(some (i2 (Ce.nili,(),v175.2.2.1,(((v3.2.1.1.1.1,()),()),()),())))) (fun v176=>Sum.elim (fun v177=>(some (i3 (Ce.nili,(),v177.2.2.1,(((v3.2.1.1.1.1,()),()),()),())))) (fun v178=>Sum.elim (fun v179=>(some (Sum.inl (Ce.nili,(),v179.2.2.1,(((v3.2.1.1.1.1,()),()),()),())))) (fun v180=>(bif(decide ((-1:Int)≥0))then(bif(decide (((IntKind.i64.wrap v180.1):Int)>(-1)))then(some (i6 (Ce.nili,(3,(IntKind.i64.wrap v180.1), -1,()),v180.2.2.1,(((v3.2.1.1.1.1,()),()),()),())))else(c6 v15 v180 v3))else(c6 v15 v180 v3))) v178) v176) v174)else(bif((Int.tmod v14.1 1000)==7)then((F106 N v14.2.2.1 v7).bind fun v236=>Sum.elim (fun v237=>(some (i2 (Ce.nili,(),v237.2.2.1,(((v3.2.1.1.1.1,()),()),()),())))) (fun v238=>Sum.elim (fun v239=>(some (i3 (Ce.nili,(),v239.2.2.1,(((v3.2.1.1.1.1,()),()),()),())))) (fun v240=>Sum.elim (fun v241=>(some (Sum.inl (Ce.nili,(),v241.2.2.1,(((v3.2.1.1.1.1,()),()),()),())))) (fun v242=>((F36 N).bind fun v243=>((c8 v15 v242 0 v3.2.1.1.1.1 v243.1.1 v243.1.2.2.1 v243.1.2.1 v242.2.2.1.1 v242.2.2.1.2.1 v242.2.2.1.2.2.1)))) v240) v238) v236)else(some (Sum.inr (Sum.inr (Sum.inr (Sum.inr (Sum.inr (Sum.inr (Sum.inr (Sum.inr (Ce.nili,v14.1,v14.2.2.1,(((v3.2.1.1.1.1,()),()),()),())))))))))))))))))
noncomputable def F126_j1(N:Nat)(self:T1→T5→Option T0)(v7:Ce)(v14:T13)(v3:T15)(v15:Int):Option T0:=
 gate N (F126_g1 N self v7 v14 v3 (F126_j2 N self) (F126_j4 N self) (F126_j6 N self) (F126_l8 N self N) v15)
noncomputable def F126_g0(N:Nat)(self:T1→T5→Option T0)(v3:T15)(v6:T13)(c1:Ce→T13→T15→Int→Option T0)(v7:Ce):Option T0:=
 (F106 N v6.2.2.1 v7).bind fun v8=>Sum.elim (fun v9=>(some (i2 (Ce.nili,(),v9.2.2.1,(((v3.2.1.1.1.1,()),()),()),())))) (fun v10=>Sum.elim (fun v11=>(some (i3 (Ce.nili,(),v11.2.2.1,(((v3.2.1.1.1.1,()),()),()),())))) (fun v12=>Sum.elim (fun v13=>(some (Sum.inl (Ce.nili,(),v13.2.2.1,(((v3.2.1.1.1.1,()),()),()),())))) (fun v14=>(bif((IntKind.u32.wrap (1000*(IntKind.u32.wrap (Int.tdiv v14.1 1000))))==0)then(c1 v7 v14 v3 1)else(bif((IntKind.u32.wrap (1000*(IntKind.u32.wrap (Int.tdiv v14.1 1000))))==1000)then(c1 v7 v14 v3 2)else(bif((IntKind.u32.wrap (1000*(IntKind.u32.wrap (Int.tdiv v14.1 1000))))==2000)then(c1 v7 v14 v3 3)else(bif((IntKind.u32.wrap (1000*(IntKind.u32.wrap (Int.tdiv v14.1 1000))))==3000)then(c1 v7 v14 v3 4)else(some (i4 (Ce.nili,v14.1,v14.2.2.1,(((v3.2.1.1.1.1,()),()),()),())))))))) v12) v10) v8
noncomputable def F126_j0(N:Nat)(self:T1→T5→Option T0)(v3:T15)(v6:T13)(v7:Ce):Option T0:=
 gate N (F126_g0 N self v3 v6 (F126_j1 N self) v7)
noncomputable def F126_g(N:Nat)(self:T1→T5→Option T0)(v1:T1)(v2:T5)(c0:T15→T13→Ce→Option T0):Option T0:=
 ((F55 N (0,()) (((v2.1.1.1,()),()),())).bind fun v3=>((F100 N (v1.1,v1.2.1,v1.2.2.1,())).bind fun v4=>Sum.elim (fun v5=>(some (Sum.inl (Ce.nili,(),v5.2.2.1,(((v3.2.1.1.1.1,()),()),()),())))) (fun v6=>(bif(v6.1==0)then(c0 v3 v6 (Ce.ifa 104 []))else(bif(v6.1==1)then(c0 v3 v6 (Ce.ifa 105 []))else(some (Sum.inr (Sum.inl (Ce.nili,v6.1,v6.2.2.1,(((v3.2.1.1.1.1,()),()),()),()))))))) v4))
noncomputable def F126(N:Nat):Nat→T1→T5→Option T0
 |0,_,_=>none
 |d+1,v1,v2=>F126_g N (F126 N d) v1 v2 (F126_j0 N (F126 N d))
noncomputable def F126_con'(N d:Nat):Con2:=⟨65,[.ifc 66 (.box s0), .bsl s4],a0,fun x=>F126 N d x.1 x.2.1⟩
noncomputable def F126_E(N d:Nat):Env:=⟨PG,N,[F17_con N],[nm 0 [0,1] [1000000,1000001,1000002],nm 1 [0,1] [1000000,1000001,1000002],nm 2 [0,1,6] [6,102651,1000000,1000001],nm 3 [0,1,6,7,8] [6,102651,1000000,1000001],nm 4 [0,1,6,7,8,60] [6,102651,1000000,1000001],nm 5 [0,1,6,7] [6,102651,1000000,1000001],nm 6 [0,1,6,7] [6,102651,1000000,1000001],nm 8 [0,1,6,7,62] [6,102651,1000000,1000001],nm 9 [0,1,6,7,62,65] [6,102651,1000000,1000001],nm 11 [0,1,6,7,69] [6,102651,1000000,1000001],(12,⟨[],[],[(9, .unit)],[],[],[0,1,6,9],[6,102651,1000000,1000001],some N⟩),nm 13 [0,1,6,8,9,10] [6,102651,1000000,1000001],nm 14 [0,1,6,8,9,10,80] [6,102651,1000000,1000001],nm 15 [0,1,6,9,10] [6,102651,1000000,1000001],nm 16 [0,1,6,9,10,11] [6,102651,1000000,1000001],nm 17 [0,1,6,9,10,11] [6,102651,1000000,1000001],nm 19 [0,1,6,9,10,11,85] [6,102651,1000000,1000001],nm 20 [0,1,6,9,10,11,85,88] [6,102651,1000000,1000001],nm 22 [0,1,6,9,10,11,85,90] [6,102651,1000000,1000001],nm 24 [0,1,6,9,10,11,85,92] [6,102651,1000000,1000001],nm 26 [0,1,6,9,10,11,94] [6,102651,1000000,1000001],ng N 27 [0,1,6,9,10,11,12] [6,102651,1000000,1000001],nm 29 [0,1,6,9,10,12,97] [6,102651,1000000,1000001],nm 30 [0,1,6,9,10,12,97,100] [6,102651,1000000,1000001],nm 31 [6,12,13,14] [6,102651,105350,1000000,1000001],nm 32 [6,12,13,14,111] [6,102651,105350,1000000,1000001],nm 33 [6,12,13] [6,102651,105350,1000000,1000001],nm 34 [12,13,115] [102651,105350,1000000,1000001],nm 35 [12,13] [102651,105350,1000000,1000001],nm 37 [0,1,9,10,12,97,124] [102651,1000000,1000001],nm 38 [12,15,16] [102651,106550,1000000,1000001],nm 39 [12,15,16,135] [102651,106550,1000000,1000001],nm 40 [12,15] [102651,106550,1000000,1000001],nm 42 [0,1,9,10,12,97,141] [102651,1000000,1000001],nm 43 [12,17,18,19] [102651,107400,107401,1000000,1000001],nm 44 [12,17,18,19,153] [102651,107400,107401,1000000,1000001],nm 45 [12,17,18] [102651,107400,107401,1000000,1000001],nm 47 [0,1,9,10,12,97,160] [102651,1000000,1000001],nm 48 [0,1,12,20,21] [102651,1000000,1000001],nm 49 [0,1,12,20,21,169] [102651,1000000,1000001],nm 50 [0,1,12,20] [102651,1000000,1000001],nm 51 [0,1,12,20,22] [102651,1000000,1000001],nm 52 [0,1,12,20,22,180] [102651,1000000,1000001],ng N 53 [0,1,12,20] [102651,1000000,1000001],nm 54 [0,1,20,23] [102651,109350,109351,109352,1000000,1000001],nm 55 [0,1,23,188,189] [102651,109350,109351,109352,1000000,1000001],nm 56 [0,1,23,188,189] [102651,109350,109351,109352,1000000,1000001],nm 57 [0,1,23,24,25,188,189] [102651,109350,109351,109352,1000000,1000001],nm 58 [0,1,23,24,25,188,189,198] [102651,109350,109351,109352,1000000,1000001],nm 59 [0,1,23,24,188,189] [102651,109350,109351,109352,1000000,1000001],nm 60 [0,1,23,24,26,27,188,189] [102651,109350,109351,109352,1000000,1000001],nm 61 [0,1,23,24,26,188,189,206] [102651,109350,109351,109352,1000000,1000001],nm 62 [0,1,23,26,188,189] [102651,109350,109351,109352,1000000,1000001],nm 63 [0,1,23,25,188,189] [102651,109350,109351,109352,1000000,1000001],nm 64 [0,1,23,25,188,189,217] [102651,109350,109351,109352,1000000,1000001],nm 65 [0,1,23,188,189] [102651,109350,109351,109352,1000000,1000001],nm 66 [23] [102651,109350,109351,109352,1000000,1000001],nm 68 [0,1,9,10,12,97,222] [102651,1000000,1000001],nm 69 [0,1,12,28,29] [102651,1000000,1000001],nm 70 [0,1,12,28,29,231] [102651,1000000,1000001],nm 71 [0,1,12,28] [102651,1000000,1000001],nm 72 [0,1,12,28,30] [102651,1000000,1000001],nm 73 [0,1,12,28,30,242] [102651,1000000,1000001],ng N 74 [0,1,12,28] [102651,1000000,1000001],nm 75 [0,1,28,31] [102651,112450,112451,112452,1000000,1000001],nm 76 [0,1,31,250,251] [102651,112450,112451,112452,1000000,1000001],nm 77 [0,1,31,250,251] [102651,112450,112451,112452,1000000,1000001],nm 78 [0,1,31,32,33,250,251] [102651,112450,112451,112452,1000000,1000001],nm 79 [0,1,31,32,33,250,251,260] [102651,112450,112451,112452,1000000,1000001],nm 80 [0,1,31,32,250,251] [102651,112450,112451,112452,1000000,1000001],nm 81 [0,1,31,32,34,35,250,251] [102651,112450,112451,112452,1000000,1000001],nm 82 [0,1,31,32,34,250,251,268] [102651,112450,112451,112452,1000000,1000001],nm 83 [0,1,31,34,250,251] [102651,112450,112451,112452,1000000,1000001],nm 84 [0,1,31,33,250,251] [102651,112450,112451,112452,1000000,1000001],nm 85 [0,1,31,33,250,251,279] [102651,112450,112451,112452,1000000,1000001],nm 86 [0,1,31,250,251] [102651,112450,112451,112452,1000000,1000001],nm 87 [31] [102651,112450,112451,112452,1000000,1000001],nm 89 [0,1,9,10,12,97,284] [102651,1000000,1000001],nm 90 [0,1,12,36,37] [102651,1000000,1000001],nm 91 [0,1,12,36,37,293] [102651,1000000,1000001],nm 92 [0,1,12,36] [102651,1000000,1000001],nm 93 [0,1,12,36,38] [102651,1000000,1000001],nm 94 [0,1,12,36,38,304] [102651,1000000,1000001],ng N 95 [0,1,12,36] [102651,1000000,1000001],nm 96 [0,1,36,39] [102651,115550,115551,115552,1000000,1000001],nm 97 [0,1,39,312,313] [102651,115550,115551,115552,1000000,1000001],nm 98 [0,1,39,312,313] [102651,115550,115551,115552,1000000,1000001],nm 99 [0,1,39,40,41,312,313] [102651,115550,115551,115552,1000000,1000001],nm 100 [0,1,39,40,41,312,313,322] [102651,115550,115551,115552,1000000,1000001],nm 101 [0,1,39,40,312,313] [102651,115550,115551,115552,1000000,1000001],nm 102 [0,1,39,40,42,43,312,313] [102651,115550,115551,115552,1000000,1000001],nm 103 [0,1,39,40,42,312,313,330] [102651,115550,115551,115552,1000000,1000001],nm 104 [0,1,39,42,312,313] [102651,115550,115551,115552,1000000,1000001],nm 105 [0,1,39,41,312,313] [102651,115550,115551,115552,1000000,1000001],nm 106 [0,1,39,41,312,313,341] [102651,115550,115551,115552,1000000,1000001],nm 107 [0,1,39,312,313] [102651,115550,115551,115552,1000000,1000001],nm 108 [39] [102651,115550,115551,115552,1000000,1000001],nm 110 [0,1,9,10,12,346] [102651,1000000,1000001],nm 111 [0,1,12,44,45] [102651,1000000,1000001],nm 112 [0,1,12,44,45,355] [102651,1000000,1000001],nm 113 [0,1,12,44] [102651,1000000,1000001],nm 114 [0,1,12,44,46] [102651,117850,117851,1000000,1000001],nm 115 [0,1,12,46,358,359] [102651,117850,117851,1000000,1000001],nm 116 [0,1,12,46,358,359] [102651,117850,117851,1000000,1000001],nm 117 [0,1,12,46,47,48,358,359] [102651,117850,117851,1000000,1000001],nm 118 [0,1,12,46,47,48,358,359,368] [102651,117850,117851,1000000,1000001],nm 119 [0,1,12,46,47,358,359] [102651,117850,117851,1000000,1000001],nm 120 [0,1,12,46,49,358,359] [102651,117850,117851,1000000,1000001],nm 121 [0,1,12,46,49,358,359,375] [102651,117850,117851,1000000,1000001],nm 122 [0,1,12,46,358,359] [102651,117850,117851,1000000,1000001],nm 123 [12,46] [102651,117850,117851,1000000,1000001],nm 124 [12,46,384] [102651,117850,117851,1000000,1000001],nm 125 [46,50] [102651,117850,117851,1000000,1000001],nm 126 [46,50,389] [102651,117850,117851,1000000,1000001],ng N 127 [46] [102651,117850,117851,1000000,1000001]],kdL [(50, .any),(72, .any),(75, .any),(81, .any)],[F126_con' N d,F55_con N,F100_con N,F106_con N,F114_con N,F115_con N,F18_con N,F116_con N,F20_con N,F117_con N,F25_con N,F119_con N,F120_con N,F121_con N,F122_con N,F123_con N,F124_con N,F36_con N,F40_con N,F58_con N,F125_con N,F43_con N],[],(GL N),tl0,[]⟩
noncomputable def q25(N d:Nat):=kEnd2 (F126_E N d) [] Tryz.f65.results.toList a0 [.iface 66 (.ref 1000000 0), .bsl 1000001 1]
noncomputable def F126_e3(N d n:Nat)(v56:T13)(v80 v81 v82 v83 v84:Int)(v85:List Nat)(v86 v87:List Int)(v88 v89:Int):=
 lq (F126_E N d) (c65 [1,1,1,1,1,1,1,1,1,1,1,1,0,1,1,1,1,1,1,1,0,1,1,1,1,0,1,0,0]) n ⟨[(0, .iface 66 (.ref 1000000 0)),(1, .bsl 1000001 1),(23, .ref 109350 0),(188, .pv (.int .u32) v56.1),(189, .pv (.int .u32) v80)],[(102651, .box [.pv (.int .u8) v81]),(109350, .box [.pv (.int .i64) v82, .pv (.int .i64) v83, .own .float 109351, .pv (.int .i64) v84, .own (.int .i64) 109352]),(109351, .arr 65 .float v85),(109352, .arr 3 (.int .i64) v86),(1000000, .box [.pv (.list (.int .u8)) v87, .pv (.int .i64) v88, .pv (.int .i8) v89]),(1000001, .box [.func 109 [.ref 102651 0]])],[]⟩ (kBlock 3 (kq (F126_E N d) (c65 [1,1,1,1,1,1,1,1,1,1,1,1,0,1,1,1,1,1,1,1,0,1,1,1,1,1]) (kBlock 2 (q25 N d))))
noncomputable def F126_e2(N d:Nat)(v15:Int)(v56:T13)(v3:T15):=
 gate N (evC (F126_E N d) (c65 [1,1,1,1,1,1,1,1,1,1,1,1,0,1,1,1,1,1,1,1,0,1,1,1]) ⟨[(0, .iface 66 (.ref 1000000 0)),(1, .bsl 1000001 1),(12, .pv (.int .i64) v15),(20, .pv (.int .u32) v56.1)],[(102651, .box [.pv (.int .u8) v3.2.1.1.1.1]),(1000000, .box [.pv (.list (.int .u8)) v56.2.2.1.1, .pv (.int .i64) v56.2.2.1.2.1, .pv (.int .i8) v56.2.2.1.2.2.1]),(1000001, .box [.func 109 [.ref 102651 0]])],[]⟩ (kBlock 2 (q25 N d)))
noncomputable def F126_e5(N d n:Nat)(v118:T13)(v142 v143 v144 v145 v146:Int)(v147:List Nat)(v148 v149:List Int)(v150 v151:Int):=
 lq (F126_E N d) (c65 [1,1,1,1,1,1,1,1,1,1,1,1,0,1,1,1,1,1,1,1,1,1,0,1,1,1,1,0,1,0,0]) n ⟨[(0, .iface 66 (.ref 1000000 0)),(1, .bsl 1000001 1),(31, .ref 112450 0),(250, .pv (.int .u32) v118.1),(251, .pv (.int .u32) v142)],[(102651, .box [.pv (.int .u8) v143]),(112450, .box [.pv (.int .i64) v144, .pv (.int .i64) v145, .own .float 112451, .pv (.int .i64) v146, .own (.int .i64) 112452]),(112451, .arr 65 .float v147),(112452, .arr 3 (.int .i64) v148),(1000000, .box [.pv (.list (.int .u8)) v149, .pv (.int .i64) v150, .pv (.int .i8) v151]),(1000001, .box [.func 109 [.ref 102651 0]])],[]⟩ (kBlock 5 (kq (F126_E N d) (c65 [1,1,1,1,1,1,1,1,1,1,1,1,0,1,1,1,1,1,1,1,1,1,0,1,1,1,1,1]) (kBlock 2 (q25 N d))))
noncomputable def F126_e4(N d:Nat)(v15:Int)(v118:T13)(v3:T15):=
 gate N (evC (F126_E N d) (c65 [1,1,1,1,1,1,1,1,1,1,1,1,0,1,1,1,1,1,1,1,1,1,0,1,1,1]) ⟨[(0, .iface 66 (.ref 1000000 0)),(1, .bsl 1000001 1),(12, .pv (.int .i64) v15),(28, .pv (.int .u32) v118.1)],[(102651, .box [.pv (.int .u8) v3.2.1.1.1.1]),(1000000, .box [.pv (.list (.int .u8)) v118.2.2.1.1, .pv (.int .i64) v118.2.2.1.2.1, .pv (.int .i8) v118.2.2.1.2.2.1]),(1000001, .box [.func 109 [.ref 102651 0]])],[]⟩ (kBlock 2 (q25 N d)))
noncomputable def F126_e7(N d n:Nat)(v180:T13)(v204 v205 v206 v207 v208:Int)(v209:List Nat)(v210:T22)(v211:List Int)(v212 v213:Int):=
 lq (F126_E N d) (c65 [1,1,1,1,1,1,1,1,1,1,1,1,0,1,1,1,1,1,1,1,1,1,1,1,0,1,1,1,1,0,1,0,0]) n ⟨[(0, .iface 66 (.ref 1000000 0)),(1, .bsl 1000001 1),(39, .ref 115550 0),(312, .pv (.int .u32) v180.1),(313, .pv (.int .u32) v204)],[(102651, .box [.pv (.int .u8) v205]),(115550, .box [.pv (.int .i64) v206, .pv (.int .i64) v207, .own .float 115551, .pv (.int .i64) v208, .own (.list (.int .i64)) 115552]),(115551, .arr 65 .float v209),(115552, .arr 23 (.list (.int .i64)) v210),(1000000, .box [.pv (.list (.int .u8)) v211, .pv (.int .i64) v212, .pv (.int .i8) v213]),(1000001, .box [.func 109 [.ref 102651 0]])],[]⟩ (kBlock 7 (kq (F126_E N d) (c65 [1,1,1,1,1,1,1,1,1,1,1,1,0,1,1,1,1,1,1,1,1,1,1,1,0,1,1,1,1,1]) (kBlock 2 (q25 N d))))
noncomputable def F126_e6(N d:Nat)(v15:Int)(v180:T13)(v3:T15):=
 gate N (evC (F126_E N d) (c65 [1,1,1,1,1,1,1,1,1,1,1,1,0,1,1,1,1,1,1,1,1,1,1,1,0,1,1,1]) ⟨[(0, .iface 66 (.ref 1000000 0)),(1, .bsl 1000001 1),(12, .pv (.int .i64) v15),(36, .pv (.int .u32) v180.1)],[(102651, .box [.pv (.int .u8) v3.2.1.1.1.1]),(1000000, .box [.pv (.list (.int .u8)) v180.2.2.1.1, .pv (.int .i64) v180.2.2.1.2.1, .pv (.int .i8) v180.2.2.1.2.2.1]),(1000001, .box [.func 109 [.ref 102651 0]])],[]⟩ (kBlock 2 (q25 N d)))
noncomputable def F126_e9(N d:Nat)(v265:Int)(v269:List Int)(v270 v271 v297 v298:Int)(v299:List Ce):=
 gate N (evC (F126_E N d) (c65 [1,1,1,1,1,1,1,1,1,1,1,1,0,1,1,1,1,1,1,1,1,1,1,1,1,1,0,1,1,1,1,1]) ⟨[(46, .ref 117850 0)],[(102651, .box [.pv (.int .u8) v265]),(117850, .box [.pv (.int .i64) v297, .own .any 117851, .pv (.int .i64) v298]),(117851, .arr 50 .any v299),(1000000, .box [.pv (.list (.int .u8)) v269, .pv (.int .i64) v270, .pv (.int .i8) v271]),(1000001, .box [.func 109 [.ref 102651 0]])],[]⟩ (kBlock 2 (q25 N d)))
noncomputable def F126_e8(N d n:Nat)(v15:Int)(v242:T13)(v264 v265 v266 v267:Int)(v268:List Ce)(v269:List Int)(v270 v271:Int):=
 lq (F126_E N d) (c65 [1,1,1,1,1,1,1,1,1,1,1,1,0,1,1,1,1,1,1,1,1,1,1,1,1,1,0,1,1,1,0,1,0,0]) n ⟨[(0, .iface 66 (.ref 1000000 0)),(1, .bsl 1000001 1),(12, .pv (.int .i64) v15),(46, .ref 117850 0),(358, .pv (.int .u32) v242.1),(359, .pv (.int .u32) v264)],[(102651, .box [.pv (.int .u8) v265]),(117850, .box [.pv (.int .i64) v266, .own .any 117851, .pv (.int .i64) v267]),(117851, .arr 50 .any v268),(1000000, .box [.pv (.list (.int .u8)) v269, .pv (.int .i64) v270, .pv (.int .i8) v271]),(1000001, .box [.func 109 [.ref 102651 0]])],[]⟩ (kBlock 9 (kq (F126_E N d) (c65 [1,1,1,1,1,1,1,1,1,1,1,1,0,1,1,1,1,1,1,1,1,1,1,1,1,1,0,1,1,1,1]) (kBlock 2 (q25 N d))))
noncomputable def F126_e1(N d:Nat)(v7:Ce)(v14:T13)(v3:T15)(v15:Int):=
 gate N (evC (F126_E N d) (c65 [1,1,1,1,1,1,1,1,1,1,1]) ⟨[(0, .iface 66 (.ref 1000000 0)),(1, .bsl 1000001 1),(6, .ref 6 0),(9, .pv .any v7),(10, .pv (.int .u32) v14.1),(11, .pv (.int .u32) v14.1),(12, .pv (.int .i64) v15)],[(6, .box [.pv (.int .u8) v3.1.1]),(102651, .box [.pv (.int .u8) v3.2.1.1.1.1]),(1000000, .box [.pv (.list (.int .u8)) v14.2.2.1.1, .pv (.int .i64) v14.2.2.1.2.1, .pv (.int .i8) v14.2.2.1.2.2.1]),(1000001, .box [.func 109 [.ref 102651 0]])],[]⟩ (q25 N d))
noncomputable def F126_e0(N d:Nat)(v3:T15)(v6:T13)(v7:Ce):=
 gate N (evC (F126_E N d) (c65 [1,1,1,1,1,1]) ⟨[(0, .iface 66 (.ref 1000000 0)),(1, .bsl 1000001 1),(6, .ref 6 0),(9, .pv .any v7)],[(6, .box [.pv (.int .u8) v3.1.1]),(102651, .box [.pv (.int .u8) v3.2.1.1.1.1]),(1000000, .box [.pv (.list (.int .u8)) v6.2.2.1.1, .pv (.int .i64) v6.2.2.1.2.1, .pv (.int .i8) v6.2.2.1.2.2.1]),(1000001, .box [.func 109 [.ref 102651 0]])],[]⟩ (q25 N d))
theorem F126_t3(N d:Nat):∀(n:Nat) (v56:T13) (v80 v81 v82 v83 v84:Int) (v85:List Nat) (v86 v87:List Int) (v88 v89:Int),F126_e3 N d n v56 v80 v81 v82 v83 v84 v85 v86 v87 v88 v89=F126_l3 N (F126 N d) n v56 v80 v81 v82 v83 v84 v85 v86 v87 v88 v89
 |0,_,_,_,_,_,_,_,_,_,_,_=>rfl
 |n+1,v56,v80,v81,v82,v83,v84,v85,v86,v87,v88,v89=>by
  have h:F126_e3 N d n v56=F126_l3 N (F126 N d) n v56:=by funext v80 v81 v82 v83 v84 v85 v86 v87 v88 v89;exact F126_t3 N d n v56 v80 v81 v82 v83 v84 v85 v86 v87 v88 v89
  exact Eq.trans (b:=F126_g3 N (F126 N d) v56 (F126_e3 N d n v56) v80 v81 v82 v83 v84 v85 v86 v87 v88 v89) (by kernel_rfl) (by rw[h];rfl)
theorem F126_t2(N d:Nat)(v15:Int)(v56:T13)(v3:T15):F126_e2 N d v15 v56 v3=F126_j2 N (F126 N d) v15 v56 v3:=by
 have h3:(F126_e3 N d N)=(F126_l3 N (F126 N d) N):=by funext v56 v80 v81 v82 v83 v84 v85 v86 v87 v88 v89;exact F126_t3 N d N v56 v80 v81 v82 v83 v84 v85 v86 v87 v88 v89
 exact(congrArg (gate N) (show _=F126_g2 N (F126 N d) v15 v56 v3 (F126_e3 N d N)from by kernel_rfl)).trans (by rw[h3];rfl)
theorem F126_t5(N d:Nat):∀(n:Nat) (v118:T13) (v142 v143 v144 v145 v146:Int) (v147:List Nat) (v148 v149:List Int) (v150 v151:Int),F126_e5 N d n v118 v142 v143 v144 v145 v146 v147 v148 v149 v150 v151=F126_l5 N (F126 N d) n v118 v142 v143 v144 v145 v146 v147 v148 v149 v150 v151
 |0,_,_,_,_,_,_,_,_,_,_,_=>rfl
 |n+1,v118,v142,v143,v144,v145,v146,v147,v148,v149,v150,v151=>by
  have h:F126_e5 N d n v118=F126_l5 N (F126 N d) n v118:=by funext v142 v143 v144 v145 v146 v147 v148 v149 v150 v151;exact F126_t5 N d n v118 v142 v143 v144 v145 v146 v147 v148 v149 v150 v151
  exact Eq.trans (b:=F126_g5 N (F126 N d) v118 (F126_e5 N d n v118) v142 v143 v144 v145 v146 v147 v148 v149 v150 v151) (by kernel_rfl) (by rw[h];rfl)
theorem F126_t4(N d:Nat)(v15:Int)(v118:T13)(v3:T15):F126_e4 N d v15 v118 v3=F126_j4 N (F126 N d) v15 v118 v3:=by
 have h5:(F126_e5 N d N)=(F126_l5 N (F126 N d) N):=by funext v118 v142 v143 v144 v145 v146 v147 v148 v149 v150 v151;exact F126_t5 N d N v118 v142 v143 v144 v145 v146 v147 v148 v149 v150 v151
 exact(congrArg (gate N) (show _=F126_g4 N (F126 N d) v15 v118 v3 (F126_e5 N d N)from by kernel_rfl)).trans (by rw[h5];rfl)
theorem F126_t7(N d:Nat):∀(n:Nat) (v180:T13) (v204 v205 v206 v207 v208:Int) (v209:List Nat) (v210:T22) (v211:List Int) (v212 v213:Int),F126_e7 N d n v180 v204 v205 v206 v207 v208 v209 v210 v211 v212 v213=F126_l7 N (F126 N d) n v180 v204 v205 v206 v207 v208 v209 v210 v211 v212 v213
 |0,_,_,_,_,_,_,_,_,_,_,_=>rfl
 |n+1,v180,v204,v205,v206,v207,v208,v209,v210,v211,v212,v213=>by
  have h:F126_e7 N d n v180=F126_l7 N (F126 N d) n v180:=by funext v204 v205 v206 v207 v208 v209 v210 v211 v212 v213;exact F126_t7 N d n v180 v204 v205 v206 v207 v208 v209 v210 v211 v212 v213
  exact Eq.trans (b:=F126_g7 N (F126 N d) v180 (F126_e7 N d n v180) v204 v205 v206 v207 v208 v209 v210 v211 v212 v213) (by kernel_rfl) (by rw[h];rfl)
theorem F126_t6(N d:Nat)(v15:Int)(v180:T13)(v3:T15):F126_e6 N d v15 v180 v3=F126_j6 N (F126 N d) v15 v180 v3:=by
 have h7:(F126_e7 N d N)=(F126_l7 N (F126 N d) N):=by funext v180 v204 v205 v206 v207 v208 v209 v210 v211 v212 v213;exact F126_t7 N d N v180 v204 v205 v206 v207 v208 v209 v210 v211 v212 v213
 exact(congrArg (gate N) (show _=F126_g6 N (F126 N d) v15 v180 v3 (F126_e7 N d N)from by kernel_rfl)).trans (by rw[h7];rfl)
theorem F126_t9(N d:Nat)(v265:Int)(v269:List Int)(v270 v271 v297 v298:Int)(v299:List Ce):F126_e9 N d v265 v269 v270 v271 v297 v298 v299=F126_j9 N (F126 N d) v265 v269 v270 v271 v297 v298 v299:=by
 exact(congrArg (gate N) (show _=F126_g9 N (F126 N d) v265 v269 v270 v271 v297 v298 v299 from by kernel_rfl)).trans (by rfl)
theorem F126_t8(N d:Nat):∀(n:Nat) (v15:Int) (v242:T13) (v264 v265 v266 v267:Int) (v268:List Ce) (v269:List Int) (v270 v271:Int),F126_e8 N d n v15 v242 v264 v265 v266 v267 v268 v269 v270 v271=F126_l8 N (F126 N d) n v15 v242 v264 v265 v266 v267 v268 v269 v270 v271
 |0,_,_,_,_,_,_,_,_,_,_=>rfl
 |n+1,v15,v242,v264,v265,v266,v267,v268,v269,v270,v271=>by
  have h9:(F126_e9 N d)=(F126_j9 N (F126 N d)):=by funext v265 v269 v270 v271 v297 v298 v299;exact F126_t9 N d v265 v269 v270 v271 v297 v298 v299
  have h:F126_e8 N d n v15 v242=F126_l8 N (F126 N d) n v15 v242:=by funext v264 v265 v266 v267 v268 v269 v270 v271;exact F126_t8 N d n v15 v242 v264 v265 v266 v267 v268 v269 v270 v271
  exact Eq.trans (b:=F126_g8 N (F126 N d) v15 v242 (F126_e9 N d) (F126_e8 N d n v15 v242) v264 v265 v266 v267 v268 v269 v270 v271) (by kernel_rfl) (by rw[h9,h];rfl)
theorem F126_t1(N d:Nat)(v7:Ce)(v14:T13)(v3:T15)(v15:Int):F126_e1 N d v7 v14 v3 v15=F126_j1 N (F126 N d) v7 v14 v3 v15:=by
 have h2:(F126_e2 N d)=(F126_j2 N (F126 N d)):=by funext v15 v56 v3;exact F126_t2 N d v15 v56 v3
 have h4:(F126_e4 N d)=(F126_j4 N (F126 N d)):=by funext v15 v118 v3;exact F126_t4 N d v15 v118 v3
 have h6:(F126_e6 N d)=(F126_j6 N (F126 N d)):=by funext v15 v180 v3;exact F126_t6 N d v15 v180 v3
 have h8:(F126_e8 N d N)=(F126_l8 N (F126 N d) N):=by funext v15 v242 v264 v265 v266 v267 v268 v269 v270 v271;exact F126_t8 N d N v15 v242 v264 v265 v266 v267 v268 v269 v270 v271
 exact(congrArg (gate N) (show _=F126_g1 N (F126 N d) v7 v14 v3 (F126_e2 N d) (F126_e4 N d) (F126_e6 N d) (F126_e8 N d N) v15 from by kernel_rfl)).trans (by rw[h2,h4,h6,h8];rfl)
theorem F126_t0(N d:Nat)(v3:T15)(v6:T13)(v7:Ce):F126_e0 N d v3 v6 v7=F126_j0 N (F126 N d) v3 v6 v7:=by
 have h1:(F126_e1 N d)=(F126_j1 N (F126 N d)):=by funext v7 v14 v3 v15;exact F126_t1 N d v7 v14 v3 v15
 exact(congrArg (gate N) (show _=F126_g0 N (F126 N d) v3 v6 (F126_e1 N d) v7 from by kernel_rfl)).trans (by rw[h1];rfl)
theorem F126_t(N d:Nat)(v1:T1)(v2:T5):evF2 (F126_E N d) [] Tryz.f65 [.ifc 66 (.box s0), .bsl s4] a0 (v1,v2,())=F126 N (d+1) v1 v2:=by
 have h0:(F126_e0 N d)=(F126_j0 N (F126 N d)):=by funext v3 v6 v7;exact F126_t0 N d v3 v6 v7
 exact Eq.trans (b:=F126_g N (F126 N d) v1 v2 (F126_e0 N d)) (by kernel_rfl) (by rw[h0];rfl)
theorem F126_s'(N:Nat):∀d,(F126_con' N d).Sound PG (GL N)
 |0=>fun _ _ _ _ _ _ _ _ _ _ _ h=>by cases h
 |d+1=>Con2.sound_of (c:=F126_con' N (d+1)) (E:=(F126_E N d)) (idle:=[]) Tryz.func65 (by kernel_rfl) (by kernel_rfl) ⟨(allCons (F17_s N) allNil),(allCons (F126_s' N d) (allCons (F55_s N) (allCons (F100_s N) (allCons (F106_s N) (allCons (F114_s N) (allCons (F115_s N) (allCons (F18_s N) (allCons (F116_s N) (allCons (F20_s N) (allCons (F117_s N) (allCons (F25_s N) (allCons (F119_s N) (allCons (F120_s N) (allCons (F121_s N) (allCons (F122_s N) (allCons (F123_s N) (allCons (F124_s N) (allCons (F36_s N) (allCons (F40_s N) (allCons (F58_s N) (allCons (F125_s N) (allCons (F43_s N) allNil)))))))))))))))))))))),rfl⟩ allNil (fun x y h=>(F126_t N d x.1 x.2.1).trans h)
noncomputable def F126_con(N:Nat):Con2:=F126_con' N N
theorem F126_s(N:Nat):(F126_con N).Sound PG (GL N):=F126_s' N N
noncomputable def F127_E(N:Nat):Env:=⟨PG,N,[],[nm 0 [0,1] [1000000,1000001],nm 1 [0,1] [1000000,1000001]],kdL [],[F96_con N,F126_con N],[],(GL N),tl0,[]⟩
noncomputable def F127_g(N:Nat)(v1:List Int)(v2:T5):Option T25:=
 ((F96 N v1).bind fun v3=>(F126 N N v3.1 (((v2.1.1.1,()),()),())).bind fun v4=>Sum.elim (fun v5=>(some (Sum.inl (v5.1,(),(((v5.2.2.2.1.1.1.1,()),()),()),())))) (fun v6=>Sum.elim (fun v7=>(some (Sum.inr (Sum.inl (v7.1,v7.2.1,(((v7.2.2.2.1.1.1.1,()),()),()),()))))) (fun v8=>Sum.elim (fun v9=>(some (i2 (v9.1,(),(((v9.2.2.2.1.1.1.1,()),()),()),())))) (fun v10=>Sum.elim (fun v11=>(some (i3 (v11.1,(),(((v11.2.2.2.1.1.1.1,()),()),()),())))) (fun v12=>Sum.elim (fun v13=>(some (i4 (v13.1,v13.2.1,(((v13.2.2.2.1.1.1.1,()),()),()),())))) (fun v14=>Sum.elim (fun v15=>(some (i5 (v15.1,(),(((v15.2.2.2.1.1.1.1,()),()),()),())))) (fun v16=>Sum.elim (fun v17=>(some (i6 (v17.1,v17.2.1,(((v17.2.2.2.1.1.1.1,()),()),()),())))) (fun v18=>Sum.elim (fun v19=>(some (i7 (v19.1,v19.2.1,(((v19.2.2.2.1.1.1.1,()),()),()),())))) (fun v20=>(some (Sum.inr (Sum.inr (Sum.inr (Sum.inr (Sum.inr (Sum.inr (Sum.inr (Sum.inr (v20.1,v20.2.1,(((v20.2.2.2.1.1.1.1,()),()),()),()))))))))))) v18) v16) v14) v12) v10) v8) v6) v4)
noncomputable def F127(N:Nat)(v1:List Int)(v2:T5):Option T25:=
 F127_g N v1 v2
theorem F127_t(N:Nat)(v1:List Int)(v2:T5):evF2 (F127_E N) [] Tryz.f32 [.k (.list (.int .u8)), .bsl s4] a11 (v1,v2,())=F127 N v1 v2:=
 Eq.trans (b:=F127_g N v1 v2) (by kernel_rfl) rfl
noncomputable def F127_con(N:Nat):Con2:=⟨32,[.k (.list (.int .u8)), .bsl s4],a11,fun x=>F127 N x.1 x.2.1⟩
theorem F127_s(N:Nat):(F127_con N).Sound PG (GL N):=
 Con2.sound_of (c:=F127_con N) (E:=(F127_E N)) (idle:=[]) Tryz.func32 (by kernel_rfl) (by kernel_rfl) ⟨allNil,(allCons (F96_s N) (allCons (F126_s N) allNil)),rfl⟩ allNil (fun x y h=>(F127_t N x.1 x.2.1).trans h)
noncomputable def F128_E(N:Nat):Env:=⟨PG,N,[],[nm 0 [0,1] [],nm 1 [0,1,4] [4],nm 2 [0,4,7] [4],nm 3 [0,4] []],kdL [],[],[],(GL N),tl0,[]⟩
noncomputable def F128_g(N:Nat)(v1:Ce):Option T17:=
 (some ((0,0,0,([]:List Nat),([]:List Int),([]:List (List Int)),([]:List Geo),()),false,()))
noncomputable def F128(N:Nat)(v1:Ce):Option T17:=
 F128_g N v1
theorem F128_t(N:Nat)(v1:Ce):evF2 (F128_E N) [] Tryz.f24 [.k .any, .ifc 222 (.ep 5)] a14 (v1,(),())=F128 N v1:=
 Eq.trans (b:=F128_g N v1) (by kernel_rfl) rfl
noncomputable def F128_con(N:Nat):Con2:=⟨24,[.k .any, .ifc 222 (.ep 5)],a14,fun x=>F128 N x.1⟩
theorem F128_s(N:Nat):(F128_con N).Sound PG (GL N):=
 Con2.sound_of (c:=F128_con N) (E:=(F128_E N)) (idle:=[]) Tryz.func24 (by kernel_rfl) (by kernel_rfl) ⟨allNil,allNil,rfl⟩ allNil (fun x y h=>(F128_t N x.1).trans h)
noncomputable def F129_E(N:Nat):Env:=⟨PG,N,[],[nm 0 [0,1] [],nm 1 [0,1,4] [4],nm 2 [0,4,7] [4],nm 3 [0,4] []],kdL [],[],[],(GL N),tl0,[]⟩
noncomputable def F129_g(N:Nat)(v1:Ce):Option T17:=
 (some ((0,0,0,([]:List Nat),([]:List Int),([]:List (List Int)),([]:List Geo),()),false,()))
noncomputable def F129(N:Nat)(v1:Ce):Option T17:=
 F129_g N v1
theorem F129_t(N:Nat)(v1:Ce):evF2 (F129_E N) [] Tryz.f24 [.k .any, .ifc 222 (.ep 4)] a14 (v1,(),())=F129 N v1:=
 Eq.trans (b:=F129_g N v1) (by kernel_rfl) rfl
noncomputable def F129_con(N:Nat):Con2:=⟨24,[.k .any, .ifc 222 (.ep 4)],a14,fun x=>F129 N x.1⟩
theorem F129_s(N:Nat):(F129_con N).Sound PG (GL N):=
 Con2.sound_of (c:=F129_con N) (E:=(F129_E N)) (idle:=[]) Tryz.func24 (by kernel_rfl) (by kernel_rfl) ⟨allNil,allNil,rfl⟩ allNil (fun x y h=>(F129_t N x.1).trans h)
noncomputable def F130_E(N:Nat):Env:=⟨PG,N,[],[nm 0 [0,1] [],nm 1 [0,1,4] [4],nm 2 [0,4,7] [4],nm 3 [0,4] []],kdL [],[],[],(GL N),tl0,[]⟩
noncomputable def F130_g(N:Nat)(v1:Ce):Option T17:=
 (some ((0,0,0,([]:List Nat),([]:List Int),([]:List (List Int)),([]:List Geo),()),false,()))
noncomputable def F130(N:Nat)(v1:Ce):Option T17:=
 F130_g N v1
theorem F130_t(N:Nat)(v1:Ce):evF2 (F130_E N) [] Tryz.f24 [.k .any, .ifc 222 (.ep 6)] a14 (v1,(),())=F130 N v1:=
 Eq.trans (b:=F130_g N v1) (by kernel_rfl) rfl
noncomputable def F130_con(N:Nat):Con2:=⟨24,[.k .any, .ifc 222 (.ep 6)],a14,fun x=>F130 N x.1⟩
theorem F130_s(N:Nat):(F130_con N).Sound PG (GL N):=
 Con2.sound_of (c:=F130_con N) (E:=(F130_E N)) (idle:=[]) Tryz.func24 (by kernel_rfl) (by kernel_rfl) ⟨allNil,allNil,rfl⟩ allNil (fun x y h=>(F130_t N x.1).trans h)
noncomputable def F131_E(N:Nat):Env:=⟨PG,N,[],[nm 0 [0] [],nm 1 [0] []],kdL [(165,p2)],[],[],(GL N),tl0,[]⟩
noncomputable def F131_g(N:Nat)(v1:Ce):Option (Int):=
 ((isNilp v1).bind fun v2=>(bif v2 then none else((ptrD p2 v1).bind fun v3=>(some v3.1))))
noncomputable def F131(N:Nat)(v1:Ce):Option (Int):=
 F131_g N v1
theorem F131_t(N:Nat)(v1:Ce):evF (F131_E N) [] Tryz.f92 [.k .any] [(.int .i64)] (v1,())=F131 N v1:=
 Eq.trans (b:=F131_g N v1) (by kernel_rfl) rfl
noncomputable def F131_con(N:Nat):Con:=⟨92,[.k .any],[(.int .i64)],fun x=>F131 N x.1⟩
theorem F131_s(N:Nat):(F131_con N).Sound PG (GL N):=
 Con.sound_of (c:=F131_con N) (E:=(F131_E N)) (idle:=[]) Tryz.func92 (by kernel_rfl) (by kernel_rfl) ⟨allNil,allNil,rfl⟩ allNil (fun x y h=>(F131_t N x.1).trans h)
noncomputable def F132_E(N:Nat):Env:=⟨PG,N,[],[nm 0 [0] [],nm 1 [0] []],kdL [(165,p2)],[],[],(GL N),tl0,[]⟩
noncomputable def F132_g(N:Nat)(v1:Ce):Option ((List Ce)):=
 ((isNilp v1).bind fun v2=>(bif v2 then none else((ptrD p2 v1).bind fun v3=>(some v3.2.1))))
noncomputable def F132(N:Nat)(v1:Ce):Option ((List Ce)):=
 F132_g N v1
theorem F132_t(N:Nat)(v1:Ce):evF (F132_E N) [] Tryz.f93 [.k .any] [(.list .any)] (v1,())=F132 N v1:=
 Eq.trans (b:=F132_g N v1) (by kernel_rfl) rfl
noncomputable def F132_con(N:Nat):Con:=⟨93,[.k .any],[(.list .any)],fun x=>F132 N x.1⟩
theorem F132_s(N:Nat):(F132_con N).Sound PG (GL N):=
 Con.sound_of (c:=F132_con N) (E:=(F132_E N)) (idle:=[]) Tryz.func93 (by kernel_rfl) (by kernel_rfl) ⟨allNil,allNil,rfl⟩ allNil (fun x y h=>(F132_t N x.1).trans h)
noncomputable def F133_E(N:Nat):Env:=⟨PG,N,[],[nm 0 [0] [],nm 1 [0] []],kdL [],[],[],(GL N),tl0,[]⟩
noncomputable def F133_g(N:Nat)(v1:T14):Option ((Int×Unit)):=
 (some (v1.2.2.2.1,()))
noncomputable def F133(N:Nat)(v1:T14):Option ((Int×Unit)):=
 F133_g N v1
theorem F133_t(N:Nat)(v1:T14):evF2 (F133_E N) [] Tryz.f156 [.lref p4] a32 (v1,())=F133 N v1:=
 Eq.trans (b:=F133_g N v1) (by kernel_rfl) rfl
noncomputable def F133_con(N:Nat):Con2:=⟨156,[.lref p4],a32,fun x=>F133 N x.1⟩
theorem F133_s(N:Nat):(F133_con N).Sound PG (GL N):=
 Con2.sound_of (c:=F133_con N) (E:=(F133_E N)) (idle:=[]) Tryz.func156 (by kernel_rfl) (by kernel_rfl) ⟨allNil,allNil,rfl⟩ allNil (fun x y h=>(F133_t N x.1).trans h)
noncomputable def F134_E(N:Nat):Env:=⟨PG,N,[],[nm 0 [0] [],nm 1 [0] []],kdL [],[],[],(GL N),tl0,[]⟩
noncomputable def F134_g(N:Nat)(v1:T12):Option ((Int×Unit)):=
 (some (v1.2.2.1,()))
noncomputable def F134(N:Nat)(v1:T12):Option ((Int×Unit)):=
 F134_g N v1
theorem F134_t(N:Nat)(v1:T12):evF2 (F134_E N) [] Tryz.f166 [.lref p2] a32 (v1,())=F134 N v1:=
 Eq.trans (b:=F134_g N v1) (by kernel_rfl) rfl
noncomputable def F134_con(N:Nat):Con2:=⟨166,[.lref p2],a32,fun x=>F134 N x.1⟩
theorem F134_s(N:Nat):(F134_con N).Sound PG (GL N):=
 Con2.sound_of (c:=F134_con N) (E:=(F134_E N)) (idle:=[]) Tryz.func166 (by kernel_rfl) (by kernel_rfl) ⟨allNil,allNil,rfl⟩ allNil (fun x y h=>(F134_t N x.1).trans h)
noncomputable def F135_E(N:Nat):Env:=⟨PG,N,[],[nm 0 [] [],nm 1 [] []],kdL [],[],[],(GL N),tl0,[]⟩
noncomputable def F135_g(N:Nat)(v1:T14):Option (((List Int)×Unit)):=
 (some (([]:List Int),()))
noncomputable def F135(N:Nat)(v1:T14):Option (((List Int)×Unit)):=
 F135_g N v1
theorem F135_t(N:Nat)(v1:T14):evF2 (F135_E N) [] Tryz.f153 [.lref p4] a48 (v1,())=F135 N v1:=
 Eq.trans (b:=F135_g N v1) (by kernel_rfl) rfl
noncomputable def F135_con(N:Nat):Con2:=⟨153,[.lref p4],a48,fun x=>F135 N x.1⟩
theorem F135_s(N:Nat):(F135_con N).Sound PG (GL N):=
 Con2.sound_of (c:=F135_con N) (E:=(F135_E N)) (idle:=[]) Tryz.func153 (by kernel_rfl) (by kernel_rfl) ⟨allNil,allNil,rfl⟩ allNil (fun x y h=>(F135_t N x.1).trans h)
noncomputable def F136_E(N:Nat):Env:=⟨PG,N,[],[nm 0 [] [],nm 1 [] []],kdL [],[],[],(GL N),tl0,[]⟩
noncomputable def F136_g(N:Nat)(v1:T14):Option ((T22×Unit)):=
 (some (([]:List (List Int)),()))
noncomputable def F136(N:Nat)(v1:T14):Option ((T22×Unit)):=
 F136_g N v1
theorem F136_t(N:Nat)(v1:T14):evF2 (F136_E N) [] Tryz.f154 [.lref p4] a43 (v1,())=F136 N v1:=
 Eq.trans (b:=F136_g N v1) (by kernel_rfl) rfl
noncomputable def F136_con(N:Nat):Con2:=⟨154,[.lref p4],a43,fun x=>F136 N x.1⟩
theorem F136_s(N:Nat):(F136_con N).Sound PG (GL N):=
 Con2.sound_of (c:=F136_con N) (E:=(F136_E N)) (idle:=[]) Tryz.func154 (by kernel_rfl) (by kernel_rfl) ⟨allNil,allNil,rfl⟩ allNil (fun x y h=>(F136_t N x.1).trans h)
noncomputable def F137_E(N:Nat):Env:=⟨PG,N,[],[nm 0 [0] [],nm 1 [0] []],kdL [],[],[],(GL N),tl0,[]⟩
noncomputable def F137_g(N:Nat)(v1:((T14×Unit)×(T22×Unit))):Option ((T22×Unit)):=
 (some (v1.2.1,()))
noncomputable def F137(N:Nat)(v1:((T14×Unit)×(T22×Unit))):Option ((T22×Unit)):=
 F137_g N v1
theorem F137_t(N:Nat)(v1:((T14×Unit)×(T22×Unit))):evF2 (F137_E N) [] Tryz.f159 [.lref (.pair p0 (.pair (.list (.list (.int .i64))) .unit))] a43 (v1,())=F137 N v1:=
 Eq.trans (b:=F137_g N v1) (by kernel_rfl) rfl
noncomputable def F137_con(N:Nat):Con2:=⟨159,[.lref (.pair p0 (.pair (.list (.list (.int .i64))) .unit))],a43,fun x=>F137 N x.1⟩
theorem F137_s(N:Nat):(F137_con N).Sound PG (GL N):=
 Con2.sound_of (c:=F137_con N) (E:=(F137_E N)) (idle:=[]) Tryz.func159 (by kernel_rfl) (by kernel_rfl) ⟨allNil,allNil,rfl⟩ allNil (fun x y h=>(F137_t N x.1).trans h)
noncomputable def F138_g1(N:Nat)(self:Ce→Option (Geo))(v1:Ce)(v38 v63:Int):Option (Geo):=
 ((isT 104 v1).bind fun v64=>(bif v64 then((asT .unit 104 v1).bind fun v65=>none)else((isT 105 v1).bind fun v66=>(bif v66 then((asT .unit 105 v1).bind fun v67=>none)else((isT 72 v1).bind fun v68=>(bif v68 then((asT .any 72 v1).bind fun v69=>(ptrD p0 v69).bind fun v70=>(F38 N v70.1).bind fun v71=>some v71.1)else((isT 75 v1).bind fun v72=>(bif v72 then((asT .any 75 v1).bind fun v73=>(ptrD (.pair p0 .unit) v73).bind fun v74=>(F38 N v74.1.1).bind fun v75=>some v75.1)else((isT 78 v1).bind fun v76=>(bif v76 then((asT .any 78 v1).bind fun v77=>(ptrD (.pair p0 .unit) v77).bind fun v78=>(F38 N v78.1.1).bind fun v79=>some v79.1)else((isT 81 v1).bind fun v80=>(bif v80 then((asT .any 81 v1).bind fun v81=>(ptrD p1 v81).bind fun v82=>(F38 N v82.1.1.1).bind fun v83=>some v83.1)else((isT 85 v1).bind fun v84=>(bif v84 then((asT .any 85 v1).bind fun v85=>(ptrD p1 v85).bind fun v86=>(F38 N v86.1.1.1).bind fun v87=>some v87.1)else((isT 91 v1).bind fun v88=>(bif v88 then((asT .any 91 v1).bind fun v89=>(ptrD p1 v89).bind fun v90=>(F38 N v90.1.1.1).bind fun v91=>some v91.1)else((isT 94 v1).bind fun v92=>(bif v92 then((asT .any 94 v1).bind fun v93=>(ptrD p3 v93).bind fun v94=>(F38 N v94.1.1.1).bind fun v95=>some v95.1)else((isT 98 v1).bind fun v96=>(bif v96 then((asT .any 98 v1).bind fun v97=>(ptrD p2 v97).bind fun v98=>(F39 N N v98).bind fun v99=>some v99.1)else none)))))))))))))))))))).bind fun v100=>((isT 104 v1).bind fun v101=>(bif v101 then((asT .unit 104 v1).bind fun v102=>none)else((isT 105 v1).bind fun v103=>(bif v103 then((asT .unit 105 v1).bind fun v104=>none)else((isT 72 v1).bind fun v105=>(bif v105 then((asT .any 72 v1).bind fun v106=>(ptrD p0 v106).bind fun v107=>(F71 N v107.1).bind fun v108=>some v108.1)else((isT 75 v1).bind fun v109=>(bif v109 then((asT .any 75 v1).bind fun v110=>(ptrD (.pair p0 .unit) v110).bind fun v111=>(F71 N v111.1.1).bind fun v112=>some v112.1)else((isT 78 v1).bind fun v113=>(bif v113 then((asT .any 78 v1).bind fun v114=>(ptrD (.pair p0 .unit) v114).bind fun v115=>(F71 N v115.1.1).bind fun v116=>some v116.1)else((isT 81 v1).bind fun v117=>(bif v117 then((asT .any 81 v1).bind fun v118=>(ptrD p1 v118).bind fun v119=>(F71 N v119.1.1.1).bind fun v120=>some v120.1)else((isT 85 v1).bind fun v121=>(bif v121 then((asT .any 85 v1).bind fun v122=>(ptrD p1 v122).bind fun v123=>(F71 N v123.1.1.1).bind fun v124=>some v124.1)else((isT 91 v1).bind fun v125=>(bif v125 then((asT .any 91 v1).bind fun v126=>(ptrD p1 v126).bind fun v127=>(F71 N v127.1.1.1).bind fun v128=>some v128.1)else((isT 94 v1).bind fun v129=>(bif v129 then((asT .any 94 v1).bind fun v130=>(ptrD p3 v130).bind fun v131=>(F71 N v131.1.1.1).bind fun v132=>some v132.1)else((isT 98 v1).bind fun v133=>(bif v133 then((asT .any 98 v1).bind fun v134=>(ptrD p2 v134).bind fun v135=>none)else none)))))))))))))))))))).bind fun v136=>(F16 N v136).bind fun v137=>((isT 104 v1).bind fun v138=>(bif v138 then((asT .unit 104 v1).bind fun v139=>none)else((isT 105 v1).bind fun v140=>(bif v140 then((asT .unit 105 v1).bind fun v141=>none)else((isT 72 v1).bind fun v142=>(bif v142 then((asT .any 72 v1).bind fun v143=>(ptrD p0 v143).bind fun v144=>(F135 N v144.1).bind fun v145=>some v145.1)else((isT 75 v1).bind fun v146=>(bif v146 then((asT .any 75 v1).bind fun v147=>(ptrD (.pair p0 .unit) v147).bind fun v148=>(F135 N v148.1.1).bind fun v149=>some v149.1)else((isT 78 v1).bind fun v150=>(bif v150 then((asT .any 78 v1).bind fun v151=>(ptrD (.pair p0 .unit) v151).bind fun v152=>(F135 N v152.1.1).bind fun v153=>some v153.1)else((isT 81 v1).bind fun v154=>(bif v154 then((asT .any 81 v1).bind fun v155=>(ptrD p1 v155).bind fun v156=>(F75 N v156.1).bind fun v157=>some v157.1)else((isT 85 v1).bind fun v158=>(bif v158 then((asT .any 85 v1).bind fun v159=>(ptrD p1 v159).bind fun v160=>(F75 N v160.1).bind fun v161=>some v161.1)else((isT 91 v1).bind fun v162=>(bif v162 then((asT .any 91 v1).bind fun v163=>(ptrD p1 v163).bind fun v164=>(F75 N v164.1).bind fun v165=>some v165.1)else((isT 94 v1).bind fun v166=>(bif v166 then((asT .any 94 v1).bind fun v167=>(ptrD p3 v167).bind fun v168=>(F135 N v168.1.1.1).bind fun v169=>some v169.1)else((isT 98 v1).bind fun v170=>(bif v170 then((asT .any 98 v1).bind fun v171=>(ptrD p2 v171).bind fun v172=>none)else none)))))))))))))))))))).bind fun v173=>(F24 N v173).bind fun v174=>((isT 104 v1).bind fun v175=>(bif v175 then((asT .unit 104 v1).bind fun v176=>none)else((isT 105 v1).bind fun v177=>(bif v177 then((asT .unit 105 v1).bind fun v178=>none)else((isT 72 v1).bind fun v179=>(bif v179 then((asT .any 72 v1).bind fun v180=>(ptrD p0 v180).bind fun v181=>(F136 N v181.1).bind fun v182=>some v182.1)else((isT 75 v1).bind fun v183=>(bif v183 then((asT .any 75 v1).bind fun v184=>(ptrD (.pair p0 .unit) v184).bind fun v185=>(F136 N v185.1.1).bind fun v186=>some v186.1)else((isT 78 v1).bind fun v187=>(bif v187 then((asT .any 78 v1).bind fun v188=>(ptrD (.pair p0 .unit) v188).bind fun v189=>(F136 N v189.1.1).bind fun v190=>some v190.1)else((isT 81 v1).bind fun v191=>(bif v191 then((asT .any 81 v1).bind fun v192=>(ptrD p1 v192).bind fun v193=>(F136 N v193.1.1.1).bind fun v194=>some v194.1)else((isT 85 v1).bind fun v195=>(bif v195 then((asT .any 85 v1).bind fun v196=>(ptrD p1 v196).bind fun v197=>(F136 N v197.1.1.1).bind fun v198=>some v198.1)else((isT 91 v1).bind fun v199=>(bif v199 then((asT .any 91 v1).bind fun v200=>(ptrD p1 v200).bind fun v201=>(F136 N v201.1.1.1).bind fun v202=>some v202.1)else((isT 94 v1).bind fun v203=>(bif v203 then((asT .any 94 v1).bind fun v204=>(ptrD p3 v204).bind fun v205=>(F137 N v205.1).bind fun v206=>some v206.1)else((isT 98 v1).bind fun v207=>(bif v207 then((asT .any 98 v1).bind fun v208=>(ptrD p2 v208).bind fun v209=>none)else none)))))))))))))))))))).bind fun v210=>(F33 N v210).bind fun v211=>(some (Geo.mk v63 v100 v38 v137.1 v174.1 v211.1 ([]:List Geo)))
noncomputable def F138_j1(N:Nat)(self:Ce→Option (Geo))(v1:Ce)(v38 v63:Int):Option (Geo):=
 gate N (F138_g1 N self v1 v38 v63)
noncomputable def F138_g0(N:Nat)(self:Ce→Option (Geo))(v56:List Ce)(v55 v38:Int)(r0:Int→(List Geo)→Option (Geo))(v59:Int)(v60:List Geo):Option (Geo):=
 (bif(decide ((v59:Int)<(v56.length:Int)))then((nth v56 v59).bind fun v61=>((self v61).bind fun v62=>(lim ((v60.length+([v62]:List Geo).length)*120)).bind fun _=>((r0 (IntKind.i64.wrap (v59+1)) (v60++([v62]:List Geo))))))else(some (Geo.mk 7 v55 v38 ([]:List Nat) ([]:List Int) ([]:List (List Int)) v60)))
noncomputable def F138_l0(N:Nat)(self:Ce→Option (Geo)):Nat→(List Ce)→Int→Int→Int→(List Geo)→Option (Geo)
 |0,_,_,_,_,_=>none
 |n+1,v56,v55,v38,v59,v60=>F138_g0 N self v56 v55 v38 (F138_l0 N self n v56 v55 v38) v59 v60
noncomputable def F138_g(N:Nat)(self:Ce→Option (Geo))(v1:Ce)(c1:Ce→Int→Int→Option (Geo))(c0:(List Ce)→Int→Int→Int→(List Geo)→Option (Geo)):Option (Geo):=
 (((isT 104 v1).bind fun v2=>(bif v2 then((asT .unit 104 v1).bind fun v3=>none)else((isT 105 v1).bind fun v4=>(bif v4 then((asT .unit 105 v1).bind fun v5=>none)else((isT 72 v1).bind fun v6=>(bif v6 then((asT .any 72 v1).bind fun v7=>(ptrD p0 v7).bind fun v8=>(F133 N v8.1).bind fun v9=>some v9.1)else((isT 75 v1).bind fun v10=>(bif v10 then((asT .any 75 v1).bind fun v11=>(ptrD (.pair p0 .unit) v11).bind fun v12=>(F133 N v12.1.1).bind fun v13=>some v13.1)else((isT 78 v1).bind fun v14=>(bif v14 then((asT .any 78 v1).bind fun v15=>(ptrD (.pair p0 .unit) v15).bind fun v16=>(F133 N v16.1.1).bind fun v17=>some v17.1)else((isT 81 v1).bind fun v18=>(bif v18 then((asT .any 81 v1).bind fun v19=>(ptrD p1 v19).bind fun v20=>(F133 N v20.1.1.1).bind fun v21=>some v21.1)else((isT 85 v1).bind fun v22=>(bif v22 then((asT .any 85 v1).bind fun v23=>(ptrD p1 v23).bind fun v24=>(F133 N v24.1.1.1).bind fun v25=>some v25.1)else((isT 91 v1).bind fun v26=>(bif v26 then((asT .any 91 v1).bind fun v27=>(ptrD p1 v27).bind fun v28=>(F133 N v28.1.1.1).bind fun v29=>some v29.1)else((isT 94 v1).bind fun v30=>(bif v30 then((asT .any 94 v1).bind fun v31=>(ptrD p3 v31).bind fun v32=>(F133 N v32.1.1.1).bind fun v33=>some v33.1)else((isT 98 v1).bind fun v34=>(bif v34 then((asT .any 98 v1).bind fun v35=>(ptrD p2 v35).bind fun v36=>(F134 N v36).bind fun v37=>some v37.1)else none)))))))))))))))))))).bind fun v38=>((isT 72 v1).bind fun v39=>(bif v39 then((asT .any 72 v1).bind fun v40=>(c1 v1 v38 1))else((isT 75 v1).bind fun v41=>(bif v41 then((asT .any 75 v1).bind fun v42=>(c1 v1 v38 2))else((isT 78 v1).bind fun v43=>(bif v43 then((asT .any 78 v1).bind fun v44=>(c1 v1 v38 8))else((isT 81 v1).bind fun v45=>(bif v45 then((asT .any 81 v1).bind fun v46=>(c1 v1 v38 3))else((isT 85 v1).bind fun v47=>(bif v47 then((asT .any 85 v1).bind fun v48=>(c1 v1 v38 4))else((isT 91 v1).bind fun v49=>(bif v49 then((asT .any 91 v1).bind fun v50=>(c1 v1 v38 5))else((isT 94 v1).bind fun v51=>(bif v51 then((asT .any 94 v1).bind fun v52=>(c1 v1 v38 6))else((isT 98 v1).bind fun v53=>(bif v53 then((asT .any 98 v1).bind fun v54=>((F131 N v54).bind fun v55=>((F132 N v54).bind fun v56=>((c0 v56 v55 v38 0 ([]:List Geo))))))else(c1 v1 v38 0))))))))))))))))))
noncomputable def F138(N:Nat):Nat→Ce→Option (Geo)
 |0,_=>none
 |d+1,v1=>F138_g N (F138 N d) v1 (F138_j1 N (F138 N d)) (F138_l0 N (F138 N d) N)
noncomputable def F138_con'(N d:Nat):Con:=⟨60,[.k .any],[.geo],fun x=>F138 N d x.1⟩
noncomputable def F138_E(N d:Nat):Env:=⟨PG,N,[F138_con' N d,F131_con N,F132_con N],[nm 0 [0] [],nm 1 [0,2] [2],nm 2 [0,2,3] [2,3],nm 3 [0,2,3,17] [2,3],nm 4 [0,2,3,17,19,20] [2,3],nm 5 [0,2,3] [2,3],nm 7 [0,2,3,17,23,24] [2,3],nm 8 [0,2,3] [2,3],nm 10 [0,2,3,17,27,28] [2,3],nm 11 [0,2,3] [2,3],nm 13 [0,2,3,17,31,32] [2,3],nm 14 [0,2,3] [2,3],nm 16 [0,2,3,17,35,36] [2,3],nm 17 [0,2,3] [2,3],nm 19 [0,2,3,17,39,40] [2,3],nm 20 [0,2,3] [2,3],nm 22 [0,2,3,17,43,44] [2,3],nm 23 [0,2,3] [2,3],nm 25 [0,2,3,47,48] [2,3],nm 26 [2,3,11] [2,3],nm 27 [2,3,11] [2,3],(28,⟨[],[(3,6,27, .geo,92850)],[],[],[],[2,3,54,55,56],[2,3,92850],none⟩),nm 29 [2,3,54,55,56] [2,3,92850],nm 30 [2,3,13,54,55,56] [2,3,92850],nm 31 [2,3,54,55,56] [2,3,65],nm 32 [2,3] [2,3,92850],ng N 33 [0,2,3] [2,3],nm 34 [2,3] [2,3,103650,103800,103950]],kdL [(3,(.int .i64)),(22,(.list .float)),(23,(.list (.int .i64))),(24,(.list (.list (.int .i64)))),(27, .geo),(70,(.int .i64)),(72, .any),(75, .any),(78, .any),(81, .any),(85, .any),(91, .any),(94, .any),(98, .any),(104, .unit),(105, .unit),(140,p0),(147,(.pair p0 .unit)),(152,p1),(155,(.pair p0 .unit)),(157,p1),(158,p1),(162,p3),(165,p2)],[F133_con N,F134_con N,F38_con N,F39_con N,F71_con N,F16_con N,F135_con N,F75_con N,F24_con N,F136_con N,F137_con N,F33_con N],[],(GL N),tl0,[(15,(.int .i64)),(70,(.int .i64)),(72,(.list .float)),(75,(.list (.int .i64))),(78,(.list (.list (.int .i64))))]⟩
noncomputable def F138_e1(N d:Nat)(v1:Ce)(v38 v63:Int):=
 gate N (evC (F138_E N d) (c60 [1,1,1]) ⟨[(0, .pv .any v1),(2, .ref 2 0),(3, .ref 3 0)],[(2, .box [.pv (.int .i64) 0, .pv (.int .i64) 0, .pv (.int .i64) 0, .nils, .nils, .nils, .nils]),(3, .box [.pv (.int .i64) v63, .pv (.int .i64) 0, .pv (.int .i64) v38, .nils, .nils, .nils, .nils])],[]⟩ (kEnd (F138_E N d) [] Tryz.f60.results.toList [.geo]))
noncomputable def F138_e0(N d n:Nat)(v56:List Ce)(v55 v38 v59:Int)(v60:List Geo):=
 lq (F138_E N d) (c60 [1,1,0,1,0,1,1,1,1,1,1,1,1,1,1,1,1,1,1,1,0,1,1,0,1,0,0]) n ⟨[(2, .ref 2 0),(3, .ref 3 0),(54, .pv (.list .any) v56),(55, .pv (.int .i64) (v56.length:Int)),(56, .pv (.int .i64) v59)],[(2, .box [.pv (.int .i64) 0, .pv (.int .i64) 0, .pv (.int .i64) 0, .nils, .nils, .nils, .nils]),(3, .box [.pv (.int .i64) 7, .pv (.int .i64) v55, .pv (.int .i64) v38, .nils, .nils, .nils, .own .geo 92850]),(92850, .arr 27 .geo v60)],[]⟩ (kBlock 1 (kq (F138_E N d) (c60 [1,1,0,1,0,1,1,1,1,1,1,1,1,1,1,1,1,1,1,1,0,1,1,1]) (kBlock 0 (kq (F138_E N d) (c60 [1,1,1]) (kEnd (F138_E N d) [] Tryz.f60.results.toList [.geo])))))
theorem F138_t1(N d:Nat)(v1:Ce)(v38 v63:Int):F138_e1 N d v1 v38 v63=F138_j1 N (F138 N d) v1 v38 v63:=by
 exact(congrArg (gate N) (show _=F138_g1 N (F138 N d) v1 v38 v63 from by kernel_rfl)).trans (by rfl)
theorem F138_t0(N d:Nat):∀(n:Nat) (v56:List Ce) (v55 v38 v59:Int) (v60:List Geo),F138_e0 N d n v56 v55 v38 v59 v60=F138_l0 N (F138 N d) n v56 v55 v38 v59 v60
 |0,_,_,_,_,_=>rfl
 |n+1,v56,v55,v38,v59,v60=>by
  have h:F138_e0 N d n v56 v55 v38=F138_l0 N (F138 N d) n v56 v55 v38:=by funext v59 v60;exact F138_t0 N d n v56 v55 v38 v59 v60
  exact Eq.trans (b:=F138_g0 N (F138 N d) v56 v55 v38 (F138_e0 N d n v56 v55 v38) v59 v60) (by kernel_rfl) (by rw[h];rfl)
theorem F138_t(N d:Nat)(v1:Ce):evF (F138_E N d) [] Tryz.f60 [.k .any] [.geo] (v1,())=F138 N (d+1) v1:=by
 have h1:(F138_e1 N d)=(F138_j1 N (F138 N d)):=by funext v1 v38 v63;exact F138_t1 N d v1 v38 v63
 have h0:(F138_e0 N d N)=(F138_l0 N (F138 N d) N):=by funext v56 v55 v38 v59 v60;exact F138_t0 N d N v56 v55 v38 v59 v60
 exact Eq.trans (b:=F138_g N (F138 N d) v1 (F138_e1 N d) (F138_e0 N d N)) (by kernel_rfl) (by rw[h1,h0];rfl)
theorem F138_s'(N:Nat):∀d,(F138_con' N d).Sound PG (GL N)
 |0=>fun _ _ _ _ _ _ _ _ h=>by cases h
 |d+1=>Con.sound_of (c:=F138_con' N (d+1)) (E:=(F138_E N d)) (idle:=[]) Tryz.func60 (by kernel_rfl) (by kernel_rfl) ⟨(allCons (F138_s' N d) (allCons (F131_s N) (allCons (F132_s N) allNil))),(allCons (F133_s N) (allCons (F134_s N) (allCons (F38_s N) (allCons (F39_s N) (allCons (F71_s N) (allCons (F16_s N) (allCons (F135_s N) (allCons (F75_s N) (allCons (F24_s N) (allCons (F136_s N) (allCons (F137_s N) (allCons (F33_s N) allNil)))))))))))),rfl⟩ allNil (fun x y h=>(F138_t N d x.1).trans h)
noncomputable def F138_con(N:Nat):Con:=F138_con' N N
theorem F138_s(N:Nat):(F138_con N).Sound PG (GL N):=F138_s' N N
noncomputable def F139_E(N:Nat):Env:=⟨PG,N,[F138_con N],[nm 0 [0,1] [],nm 1 [0,1,4] [4],nm 2 [0,4,7] [4],nm 3 [0,4] [4]],kdL [],[],[],(GL N),tl0,[]⟩
noncomputable def F139_g(N:Nat)(v1:Ce):Option T17:=
 ((F138 N N v1).bind fun v2=>(some ((v2.kind,v2.layout,v2.srid,v2.flat,v2.ends,v2.endss,v2.kids,()),true,())))
noncomputable def F139(N:Nat)(v1:Ce):Option T17:=
 F139_g N v1
theorem F139_t(N:Nat)(v1:Ce):evF2 (F139_E N) [] Tryz.f24 [.k .any, .nili] a22 (v1,(),())=F139 N v1:=
 Eq.trans (b:=F139_g N v1) (by kernel_rfl) rfl
noncomputable def F139_con(N:Nat):Con2:=⟨24,[.k .any, .nili],a22,fun x=>F139 N x.1⟩
theorem F139_s(N:Nat):(F139_con N).Sound PG (GL N):=
 Con2.sound_of (c:=F139_con N) (E:=(F139_E N)) (idle:=[]) Tryz.func24 (by kernel_rfl) (by kernel_rfl) ⟨(allCons (F138_s N) allNil),allNil,rfl⟩ allNil (fun x y h=>(F139_t N x.1).trans h)
noncomputable def F140_E(N:Nat):Env:=⟨PG,N,[F91_con N,F92_con N,F93_con N,F94_con N,F95_con N],[nm 0 [0,1] [],nm 1 [0,1,4,5] [4,5],nm 2 [0,1,4,5] [4,5]],kdL [],[F47_con N,F127_con N,F128_con N,F129_con N,F130_con N,F139_con N],[],(GL N),tl0,[]⟩
noncomputable def F140_g(N:Nat)(v1:List Int)(v2:Bool):Option T17:=
 ((F47 N v2).bind fun v3=>Sum.elim (fun v4=>(F127 N v1 (((v4.1.1.1.1,()),()),())).bind fun v6=>Sum.elim (fun v7=>(F128 N v7.1).bind fun v9=>(some (v9.1,v9.2.1,()))) (fun v8=>Sum.elim (fun v10=>(F91 N v10.1 v10.2.1).bind fun v12=>(some ((v12.1.kind,v12.1.layout,v12.1.srid,v12.1.flat,v12.1.ends,v12.1.endss,v12.1.kids,()),v12.2,()))) (fun v11=>Sum.elim (fun v13=>(F129 N v13.1).bind fun v15=>(some (v15.1,v15.2.1,()))) (fun v14=>Sum.elim (fun v16=>(F130 N v16.1).bind fun v18=>(some (v18.1,v18.2.1,()))) (fun v17=>Sum.elim (fun v19=>(F92 N v19.1 v19.2.1).bind fun v21=>(some ((v21.1.kind,v21.1.layout,v21.1.srid,v21.1.flat,v21.1.ends,v21.1.endss,v21.1.kids,()),v21.2,()))) (fun v20=>Sum.elim (fun v22=>(F139 N v22.1).bind fun v24=>(some (v24.1,v24.2.1,()))) (fun v23=>Sum.elim (fun v25=>(F93 N v25.1 v25.2.1).bind fun v27=>(some ((v27.1.kind,v27.1.layout,v27.1.srid,v27.1.flat,v27.1.ends,v27.1.endss,v27.1.kids,()),v27.2,()))) (fun v26=>Sum.elim (fun v28=>(F94 N v28.1 v28.2.1).bind fun v30=>(some ((v30.1.kind,v30.1.layout,v30.1.srid,v30.1.flat,v30.1.ends,v30.1.endss,v30.1.kids,()),v30.2,()))) (fun v29=>(F95 N v29.1 v29.2.1).bind fun v31=>(some ((v31.1.kind,v31.1.layout,v31.1.srid,v31.1.flat,v31.1.ends,v31.1.endss,v31.1.kids,()),v31.2,()))) v26) v23) v20) v17) v14) v11) v8) v6) (fun v5=>none) v3)
noncomputable def F140(N:Nat)(v1:List Int)(v2:Bool):Option T17:=
 F140_g N v1 v2
theorem F140_t(N:Nat)(v1:List Int)(v2:Bool):evF2 (F140_E N) [31] Tryz.f12 [.k (.list (.int .u8)), .k .bool] a22 (v1,v2,())=F140 N v1 v2:=
 Eq.trans (b:=F140_g N v1 v2) (by kernel_rfl) rfl
noncomputable def F140_con(N:Nat):Con2:=⟨12,[.k (.list (.int .u8)), .k .bool],a22,fun x=>F140 N x.1 x.2.1⟩
theorem F140_s(N:Nat):(F140_con N).Sound PG (GL N):=
 Con2.sound_of (c:=F140_con N) (E:=(F140_E N)) (idle:=[31]) Tryz.func12 (by kernel_rfl) (by kernel_rfl) ⟨(allCons (F91_s N) (allCons (F92_s N) (allCons (F93_s N) (allCons (F94_s N) (allCons (F95_s N) allNil))))),(allCons (F47_s N) (allCons (F127_s N) (allCons (F128_s N) (allCons (F129_s N) (allCons (F130_s N) (allCons (F139_s N) allNil)))))),rfl⟩ (allCons (idle_of Tryz.func31 (by kernel_rfl)) allNil) (fun x y h=>(F140_t N x.1 x.2.1).trans h)
noncomputable def F141_E(N:Nat):Env:=⟨PG,N,[F1_con N,F14_con N,F90_con N],[nm 0 [0,1,2] [],nm 1 [1,2,3] [3],nm 2 [1,2,3,15] [3],nm 3 [1,2,3] [3],nm 4 [1,2,3,18] [3],nm 5 [1,2,3] [3],nm 6 [2,7,8] [],ng N 7 [2,7,8,36] [],nm 8 [2,7] [],nm 9 [2,7,10] [],nm 10 [10,12] []],kdL [],[F140_con N],[],(GL N),tl0,[]⟩
noncomputable def F141_g0(N:Nat)(v3:Int)(v6:((List Int)×Bool)):Option (Bool):=
 (some v6.2)
noncomputable def F141_j0(N:Nat)(v3:Int)(v6:((List Int)×Bool)):Option (Bool):=
 gate N (F141_g0 N v3 v6)
noncomputable def F141_g(N:Nat)(v1:Geo)(v2:Bool)(v3:Int)(c0:Int→((List Int)×Bool)→Option (Bool)):Option (Bool):=
 ((F1 N (Geo.mk v1.kind v1.layout v1.srid v1.flat v1.ends v1.endss v1.kids)).bind fun v4=>(bif(!v4)then(some true)else((F14 N (Geo.mk v1.kind v1.layout v1.srid v1.flat v1.ends v1.endss v1.kids)).bind fun v5=>(bif(!v5)then(some true)else((F90 N (Geo.mk v1.kind v1.layout v1.srid v1.flat v1.ends v1.endss v1.kids) v2 true).bind fun v6=>(bif(!v6.2)then(c0 v3 v6)else(bif(decide ((v3:Int)<0))then(c0 v3 v6)else(gate N (bif(decide ((v3:Int)≥(v6.1.length:Int)))then(some v6.2)else((F140 N v6.1 true).bind fun v7=>((chk2 0 v3 v6.1.length).bind fun v8=>(F140 N ((v6.1.drop v8.1).take (v8.2-v8.1)) true).bind fun v9=>(bif v7.2.1 then(some (!v9.2.1))else(some false)))))))))))))
noncomputable def F141(N:Nat)(v1:Geo)(v2:Bool)(v3:Int):Option (Bool):=
 F141_g N v1 v2 v3 (F141_j0 N)
noncomputable def F141_e0(N:Nat)(v3:Int)(v6:((List Int)×Bool)):=
 gate N (evC (F141_E N) (c4 [1,1,1,1,0,1]) ⟨[(2, .pv (.int .i64) v3),(7, .pv (.list (.int .u8)) v6.1),(8, .pv .bool v6.2),(36, .pv .bool true)],[],[]⟩ (kq (F141_E N) (c4 [1,1,1,1,1]) (kEnd (F141_E N) [] Tryz.f4.results.toList [.bool])))
theorem F141_t0(N:Nat)(v3:Int)(v6:((List Int)×Bool)):F141_e0 N v3 v6=F141_j0 N v3 v6:=by
 exact(congrArg (gate N) (show _=F141_g0 N v3 v6 from by kernel_rfl)).trans (by rfl)
theorem F141_t(N:Nat)(v1:Geo)(v2:Bool)(v3:Int):evF (F141_E N) [] Tryz.f4 [.k .geo, .k .bool, .k (.int .i64)] [.bool] (v1,v2,v3,())=F141 N v1 v2 v3:=by
 have h0:(F141_e0 N)=(F141_j0 N):=by funext v3 v6;exact F141_t0 N v3 v6
 exact Eq.trans (b:=F141_g N v1 v2 v3 (F141_e0 N)) (by kernel_rfl) (by rw[h0];rfl)
noncomputable def F141_con(N:Nat):Con:=⟨4,[.k .geo, .k .bool, .k (.int .i64)],[.bool],fun x=>F141 N x.1 x.2.1 x.2.2.1⟩
theorem F141_s(N:Nat):(F141_con N).Sound PG (GL N):=
 Con.sound_of (c:=F141_con N) (E:=(F141_E N)) (idle:=[]) Tryz.func4 (by kernel_rfl) (by kernel_rfl) ⟨(allCons (F1_s N) (allCons (F14_s N) (allCons (F90_s N) allNil))),(allCons (F140_s N) allNil),rfl⟩ allNil (fun x y h=>(F141_t N x.1 x.2.1 x.2.2.1).trans h)
end
def ordC(big:Bool):Ce:=if big then .ifa 104 []else .ifa 105 []
def w32(big:Bool)(n:Int):List Int:=
 if big then [IntKind.u8.wrap (Int.fdiv n (2^24)),IntKind.u8.wrap (Int.fdiv n (2^16)),IntKind.u8.wrap (Int.fdiv n (2^8)),IntKind.u8.wrap n]
 else [IntKind.u8.wrap n,IntKind.u8.wrap (Int.fdiv n (2^8)),IntKind.u8.wrap (Int.fdiv n (2^16)),IntKind.u8.wrap (Int.fdiv n (2^24))]
theorem wW(N:Nat)(b ys:List Int)(l:Int)(h:b.length+ys.length≤140737488355328):bytes_Buffer_Write N (b,0,l,()) ys=some ((ys.length:Int),(),(b++ys,0,0,()),()):=if_pos ⟨rfl,h⟩
theorem wB(N:Nat)(b:List Int)(l o:Int)(h:b.length+1≤140737488355328):F56 N (b,0,l,()) o=some ((),(b++[o],0,0,()),()):=
 (show F56 N (b,0,l,()) o=(bytes_Buffer_Write N (b,0,l,()) [o]).bind (fun v4=>some ((),(v4.2.2.1.1,v4.2.2.1.2.1,v4.2.2.1.2.2.1,()),()))from rfl).trans (by rw[wW N b [o] l h];rfl)
theorem wU(N:Nat)(big:Bool)(b:List Int)(l n:Int)(h:b.length+4≤140737488355328):F61 (N+8) (b,0,l,()) (ordC big) n=some ((),(b++w32 big n,0,0,()),()):=by
 cases big
 ·exact(show F61 (N+8) (b,0,l,()) (ordC false) n=(bytes_Buffer_Write (N+8) (b,0,l,()) (w32 false n)).bind (fun v4=>some ((),(v4.2.2.1.1,v4.2.2.1.2.1,v4.2.2.1.2.2.1,()),()))from by kernel_rfl).trans (by rw[wW (N+8) b (w32 false n) l h];rfl)
 ·exact(show F61 (N+8) (b,0,l,()) (ordC true) n=(bytes_Buffer_Write (N+8) (b,0,l,()) (w32 true n)).bind (fun v4=>some ((),(v4.2.2.1.1,v4.2.2.1.2.1,v4.2.2.1.2.2.1,()),()))from by kernel_rfl).trans (by rw[wW (N+8) b (w32 true n) l h];rfl)
theorem z8:(2:Int)^(min (8:Int).toNat (IntKind.bits .u64))=256:=by decide+kernel
theorem z16:(2:Int)^(min (16:Int).toNat (IntKind.bits .u64))=65536:=by decide+kernel
theorem z24:(2:Int)^(min (24:Int).toNat (IntKind.bits .u64))=16777216:=by decide+kernel
theorem z32:(2:Int)^(min (32:Int).toNat (IntKind.bits .u64))=4294967296:=by decide+kernel
theorem z40:(2:Int)^(min (40:Int).toNat (IntKind.bits .u64))=1099511627776:=by decide+kernel
theorem z48:(2:Int)^(min (48:Int).toNat (IntKind.bits .u64))=281474976710656:=by decide+kernel
theorem z56:(2:Int)^(min (56:Int).toNat (IntKind.bits .u64))=72057594037927936:=by decide+kernel
def w64(big:Bool)(n:Int):List Int:=
 if big then [IntKind.u8.wrap (Int.fdiv n 72057594037927936),IntKind.u8.wrap (Int.fdiv n 281474976710656),IntKind.u8.wrap (Int.fdiv n 1099511627776),IntKind.u8.wrap (Int.fdiv n 4294967296),IntKind.u8.wrap (Int.fdiv n 16777216),IntKind.u8.wrap (Int.fdiv n 65536),IntKind.u8.wrap (Int.fdiv n 256),IntKind.u8.wrap n]
 else [IntKind.u8.wrap n,IntKind.u8.wrap (Int.fdiv n 256),IntKind.u8.wrap (Int.fdiv n 65536),IntKind.u8.wrap (Int.fdiv n 16777216),IntKind.u8.wrap (Int.fdiv n 4294967296),IntKind.u8.wrap (Int.fdiv n 1099511627776),IntKind.u8.wrap (Int.fdiv n 281474976710656),IntKind.u8.wrap (Int.fdiv n 72057594037927936)]
theorem set_app(a l:List Int)(k:Nat)(x:Int):(a++l).set (a.length+k) x=a++l.set k x:=by
 rw[List.set_append_right _ _ (by omega)];simp
theorem chkN{k:Int}{n m:Nat}(hk:k=(n:Int))(h:n<m):chk k m=some n:=by
 subst hk;unfold chk;rw[if_pos ⟨by omega,by omega⟩];simp
theorem get_app(a l:List Int)(k:Nat):(a++l)[a.length+k]?=l[k]?:=by
 rw[List.getElem?_append_right (by omega)];simp
theorem p64B(N:Nat)(a r:List Int)(c0 c1 c2 c3 c4 c5 c6 c7 n:Int):
 F64 N (a++c0::c1::c2::c3::c4::c5::c6::c7::r,a.length,r.length+8) n=some ((a++(w64 true n++r),a.length,r.length+8),()):=by
 unfold F64 F64_g
 simp only[chkN (k:=0) (n:=0) (m:=r.length+8) rfl (by omega),chkN (k:=1) (n:=1) (m:=r.length+8) rfl (by omega),chkN (k:=2) (n:=2) (m:=r.length+8) rfl (by omega),chkN (k:=3) (n:=3) (m:=r.length+8) rfl (by omega),chkN (k:=4) (n:=4) (m:=r.length+8) rfl (by omega),chkN (k:=5) (n:=5) (m:=r.length+8) rfl (by omega),chkN (k:=6) (n:=6) (m:=r.length+8) rfl (by omega),chkN (k:=7) (n:=7) (m:=r.length+8) rfl (by omega),Option.bind_some,set_app,get_app,z8,z16,z24,z32,z40,z48,z56]
 rfl
theorem p64L(N:Nat)(a r:List Int)(c0 c1 c2 c3 c4 c5 c6 c7 n:Int):
 F65 N (a++c0::c1::c2::c3::c4::c5::c6::c7::r,a.length,r.length+8) n=some ((a++(w64 false n++r),a.length,r.length+8),()):=by
 unfold F65 F65_g
 simp only[chkN (k:=0) (n:=0) (m:=r.length+8) rfl (by omega),chkN (k:=1) (n:=1) (m:=r.length+8) rfl (by omega),chkN (k:=2) (n:=2) (m:=r.length+8) rfl (by omega),chkN (k:=3) (n:=3) (m:=r.length+8) rfl (by omega),chkN (k:=4) (n:=4) (m:=r.length+8) rfl (by omega),chkN (k:=5) (n:=5) (m:=r.length+8) rfl (by omega),chkN (k:=6) (n:=6) (m:=r.length+8) rfl (by omega),chkN (k:=7) (n:=7) (m:=r.length+8) rfl (by omega),Option.bind_some,set_app,get_app,z8,z16,z24,z32,z40,z48,z56]
 rfl
theorem and5(m o l l':Nat)(h1:1≤m)(h2:l=l'):((((Nat.ble 1 m&&Nat.beq o o)&&Nat.beq m m)&&Nat.beq l l')&&true)=true:=by
 subst h2;simp[Nat.ble_eq,h1]
theorem w64_len(big:Bool)(n:Int):(w64 big n).length=8:=by cases big<;>rfl
theorem wF(N:Nat)(big:Bool)(a r:List Int)(c0 c1 c2 c3 c4 c5 c6 c7:Int)(f:Nat):
 F66 N (a++c0::c1::c2::c3::c4::c5::c6::c7::r,a.length,r.length+8) (ordC big) f=some ((a++(w64 big f++r),a.length,r.length+8),()):=by
 have hl:(a++(w64 big (f:Int)++r)).length=(a++c0::c1::c2::c3::c4::c5::c6::c7::r).length:=by simp[w64_len];omega
 have ha:=and5 (r.length+8) a.length _ _ (by omega) hl
 cases big
 ·exact(show F66 N (a++c0::c1::c2::c3::c4::c5::c6::c7::r,a.length,r.length+8) (ordC false) f=
   (F65 N (a++c0::c1::c2::c3::c4::c5::c6::c7::r,a.length,r.length+8) (f:Int)).bind (fun v10=>(bif((((Nat.ble 1 (r.length+8)&&Nat.beq v10.1.2.1 a.length)&&Nat.beq v10.1.2.2 (r.length+8))&&Nat.beq v10.1.1.length (a++c0::c1::c2::c3::c4::c5::c6::c7::r).length)&&true)then(some ((v10.1.1,a.length,r.length+8),()))else none))from by kernel_rfl).trans (by rw[p64L,Option.bind_some,ha];rfl)
 ·exact(show F66 N (a++c0::c1::c2::c3::c4::c5::c6::c7::r,a.length,r.length+8) (ordC true) f=
   (F64 N (a++c0::c1::c2::c3::c4::c5::c6::c7::r,a.length,r.length+8) (f:Int)).bind (fun v10=>(bif((((Nat.ble 1 (r.length+8)&&Nat.beq v10.1.2.1 a.length)&&Nat.beq v10.1.2.2 (r.length+8))&&Nat.beq v10.1.1.length (a++c0::c1::c2::c3::c4::c5::c6::c7::r).length)&&true)then(some ((v10.1.1,a.length,r.length+8),()))else none))from by kernel_rfl).trans (by rw[p64B,Option.bind_some,ha];rfl)
def fs(big:Bool)(fl:List Nat):List Int:=fl.flatMap fun(f:Nat)=>w64 big (f:Int)
theorem fs_len(big:Bool)(fl:List Nat):(fs big fl).length=8*fl.length:=by
 induction fl with
 |nil=>rfl
 |cons a r ih=>simp only[fs,List.flatMap_cons,List.length_append,w64_len,List.length_cons]at ih⊢;omega
theorem nthN{α:Type}{l:List α}{i:Nat}(h:i<l.length):nth l (i:Int)=some l[i]:=by
 unfold nth;rw[if_pos (by omega),Int.toNat_natCast,List.getElem?_eq_getElem h]
theorem chk2N{k h:Int}{n m:Nat}{len:Nat}(hk:k=(n:Int))(hh:h=(m:Int))(h1:n≤m)(h2:m≤len):chk2 k h len=some (n,m):=by
 subst hk;subst hh;unfold chk2;rw[if_pos ⟨by omega,by omega,by omega⟩];simp
theorem wrapN{x:Int}{n:Nat}(h:x=(n:Int))(hn:n<9223372036854775808):IntKind.i64.wrap x=(n:Int):=by
 subst h;rw[IntKind.wrap_i64];omega
theorem wFA_loop(N:Nat)(big:Bool)(b:List Int)(l:Int)(fl:List Nat)(hb:b.length+8*fl.length≤140737488355328):∀(c i n:Nat) (dn:List Int),i+c=fl.length→c+1≤n→dn.length=8*i→
 F72_l0 N n (ordC big) fl (b,0,l,()) (i:Int) (dn++List.replicate (8*c) 0)=some ((),(b++(dn++fs big (fl.drop i)),0,0,()),()):=by
 intro c
 induction c with
 |zero=>
  intro i n dn hi hn hd
  obtain⟨n,rfl⟩:∃k,n=k+1:=⟨n-1,by omega⟩
  show F72_g0 N (ordC big) fl (b,0,l,()) _ (i:Int) (dn++[])=_
  unfold F72_g0
  rw[decide_eq_false (by omega),cond_false,List.append_nil,wW N b dn l (by omega),List.drop_eq_nil_of_le (by omega),show fs big []=[]from rfl,List.append_nil]
  rfl
 |succ c ih=>
  intro i n dn hi hn hd
  obtain⟨n,rfl⟩:∃k,n=k+1:=⟨n-1,by omega⟩
  have hlt:i<fl.length:=by omega
  have hrep:List.replicate (8*(c+1)) (0:Int)=0::0::0::0::0::0::0::0::List.replicate (8*c) 0:=by
   rw[show 8*(c+1)=8*c+8 from by omega];rfl
  have hlen:(dn++List.replicate (8*(c+1)) (0:Int)).length=8*i+8*(c+1):=by simp[hd]
  have hm:8*i+8*(c+1)-8*i=(List.replicate (8*c) (0:Int)).length+8:=by rw[List.length_replicate];omega
  have hF:=wF N big dn (List.replicate (8*c) 0) 0 0 0 0 0 0 0 0 fl[i]
  have ha:=and5 ((List.replicate (8*c) (0:Int)).length+8) dn.length (dn++(w64 big (fl[i]:Int)++List.replicate (8*c) (0:Int))).length (8*i+8*(c+1)) (by omega) (by simp[w64_len,hd];omega)
  have hr:=ih (i+1) n (dn++w64 big (fl[i]:Int)) (by omega) (by omega) (by simp[w64_len,hd];omega)
  show F72_g0 N (ordC big) fl (b,0,l,()) (F72_l0 N n (ordC big) fl (b,0,l,())) (i:Int) (dn++List.replicate (8*(c+1)) 0)=_
  unfold F72_g0
  rw[decide_eq_true (by omega),cond_true,nthN hlt,Option.bind_some,hlen,chk2N (n:=8*i) (m:=8*i+8*(c+1)) (wrapN (by omega) (by omega)) rfl (by omega) (by omega),Option.bind_some]
  simp only[hm]
  rw[hrep,←hd,hF,Option.bind_some]
  simp only[]
  rw[show 8*i=dn.length from hd.symm]at ha
  rw[ha,cond_true,wrapN (n:=i+1) (by omega) (by omega),←List.append_assoc,hr,List.append_assoc,List.drop_eq_getElem_cons hlt]
  rfl
theorem wFA(N:Nat)(big:Bool)(b:List Int)(l:Int)(fl:List Nat)(hb:b.length+8*fl.length≤140737488355328)(hN:fl.length+1≤N):
 F72 N (b,0,l,()) (ordC big) fl=some ((),(b++fs big fl,0,0,()),()):=by
 unfold F72 F72_g
 have hm:mkn (IntKind.i64.wrap (8*(fl.length:Int))) (IntKind.i64.wrap (8*(fl.length:Int))) 1=some (8*fl.length):=by
  rw[wrapN (n:=8*fl.length) (by omega) (by omega)];unfold mkn;rw[if_pos ⟨by omega,by omega,by omega,by omega⟩,Int.toNat_natCast]
 rw[hm,Option.bind_some]
 have h:=wFA_loop N big b l fl hb fl.length 0 N [] (by omega) hN rfl
 simpa using h
theorem wC0(N:Nat)(big:Bool)(b:List Int)(l:Int)(fl:List Nat)(hb:b.length+8*fl.length≤140737488355328)(hN:fl.length+1≤N):
 F73 N (b,0,l,()) (ordC big) fl=some ((),(b++fs big fl,0,0,()),()):=by
 unfold F73 F73_g
 rw[wFA N big b l fl hb hN];rfl
theorem w32_len(big:Bool)(n:Int):(w32 big n).length=4:=by cases big<;>rfl
def c1(big:Bool)(fl:List Nat)(st:Int):List Int:=w32 big (IntKind.u32.wrap (IntKind.i64.wrap (Int.tdiv (fl.length:Int) st)))++fs big fl
theorem c1_len(big:Bool)(fl:List Nat)(st:Int):(c1 big fl st).length=4+8*fl.length:=by simp[c1,w32_len,fs_len]
theorem wC1(N:Nat)(big:Bool)(b:List Int)(l st:Int)(fl:List Nat)(hs:st≠0)(hb:b.length+4+8*fl.length≤140737488355328)(hN:fl.length+1≤N+8):
 F74 (N+8) (b,0,l,()) (ordC big) fl st=some ((),(b++c1 big fl st,0,0,()),()):=by
 unfold F74 F74_g
 rw[if_neg hs,wU N big b l _ (by omega),Option.bind_some]
 show(F72 (N+8) (b++w32 big _,0,0,()) (ordC big) fl).bind _=_
 rw[wFA (N+8) big _ 0 fl (by simp[w32_len];omega) hN,List.append_assoc];rfl
end Go.Proofs.YtllnonlmibanfaaGreatDoor.WC
namespace Go.Av
open Go
end Go.Av
namespace Go.Av
open Go
theorem gate_pos{R:Type}{n:Nat}(h:0<n)(x:Option R):gate n x=x:=by
 cases n with
 |zero=>omega
 |succ n=>rfl
theorem nth_nat{α:Type}(xs:List α)(i:Nat):nth xs (i:Int)=xs[i]?:=by
 unfold nth;rw[if_pos (by omega)];simp
theorem wrap_in{n:Int}(h:-9223372036854775808≤n∧n≤9223372036854775807):IntKind.i64.wrap n=n:=by
 simp[IntKind.wrap,IntKind.signed,IntKind.bits]
 omega
theorem lim_le{n:Nat}(h:n≤140737488355328):lim n=some ():=by
 unfold lim;rw[if_pos h]
end Go.Av
namespace Go.Av
open Go
section
variable {α σ R:Type} {xs:List α}
theorem foldLoop{L:Nat→Int→σ→Option R}{f:σ→α→σ}{fin:σ→Option R}(P:Nat→σ→Prop)
 (hend:∀n st,P xs.length st→L (n+1) (xs.length:Int) st=fin st)
 (hstep:∀n i st (h:i<xs.length),P i st→L (n+1) (i:Int) st=L n ((i+1:Nat):Int) (f st xs[i])∧P (i+1) (f st xs[i])):
 ∀(c i n:Nat) (st:σ),i+c=xs.length→c+1≤n→P i st→L n (i:Int) st=fin ((xs.drop i).foldl f st)∧P xs.length ((xs.drop i).foldl f st)
 |0,i,n,st,hi,hn,hp=>by
  obtain⟨n,rfl⟩:∃m,n=m+1:=⟨n-1,by omega⟩
  have e:i=xs.length:=by omega
  subst e
  rw[List.drop_length]
  exact⟨hend n st hp,hp⟩
 |c+1,i,n,st,hi,hn,hp=>by
  obtain⟨n,rfl⟩:∃m,n=m+1:=⟨n-1,by omega⟩
  have hlt:i<xs.length:=by omega
  obtain⟨h1,h2⟩:=hstep n i st hlt hp
  rw[h1,List.drop_eq_getElem_cons hlt,List.foldl_cons]
  exact foldLoop P hend hstep c (i+1) n _ (by omega) (by omega) h2
theorem foldLoop0{L:Nat→Int→σ→Option R}{f:σ→α→σ}{fin:σ→Option R}(P:Nat→σ→Prop)
 (hend:∀n st,P xs.length st→L (n+1) (xs.length:Int) st=fin st)
 (hstep:∀n i st (h:i<xs.length),P i st→L (n+1) (i:Int) st=L n ((i+1:Nat):Int) (f st xs[i])∧P (i+1) (f st xs[i]))
 (n:Nat) (st:σ) (hn:xs.length+1≤n) (hp:P 0 st):L n 0 st=fin (xs.foldl f st)∧P xs.length (xs.foldl f st):=by
 have:=foldLoop P hend hstep xs.length 0 n st (by omega) hn hp
 simpa using this
theorem checkLoop{L:Nat→Int→Option R}{e:Option R→Prop}{fin:Option R}(Q:α→Prop)
 (hend:∀n,L (n+1) (xs.length:Int)=fin)
 (hstep:∀n i (h:i<xs.length),e (L (n+1) (i:Int))∨(L (n+1) (i:Int)=L n ((i+1:Nat):Int)∧Q xs[i])):
 ∀(c i n:Nat),i+c=xs.length→c+1≤n→e (L n (i:Int))∨(L n (i:Int)=fin∧∀x∈xs.drop i,Q x)
 |0,i,n,hi,hn=>by
  obtain⟨n,rfl⟩:∃m,n=m+1:=⟨n-1,by omega⟩
  have h:i=xs.length:=by omega
  subst h
  rw[List.drop_length]
  exact .inr ⟨hend n,fun x hx=>by simp at hx⟩
 |c+1,i,n,hi,hn=>by
  obtain⟨n,rfl⟩:∃m,n=m+1:=⟨n-1,by omega⟩
  have hlt:i<xs.length:=by omega
  rcases hstep n i hlt with h|⟨h1,h2⟩
  ·exact .inl h
  ·rw[h1,List.drop_eq_getElem_cons hlt]
   rcases checkLoop Q hend hstep c (i+1) n (by omega) (by omega)with h|⟨h3,h4⟩
   ·exact .inl h
   ·exact .inr ⟨h3,fun x hx=>by
     rcases List.mem_cons.1 hx with rfl|hx
     ·exact h2
     ·exact h4 x hx⟩
theorem checkLoop0{L:Nat→Int→Option R}{e:Option R→Prop}{fin:Option R}(Q:α→Prop)
 (hend:∀n,L (n+1) (xs.length:Int)=fin)
 (hstep:∀n i (h:i<xs.length),e (L (n+1) (i:Int))∨(L (n+1) (i:Int)=L n ((i+1:Nat):Int)∧Q xs[i]))
 (n:Nat) (hn:xs.length+1≤n):e (L n 0)∨(L n 0=fin∧∀x∈xs,Q x):=by
 have:=checkLoop Q hend hstep xs.length 0 n (by omega) hn
 simpa using this
theorem stateLoop{L:Nat→Int→σ→Option R}{e:Option R→Prop}{fin:σ→Option R}(P:Nat→σ→Prop)
 (hend:∀n st,P xs.length st→L (n+1) (xs.length:Int) st=fin st)
 (hstep:∀n i st (h:i<xs.length),P i st→e (L (n+1) (i:Int) st)∨∃st',L (n+1) (i:Int) st=L n ((i+1:Nat):Int) st'∧P (i+1) st'):
 ∀(c i n:Nat) (st:σ),i+c=xs.length→c+1≤n→P i st→e (L n (i:Int) st)∨∃st',L n (i:Int) st=fin st'∧P xs.length st'
 |0,i,n,st,hi,hn,hp=>by
  obtain⟨n,rfl⟩:∃m,n=m+1:=⟨n-1,by omega⟩
  have h:i=xs.length:=by omega
  subst h
  exact .inr ⟨st,hend n st hp,hp⟩
 |c+1,i,n,st,hi,hn,hp=>by
  obtain⟨n,rfl⟩:∃m,n=m+1:=⟨n-1,by omega⟩
  have hlt:i<xs.length:=by omega
  rcases hstep n i st hlt hp with h|⟨st',h1,h2⟩
  ·exact .inl h
  ·rw[h1]
   exact stateLoop P hend hstep c (i+1) n st' (by omega) (by omega) h2
theorem stateLoop0{L:Nat→Int→σ→Option R}{e:Option R→Prop}{fin:σ→Option R}(P:Nat→σ→Prop)
 (hend:∀n st,P xs.length st→L (n+1) (xs.length:Int) st=fin st)
 (hstep:∀n i st (h:i<xs.length),P i st→e (L (n+1) (i:Int) st)∨∃st',L (n+1) (i:Int) st=L n ((i+1:Nat):Int) st'∧P (i+1) st')
 (n:Nat) (st:σ) (hn:xs.length+1≤n) (hp:P 0 st):e (L n 0 st)∨∃st',L n 0 st=fin st'∧P xs.length st':=by
 have:=stateLoop P hend hstep xs.length 0 n st (by omega) hn hp
 simpa using this
end
theorem nth_get{α:Type}{xs:List α}{i:Nat}(h:i<xs.length):nth xs (i:Int)=some xs[i]:=by rw[nth_nat,List.getElem?_eq_getElem h]
theorem succ_in{i n:Nat}(h:i<n)(hn:n≤9223372036854775807):IntKind.i64.wrap ((i:Int)+1)=((i+1:Nat):Int):=by rw[wrap_in (by omega)];omega
end Go.Av
namespace Go.Av
open Go
theorem take_snoc{α:Type}{xs:List α}{i:Nat}(h:i<xs.length):xs.take (i+1)=xs.take i++[xs[i]]:=by
 rw[List.take_add_one,List.getElem?_eq_getElem h];rfl
theorem w32_eq(n:Int):IntKind.u32.wrap n=n%4294967296:=by simp[IntKind.wrap,IntKind.signed,IntKind.bits]
theorem w64_eq(n:Int):IntKind.u64.wrap n=n%18446744073709551616:=by simp[IntKind.wrap,IntKind.signed,IntKind.bits]
theorem w64_in{n:Int}(h:0≤n∧n<18446744073709551616):IntKind.u64.wrap n=n:=by rw[w64_eq];omega
end Go.Av
namespace Go.Proofs.YtllnonlmibanfaaGreatDoor.WC
open Go Go.Av
theorem orR{s:Nat}{p a c:Int}(hp:p=((2^s:Nat):Int))(hs:s≤64)(ha:0≤a∧a<18446744073709551616)(hd:p∣a)(hc:0≤c∧c<p):bits .or .u64 a c=a+c:=by
 subst hp
 obtain⟨A,rfl⟩:=Int.eq_ofNat_of_zero_le ha.1
 obtain⟨C,rfl⟩:=Int.eq_ofNat_of_zero_le hc.1
 have hC:C<2^s:=by omega
 have hD:2^s∣A:=by exact_mod_cast hd
 obtain⟨q,rfl⟩:=hD
 have hp:2^s*2^(64-s)=18446744073709551616:=by rw[←Nat.pow_add,show s+(64-s)=64 by omega]
 have hq:q<2^(64-s):=by
  have h1:2^s*q<2^s*2^(64-s):=by rw[hp];omega
  exact Nat.lt_of_mul_lt_mul_left h1
 have hsum:2^s*q+C<18446744073709551616:=by
  have h1:2^s*(q+1)≤2^s*2^(64-s):=Nat.mul_le_mul_left _ (by omega)
  rw[hp,Nat.mul_add,Nat.mul_one]at h1
  omega
 have hor:2^s*q|||C=2^s*q+C:=(Nat.two_pow_add_eq_or_of_lt hC q).symm
 unfold bits
 have e1:BitVec.ofInt (IntKind.bits .u64) ((2^s*q:Nat):Int)=BitVec.ofNat 64 (2^s*q):=by
  rw[BitVec.ofInt_natCast];rfl
 have e2:BitVec.ofInt (IntKind.bits .u64) ((C:Nat):Int)=BitVec.ofNat 64 C:=by
  rw[BitVec.ofInt_natCast];rfl
 skip
 rw[e1,e2,w64_eq]
 have e3:(BitVec.ofNat 64 (2^s*q)|||BitVec.ofNat 64 C).toNat=2^s*q+C:=by
  rw[BitVec.toNat_or,BitVec.toNat_ofNat,BitVec.toNat_ofNat,Nat.mod_eq_of_lt (by omega),Nat.mod_eq_of_lt (by omega),hor]
 have e4:((BitVec.ofNat 64 (2^s*q)|||BitVec.ofNat 64 C:BitVec (IntKind.bits .u64)).toNat:Int)=((2^s*q+C:Nat):Int):=by exact_mod_cast e3
 show((BitVec.ofNat 64 (2^s*q)|||BitVec.ofNat 64 C:BitVec (IntKind.bits .u64)).toNat:Int)%18446744073709551616=_
 rw[e4]
 omega
theorem orComm(k:IntKind)(a c:Int):bits .or k a c=bits .or k c a:=by
 unfold bits
 simp only[BitVec.or_comm]
theorem orL{s:Nat}{p a c:Int}(hp:p=((2^s:Nat):Int))(hs:s≤64)(hc:0≤c∧c<18446744073709551616)(hd:p∣c)(ha:0≤a∧a<p):bits .or .u64 a c=a+c:=by
 rw[orComm,orR hp hs hc hd ha,Int.add_comm]
theorem w32_in{n:Int}(h:0≤n∧n<4294967296):IntKind.u32.wrap n=n:=by rw[w32_eq];omega
theorem orR3{s:Nat}{p a c:Int}(hp:p=((2^s:Nat):Int))(hs:s≤32)(ha:0≤a∧a<4294967296)(hd:p∣a)(hc:0≤c∧c<p):bits .or .u32 a c=a+c:=by
 subst hp
 obtain⟨A,rfl⟩:=Int.eq_ofNat_of_zero_le ha.1
 obtain⟨C,rfl⟩:=Int.eq_ofNat_of_zero_le hc.1
 have hC:C<2^s:=by omega
 have hD:2^s∣A:=by exact_mod_cast hd
 obtain⟨q,rfl⟩:=hD
 have hp:2^s*2^(32-s)=4294967296:=by rw[←Nat.pow_add,show s+(32-s)=32 by omega]
 have hq:q<2^(32-s):=by
  have h1:2^s*q<2^s*2^(32-s):=by rw[hp];omega
  exact Nat.lt_of_mul_lt_mul_left h1
 have hsum:2^s*q+C<4294967296:=by
  have h1:2^s*(q+1)≤2^s*2^(32-s):=Nat.mul_le_mul_left _ (by omega)
  rw[hp,Nat.mul_add,Nat.mul_one]at h1
  omega
 have hor:2^s*q|||C=2^s*q+C:=(Nat.two_pow_add_eq_or_of_lt hC q).symm
 unfold bits
 have e1:BitVec.ofInt (IntKind.bits .u32) ((2^s*q:Nat):Int)=BitVec.ofNat 32 (2^s*q):=by
  rw[BitVec.ofInt_natCast];rfl
 have e2:BitVec.ofInt (IntKind.bits .u32) ((C:Nat):Int)=BitVec.ofNat 32 C:=by
  rw[BitVec.ofInt_natCast];rfl
 skip
 rw[e1,e2,w32_eq]
 have e3:(BitVec.ofNat 32 (2^s*q)|||BitVec.ofNat 32 C).toNat=2^s*q+C:=by
  rw[BitVec.toNat_or,BitVec.toNat_ofNat,BitVec.toNat_ofNat,Nat.mod_eq_of_lt (by omega),Nat.mod_eq_of_lt (by omega),hor]
 have e4:((BitVec.ofNat 32 (2^s*q)|||BitVec.ofNat 32 C:BitVec (IntKind.bits .u32)).toNat:Int)=((2^s*q+C:Nat):Int):=by exact_mod_cast e3
 show((BitVec.ofNat 32 (2^s*q)|||BitVec.ofNat 32 C:BitVec (IntKind.bits .u32)).toNat:Int)%4294967296=_
 rw[e4]
 omega
theorem orL3{s:Nat}{p a c:Int}(hp:p=((2^s:Nat):Int))(hs:s≤32)(hc:0≤c∧c<4294967296)(hd:p∣c)(ha:0≤a∧a<p):bits .or .u32 a c=a+c:=by
 rw[orComm,orR3 hp hs hc hd ha,Int.add_comm]
theorem y8:(2:Int)^(min (8:Int).toNat (IntKind.bits .u32))=256:=by decide+kernel
theorem y16:(2:Int)^(min (16:Int).toNat (IntKind.bits .u32))=65536:=by decide+kernel
theorem y24:(2:Int)^(min (24:Int).toNat (IntKind.bits .u32))=16777216:=by decide+kernel
def Byte(x:Int):Prop:=0≤x∧x≤255
theorem four(x0 x1 x2 x3:Int)(h0:Byte x0)(h1:Byte x1)(h2:Byte x2)(h3:Byte x3):
 bits .or .u32 (bits .or .u32 (bits .or .u32 (IntKind.u32.wrap x3) (IntKind.u32.wrap ((IntKind.u32.wrap x2)*2^(min (8:Int).toNat (IntKind.bits .u32))))) (IntKind.u32.wrap ((IntKind.u32.wrap x1)*2^(min (16:Int).toNat (IntKind.bits .u32))))) (IntKind.u32.wrap ((IntKind.u32.wrap x0)*2^(min (24:Int).toNat (IntKind.bits .u32))))
  =((x0*256+x1)*256+x2)*256+x3:=by
 unfold Byte at *
 rw[y8,y16,y24]
 rw[w32_in (n:=x0) (by omega),w32_in (n:=x1) (by omega),w32_in (n:=x2) (by omega),w32_in (n:=x3) (by omega)]
 rw[w32_in (n:=x2*256) (by omega),w32_in (n:=x1*65536) (by omega),w32_in (n:=x0*16777216) (by omega)]
 rw[orL3 (s:=8) (p:=256) (by decide) (by decide) (by omega) ⟨x2,Int.mul_comm _ _⟩ (by omega)]
 rw[orL3 (s:=16) (p:=65536) (by decide) (by decide) (by omega) ⟨x1,Int.mul_comm _ _⟩ (by omega)]
 rw[orL3 (s:=24) (p:=16777216) (by decide) (by decide) (by omega) ⟨x0,Int.mul_comm _ _⟩ (by omega)]
 omega
theorem eight(x0 x1 x2 x3 x4 x5 x6 x7:Int)(h0:Byte x0)(h1:Byte x1)(h2:Byte x2)(h3:Byte x3)(h4:Byte x4)(h5:Byte x5)(h6:Byte x6)(h7:Byte x7):
 bits .or .u64 (bits .or .u64 (bits .or .u64 (bits .or .u64 (bits .or .u64 (bits .or .u64 (bits .or .u64 (IntKind.u64.wrap x7) (IntKind.u64.wrap ((IntKind.u64.wrap x6)*2^(min (8:Int).toNat (IntKind.bits .u64))))) (IntKind.u64.wrap ((IntKind.u64.wrap x5)*2^(min (16:Int).toNat (IntKind.bits .u64))))) (IntKind.u64.wrap ((IntKind.u64.wrap x4)*2^(min (24:Int).toNat (IntKind.bits .u64))))) (IntKind.u64.wrap ((IntKind.u64.wrap x3)*2^(min (32:Int).toNat (IntKind.bits .u64))))) (IntKind.u64.wrap ((IntKind.u64.wrap x2)*2^(min (40:Int).toNat (IntKind.bits .u64))))) (IntKind.u64.wrap ((IntKind.u64.wrap x1)*2^(min (48:Int).toNat (IntKind.bits .u64))))) (IntKind.u64.wrap ((IntKind.u64.wrap x0)*2^(min (56:Int).toNat (IntKind.bits .u64))))
  =(((((((0*256+x0)*256+x1)*256+x2)*256+x3)*256+x4)*256+x5)*256+x6)*256+x7:=by
 unfold Byte at *
 rw[z8,z16,z24,z32,z40,z48,z56]
 rw[w64_in (n:=x0) (by omega),w64_in (n:=x1) (by omega),w64_in (n:=x2) (by omega),w64_in (n:=x3) (by omega),w64_in (n:=x4) (by omega),w64_in (n:=x5) (by omega),w64_in (n:=x6) (by omega),w64_in (n:=x7) (by omega)]
 rw[w64_in (n:=x6*256) (by omega),w64_in (n:=x5*65536) (by omega),w64_in (n:=x4*16777216) (by omega),w64_in (n:=x3*4294967296) (by omega),w64_in (n:=x2*1099511627776) (by omega),w64_in (n:=x1*281474976710656) (by omega),w64_in (n:=x0*72057594037927936) (by omega)]
 rw[orL (s:=8) (p:=256) (by decide) (by decide) (by omega) ⟨x6,Int.mul_comm _ _⟩ (by omega)]
 rw[orL (s:=16) (p:=65536) (by decide) (by decide) (by omega) ⟨x5,Int.mul_comm _ _⟩ (by omega)]
 rw[orL (s:=24) (p:=16777216) (by decide) (by decide) (by omega) ⟨x4,Int.mul_comm _ _⟩ (by omega)]
 rw[orL (s:=32) (p:=4294967296) (by decide) (by decide) (by omega) ⟨x3,Int.mul_comm _ _⟩ (by omega)]
 rw[orL (s:=40) (p:=1099511627776) (by decide) (by decide) (by omega) ⟨x2,Int.mul_comm _ _⟩ (by omega)]
 rw[orL (s:=48) (p:=281474976710656) (by decide) (by decide) (by omega) ⟨x1,Int.mul_comm _ _⟩ (by omega)]
 rw[orL (s:=56) (p:=72057594037927936) (by decide) (by decide) (by omega) ⟨x0,Int.mul_comm _ _⟩ (by omega)]
 omega
theorem w8_eq(n:Int):IntKind.u8.wrap n=n%256:=by simp[IntKind.wrap,IntKind.signed,IntKind.bits]
theorem byte_w(n:Int):Byte (IntKind.u8.wrap n):=by rw[w8_eq];unfold Byte;omega
theorem fd{n:Int}(p:Int)(hp:0≤p):Int.fdiv n p=n/p:=Int.fdiv_eq_ediv_of_nonneg _ hp
theorem qq24:(2:Int)^24=16777216:=by decide+kernel
theorem qq16:(2:Int)^16=65536:=by decide+kernel
theorem qq8:(2:Int)^8=256:=by decide+kernel
theorem u32B(N:Nat)(n:Int)(h:0≤n∧n<4294967296):F101 N () (w32 true n)=some n:=by
 refine Eq.trans (b:=some _) rfl ?_
 rw[four _ _ _ _ (byte_w _) (byte_w _) (byte_w _) (byte_w _),w8_eq,w8_eq,w8_eq,w8_eq,qq24,qq16,qq8,fd _ (by decide),fd _ (by decide),fd _ (by decide)]
 congr 1;omega
theorem u32L(N:Nat)(n:Int)(h:0≤n∧n<4294967296):F102 N () (w32 false n)=some n:=by
 refine Eq.trans (b:=some _) rfl ?_
 rw[four _ _ _ _ (byte_w _) (byte_w _) (byte_w _) (byte_w _),w8_eq,w8_eq,w8_eq,w8_eq,qq24,qq16,qq8,fd _ (by decide),fd _ (by decide),fd _ (by decide)]
 congr 1;omega
theorem u64B(N:Nat)(n:Int)(r:List Int)(h:0≤n∧n<18446744073709551616):F107 N () (w64 true n++r)=some n:=by
 have g:∀i:Nat,i<8→nth (w64 true n++r) (i:Int)=(w64 true n)[i]?:=fun i hi=>by
  rw[nth_nat,List.getElem?_append_left (by rw[w64_len];exact hi)]
 unfold F107 F107_g
 rw[show nth (w64 true n++r) 7=_ from g 7 (by decide),show nth (w64 true n++r) 6=_ from g 6 (by decide),show nth (w64 true n++r) 5=_ from g 5 (by decide),show nth (w64 true n++r) 4=_ from g 4 (by decide),show nth (w64 true n++r) 3=_ from g 3 (by decide),show nth (w64 true n++r) 2=_ from g 2 (by decide),show nth (w64 true n++r) 1=_ from g 1 (by decide),show nth (w64 true n++r) 0=_ from g 0 (by decide)]
 refine Eq.trans (b:=some _) rfl ?_
 rw[eight _ _ _ _ _ _ _ _ (byte_w _) (byte_w _) (byte_w _) (byte_w _) (byte_w _) (byte_w _) (byte_w _) (byte_w _)]
 simp only[w8_eq,fd _ (show(0:Int)≤256 from by decide),fd _ (show(0:Int)≤65536 from by decide),fd _ (show(0:Int)≤16777216 from by decide),fd _ (show(0:Int)≤4294967296 from by decide),fd _ (show(0:Int)≤1099511627776 from by decide),fd _ (show(0:Int)≤281474976710656 from by decide),fd _ (show(0:Int)≤72057594037927936 from by decide)]
 congr 1;omega
theorem u64L(N:Nat)(n:Int)(r:List Int)(h:0≤n∧n<18446744073709551616):F108 N () (w64 false n++r)=some n:=by
 have g:∀i:Nat,i<8→nth (w64 false n++r) (i:Int)=(w64 false n)[i]?:=fun i hi=>by
  rw[nth_nat,List.getElem?_append_left (by rw[w64_len];exact hi)]
 unfold F108 F108_g
 rw[show nth (w64 false n++r) 7=_ from g 7 (by decide),show nth (w64 false n++r) 6=_ from g 6 (by decide),show nth (w64 false n++r) 5=_ from g 5 (by decide),show nth (w64 false n++r) 4=_ from g 4 (by decide),show nth (w64 false n++r) 3=_ from g 3 (by decide),show nth (w64 false n++r) 2=_ from g 2 (by decide),show nth (w64 false n++r) 1=_ from g 1 (by decide),show nth (w64 false n++r) 0=_ from g 0 (by decide)]
 refine Eq.trans (b:=some _) rfl ?_
 rw[eight _ _ _ _ _ _ _ _ (byte_w _) (byte_w _) (byte_w _) (byte_w _) (byte_w _) (byte_w _) (byte_w _) (byte_w _)]
 simp only[w8_eq,fd _ (show(0:Int)≤256 from by decide),fd _ (show(0:Int)≤65536 from by decide),fd _ (show(0:Int)≤16777216 from by decide),fd _ (show(0:Int)≤4294967296 from by decide),fd _ (show(0:Int)≤1099511627776 from by decide),fd _ (show(0:Int)≤281474976710656 from by decide),fd _ (show(0:Int)≤72057594037927936 from by decide)]
 congr 1;omega
theorem rF(N:Nat)(big:Bool)(f:Nat)(r:List Int)(h:f<18446744073709551616):F109 (N+8) (w64 big (f:Int)++r) (ordC big)=some f:=by
 cases big
 ·refine Eq.trans (b:=(F108 (N+8) () (w64 false (f:Int)++r)).bind fun v=>F109_j0 (N+8) v) (by kernel_rfl) ?_
  rw[u64L (N+8) (f:Int) r ⟨by omega,by omega⟩];rfl
 ·refine Eq.trans (b:=(F107 (N+8) () (w64 true (f:Int)++r)).bind fun v=>F109_j0 (N+8) v) (by kernel_rfl) ?_
  rw[u64B (N+8) (f:Int) r ⟨by omega,by omega⟩];rfl
theorem drop_lt{bs e r:List Int}{o:Nat}(h:bs.drop o=e++r)(he:0<e.length):o+e.length+r.length=bs.length:=by
 have h1:=congrArg List.length h
 rw[List.length_drop,List.length_append]at h1
 omega
theorem drop_drop'{bs e r:List Int}{o:Nat}(h:bs.drop o=e++r):bs.drop (o+e.length)=r:=by
 rw[←List.drop_drop,h,List.drop_left]
theorem rd1(N:Nat)(bs:List Int)(o:Nat)(l x:Int)(r:List Int)(h:bs.drop o=x::r)(hb:bs.length≤1000000000000):
 F99 (N+8) (bs,(o:Int),l,()) [0]=some (Sum.inl (1,(),(bs,((o+1:Nat):Int), -1,()),[x],())):=by
 have hl:=drop_lt (e:=[x]) (r:=r) h (by simp)
 simp only[List.length_cons,List.length_nil]at hl
 have ht:(bs.drop o).take (bs.length-o)=x::r:=by rw[List.take_of_length_le (by simp),h]
 have hm:min (x::r).length ([0]:List Int).length=1:=by simp
 unfold F99 F99_g F97 F97_g
 simp only[Option.bind_some]
 rw[decide_eq_false (by omega),cond_false,chk2N (n:=o) (m:=bs.length) rfl rfl (by omega) (by omega),Option.bind_some]
 simp only[]
 rw[ht,hm,decide_eq_true (by decide),cond_true]
 unfold F99_j0 F99_g0
 rw[gate_pos (by omega)]
 simp only[]
 rw[ht,hm,wrapN (n:=o+1) (by omega) (by omega),List.drop_eq_nil_of_le (by simp),List.append_nil]
 rfl
theorem rB(N:Nat)(bs:List Int)(o:Nat)(l x:Int)(r:List Int)(h:bs.drop o=x::r)(hb:bs.length≤1000000000000):
 F100 (N+8) (bs,(o:Int),l,())=some (Sum.inr (x,(),(bs,((o+1:Nat):Int), -1,()),())):=by
 unfold F100 F100_g
 rw[rd1 N bs o l x r h hb]
 rfl
theorem rdb(N:Nat)(bs:List Int)(o:Nat)(l:Int)(e r ys:List Int)(h:bs.drop o=e++r)(he:e.length=ys.length)(hy:0<ys.length)(hb:bs.length≤1000000000000):
 F103 (N+8) (bs,(o:Int),l,()) (ys,0,ys.length)=some (Sum.inl ((ys.length:Int),(),(bs,((o+ys.length:Nat):Int), -1,()),(e,0,ys.length),())):=by
 have hl:=drop_lt h (by omega)
 have ht:(bs.drop o).take (bs.length-o)=e++r:=by rw[List.take_of_length_le (by simp),h]
 have hm:min (e++r).length ys.length=ys.length:=by rw[List.length_append];omega
 unfold F103 F103_g F97 F97_g
 simp only[Option.bind_some]
 rw[decide_eq_false (by omega),cond_false,chk2N (n:=o) (m:=bs.length) rfl rfl (by omega) (by omega),Option.bind_some]
 simp only[]
 rw[ht,hm,decide_eq_true (by omega),cond_true]
 unfold F103_j0 F103_g0
 rw[gate_pos (by omega)]
 simp only[]
 rw[ht,hm,wrapN (n:=o+ys.length) (by omega) (by omega),List.take_zero,List.nil_append,Nat.zero_add,List.drop_eq_nil_of_le (Nat.le_refl _),List.append_nil,List.take_left' he]
theorem rab(N:Nat)(bs:List Int)(o:Nat)(l:Int)(e r ys:List Int)(h:bs.drop o=e++r)(he:e.length=ys.length)(hb:bs.length≤1000000000000)(l':Int)(hl':l'=if ys=[]then l else-1):
 F104 (N+8) (bs,(o:Int),l,()) ys (ys.length:Int)=some (Sum.inr (Sum.inl ((ys.length:Int),(),(bs,((o+ys.length:Nat):Int),l',()),e,()))):=by
 subst hl'
 unfold F104 F104_g
 rw[decide_eq_false (by omega),cond_false]
 by_cases hy:ys=[]
 ·subst hy
  have:e=[]:=List.eq_nil_of_length_eq_zero he
  subst this
  rw[if_pos rfl]
  show F104_g0 (N+8) 0 _ _ _ 0 bs (o:Int) l []=_
  unfold F104_g0
  rw[decide_eq_false (by omega),cond_false,gate_pos (by omega),decide_eq_true (by omega),cond_true]
  rfl
 ·have hpos:0<ys.length:=List.length_pos_iff.2 hy
  have hl:=drop_lt h (by omega)
  rw[if_neg hy]
  show F104_g0 (N+8) (ys.length:Int) (F104_l1 (N+8) (N+7)) (F104_j2 (N+8)) (F104_l0 (N+8) (N+7) (ys.length:Int)) 0 bs (o:Int) l ys=_
  unfold F104_g0
  rw[decide_eq_true (by omega),cond_true,chk2N (k:=0) (n:=0) (m:=ys.length) (len:=ys.length) rfl rfl (by omega) (by omega),Option.bind_some]
  simp only[]
  rw[Nat.sub_zero,rdb N bs o l e r ys h he hpos hb,Option.bind_some]
  simp only[Sum.elim_inl]
  have ha:=and5 ys.length 0 e.length ys.length (by omega) he
  rw[ha,cond_true,wrapN (n:=ys.length) (by omega) (by omega)]
  show F104_g0 (N+8) (ys.length:Int) (F104_l1 (N+8) (N+6)) (F104_j2 (N+8)) (F104_l0 (N+8) (N+6) (ys.length:Int)) (ys.length:Int) bs ((o+ys.length:Nat):Int) (-1) e=_
  unfold F104_g0
  rw[decide_eq_false (by omega),cond_false,gate_pos (by omega),decide_eq_true (by omega),cond_true]
theorem rfb(N:Nat)(bs:List Int)(o:Nat)(l:Int)(e r ys:List Int)(h:bs.drop o=e++r)(he:e.length=ys.length)(hb:bs.length≤1000000000000)(l':Int)(hl':l'=if ys=[]then l else-1):
 F105 (N+8) (bs,(o:Int),l,()) ys=some (Sum.inr (Sum.inl ((ys.length:Int),(),(bs,((o+ys.length:Nat):Int),l',()),e,()))):=by
 unfold F105 F105_g
 rw[rab N bs o l e r ys h he hb l' hl']
 rfl
theorem rdc(N:Nat)(bs:List Int)(o:Nat)(l:Int)(e r ys:List Int)(h:bs.drop o=e++r)(he:e.length=ys.length)(hy:0<ys.length)(hb:bs.length≤1000000000000):
 F110 (N+8) (bs,(o:Int),l,()) (ys,0,ys.length)=some (Sum.inl ((ys.length:Int),(),(bs,((o+ys.length:Nat):Int), -1,()),(e,0,ys.length),())):=by
 have hl:=drop_lt h (by omega)
 have ht:(bs.drop o).take (bs.length-o)=e++r:=by rw[List.take_of_length_le (by simp),h]
 have hm:min (e++r).length ys.length=ys.length:=by rw[List.length_append];omega
 unfold F110 F110_g F97 F97_g
 simp only[Option.bind_some]
 rw[decide_eq_false (by omega),cond_false,chk2N (n:=o) (m:=bs.length) rfl rfl (by omega) (by omega),Option.bind_some]
 simp only[]
 rw[ht,hm,decide_eq_true (by omega),cond_true]
 unfold F110_j0 F110_g0
 rw[gate_pos (by omega)]
 simp only[]
 rw[ht,hm,wrapN (n:=o+ys.length) (by omega) (by omega),List.take_zero,List.nil_append,Nat.zero_add,List.drop_eq_nil_of_le (Nat.le_refl _),List.append_nil,List.take_left' he]
theorem rac(N:Nat)(bs:List Int)(o:Nat)(l:Int)(e r ys:List Int)(h:bs.drop o=e++r)(he:e.length=ys.length)(hb:bs.length≤1000000000000)(l':Int)(hl':l'=if ys=[]then l else-1):
 F111 (N+8) (bs,(o:Int),l,()) ys (ys.length:Int)=some (Sum.inr (Sum.inl ((ys.length:Int),(),(bs,((o+ys.length:Nat):Int),l',()),e,()))):=by
 subst hl'
 unfold F111 F111_g
 rw[decide_eq_false (by omega),cond_false]
 by_cases hy:ys=[]
 ·subst hy
  have:e=[]:=List.eq_nil_of_length_eq_zero he
  subst this
  rw[if_pos rfl]
  show F111_g0 (N+8) 0 _ _ _ 0 bs (o:Int) l []=_
  unfold F111_g0
  rw[decide_eq_false (by omega),cond_false,gate_pos (by omega),decide_eq_true (by omega),cond_true]
  rfl
 ·have hpos:0<ys.length:=List.length_pos_iff.2 hy
  have hl:=drop_lt h (by omega)
  rw[if_neg hy]
  show F111_g0 (N+8) (ys.length:Int) (F111_l1 (N+8) (N+7)) (F111_j2 (N+8)) (F111_l0 (N+8) (N+7) (ys.length:Int)) 0 bs (o:Int) l ys=_
  unfold F111_g0
  rw[decide_eq_true (by omega),cond_true,chk2N (k:=0) (n:=0) (m:=ys.length) (len:=ys.length) rfl rfl (by omega) (by omega),Option.bind_some]
  simp only[]
  rw[Nat.sub_zero,rdc N bs o l e r ys h he hpos hb,Option.bind_some]
  simp only[Sum.elim_inl]
  have ha:=and5 ys.length 0 e.length ys.length (by omega) he
  rw[ha,cond_true,wrapN (n:=ys.length) (by omega) (by omega)]
  show F111_g0 (N+8) (ys.length:Int) (F111_l1 (N+8) (N+6)) (F111_j2 (N+8)) (F111_l0 (N+8) (N+6) (ys.length:Int)) (ys.length:Int) bs ((o+ys.length:Nat):Int) (-1) e=_
  unfold F111_g0
  rw[decide_eq_false (by omega),cond_false,gate_pos (by omega),decide_eq_true (by omega),cond_true]
theorem rfc(N:Nat)(bs:List Int)(o:Nat)(l:Int)(e r ys:List Int)(h:bs.drop o=e++r)(he:e.length=ys.length)(hb:bs.length≤1000000000000)(l':Int)(hl':l'=if ys=[]then l else-1):
 F112 (N+8) (bs,(o:Int),l,()) ys=some (Sum.inr (Sum.inl ((ys.length:Int),(),(bs,((o+ys.length:Nat):Int),l',()),e,()))):=by
 unfold F112 F112_g
 rw[rac N bs o l e r ys h he hb l' hl']
 rfl
theorem rU(N:Nat)(big:Bool)(bs:List Int)(o:Nat)(l n:Int)(r:List Int)(h:bs.drop o=w32 big n++r)(hn:0≤n∧n<4294967296)(hb:bs.length≤1000000000000):
 F106 (N+8) (bs,(o:Int),l,()) (ordC big)=some (Sum.inr (Sum.inr (Sum.inr (n,(),(bs,((o+4:Nat):Int), -1,()),())))):=by
 have hf:=rfb N bs o l (w32 big n) r [0,0,0,0] h (by rw[w32_len];rfl) hb (-1) (by simp)
 unfold F106 F106_g
 rw[hf,Option.bind_some]
 cases big
 ·refine Eq.trans (b:=(F102 (N+8) () (w32 false n)).bind fun v25=>some (Sum.inr (Sum.inr (Sum.inr (v25,(),(bs,((o+4:Nat):Int), -1,()),()))))) (by kernel_rfl) ?_
  rw[u32L _ n hn];rfl
 ·refine Eq.trans (b:=(F101 (N+8) () (w32 true n)).bind fun v25=>some (Sum.inr (Sum.inr (Sum.inr (v25,(),(bs,((o+4:Nat):Int), -1,()),()))))) (by kernel_rfl) ?_
  rw[u32B _ n hn];rfl
theorem fs_cons(big:Bool)(a:Nat)(r:List Nat):fs big (a::r)=w64 big (a:Int)++fs big r:=rfl
theorem fs_drop(big:Bool):∀(fl:List Nat) (i:Nat),(fs big fl).drop (8*i)=fs big (fl.drop i)
 |fl,0=>by simp
 |[],i+1=>by simp[fs]
 |a::r,i+1=>by
  have h:(w64 big (a:Int)).length=8:=w64_len big _
  rw[fs_cons,show 8*(i+1)=(w64 big (a:Int)).length+8*i from by omega,←List.drop_drop,List.drop_left,fs_drop big r i]
  rfl
theorem rFA_loop(N:Nat)(big:Bool)(fl:List Nat)(hf:∀f∈fl,f<18446744073709551616)(hl:fl.length≤1000000000000)(v:Int×Unit×(List Int×Int×Int×Unit)×List Int×Unit)(hv:v.2.2.2.1=fs big fl):∀(c i n:Nat),i+c=fl.length→c+1≤n→
 F113_l0 (N+8) n (ordC big) (List.replicate fl.length 0) v (i:Int) (fl.take i++List.replicate c 0)=some (Sum.inr (Sum.inr (Sum.inr ((),(v.2.2.1.1,v.2.2.1.2.1,v.2.2.1.2.2.1,()),fl,())))):=by
 intro c
 induction c with
 |zero=>
  intro i n hi hn
  obtain⟨n,rfl⟩:∃k,n=k+1:=⟨n-1,by omega⟩
  show F113_g0 (N+8) (ordC big) _ v _ (i:Int) (fl.take i++[])=_
  unfold F113_g0
  rw[List.length_replicate,decide_eq_false (by omega),cond_false,List.append_nil,List.take_of_length_le (by omega)]
 |succ c ih=>
  intro i n hi hn
  obtain⟨n,rfl⟩:∃k,n=k+1:=⟨n-1,by omega⟩
  have hlt:i<fl.length:=by omega
  have hd:((fs big fl).drop (8*i)).take (8*fl.length-8*i)=w64 big (fl[i]:Int)++fs big (fl.drop (i+1)):=by
   rw[List.take_of_length_le (by rw[List.length_drop,fs_len];exact Nat.le_refl _),fs_drop,List.drop_eq_getElem_cons hlt,fs_cons]
  have hr:=ih (i+1) n (by omega) (by omega)
  show F113_g0 (N+8) (ordC big) _ v (F113_l0 (N+8) n (ordC big) (List.replicate fl.length 0) v) (i:Int) (fl.take i++List.replicate (c+1) 0)=_
  unfold F113_g0
  rw[List.length_replicate,decide_eq_true (by omega),cond_true,hv,fs_len,chk2N (n:=8*i) (m:=8*fl.length) (wrapN (by omega) (by omega)) rfl (by omega) (by omega),Option.bind_some]
  simp only[]
  rw[hd,rF N big fl[i] _ (hf _ (List.getElem_mem hlt)),Option.bind_some,chkN (n:=i) rfl (by simp;omega),Option.bind_some,wrapN (n:=i+1) (by omega) (by omega)]
  have e2:(fl.take i++List.replicate (c+1) 0).set i fl[i]=fl.take (i+1)++List.replicate c 0:=by
   rw[List.set_append_right _ _ (by rw[List.length_take];omega),List.length_take,Nat.min_eq_left (by omega),Nat.sub_self,List.replicate_succ,List.set_cons_zero,List.take_add_one,List.getElem?_eq_getElem hlt]
   simp only[Option.toList_some,List.append_assoc,List.cons_append,List.nil_append]
  rw[e2];exact hr
theorem rFA(N:Nat)(big:Bool)(fl:List Nat)(hf:∀f∈fl,f<18446744073709551616)(bs:List Int)(o:Nat)(l:Int)(r:List Int)(h:bs.drop o=fs big fl++r)(hb:bs.length≤1000000000000)(hN:fl.length+1≤N+8)(hl:fl.length≤1000000000)(l':Int)(hl':l'=if fl=[]then l else-1):
 F113 (N+8) (bs,(o:Int),l,()) (ordC big) (List.replicate fl.length 0)=some (Sum.inr (Sum.inr (Sum.inr ((),(bs,((o+8*fl.length:Nat):Int),l',()),fl,())))):=by
 have hm:mkn (IntKind.i64.wrap (8*((List.replicate fl.length 0).length:Int))) (IntKind.i64.wrap (8*((List.replicate fl.length 0).length:Int))) 1=some (8*fl.length):=by
  rw[List.length_replicate,wrapN (n:=8*fl.length) (by omega) (by omega)];unfold mkn;rw[if_pos ⟨by omega,by omega,by omega,by omega⟩,Int.toNat_natCast]
 have hF:=rfc N bs o l (fs big fl) r (List.replicate (8*fl.length) 0) h (by rw[fs_len,List.length_replicate]) hb l' (by
  rw[hl']
  cases fl with
  |nil=>rfl
  |cons a q=>rw[if_neg (by simp),if_neg (by intro e;have:=congrArg List.length e;simp at this)])
 rw[List.length_replicate]at hF
 unfold F113 F113_g
 rw[hm,Option.bind_some,hF,Option.bind_some]
 have:=rFA_loop N big fl hf (by omega) (((8*fl.length:Nat):Int),(),(bs,((o+8*fl.length:Nat):Int),l',()),fs big fl,()) rfl fl.length 0 (N+8) (by omega) hN
 simpa using this
theorem rC0(N:Nat)(big:Bool)(fl:List Nat)(hf:∀f∈fl,f<18446744073709551616)(bs:List Int)(o:Nat)(l:Int)(r:List Int)(h:bs.drop o=fs big fl++r)(hb:bs.length≤1000000000000)(hN:fl.length+1≤N+8)(hl:fl.length≤1000000000)(h0:fl≠[]):
 F114 (N+8) (bs,(o:Int),l,()) (ordC big) (fl.length:Int)=some (Sum.inr (Sum.inr (Sum.inr (fl,(),(bs,((o+8*fl.length:Nat):Int), -1,()),())))):=by
 unfold F114 F114_g
 have hm:mkn (fl.length:Int) (fl.length:Int) 8=some fl.length:=by
  unfold mkn;rw[if_pos ⟨by omega,by omega,by omega,by omega⟩,Int.toNat_natCast]
 rw[hm,Option.bind_some,rFA N big fl hf bs o l r h hb hN hl (-1) (by rw[if_neg h0])]
 rfl
theorem rC1(N:Nat)(big:Bool)(fl:List Nat)(st k:Nat)(hk:fl.length=k*st)(hs:0<st)(hf:∀f∈fl,f<18446744073709551616)(bs:List Int)(o:Nat)(l:Int)(r:List Int)(h:bs.drop o=c1 big fl (st:Int)++r)(hb:bs.length≤1000000000000)(hN:fl.length+1≤N+8)(hl:fl.length≤1000000000):
 F116 (N+8) (bs,(o:Int),l,()) (ordC big) (st:Int)=some (Sum.inr (Sum.inr (Sum.inr (Sum.inr (fl,(),(bs,((o+(4+8*fl.length):Nat):Int), -1,()),()))))):=by
 have hkl:k≤fl.length:=by rw[hk];exact Nat.le_mul_of_pos_right k hs
 have hn:IntKind.u32.wrap (IntKind.i64.wrap (Int.tdiv (fl.length:Int) (st:Int)))=(k:Int):=by
  have e:Int.tdiv (fl.length:Int) (st:Int)=(k:Int):=by
   rw[hk,Int.natCast_mul,Int.mul_tdiv_cancel _ (by omega)]
  rw[e,wrapN (n:=k) rfl (by omega),w32_in ⟨by omega,by omega⟩]
 unfold c1 at h
 rw[hn,List.append_assoc]at h
 have hU:=rU N big bs o l (k:Int) (fs big fl++r) h ⟨by omega,by omega⟩ hb
 have h2:=drop_drop' h
 rw[w32_len]at h2
 have hF:=rFA N big fl hf bs (o+4) (-1) r h2 hb hN hl (-1) (by split<;>rfl)
 unfold F116 F116_g
 rw[hU,Option.bind_some]
 simp only[Sum.elim_inr]
 rw[decide_eq_false (by omega),cond_false]
 unfold F116_j0 F116_g0
 rw[gate_pos (by omega)]
 simp only[]
 have hm:mkn (IntKind.i64.wrap (IntKind.i64.wrap (k:Int)*(st:Int))) (IntKind.i64.wrap (IntKind.i64.wrap (k:Int)*(st:Int))) 8=some fl.length:=by
  rw[wrapN (n:=k) rfl (by omega),wrapN (n:=fl.length) (by rw[hk,Int.natCast_mul]) (by omega)];unfold mkn;rw[if_pos ⟨by omega,by omega,by omega,by omega⟩,Int.toNat_natCast]
 rw[hm,Option.bind_some,hF,Option.bind_some]
 simp only[Sum.elim_inr]
 rw[Nat.add_assoc]
def segs(big:Bool)(fl:List Nat)(st:Int):Nat→List Nat→List Int
 |_,[]=>[]
 |p,e::r=>c1 big ((fl.drop p).take (e-p)) st++segs big fl st e r
def Ch(n:Nat):Nat→List Nat→Prop
 |_,[]=>True
 |p,e::r=>p≤e∧e≤n∧Ch n e r
theorem segs_len{big:Bool}{fl:List Nat}{st:Int}:∀(es:List Nat) (p:Nat),Ch fl.length p es→p≤fl.length→(segs big fl st p es).length≤4*es.length+8*(fl.length-p)
 |[],p,_,_=>by simp[segs]
 |e::r,p,h,hp=>by
  have h2:=segs_len (big:=big) (fl:=fl) (st:=st) r e h.2.2 h.2.1
  have h1:=h.1;have h3:=h.2.1
  simp only[segs,List.length_append,c1_len,List.length_take,List.length_drop,List.length_cons]
  omega
def ints(es:List Nat):List Int:=es.map fun(e:Nat)=>(e:Int)
theorem wC2_loop(N:Nat)(big:Bool)(fl:List Nat)(st:Int)(hs:st≠0)(es:List Nat)(hN:fl.length+1≤N+8)(hf:fl.length<9223372036854775808):∀(c i n p:Nat) (b:List Int),i+c=es.length→c+1≤n→Ch fl.length p (es.drop i)→p≤fl.length→
 b.length+4*c+8*(fl.length-p)≤140737488355328→es.length<9223372036854775807→
 F76_l0 (N+8) n (ordC big) fl st (ints es) (p:Int) (i:Int) b 0 0=some ((),(b++segs big fl st p (es.drop i),0,0,()),()):=by
 intro c
 induction c with
 |zero=>
  intro i n p b hi hn hc hp hb he
  obtain⟨n,rfl⟩:∃k,n=k+1:=⟨n-1,by omega⟩
  show F76_g0 (N+8) (ordC big) fl st (ints es) _ (p:Int) (i:Int) b 0 0=_
  unfold F76_g0
  rw[decide_eq_false (by simp[ints];omega),cond_false,List.drop_eq_nil_of_le (by omega),show segs big fl st p []=[]from rfl,List.append_nil]
 |succ c ih=>
  intro i n p b hi hn hc hp hb he
  obtain⟨n,rfl⟩:∃k,n=k+1:=⟨n-1,by omega⟩
  have hlt:i<es.length:=by omega
  rw[List.drop_eq_getElem_cons hlt]at hc⊢
  obtain⟨h1,h2,h3⟩:=hc
  have hn':nth (ints es) (i:Int)=some (es[i]:Int):=by rw[nthN (by simpa[ints]using hlt)];simp[ints]
  have hsl:((fl.drop p).take (es[i]-p)).length=es[i]-p:=by simp;omega
  have hW:=wC1 N big b 0 st ((fl.drop p).take (es[i]-p)) hs (by rw[hsl];omega) (by rw[hsl];omega)
  have hr:=ih (i+1) n es[i] (b++c1 big ((fl.drop p).take (es[i]-p)) st) (by omega) (by omega) h3 h2 (by simp only[List.length_append,c1_len,hsl];omega) he
  show F76_g0 (N+8) (ordC big) fl st (ints es) (F76_l0 (N+8) n (ordC big) fl st (ints es)) (p:Int) (i:Int) b 0 0=_
  unfold F76_g0
  rw[decide_eq_true (by simp[ints];omega),cond_true,hn',Option.bind_some,chk2N (n:=p) (m:=es[i]) rfl rfl h1 h2,Option.bind_some]
  simp only[]
  rw[hW,Option.bind_some,wrapN (n:=i+1) (by omega) (by omega)]
  simp only[]
  rw[hr,List.append_assoc];rfl
def c2(big:Bool)(fl:List Nat)(es:List Nat)(st:Int):List Int:=w32 big (IntKind.u32.wrap (es.length:Int))++segs big fl st 0 es
theorem wC2(N:Nat)(big:Bool)(fl:List Nat)(st:Int)(hs:st≠0)(es:List Nat)(hN:fl.length+1≤N+8)(hN2:es.length+1≤N+8)(b:List Int)(l:Int)(hc:Ch fl.length 0 es)
 (hb:b.length+4+4*es.length+8*fl.length≤140737488355328):
 F76 (N+8) (b,0,l,()) (ordC big) fl (ints es) st=some ((),(b++c2 big fl es st,0,0,()),()):=by
 unfold F76 F76_g
 rw[show((ints es).length:Int)=(es.length:Int)from by simp[ints]]
 rw[wU N big b l _ (by omega),Option.bind_some]
 show F76_l0 (N+8) (N+8) (ordC big) fl st (ints es) ((0:Nat):Int) ((0:Nat):Int) (b++w32 big _) 0 0=_
 rw[wC2_loop N big fl st hs es hN (by omega) es.length 0 (N+8) 0 _ (by omega) hN2 hc (by omega) (by simp only[List.length_append,w32_len];omega) (by omega),List.append_assoc];rfl
def Cw(st n:Nat):Nat→List Nat→Prop
 |p,[]=>p=n
 |p,e::r=>p≤e∧st∣e-p∧Cw st n e r
theorem Cw_le{st n:Nat}:∀{es:List Nat} {p:Nat},Cw st n p es→p≤n
 |[],p,h=>by unfold Cw at h;omega
 |e::r,p,h=>Nat.le_trans h.1 (Cw_le h.2.2)
theorem Cw_Ch{st n:Nat}:∀{es:List Nat} {p:Nat},Cw st n p es→Ch n p es
 |[],p,h=>trivial
 |e::r,p,h=>⟨h.1,Cw_le h.2.2,Cw_Ch h.2.2⟩
theorem ints_snoc(es:List Nat){i:Nat}(hi:i<es.length)(c:Nat):(ints (es.take i)++List.replicate (c+1) 0).set i (es[i]:Int)=ints (es.take (i+1))++List.replicate c 0:=by
 have hl:(ints (es.take i)).length=i:=by simp[ints];omega
 rw[List.set_append_right _ _ (by omega),hl,Nat.sub_self,List.replicate_succ,List.set_cons_zero,List.take_add_one,List.getElem?_eq_getElem hi]
 simp only[ints,List.map_append,List.map_cons,List.map_nil,Option.toList_some,List.append_assoc,List.cons_append,List.nil_append]
theorem u32i{x:Int}{n:Nat}(h:x=(n:Int))(hn:n<4294967296):IntKind.u32.wrap x=(n:Int):=by
 subst h;exact w32_in ⟨by omega,by omega⟩
theorem rC2_loop(N:Nat)(big:Bool)(fl:List Nat)(st:Nat)(hs:0<st)(hf:∀f∈fl,f<18446744073709551616)(hl:fl.length≤1000000000)(hN:fl.length+1≤N+8)(es:List Nat)(he:es.length<4294967296)(bs:List Int)(hb:bs.length≤1000000000000)(r:List Int)(v:Int×Unit×(List Int×Int×Int×Unit)×Unit)(hv:v.1=(es.length:Int)):∀(c i n p o:Nat),i+c=es.length→c+1≤n→Cw st fl.length p (es.drop i)→bs.drop o=segs big fl (st:Int) p (es.drop i)++r→
 F117_l1 (N+8) n (ordC big) (st:Int) v (i:Int) (ints (es.take i)++List.replicate c 0) (fl.take p) bs (o:Int) (-1)=some (Sum.inr (Sum.inr (Sum.inr (Sum.inr (fl,ints es,(),(bs,((o+(segs big fl (st:Int) p (es.drop i)).length:Nat):Int), -1,()),()))))):=by
 intro c
 induction c with
 |zero=>
  intro i n p o hi hn hc h
  obtain⟨n,rfl⟩:∃k,n=k+1:=⟨n-1,by omega⟩
  show F117_g1 (N+8) (ordC big) (st:Int) v _ (i:Int) (ints (es.take i)++[]) (fl.take p) bs (o:Int) (-1)=_
  unfold F117_g1
  rw[List.drop_eq_nil_of_le (by omega)]at hc⊢
  unfold Cw at hc
  rw[hv,decide_eq_false (by omega),cond_false,List.append_nil,List.take_of_length_le (by omega),List.take_of_length_le (by omega)]
  rfl
 |succ c ih=>
  intro i n p o hi hn hc h
  obtain⟨n,rfl⟩:∃k,n=k+1:=⟨n-1,by omega⟩
  have hlt:i<es.length:=by omega
  rw[List.drop_eq_getElem_cons hlt]at hc h⊢
  obtain⟨h1,⟨k,hk⟩,h3⟩:=hc
  have h2:=Cw_le h3
  have hsl:((fl.drop p).take (es[i]-p)).length=es[i]-p:=by simp;omega
  have hlen:(c1 big ((fl.drop p).take (es[i]-p)) (st:Int)).length=4+8*(es[i]-p):=by rw[c1_len,hsl]
  unfold segs at h⊢
  rw[List.append_assoc]at h
  have hR:=rC1 N big ((fl.drop p).take (es[i]-p)) st k (by rw[hsl,hk,Nat.mul_comm]) hs (fun f hm=>hf f (List.mem_of_mem_drop (List.mem_of_mem_take hm))) bs o (-1) _ h hb (by rw[hsl];omega) (by rw[hsl];omega)
  have hd:=drop_drop' h
  rw[hlen]at hd
  rw[hsl]at hR
  have hr:=ih (i+1) n es[i] (o+(4+8*(es[i]-p))) (by omega) (by omega) h3 hd
  show F117_g1 (N+8) (ordC big) (st:Int) v (F117_l1 (N+8) n (ordC big) (st:Int) v) (i:Int) (ints (es.take i)++List.replicate (c+1) 0) (fl.take p) bs (o:Int) (-1)=_
  unfold F117_g1
  rw[hv,decide_eq_true (by omega),cond_true,hR,Option.bind_some]
  simp only[Sum.elim_inr]
  have htl:(fl.take p).length=p:=by simp;omega
  have hta:fl.take p++(fl.drop p).take (es[i]-p)=fl.take es[i]:=by
   rw[←List.take_add,show p+(es[i]-p)=es[i]from by omega]
  rw[htl,hsl,lim_le (by omega),Option.bind_some,chkN (n:=i) rfl (by simp[ints];omega),Option.bind_some,hta,u32i (n:=i+1) (by omega) (by omega)]
  rw[show((fl.take es[i]).length:Int)=(es[i]:Int)from by simp;omega,ints_snoc es hlt c,hr,List.length_append,hlen,Nat.add_assoc,Nat.add_assoc]
theorem rC2(N:Nat)(big:Bool)(fl:List Nat)(st:Nat)(hs:0<st)(hf:∀f∈fl,f<18446744073709551616)(hl:fl.length≤1000000000)(hN:fl.length+1≤N+8)(es:List Nat)(he:es.length<4294967296)(hN2:es.length+1≤N+8)(bs:List Int)(hb:bs.length≤1000000000000)(r:List Int)(hc:Cw st fl.length 0 es)(o:Nat)(l:Int)(h:bs.drop o=c2 big fl es (st:Int)++r):
 F117 (N+8) (bs,(o:Int),l,()) (ordC big) (st:Int)=some (Sum.inr (Sum.inr (Sum.inr (Sum.inr (fl,ints es,(),(bs,((o+(c2 big fl es (st:Int)).length:Nat):Int), -1,()),()))))):=by
 unfold c2 at h⊢
 rw[u32i (n:=es.length) rfl he]at h⊢
 rw[List.append_assoc]at h
 have hU:=rU N big bs o l (es.length:Int) _ h ⟨by omega,by omega⟩ hb
 have h2:=drop_drop' h
 rw[w32_len]at h2
 unfold F117 F117_g
 rw[hU,Option.bind_some]
 simp only[Sum.elim_inr]
 rw[decide_eq_false (by omega),cond_false]
 unfold F117_j0 F117_g0
 rw[gate_pos (by omega)]
 simp only[]
 have hm:mkn (es.length:Int) (es.length:Int) 8=some es.length:=by
  unfold mkn;rw[if_pos ⟨by omega,by omega,by omega,by omega⟩,Int.toNat_natCast]
 rw[hm,Option.bind_some]
 have:=rC2_loop N big fl st hs hf hl hN es he bs hb r ((es.length:Int),(),(bs,((o+4:Nat):Int), -1,()),()) rfl es.length 0 (N+8) 0 (o+4) (by omega) hN2 hc h2
 rw[List.length_append,w32_len,←Nat.add_assoc]
 simpa[ints]using this
def SP(q e:List Int):Prop:=∃t,t≠[]∧q++t=e
theorem SP_len{q e:List Int}(h:SP q e):q.length<e.length:=by
 obtain⟨t,h1,rfl⟩:=h
 have:=List.length_pos_iff.2 h1
 rw[List.length_append];omega
theorem SP_nil{q:List Int}:¬SP q []:=fun h=>by have:=SP_len h;simp at this
theorem SP_app{q a b:List Int}(h:SP q (a++b)):SP q a∨∃q',q=a++q'∧SP q' b:=by
 obtain⟨t,h1,h2⟩:=h
 rcases List.append_eq_append_iff.1 h2 with⟨c,h3,h4⟩|⟨c,h3,h4⟩
 ·cases c with
  |nil=>
   rw[List.append_nil]at h3
   rw[List.nil_append]at h4
   exact .inr ⟨[],by rw[List.append_nil,h3],t,h1,by rw[List.nil_append,h4]⟩
  |cons x r=>exact .inl ⟨x::r,by simp,h3.symm⟩
 ·exact .inr ⟨c,h3,t,h1,h4.symm⟩
def Bad4{A B C D:Type}(r:Option (A⊕B⊕C⊕D)):Prop:=(∃z,r=some (Sum.inl z))∨(∃z,r=some (Sum.inr (Sum.inl z)))∨(∃z,r=some (Sum.inr (Sum.inr (Sum.inl z))))
def Bad5{A B C D E:Type}(r:Option (A⊕B⊕C⊕D⊕E)):Prop:=(∃z,r=some (Sum.inl z))∨(∃z,r=some (Sum.inr (Sum.inl z)))∨(∃z,r=some (Sum.inr (Sum.inr (Sum.inl z))))∨(∃z,r=some (Sum.inr (Sum.inr (Sum.inr (Sum.inl z)))))
theorem nB(N:Nat)(bs:List Int)(o:Nat)(l:Int)(h:bs.length≤o):∃z,F100 (N+8) (bs,(o:Int),l,())=some (Sum.inl z):=by
 unfold F100 F100_g F99 F99_g F97 F97_g F98 F98_g
 simp only[Option.bind_some]
 rw[decide_eq_true (by omega),cond_true,chk2N (k:=0) (h:=0) (n:=0) (m:=0) (len:=bs.length) rfl rfl (by omega) (by omega),Option.bind_some]
 exact⟨_,rfl⟩
theorem reb(N:Nat)(bs:List Int)(o:Nat)(l:Int)(ys:List Int)(a m:Nat)(hm:0<m)(h:bs.length≤o):∃st,F103 (N+8) (bs,(o:Int),l,()) (ys,a,m)=some (Sum.inr (0,(),st,(ys,a,m),())):=by
 unfold F103 F103_g F97 F97_g F98 F98_g
 simp only[Option.bind_some]
 rw[decide_eq_true (by omega),cond_true,chk2N (k:=0) (h:=0) (n:=0) (m:=0) (len:=bs.length) rfl rfl (by omega) (by omega),Option.bind_some,Option.bind_some]
 rw[show((m:Int)==0)=false from by simp;omega,cond_false]
 exact⟨_,rfl⟩
theorem rkb(N:Nat)(bs:List Int)(o:Nat)(l:Int)(ys:List Int)(h:o<bs.length)(hk:bs.length-o<ys.length)(hb:bs.length≤1000000000000):
 F103 (N+8) (bs,(o:Int),l,()) (ys,0,ys.length)=some (Sum.inl (((bs.length-o:Nat):Int),(),(bs,(bs.length:Int), -1,()),(bs.drop o++ys.drop (bs.length-o),0,ys.length),())):=by
 have ht:(bs.drop o).take (bs.length-o)=bs.drop o:=by rw[List.take_of_length_le (by simp)]
 have hm:min (bs.drop o).length ys.length=bs.length-o:=by rw[List.length_drop];omega
 unfold F103 F103_g F97 F97_g
 simp only[Option.bind_some]
 rw[decide_eq_false (by omega),cond_false,chk2N (n:=o) (m:=bs.length) rfl rfl (by omega) (by omega),Option.bind_some]
 simp only[]
 rw[ht,hm,decide_eq_true (by omega),cond_true]
 unfold F103_j0 F103_g0
 rw[gate_pos (by omega)]
 simp only[]
 rw[ht,hm,wrapN (n:=bs.length) (by omega) (by omega),List.take_zero,List.nil_append,Nat.zero_add,List.take_of_length_le (by rw[List.length_drop];omega)]
theorem rlb(N n:Nat)(m k:Nat)(hk:k<m)(hm:m<9223372036854775808)(v:Int×Unit×(List Int×Int×Int×Unit)×(List Int×Nat×Nat)×Unit)(hv:v.1=0):(∃z,F104_l1 (N+8) (n+1) (m:Int) (k:Int) v=some (Sum.inr (Sum.inr (Sum.inl z))))∨(∃z,F104_l1 (N+8) (n+1) (m:Int) (k:Int) v=some (Sum.inr (Sum.inr (Sum.inr z)))):=by
 have hw:IntKind.i64.wrap ((k:Int)+v.1)=(k:Int):=by rw[hv];exact wrapN (by omega) (by omega)
 have hj:(∃z,F104_j3 (N+8) (m:Int) (k:Int) v=some (Sum.inr (Sum.inr (Sum.inl z))))∨(∃z,F104_j3 (N+8) (m:Int) (k:Int) v=some (Sum.inr (Sum.inr (Sum.inr z)))):=by
  unfold F104_j3 F104_g3
  rw[gate_pos (by omega),hw,decide_eq_false (by omega),cond_false]
  by_cases h0:0<k
  ·rw[decide_eq_true (by omega),cond_true];exact .inl ⟨_,rfl⟩
  ·rw[decide_eq_false (by omega),cond_false];exact .inr ⟨_,rfl⟩
 have hg:F104_l1 (N+8) (n+1) (m:Int) (k:Int) v=F104_j3 (N+8) (m:Int) (k:Int) v:=by
  show F104_g1 (N+8) (m:Int) (k:Int) v (F104_j3 (N+8)) _=_
  unfold F104_g1
  rw[hw,decide_eq_true (by omega),cond_true]
 rw[hg];exact hj
theorem nab(N:Nat)(bs:List Int)(o:Nat)(l:Int)(ys:List Int)(hs:(bs.drop o).length<ys.length)(hy:ys.length<9223372036854775808)(hb:bs.length≤1000000000000):
 (∃z,F104 (N+8) (bs,(o:Int),l,()) ys (ys.length:Int)=some (Sum.inr (Sum.inr (Sum.inl z))))∨(∃z,F104 (N+8) (bs,(o:Int),l,()) ys (ys.length:Int)=some (Sum.inr (Sum.inr (Sum.inr z)))):=by
 rw[List.length_drop]at hs
 have e:F104 (N+8) (bs,(o:Int),l,()) ys (ys.length:Int)=F104_g0 (N+8) (ys.length:Int) (F104_l1 (N+8) (N+7)) (F104_j2 (N+8)) (F104_l0 (N+8) (N+7) (ys.length:Int)) 0 bs (o:Int) l ys:=by
  unfold F104 F104_g
  rw[decide_eq_false (by omega),cond_false]
  rfl
 rw[e]
 unfold F104_g0
 rw[decide_eq_true (by omega),cond_true,chk2N (k:=0) (n:=0) (m:=ys.length) (len:=ys.length) rfl rfl (by omega) (by omega),Option.bind_some]
 simp only[]
 rw[Nat.sub_zero]
 by_cases ho:bs.length≤o
 ·obtain⟨st,h1⟩:=reb N bs o l ys 0 ys.length (by omega) ho
  rw[h1,Option.bind_some]
  simp only[Sum.elim_inr]
  have ha:=and5 ys.length 0 ys.length ys.length (by omega) rfl
  rw[ha,cond_true]
  exact rlb N (N+6) ys.length 0 (by omega) hy _ rfl
 ·rw[rkb N bs o l ys (by omega) hs hb,Option.bind_some]
  simp only[Sum.elim_inl]
  have hl:(bs.drop o++ys.drop (bs.length-o)).length=ys.length:=by rw[List.length_append,List.length_drop,List.length_drop];omega
  have ha:=and5 ys.length 0 (bs.drop o++ys.drop (bs.length-o)).length ys.length (by omega) hl
  rw[ha,cond_true,wrapN (n:=bs.length-o) (by omega) (by omega)]
  show(∃z,F104_g0 (N+8) (ys.length:Int) (F104_l1 (N+8) (N+6)) (F104_j2 (N+8)) (F104_l0 (N+8) (N+6) (ys.length:Int)) ((bs.length-o:Nat):Int) bs (bs.length:Int) (-1) (bs.drop o++ys.drop (bs.length-o))=_)∨(∃z,F104_g0 (N+8) (ys.length:Int) (F104_l1 (N+8) (N+6)) (F104_j2 (N+8)) (F104_l0 (N+8) (N+6) (ys.length:Int)) ((bs.length-o:Nat):Int) bs (bs.length:Int) (-1) (bs.drop o++ys.drop (bs.length-o))=_)
  generalize bs.drop o++ys.drop (bs.length-o)=zs at hl
  unfold F104_g0
  rw[decide_eq_true (by omega),cond_true,hl,chk2N (n:=bs.length-o) (m:=ys.length) rfl rfl (by omega) (by omega),Option.bind_some]
  simp only[]
  obtain⟨st,h1⟩:=reb N bs bs.length (-1) zs (bs.length-o) (ys.length-(bs.length-o)) (by omega) (Nat.le_refl _)
  rw[h1,Option.bind_some]
  simp only[Sum.elim_inr]
  have ha:=and5 (ys.length-(bs.length-o)) (bs.length-o) zs.length ys.length (by omega) hl
  rw[ha,cond_true]
  exact rlb N (N+5) ys.length (bs.length-o) hs hy _ rfl
theorem nfb(N:Nat)(bs:List Int)(o:Nat)(l:Int)(ys:List Int)(hs:(bs.drop o).length<ys.length)(hy:ys.length<9223372036854775808)(hb:bs.length≤1000000000000):
 (∃z,F105 (N+8) (bs,(o:Int),l,()) ys=some (Sum.inr (Sum.inr (Sum.inl z))))∨(∃z,F105 (N+8) (bs,(o:Int),l,()) ys=some (Sum.inr (Sum.inr (Sum.inr z)))):=by
 unfold F105 F105_g
 rcases nab N bs o l ys hs hy hb with⟨z,h⟩|⟨z,h⟩
 ·rw[h];exact .inl ⟨_,rfl⟩
 ·rw[h];exact .inr ⟨_,rfl⟩
theorem rec(N:Nat)(bs:List Int)(o:Nat)(l:Int)(ys:List Int)(a m:Nat)(hm:0<m)(h:bs.length≤o):∃st,F110 (N+8) (bs,(o:Int),l,()) (ys,a,m)=some (Sum.inr (0,(),st,(ys,a,m),())):=by
 unfold F110 F110_g F97 F97_g F98 F98_g
 simp only[Option.bind_some]
 rw[decide_eq_true (by omega),cond_true,chk2N (k:=0) (h:=0) (n:=0) (m:=0) (len:=bs.length) rfl rfl (by omega) (by omega),Option.bind_some,Option.bind_some]
 rw[show((m:Int)==0)=false from by simp;omega,cond_false]
 exact⟨_,rfl⟩
theorem rkc(N:Nat)(bs:List Int)(o:Nat)(l:Int)(ys:List Int)(h:o<bs.length)(hk:bs.length-o<ys.length)(hb:bs.length≤1000000000000):
 F110 (N+8) (bs,(o:Int),l,()) (ys,0,ys.length)=some (Sum.inl (((bs.length-o:Nat):Int),(),(bs,(bs.length:Int), -1,()),(bs.drop o++ys.drop (bs.length-o),0,ys.length),())):=by
 have ht:(bs.drop o).take (bs.length-o)=bs.drop o:=by rw[List.take_of_length_le (by simp)]
 have hm:min (bs.drop o).length ys.length=bs.length-o:=by rw[List.length_drop];omega
 unfold F110 F110_g F97 F97_g
 simp only[Option.bind_some]
 rw[decide_eq_false (by omega),cond_false,chk2N (n:=o) (m:=bs.length) rfl rfl (by omega) (by omega),Option.bind_some]
 simp only[]
 rw[ht,hm,decide_eq_true (by omega),cond_true]
 unfold F110_j0 F110_g0
 rw[gate_pos (by omega)]
 simp only[]
 rw[ht,hm,wrapN (n:=bs.length) (by omega) (by omega),List.take_zero,List.nil_append,Nat.zero_add,List.take_of_length_le (by rw[List.length_drop];omega)]
theorem rlc(N n:Nat)(m k:Nat)(hk:k<m)(hm:m<9223372036854775808)(v:Int×Unit×(List Int×Int×Int×Unit)×(List Int×Nat×Nat)×Unit)(hv:v.1=0):(∃z,F111_l1 (N+8) (n+1) (m:Int) (k:Int) v=some (Sum.inr (Sum.inr (Sum.inl z))))∨(∃z,F111_l1 (N+8) (n+1) (m:Int) (k:Int) v=some (Sum.inr (Sum.inr (Sum.inr z)))):=by
 have hw:IntKind.i64.wrap ((k:Int)+v.1)=(k:Int):=by rw[hv];exact wrapN (by omega) (by omega)
 have hj:(∃z,F111_j3 (N+8) (m:Int) (k:Int) v=some (Sum.inr (Sum.inr (Sum.inl z))))∨(∃z,F111_j3 (N+8) (m:Int) (k:Int) v=some (Sum.inr (Sum.inr (Sum.inr z)))):=by
  unfold F111_j3 F111_g3
  rw[gate_pos (by omega),hw,decide_eq_false (by omega),cond_false]
  by_cases h0:0<k
  ·rw[decide_eq_true (by omega),cond_true];exact .inl ⟨_,rfl⟩
  ·rw[decide_eq_false (by omega),cond_false];exact .inr ⟨_,rfl⟩
 have hg:F111_l1 (N+8) (n+1) (m:Int) (k:Int) v=F111_j3 (N+8) (m:Int) (k:Int) v:=by
  show F111_g1 (N+8) (m:Int) (k:Int) v (F111_j3 (N+8)) _=_
  unfold F111_g1
  rw[hw,decide_eq_true (by omega),cond_true]
 rw[hg];exact hj
theorem nac(N:Nat)(bs:List Int)(o:Nat)(l:Int)(ys:List Int)(hs:(bs.drop o).length<ys.length)(hy:ys.length<9223372036854775808)(hb:bs.length≤1000000000000):
 (∃z,F111 (N+8) (bs,(o:Int),l,()) ys (ys.length:Int)=some (Sum.inr (Sum.inr (Sum.inl z))))∨(∃z,F111 (N+8) (bs,(o:Int),l,()) ys (ys.length:Int)=some (Sum.inr (Sum.inr (Sum.inr z)))):=by
 rw[List.length_drop]at hs
 have e:F111 (N+8) (bs,(o:Int),l,()) ys (ys.length:Int)=F111_g0 (N+8) (ys.length:Int) (F111_l1 (N+8) (N+7)) (F111_j2 (N+8)) (F111_l0 (N+8) (N+7) (ys.length:Int)) 0 bs (o:Int) l ys:=by
  unfold F111 F111_g
  rw[decide_eq_false (by omega),cond_false]
  rfl
 rw[e]
 unfold F111_g0
 rw[decide_eq_true (by omega),cond_true,chk2N (k:=0) (n:=0) (m:=ys.length) (len:=ys.length) rfl rfl (by omega) (by omega),Option.bind_some]
 simp only[]
 rw[Nat.sub_zero]
 by_cases ho:bs.length≤o
 ·obtain⟨st,h1⟩:=rec N bs o l ys 0 ys.length (by omega) ho
  rw[h1,Option.bind_some]
  simp only[Sum.elim_inr]
  have ha:=and5 ys.length 0 ys.length ys.length (by omega) rfl
  rw[ha,cond_true]
  exact rlc N (N+6) ys.length 0 (by omega) hy _ rfl
 ·rw[rkc N bs o l ys (by omega) hs hb,Option.bind_some]
  simp only[Sum.elim_inl]
  have hl:(bs.drop o++ys.drop (bs.length-o)).length=ys.length:=by rw[List.length_append,List.length_drop,List.length_drop];omega
  have ha:=and5 ys.length 0 (bs.drop o++ys.drop (bs.length-o)).length ys.length (by omega) hl
  rw[ha,cond_true,wrapN (n:=bs.length-o) (by omega) (by omega)]
  show(∃z,F111_g0 (N+8) (ys.length:Int) (F111_l1 (N+8) (N+6)) (F111_j2 (N+8)) (F111_l0 (N+8) (N+6) (ys.length:Int)) ((bs.length-o:Nat):Int) bs (bs.length:Int) (-1) (bs.drop o++ys.drop (bs.length-o))=_)∨(∃z,F111_g0 (N+8) (ys.length:Int) (F111_l1 (N+8) (N+6)) (F111_j2 (N+8)) (F111_l0 (N+8) (N+6) (ys.length:Int)) ((bs.length-o:Nat):Int) bs (bs.length:Int) (-1) (bs.drop o++ys.drop (bs.length-o))=_)
  generalize bs.drop o++ys.drop (bs.length-o)=zs at hl
  unfold F111_g0
  rw[decide_eq_true (by omega),cond_true,hl,chk2N (n:=bs.length-o) (m:=ys.length) rfl rfl (by omega) (by omega),Option.bind_some]
  simp only[]
  obtain⟨st,h1⟩:=rec N bs bs.length (-1) zs (bs.length-o) (ys.length-(bs.length-o)) (by omega) (Nat.le_refl _)
  rw[h1,Option.bind_some]
  simp only[Sum.elim_inr]
  have ha:=and5 (ys.length-(bs.length-o)) (bs.length-o) zs.length ys.length (by omega) hl
  rw[ha,cond_true]
  exact rlc N (N+5) ys.length (bs.length-o) hs hy _ rfl
theorem nfc(N:Nat)(bs:List Int)(o:Nat)(l:Int)(ys:List Int)(hs:(bs.drop o).length<ys.length)(hy:ys.length<9223372036854775808)(hb:bs.length≤1000000000000):
 (∃z,F112 (N+8) (bs,(o:Int),l,()) ys=some (Sum.inr (Sum.inr (Sum.inl z))))∨(∃z,F112 (N+8) (bs,(o:Int),l,()) ys=some (Sum.inr (Sum.inr (Sum.inr z)))):=by
 unfold F112 F112_g
 rcases nac N bs o l ys hs hy hb with⟨z,h⟩|⟨z,h⟩
 ·rw[h];exact .inl ⟨_,rfl⟩
 ·rw[h];exact .inr ⟨_,rfl⟩
theorem nU(N:Nat)(bs:List Int)(o:Nat)(l:Int)(c:Ce)(hs:(bs.drop o).length<4)(hb:bs.length≤1000000000000):Bad4 (F106 (N+8) (bs,(o:Int),l,()) c):=by
 unfold F106 F106_g
 rcases nfb N bs o l [0,0,0,0] hs (by simp) hb with⟨z,h⟩|⟨z,h⟩
 ·rw[h];exact .inr (.inl ⟨_,rfl⟩)
 ·rw[h];exact .inr (.inr ⟨_,rfl⟩)
theorem nFA(N:Nat)(bs:List Int)(o:Nat)(l:Int)(c:Ce)(m:Nat)(hm:m≤1000000000)(hs:(bs.drop o).length<8*m)(hb:bs.length≤1000000000000):Bad4 (F113 (N+8) (bs,(o:Int),l,()) c (List.replicate m 0)):=by
 have hk:mkn (IntKind.i64.wrap (8*((List.replicate m 0).length:Int))) (IntKind.i64.wrap (8*((List.replicate m 0).length:Int))) 1=some (8*m):=by
  rw[List.length_replicate,wrapN (n:=8*m) (by omega) (by omega)];unfold mkn;rw[if_pos ⟨by omega,by omega,by omega,by omega⟩,Int.toNat_natCast]
 unfold F113 F113_g
 rw[hk,Option.bind_some]
 rcases nfc N bs o l (List.replicate (8*m) 0) (by rw[List.length_replicate];exact hs) (by rw[List.length_replicate];omega) hb with⟨z,h⟩|⟨z,h⟩
 ·rw[h];exact .inr (.inl ⟨_,rfl⟩)
 ·rw[h];exact .inr (.inr ⟨_,rfl⟩)
theorem nC0(N:Nat)(bs:List Int)(o:Nat)(l:Int)(c:Ce)(m:Nat)(hm:m≤1000000000)(hs:(bs.drop o).length<8*m)(hb:bs.length≤1000000000000):Bad4 (F114 (N+8) (bs,(o:Int),l,()) c (m:Int)):=by
 have hk:mkn (m:Int) (m:Int) 8=some m:=by unfold mkn;rw[if_pos ⟨by omega,by omega,by omega,by omega⟩,Int.toNat_natCast]
 unfold F114 F114_g
 rw[hk,Option.bind_some]
 rcases nFA N bs o l c m hm hs hb with⟨z,h⟩|⟨z,h⟩|⟨z,h⟩
 ·rw[h];exact .inl ⟨_,rfl⟩
 ·rw[h];exact .inr (.inl ⟨_,rfl⟩)
 ·rw[h];exact .inr (.inr ⟨_,rfl⟩)
theorem nC1(N:Nat)(big:Bool)(fl:List Nat)(st k:Nat)(hk:fl.length=k*st)(hs:0<st)(bs:List Int)(o:Nat)(l:Int)(h:SP (bs.drop o) (c1 big fl (st:Int)))(hb:bs.length≤1000000000000)(hl:fl.length≤1000000000):
 Bad5 (F116 (N+8) (bs,(o:Int),l,()) (ordC big) (st:Int)):=by
 have hkl:k≤fl.length:=by rw[hk];exact Nat.le_mul_of_pos_right k hs
 have hn:IntKind.u32.wrap (IntKind.i64.wrap (Int.tdiv (fl.length:Int) (st:Int)))=(k:Int):=by
  have e:Int.tdiv (fl.length:Int) (st:Int)=(k:Int):=by
   rw[hk,Int.natCast_mul,Int.mul_tdiv_cancel _ (by omega)]
  rw[e,wrapN (n:=k) rfl (by omega),w32_in ⟨by omega,by omega⟩]
 unfold c1 at h
 rw[hn]at h
 unfold F116 F116_g
 rcases SP_app h with h|⟨q',hq,h⟩
 ·have:=SP_len h;rw[w32_len]at this
  rcases nU N bs o l (ordC big) this hb with⟨z,h⟩|⟨z,h⟩|⟨z,h⟩
  ·rw[h];exact .inl ⟨_,rfl⟩
  ·rw[h];exact .inr (.inl ⟨_,rfl⟩)
  ·rw[h];exact .inr (.inr (.inl ⟨_,rfl⟩))
 ·have hU:=rU N big bs o l (k:Int) q' hq ⟨by omega,by omega⟩ hb
  have h2:=drop_drop' hq
  rw[w32_len]at h2
  have hlt:=SP_len h
  rw[fs_len,←h2]at hlt
  rw[hU,Option.bind_some]
  simp only[Sum.elim_inr]
  rw[decide_eq_false (by omega),cond_false]
  unfold F116_j0 F116_g0
  rw[gate_pos (by omega)]
  simp only[]
  have hm:mkn (IntKind.i64.wrap (IntKind.i64.wrap (k:Int)*(st:Int))) (IntKind.i64.wrap (IntKind.i64.wrap (k:Int)*(st:Int))) 8=some fl.length:=by
   rw[wrapN (n:=k) rfl (by omega),wrapN (n:=fl.length) (by rw[hk,Int.natCast_mul]) (by omega)];unfold mkn;rw[if_pos ⟨by omega,by omega,by omega,by omega⟩,Int.toNat_natCast]
  rw[hm,Option.bind_some]
  rcases nFA N bs (o+4) (-1) (ordC big) fl.length hl hlt hb with⟨z,h⟩|⟨z,h⟩|⟨z,h⟩
  ·rw[h];exact .inl ⟨_,rfl⟩
  ·rw[h];exact .inr (.inl ⟨_,rfl⟩)
  ·rw[h];exact .inr (.inr (.inl ⟨_,rfl⟩))
theorem nC2_loop(N:Nat)(big:Bool)(fl:List Nat)(st:Nat)(hs:0<st)(hf:∀f∈fl,f<18446744073709551616)(hl:fl.length≤1000000000)(hN:fl.length+1≤N+8)(es:List Nat)(he:es.length<4294967296)(bs:List Int)(hb:bs.length≤1000000000000)(v:Int×Unit×(List Int×Int×Int×Unit)×Unit)(hv:v.1=(es.length:Int)):∀(c i n p o:Nat),i+c=es.length→c+1≤n→Cw st fl.length p (es.drop i)→SP (bs.drop o) (segs big fl (st:Int) p (es.drop i))→
 Bad5 (F117_l1 (N+8) n (ordC big) (st:Int) v (i:Int) (ints (es.take i)++List.replicate c 0) (fl.take p) bs (o:Int) (-1)):=by
 intro c
 induction c with
 |zero=>
  intro i n p o hi hn hc h
  have e0:es.drop i=[]:=List.drop_eq_nil_of_le (by omega)
  rw[e0]at h
  exact absurd h SP_nil
 |succ c ih=>
  intro i n p o hi hn hc h
  obtain⟨n,rfl⟩:∃k,n=k+1:=⟨n-1,by omega⟩
  have hlt:i<es.length:=by omega
  rw[List.drop_eq_getElem_cons hlt]at hc h
  obtain⟨h1,⟨k,hk⟩,h3⟩:=hc
  have h2:=Cw_le h3
  have hsl:((fl.drop p).take (es[i]-p)).length=es[i]-p:=by simp;omega
  have hlen:(c1 big ((fl.drop p).take (es[i]-p)) (st:Int)).length=4+8*(es[i]-p):=by rw[c1_len,hsl]
  unfold segs at h
  show Bad5 (F117_g1 (N+8) (ordC big) (st:Int) v (F117_l1 (N+8) n (ordC big) (st:Int) v) (i:Int) (ints (es.take i)++List.replicate (c+1) 0) (fl.take p) bs (o:Int) (-1))
  unfold F117_g1
  rw[hv,decide_eq_true (by omega),cond_true]
  rcases SP_app h with h|⟨q',hq,h⟩
  ·rcases nC1 N big ((fl.drop p).take (es[i]-p)) st k (by rw[hsl,hk,Nat.mul_comm]) hs bs o (-1) h hb (by rw[hsl];omega)with⟨z,h⟩|⟨z,h⟩|⟨z,h⟩|⟨z,h⟩
   ·rw[h];exact .inl ⟨_,rfl⟩
   ·rw[h];exact .inr (.inl ⟨_,rfl⟩)
   ·rw[h];exact .inr (.inr (.inl ⟨_,rfl⟩))
   ·rw[h];exact .inr (.inr (.inr ⟨_,rfl⟩))
  ·have hR:=rC1 N big ((fl.drop p).take (es[i]-p)) st k (by rw[hsl,hk,Nat.mul_comm]) hs (fun f hm=>hf f (List.mem_of_mem_drop (List.mem_of_mem_take hm))) bs o (-1) q' hq hb (by rw[hsl];omega) (by rw[hsl];omega)
   have hd:=drop_drop' hq
   rw[hlen]at hd
   rw[hsl]at hR
   have hr:=ih (i+1) n es[i] (o+(4+8*(es[i]-p))) (by omega) (by omega) h3 (by rw[hd];exact h)
   rw[hR,Option.bind_some]
   simp only[Sum.elim_inr]
   have htl:(fl.take p).length=p:=by simp;omega
   have hta:fl.take p++(fl.drop p).take (es[i]-p)=fl.take es[i]:=by
    rw[←List.take_add,show p+(es[i]-p)=es[i]from by omega]
   rw[htl,hsl,lim_le (by omega),Option.bind_some,chkN (n:=i) rfl (by simp[ints];omega),Option.bind_some,hta,u32i (n:=i+1) (by omega) (by omega)]
   rw[show((fl.take es[i]).length:Int)=(es[i]:Int)from by simp;omega,ints_snoc es hlt c]
   exact hr
theorem nC2(N:Nat)(big:Bool)(fl:List Nat)(st:Nat)(hs:0<st)(hf:∀f∈fl,f<18446744073709551616)(hl:fl.length≤1000000000)(hN:fl.length+1≤N+8)(es:List Nat)(he:es.length<4294967296)(hN2:es.length+1≤N+8)(bs:List Int)(hb:bs.length≤1000000000000)(hc:Cw st fl.length 0 es)(o:Nat)(l:Int)(h:SP (bs.drop o) (c2 big fl es (st:Int))):
 Bad5 (F117 (N+8) (bs,(o:Int),l,()) (ordC big) (st:Int)):=by
 unfold c2 at h
 rw[u32i (n:=es.length) rfl he]at h
 unfold F117 F117_g
 rcases SP_app h with h|⟨q',hq,h⟩
 ·have:=SP_len h;rw[w32_len]at this
  rcases nU N bs o l (ordC big) this hb with⟨z,h⟩|⟨z,h⟩|⟨z,h⟩
  ·rw[h];exact .inl ⟨_,rfl⟩
  ·rw[h];exact .inr (.inl ⟨_,rfl⟩)
  ·rw[h];exact .inr (.inr (.inl ⟨_,rfl⟩))
 ·have hU:=rU N big bs o l (es.length:Int) q' hq ⟨by omega,by omega⟩ hb
  have h2:=drop_drop' hq
  rw[w32_len]at h2
  rw[hU,Option.bind_some]
  simp only[Sum.elim_inr]
  rw[decide_eq_false (by omega),cond_false]
  unfold F117_j0 F117_g0
  rw[gate_pos (by omega)]
  simp only[]
  have hm:mkn (es.length:Int) (es.length:Int) 8=some es.length:=by
   unfold mkn;rw[if_pos ⟨by omega,by omega,by omega,by omega⟩,Int.toNat_natCast]
  rw[hm,Option.bind_some]
  have:=nC2_loop N big fl st hs hf hl hN es he bs hb ((es.length:Int),(),(bs,((o+4:Nat):Int), -1,()),()) rfl es.length 0 (N+8) 0 (o+4) (by omega) hN2 hc (by rw[h2];exact h)
  simpa[ints]using this
theorem wFAo_loop(N:Nat)(big:Bool)(b:List Int)(l:Int)(fl:List Nat)(hb:b.length+8*fl.length≤140737488355328):∀(c i n:Nat) (dn:List Int),i+c=fl.length→c+1≤n→dn.length=8*i→
 F67_l0 N n (ordC big) fl (b,0,l,()) (i:Int) (dn++List.replicate (8*c) 0)=some ((),(b++(dn++fs big (fl.drop i)),0,0,()),fl,()):=by
 intro c
 induction c with
 |zero=>
  intro i n dn hi hn hd
  obtain⟨n,rfl⟩:∃k,n=k+1:=⟨n-1,by omega⟩
  show F67_g0 N (ordC big) fl (b,0,l,()) _ (i:Int) (dn++[])=_
  unfold F67_g0
  rw[decide_eq_false (by omega),cond_false,List.append_nil,wW N b dn l (by omega),List.drop_eq_nil_of_le (by omega),show fs big []=[]from rfl,List.append_nil]
  rfl
 |succ c ih=>
  intro i n dn hi hn hd
  obtain⟨n,rfl⟩:∃k,n=k+1:=⟨n-1,by omega⟩
  have hlt:i<fl.length:=by omega
  have hrep:List.replicate (8*(c+1)) (0:Int)=0::0::0::0::0::0::0::0::List.replicate (8*c) 0:=by
   rw[show 8*(c+1)=8*c+8 from by omega];rfl
  have hlen:(dn++List.replicate (8*(c+1)) (0:Int)).length=8*i+8*(c+1):=by simp[hd]
  have hm:8*i+8*(c+1)-8*i=(List.replicate (8*c) (0:Int)).length+8:=by rw[List.length_replicate];omega
  have hF:=wF N big dn (List.replicate (8*c) 0) 0 0 0 0 0 0 0 0 fl[i]
  have ha:=and5 ((List.replicate (8*c) (0:Int)).length+8) dn.length (dn++(w64 big (fl[i]:Int)++List.replicate (8*c) (0:Int))).length (8*i+8*(c+1)) (by omega) (by simp[w64_len,hd];omega)
  have hr:=ih (i+1) n (dn++w64 big (fl[i]:Int)) (by omega) (by omega) (by simp[w64_len,hd];omega)
  show F67_g0 N (ordC big) fl (b,0,l,()) (F67_l0 N n (ordC big) fl (b,0,l,())) (i:Int) (dn++List.replicate (8*(c+1)) 0)=_
  unfold F67_g0
  rw[decide_eq_true (by omega),cond_true,chkN rfl hlt,Option.bind_some,List.getElem?_eq_getElem hlt,Option.bind_some,hlen,chk2N (n:=8*i) (m:=8*i+8*(c+1)) (wrapN (by omega) (by omega)) rfl (by omega) (by omega),Option.bind_some]
  simp only[hm]
  rw[hrep,←hd,hF,Option.bind_some]
  simp only[]
  rw[show 8*i=dn.length from hd.symm]at ha
  rw[ha,cond_true,wrapN (n:=i+1) (by omega) (by omega),←List.append_assoc,hr,List.append_assoc,List.drop_eq_getElem_cons hlt]
  rfl
theorem wFAo(N:Nat)(big:Bool)(b:List Int)(l:Int)(fl:List Nat)(hb:b.length+8*fl.length≤140737488355328)(hN:fl.length+1≤N):
 F67 N (b,0,l,()) (ordC big) fl=some ((),(b++fs big fl,0,0,()),fl,()):=by
 unfold F67 F67_g
 have hm:mkn (IntKind.i64.wrap (8*(fl.length:Int))) (IntKind.i64.wrap (8*(fl.length:Int))) 1=some (8*fl.length):=by
  rw[wrapN (n:=8*fl.length) (by omega) (by omega)];unfold mkn;rw[if_pos ⟨by omega,by omega,by omega,by omega⟩,Int.toNat_natCast]
 rw[hm,Option.bind_some]
 have h:=wFAo_loop N big b l fl hb fl.length 0 N [] (by omega) hN rfl
 simpa using h
theorem wC0o(N:Nat)(big:Bool)(b:List Int)(l:Int)(fl:List Nat)(hb:b.length+8*fl.length≤140737488355328)(hN:fl.length+1≤N):
 F68 N (b,0,l,()) (ordC big) fl=some ((),(b++fs big fl,0,0,()),fl,()):=by
 unfold F68 F68_g
 rw[wFAo N big b l fl hb hN];rfl
def qn:Nat:=9221120237041090560
theorem wE(N:Nat)(big:Bool)(b:List Int)(l:Int)(st:Nat)(hs:st=2∨st=3∨st=4)(hb:b.length+32≤140737488355328):
 F69 (N+8) (b,0,l,()) (ordC big) (st:Int)=some ((),(b++fs big (List.replicate st qn),0,0,()),()):=by
 rcases hs with rfl|rfl|rfl
 ·exact(show F69 (N+8) (b,0,l,()) (ordC big) ((2:Nat):Int)=(F68 (N+8) (b,0,l,()) (ordC big) [qn,qn]).bind (fun v11=>some ((),(v11.2.1.1,v11.2.1.2.1,v11.2.1.2.2.1,()),()))from by kernel_rfl).trans (by rw[wC0o (N+8) big b l [qn,qn] (by simp;omega) (by simp)];rfl)
 ·exact(show F69 (N+8) (b,0,l,()) (ordC big) ((3:Nat):Int)=(F68 (N+8) (b,0,l,()) (ordC big) [qn,qn,qn]).bind (fun v11=>some ((),(v11.2.1.1,v11.2.1.2.1,v11.2.1.2.2.1,()),()))from by kernel_rfl).trans (by rw[wC0o (N+8) big b l [qn,qn,qn] (by simp;omega) (by simp)];rfl)
 ·exact(show F69 (N+8) (b,0,l,()) (ordC big) ((4:Nat):Int)=(F68 (N+8) (b,0,l,()) (ordC big) [qn,qn,qn,qn]).bind (fun v11=>some ((),(v11.2.1.1,v11.2.1.2.1,v11.2.1.2.2.1,()),()))from by kernel_rfl).trans (by rw[wC0o (N+8) big b l [qn,qn,qn,qn] (by simp;omega) (by simp)];rfl)
def oB(big:Bool):Int:=if big then 0 else 1
def cell4(ly st:Int)(fl:List Nat)(sr:Int):List Ce:=[Ce.int .i64 ly,Ce.int .i64 st,Ce.fl fl,Ce.int .i64 sr]
def fg(ly:Int):Int:=if ly=2 then 1000 else if ly=3 then 2000 else if ly=4 then 3000 else 0
def hdr(big:Bool)(k ly:Int):List Int:=oB big::w32 big (k+fg ly)
theorem hdr_len(big:Bool)(k ly:Int):(hdr big k ly).length=5:=by
 unfold hdr;rw[List.length_cons,w32_len]
def op:((Int×Unit)×Unit)×Unit:=(((1,()),()),())
abbrev WR3:Type:=(Unit×((List Int)×Int×Int×Unit)×(((Int×Unit)×Unit)×Unit)×Unit)⊕(Int×((List Int)×Int×Int×Unit)×(((Int×Unit)×Unit)×Unit)×Unit)⊕(Unit×((List Int)×Int×Int×Unit)×(((Int×Unit)×Unit)×Unit)×Unit)⊕((ByteArray×Unit)×((List Int)×Int×Int×Unit)×(((Int×Unit)×Unit)×Unit)×Unit)
def wok(b:List Int):Option WR3:=some (Sum.inr (Sum.inr (Sum.inl ((),(b,0,0,()),op,()))))
theorem hdx{R:Type}(N:Nat)(big:Bool)(b:List Int)(l k ly:Int)(hb:b.length+9≤140737488355328)(J:List Int×Int×Int×Unit→Option R):
 ((F56 (N+8) (b,0,l,()) (oB big)).bind fun v9=>(F61 (N+8) v9.2.1 (ordC big) (k+fg ly)).bind fun v8=>J v8.2.1)=J (b++hdr big k ly,0,0,()):=by
 rw[wB (N+8) b l _ (by omega),Option.bind_some]
 show(F61 (N+8) (b++[oB big],0,0,()) (ordC big) (k+fg ly)).bind _=_
 rw[wU N big _ 0 _ (by simp;omega),Option.bind_some,List.append_assoc]
 rfl
abbrev OP:Type:=((Int×Unit)×Unit)×Unit
abbrev BF:Type:=(List Int)×Int×Int×Unit
abbrev RR:Type:=(Ce×Unit×BF×OP×Unit)⊕(Ce×Int×BF×OP×Unit)⊕(Ce×Unit×BF×OP×Unit)⊕(Ce×Unit×BF×OP×Unit)⊕(Ce×Int×BF×OP×Unit)⊕(Ce×Unit×BF×OP×Unit)⊕(Ce×(Int×(Int×(Int×Unit)))×BF×OP×Unit)⊕(Ce×(Int×(Int×Unit))×BF×OP×Unit)⊕(Ce×Int×BF×OP×Unit)
def rok(c:Ce)(bs:List Int)(o:Nat):Option RR:=some (Sum.inr (Sum.inr (Sum.inr (Sum.inr (Sum.inr (Sum.inl (c,(),(bs,(o:Int), -1,()),op,())))))))
def bad:RR→Bool
 | .inr (.inr (.inr (.inr (.inr (.inl _)))))=>false
 |_=>true
def Bad(r:Option RR):Prop:=∃x,r=some x∧bad x=true
def v3c:(Int×Unit)×OP×Unit:=((1,()),op,())
def cd(k ly:Int):Int:=k+fg ly
def lyr(ly:Int):Int:=if ly=0 then 1 else ly
def ly5(ly:Int):Prop:=ly=0∨ly=1∨ly=2∨ly=3∨ly=4
def k7(k:Int):Prop:=k=1∨k=2∨k=3∨k=4∨k=5∨k=6∨k=7
theorem cd_bd{k ly:Int}(hk:k7 k)(hl:ly5 ly):0≤cd k ly∧cd k ly<4294967296:=by
 unfold cd fg;unfold k7 at hk;unfold ly5 at hl
 rcases hl with rfl|rfl|rfl|rfl|rfl<;>simp<;>omega
theorem cd_ly{k ly:Int}(hk:k7 k)(hl:ly5 ly):IntKind.u32.wrap (1000*(IntKind.u32.wrap (Int.tdiv (cd k ly) 1000)))=fg ly:=by
 rcases hl with rfl|rfl|rfl|rfl|rfl<;>rcases hk with rfl|rfl|rfl|rfl|rfl|rfl|rfl<;>decide+kernel
theorem cd_k{k ly:Int}(hk:k7 k)(hl:ly5 ly):Int.tmod (cd k ly) 1000=k:=by
 rcases hl with rfl|rfl|rfl|rfl|rfl<;>rcases hk with rfl|rfl|rfl|rfl|rfl|rfl|rfl<;>decide+kernel
theorem iniW(N:Nat):F55 (N+8) (0,()) op=some v3c:=by kernel_rfl
theorem rhd(N d:Nat)(big:Bool)(bs:List Int)(o:Nat)(l k ly:Int)(hk:k7 k)(hly:ly5 ly)(hb:bs.length≤1000000000000):
 (∀r,bs.drop o=hdr big k ly++r→F126 (N+8) (d+1) (bs,(o:Int),l,()) op=F126_j1 (N+8) (F126 (N+8) d) (ordC big) (cd k ly,(),(bs,((o+5:Nat):Int), -1,()),()) v3c (lyr ly))∧
 (SP (bs.drop o) (hdr big k ly)→Bad (F126 (N+8) (d+1) (bs,(o:Int),l,()) op)):=by
 have hc:=cd_bd hk hly
 have e:F126 (N+8) (d+1) (bs,(o:Int),l,()) op=(F100 (N+8) (bs,(o:Int),l,())).bind fun v4=>Sum.elim (fun v5=>some (Sum.inl (Ce.nili,(),v5.2.2.1,op,()))) (fun v6=>bif(v6.1==0)then F126_j0 (N+8) (F126 (N+8) d) v3c v6 (Ce.ifa 104 [])else(bif(v6.1==1)then F126_j0 (N+8) (F126 (N+8) d) v3c v6 (Ce.ifa 105 [])else some (Sum.inr (Sum.inl (Ce.nili,v6.1,v6.2.2.1,op,()))))) v4:=by
  refine Eq.trans (b:=(F55 (N+8) (0,()) op).bind fun v3=>(F100 (N+8) (bs,(o:Int),l,())).bind fun v4=>Sum.elim (fun v5=>some (Sum.inl (Ce.nili,(),v5.2.2.1,(((v3.2.1.1.1.1,()),()),()),()))) (fun v6=>bif(v6.1==0)then F126_j0 (N+8) (F126 (N+8) d) v3 v6 (Ce.ifa 104 [])else(bif(v6.1==1)then F126_j0 (N+8) (F126 (N+8) d) v3 v6 (Ce.ifa 105 [])else some (Sum.inr (Sum.inl (Ce.nili,v6.1,v6.2.2.1,(((v3.2.1.1.1.1,()),()),()),()))))) v4) rfl ?_
  rw[iniW];rfl
 have go:∀q,bs.drop o=oB big::q→F126 (N+8) (d+1) (bs,(o:Int),l,()) op=F126_j0 (N+8) (F126 (N+8) d) v3c (oB big,(),(bs,((o+1:Nat):Int), -1,()),()) (ordC big):=fun q hq=>by
  rw[e,rB N bs o l (oB big) q hq hb]
  cases big<;>rfl
 constructor
 ·intro r h
  have h0:bs.drop o=oB big::(w32 big (cd k ly)++r):=h
  have h1:=drop_drop' (e:=[oB big]) (r:=w32 big (cd k ly)++r) h0
  simp only[List.length_cons,List.length_nil,Nat.zero_add]at h1
  have hU:=rU N big bs (o+1) (-1) (cd k ly) r h1 hc hb
  rw[go _ h0]
  unfold F126_j0 F126_g0
  rw[gate_pos (by omega),hU,Option.bind_some]
  simp only[Sum.elim_inr]
  rw[cd_ly hk hly]
  rcases hly with rfl|rfl|rfl|rfl|rfl<;>rfl
 ·intro h
  rcases SP_app (a:=[oB big]) (b:=w32 big (cd k ly)) h with h|⟨q',hq,h⟩
  ·have hl:=SP_len h
   rw[List.length_drop]at hl
   simp only[List.length_cons,List.length_nil]at hl
   obtain⟨z,hz⟩:=nB N bs o l (by omega)
   rw[e,hz]
   exact⟨_,rfl,rfl⟩
  ·have hq':bs.drop o=oB big::q':=hq
   have h1:=drop_drop' (e:=[oB big]) (r:=q') hq'
   simp only[List.length_cons,List.length_nil,Nat.zero_add]at h1
   have hl:=SP_len h
   rw[w32_len,←h1]at hl
   rw[go _ hq']
   unfold F126_j0 F126_g0
   rw[gate_pos (by omega)]
   rcases nU N bs (o+1) (-1) (ordC big) hl hb with⟨z,h⟩|⟨z,h⟩|⟨z,h⟩<;>(rw[h];exact⟨_,rfl,rfl⟩)
def oP(ly st:Int)(fl:List Nat)(sr:Int):Ce:= .ifc 72 (.ptr (cell4 ly st fl sr))
def oL(ly st:Int)(fl:List Nat)(sr:Int):Ce:= .ifc 75 (.ptr (cell4 ly st fl sr))
def oY(ly st:Int)(fl:List Nat)(sr:Int)(es:List Int):Ce:= .ifc 81 (.ptr (cell4 ly st fl sr++[Ce.il es]))
def eP(big:Bool)(ly:Int)(st:Nat)(fl:List Nat):List Int:=hdr big 1 ly++fs big (if fl=[]then List.replicate st qn else fl)
def eL(big:Bool)(ly:Int)(st:Nat)(fl:List Nat):List Int:=hdr big 2 ly++c1 big fl (st:Int)
def eY(big:Bool)(ly:Int)(st:Nat)(fl:List Nat)(es:List Nat):List Int:=hdr big 3 ly++c2 big fl es (st:Int)
theorem wP(N d:Nat)(big:Bool)(b:List Int)(l ly:Int)(st:Nat)(fl:List Nat)(sr:Int)(hly:ly=1∨ly=2∨ly=3∨ly=4)(hs:st=2∨st=3∨st=4)(hb:b.length+9+8*fl.length+32≤140737488355328)(hN:fl.length+1≤N+8):
 F87 (N+8) (d+1) (b,0,l,()) (ordC big) (oP ly st fl sr) op=wok (b++eP big ly st fl):=by
 have hh:=hdr_len big 1 ly
 have hB:(b++hdr big 1 ly).length=b.length+5:=by rw[List.length_append,hh]
 rw[show b++eP big ly st fl=(b++hdr big 1 ly)++fs big (if fl=[]then List.replicate st qn else fl)from by rw[List.append_assoc];rfl]
 cases fl with
 |nil=>
  refine Eq.trans ?_ ((hdx N big b l 1 ly (by omega) (fun B=>(F69 (N+8) B (ordC big) (st:Int)).bind fun v=>some (Sum.inr (Sum.inr (Sum.inl ((),v.2.1,op,())))))).trans ?_)
  ·rcases hly with rfl|rfl|rfl|rfl<;>cases big<;>kernel_rfl
  ·rw[wE N big (b++hdr big 1 ly) 0 st hs (by omega)];rfl
 |cons a r=>
  refine Eq.trans ?_ ((hdx N big b l 1 ly (by omega) (fun B=>(F73 (N+8) B (ordC big) (a::r)).bind fun v=>some (Sum.inr (Sum.inr (Sum.inl ((),v.2.1,op,())))))).trans ?_)
  ·rcases hly with rfl|rfl|rfl|rfl<;>cases big<;>kernel_rfl
  ·rw[wC0 (N+8) big (b++hdr big 1 ly) 0 (a::r) (by omega) hN,if_neg (by simp)];rfl
theorem wL(N d:Nat)(big:Bool)(b:List Int)(l ly:Int)(st:Nat)(fl:List Nat)(sr:Int)(hly:ly=1∨ly=2∨ly=3∨ly=4)(hs:st=2∨st=3∨st=4)(hb:b.length+13+8*fl.length≤140737488355328)(hN:fl.length+1≤N+8):
 F87 (N+8) (d+1) (b,0,l,()) (ordC big) (oL ly st fl sr) op=wok (b++eL big ly st fl):=by
 have hB:(b++hdr big 2 ly).length=b.length+5:=by rw[List.length_append,hdr_len]
 rw[show b++eL big ly st fl=(b++hdr big 2 ly)++c1 big fl (st:Int)from by rw[List.append_assoc];rfl]
 refine Eq.trans ?_ ((hdx N big b l 2 ly (by omega) (fun B=>(F74 (N+8) B (ordC big) fl (st:Int)).bind fun v=>some (Sum.inr (Sum.inr (Sum.inl ((),v.2.1,op,())))))).trans ?_)
 ·rcases hly with rfl|rfl|rfl|rfl<;>cases big<;>kernel_rfl
 ·rw[wC1 N big (b++hdr big 2 ly) 0 (st:Int) fl (by omega) (by omega) hN];rfl
theorem wY(N d:Nat)(big:Bool)(b:List Int)(l ly:Int)(st:Nat)(fl:List Nat)(sr:Int)(es:List Nat)(hly:ly=1∨ly=2∨ly=3∨ly=4)(hs:st=2∨st=3∨st=4)(hb:b.length+13+8*fl.length+4*es.length≤140737488355328)(hN:fl.length+1≤N+8)(hN2:es.length+1≤N+8)(hc:Ch fl.length 0 es):
 F87 (N+8) (d+1) (b,0,l,()) (ordC big) (oY ly st fl sr (ints es)) op=wok (b++eY big ly st fl es):=by
 have hB:(b++hdr big 3 ly).length=b.length+5:=by rw[List.length_append,hdr_len]
 rw[show b++eY big ly st fl es=(b++hdr big 3 ly)++c2 big fl es (st:Int)from by rw[List.append_assoc];rfl]
 refine Eq.trans ?_ ((hdx N big b l 3 ly (by omega) (fun B=>(F76 (N+8) B (ordC big) fl (ints es) (st:Int)).bind fun v=>some (Sum.inr (Sum.inr (Sum.inl ((),v.2.1,op,())))))).trans ?_)
 ·rcases hly with rfl|rfl|rfl|rfl<;>cases big<;>kernel_rfl
 ·rw[wC2 N big fl (st:Int) (by omega) es hN hN2 (b++hdr big 3 ly) 0 hc (by omega)];rfl
end Go.Proofs.YtllnonlmibanfaaGreatDoor.WC
