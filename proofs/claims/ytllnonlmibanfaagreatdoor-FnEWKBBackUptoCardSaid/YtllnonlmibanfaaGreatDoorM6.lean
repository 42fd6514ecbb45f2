/- Texts of the proof, merged: EB3 EB4 PwA PwB PwC PwD Fl1 Pv1 Pv2 Pv3 PrA PrB PrC PwE PrD PwF PwG PwH PrE PwI PwJ PwK PwL PrF. -/
import Derived.Test.YtllnonlmibanfaaGreatDoorM5
set_option linter.unusedVariables false
set_option maxRecDepth 100000
set_option linter.unusedSimpArgs false
set_option linter.unusedSectionVars false
namespace Go.Proofs.YtllnonlmibanfaaGreatDoor.EB
open Go Go.Av
noncomputable section
noncomputable def F84_g6(N:Nat)(self:T0→Ce→Ce→Option T4)(v2 v290:Ce)(v291:Int)(r6:Int→(List Int)→Int→Int→Option T4)(v299:Int)(v300:List Int)(v301 v302:Int):Option T4:=
 (bif(decide ((v299:Int)<v291))then((F77 N v290 v299).bind fun v303=>(self (v300,v301,v302,()) v2 (Ce.ifc 72 (Ce.ptr [(Ce.int .i64 v303.1.1),(Ce.int .i64 v303.1.2.1),(Ce.fl v303.1.2.2.1),(Ce.int .i64 v303.1.2.2.2.1)]))).bind fun v304=>Sum.elim (fun v305=>(some (Sum.inl (v305.1,v305.2.1,())))) (fun v306=>Sum.elim (fun v307=>(some (Sum.inr (Sum.inl (v307.1,v307.2.1,()))))) (fun v308=>((r6 (IntKind.i64.wrap (v299+1)) v308.2.1.1 v308.2.1.2.1 v308.2.1.2.2.1))) v306) v304)else(some (Sum.inr (Sum.inr ((),(v300,v301,v302,()),())))))
noncomputable def F84_l6(N:Nat)(self:T0→Ce→Ce→Option T4):Nat→Ce→Ce→Int→Int→(List Int)→Int→Int→Option T4
 |0,_,_,_,_,_,_,_=>none
 |n+1,v2,v290,v291,v299,v300,v301,v302=>F84_g6 N self v2 v290 v291 (F84_l6 N self n v2 v290 v291) v299 v300 v301 v302
noncomputable def F84_g7(N:Nat)(self:T0→Ce→Ce→Option T4)(v2 v310:Ce)(v311:Int)(r7:Int→(List Int)→Int→Int→Option T4)(v319:Int)(v320:List Int)(v321 v322:Int):Option T4:=
 (bif(decide ((v319:Int)<v311))then((F80 N v310 v319).bind fun v323=>(self (v320,v321,v322,()) v2 (Ce.ifc 75 (Ce.ptr [(Ce.int .i64 v323.1.1),(Ce.int .i64 v323.1.2.1),(Ce.fl v323.1.2.2.1),(Ce.int .i64 v323.1.2.2.2.1)]))).bind fun v324=>Sum.elim (fun v325=>(some (Sum.inl (v325.1,v325.2.1,())))) (fun v326=>Sum.elim (fun v327=>(some (Sum.inr (Sum.inl (v327.1,v327.2.1,()))))) (fun v328=>((r7 (IntKind.i64.wrap (v319+1)) v328.2.1.1 v328.2.1.2.1 v328.2.1.2.2.1))) v326) v324)else(some (Sum.inr (Sum.inr ((),(v320,v321,v322,()),())))))
noncomputable def F84_l7(N:Nat)(self:T0→Ce→Ce→Option T4):Nat→Ce→Ce→Int→Int→(List Int)→Int→Int→Option T4
 |0,_,_,_,_,_,_,_=>none
 |n+1,v2,v310,v311,v319,v320,v321,v322=>F84_g7 N self v2 v310 v311 (F84_l7 N self n v2 v310 v311) v319 v320 v321 v322
noncomputable def F84_g8(N:Nat)(self:T0→Ce→Ce→Option T4)(v2 v330:Ce)(v331:Int)(r8:Int→(List Int)→Int→Int→Option T4)(v339:Int)(v340:List Int)(v341 v342:Int):Option T4:=
 (bif(decide ((v339:Int)<v331))then((F83 N v330 v339).bind fun v343=>(self (v340,v341,v342,()) v2 (Ce.ifc 81 (Ce.ptr [(Ce.int .i64 v343.1.1),(Ce.int .i64 v343.1.2.1),(Ce.fl v343.1.2.2.1),(Ce.int .i64 v343.1.2.2.2.1),(Ce.il v343.1.2.2.2.2.1)]))).bind fun v344=>Sum.elim (fun v345=>(some (Sum.inl (v345.1,v345.2.1,())))) (fun v346=>Sum.elim (fun v347=>(some (Sum.inr (Sum.inl (v347.1,v347.2.1,()))))) (fun v348=>((r8 (IntKind.i64.wrap (v339+1)) v348.2.1.1 v348.2.1.2.1 v348.2.1.2.2.1))) v346) v344)else(some (Sum.inr (Sum.inr ((),(v340,v341,v342,()),())))))
noncomputable def F84_l8(N:Nat)(self:T0→Ce→Ce→Option T4):Nat→Ce→Ce→Int→Int→(List Int)→Int→Int→Option T4
 |0,_,_,_,_,_,_,_=>none
 |n+1,v2,v330,v331,v339,v340,v341,v342=>F84_g8 N self v2 v330 v331 (F84_l8 N self n v2 v330 v331) v339 v340 v341 v342
noncomputable def F84_g9(N:Nat)(self:T0→Ce→Ce→Option T4)(v2 v350:Ce)(v351:Int)(r9:Int→(List Int)→Int→Int→Option T4)(v359:Int)(v360:List Int)(v361 v362:Int):Option T4:=
 (bif(decide ((v359:Int)<v351))then((F51 N v350 v359).bind fun v363=>(self (v360,v361,v362,()) v2 v363).bind fun v364=>Sum.elim (fun v365=>(some (Sum.inl (v365.1,v365.2.1,())))) (fun v366=>Sum.elim (fun v367=>(some (Sum.inr (Sum.inl (v367.1,v367.2.1,()))))) (fun v368=>((r9 (IntKind.i64.wrap (v359+1)) v368.2.1.1 v368.2.1.2.1 v368.2.1.2.2.1))) v366) v364)else(some (Sum.inr (Sum.inr ((),(v360,v361,v362,()),())))))
noncomputable def F84_l9(N:Nat)(self:T0→Ce→Ce→Option T4):Nat→Ce→Ce→Int→Int→(List Int)→Int→Int→Option T4
 |0,_,_,_,_,_,_,_=>none
 |n+1,v2,v350,v351,v359,v360,v361,v362=>F84_g9 N self v2 v350 v351 (F84_l9 N self n v2 v350 v351) v359 v360 v361 v362
noncomputable def F84_g5(N:Nat)(self:T0→Ce→Ce→Option T4)(v2 v3:Ce)(c6 c7 c8 c9:Ce→Ce→Int→Int→(List Int)→Int→Int→Option T4)(v252:List Int)(v253 v254:Int):Option T4:=
 ((isT 72 v3).bind fun v255=>(bif v255 then((asT .any 72 v3).bind fun v256=>((isNilp v256).bind fun v257=>(bif v257 then none else((ptrD p0 v256).bind fun v258=>(F53 N v258.1).bind fun v259=>(bif v259.1 then((isNilp v256).bind fun v260=>(bif v260 then none else((ptrD p0 v256).bind fun v261=>(F60 N v261.1).bind fun v262=>(F67 N (v252,v253,v254,()) v2 v262.1).bind fun v263=>(some (Sum.inr (Sum.inr ((),v263.2.1,())))))))else((isNilp v256).bind fun v264=>(bif v264 then none else((ptrD p0 v256).bind fun v265=>(F68 N v265.1).bind fun v266=>(F70 N (v252,v253,v254,()) v2 v266.1).bind fun v267=>(some (Sum.inr (Sum.inr ((),v267.2.1,()))))))))))))else((isT 75 v3).bind fun v268=>(bif v268 then((asT .any 75 v3).bind fun v269=>((isNilp v269).bind fun v270=>(bif v270 then none else((ptrD (.pair p0 .unit) v269).bind fun v271=>(F68 N v271.1.1).bind fun v272=>(isNilp v269).bind fun v273=>(bif v273 then none else((ptrD (.pair p0 .unit) v269).bind fun v274=>(F60 N v274.1.1).bind fun v275=>(F71 N (v252,v253,v254,()) v2 v272.1 v275.1).bind fun v276=>(some (Sum.inr (Sum.inr ((),v276.2.1,()))))))))))else((isT 81 v3).bind fun v277=>(bif v277 then((asT .any 81 v3).bind fun v278=>((isNilp v278).bind fun v279=>(bif v279 then none else((ptrD p1 v278).bind fun v280=>(F68 N v280.1.1.1).bind fun v281=>(isNilp v278).bind fun v282=>(bif v282 then none else((ptrD p1 v278).bind fun v283=>(F72 N v283.1).bind fun v284=>(isNilp v278).bind fun v285=>(bif v285 then none else((ptrD p1 v278).bind fun v286=>(F60 N v286.1.1.1).bind fun v287=>(F73 N (v252,v253,v254,()) v2 v281.1 v284.1 v287.1).bind fun v288=>(some (Sum.inr (Sum.inr ((),v288.2.1,()))))))))))))else((isT 85 v3).bind fun v289=>(bif v289 then((asT .any 85 v3).bind fun v290=>((F47 N v290).bind fun v291=>((F59 N (v252,v253,v254,()) v2 (IntKind.u32.wrap v291)).bind fun v292=>((c6 v2 v290 v291 0 v292.2.1.1 v292.2.1.2.1 v292.2.1.2.2.1)))))else((isT 91 v3).bind fun v309=>(bif v309 then((asT .any 91 v3).bind fun v310=>((F48 N v310).bind fun v311=>((F59 N (v252,v253,v254,()) v2 (IntKind.u32.wrap v311)).bind fun v312=>((c7 v2 v310 v311 0 v312.2.1.1 v312.2.1.2.1 v312.2.1.2.2.1)))))else((isT 94 v3).bind fun v329=>(bif v329 then((asT .any 94 v3).bind fun v330=>((F49 N v330).bind fun v331=>((F59 N (v252,v253,v254,()) v2 (IntKind.u32.wrap v331)).bind fun v332=>((c8 v2 v330 v331 0 v332.2.1.1 v332.2.1.2.1 v332.2.1.2.2.1)))))else((isT 98 v3).bind fun v349=>(bif v349 then((asT .any 98 v3).bind fun v350=>((F50 N v350).bind fun v351=>((F59 N (v252,v253,v254,()) v2 (IntKind.u32.wrap v351)).bind fun v352=>((c9 v2 v350 v351 0 v352.2.1.1 v352.2.1.2.1 v352.2.1.2.2.1)))))else none))))))))))))))
noncomputable def F84_j5(N:Nat)(self:T0→Ce→Ce→Option T4)(v2 v3:Ce)(v252:List Int)(v253 v254:Int):Option T4:=
 gate N (F84_g5 N self v2 v3 (F84_l6 N self N) (F84_l7 N self N) (F84_l8 N self N) (F84_l9 N self N) v252 v253 v254)
noncomputable def F84_g4(N:Nat)(self:T0→Ce→Ce→Option T4)(v2 v3:Ce)(v248:Int)(v7:T19)(c5:Ce→Ce→(List Int)→Int→Int→Option T4)(v249:Int):Option T4:=
 (F59 N v7.2.1 v2 v249).bind fun v250=>(bif((bits .and .u32 v249 536870912) !=0)then((F59 N v250.2.1 v2 (IntKind.u32.wrap v248)).bind fun v251=>(c5 v2 v3 v251.2.1.1 v251.2.1.2.1 v251.2.1.2.2.1))else(c5 v2 v3 v250.2.1.1 v250.2.1.2.1 v250.2.1.2.2.1))
noncomputable def F84_j4(N:Nat)(self:T0→Ce→Ce→Option T4)(v2 v3:Ce)(v248:Int)(v7:T19)(v249:Int):Option T4:=
 gate N (F84_g4 N self v2 v3 v248 v7 (F84_j5 N self) v249)
noncomputable def F84_g3(N:Nat)(self:T0→Ce→Ce→Option T4)(v2 v3:Ce)(v7:T19)(c4:Ce→Ce→Int→T19→Int→Option T4)(v211:Int):Option T4:=
 ((isT 104 v3).bind fun v212=>(bif v212 then((asT .unit 104 v3).bind fun v213=>none)else((isT 105 v3).bind fun v214=>(bif v214 then((asT .unit 105 v3).bind fun v215=>none)else((isT 72 v3).bind fun v216=>(bif v216 then((asT .any 72 v3).bind fun v217=>(ptrD p0 v217).bind fun v218=>(F55 N v218.1).bind fun v219=>some v219.1)else((isT 75 v3).bind fun v220=>(bif v220 then((asT .any 75 v3).bind fun v221=>(ptrD (.pair p0 .unit) v221).bind fun v222=>(F55 N v222.1.1).bind fun v223=>some v223.1)else((isT 78 v3).bind fun v224=>(bif v224 then((asT .any 78 v3).bind fun v225=>(ptrD (.pair p0 .unit) v225).bind fun v226=>(F55 N v226.1.1).bind fun v227=>some v227.1)else((isT 81 v3).bind fun v228=>(bif v228 then((asT .any 81 v3).bind fun v229=>(ptrD p1 v229).bind fun v230=>(F55 N v230.1.1.1).bind fun v231=>some v231.1)else((isT 85 v3).bind fun v232=>(bif v232 then((asT .any 85 v3).bind fun v233=>(ptrD p1 v233).bind fun v234=>(F55 N v234.1.1.1).bind fun v235=>some v235.1)else((isT 91 v3).bind fun v236=>(bif v236 then((asT .any 91 v3).bind fun v237=>(ptrD p1 v237).bind fun v238=>(F55 N v238.1.1.1).bind fun v239=>some v239.1)else((isT 94 v3).bind fun v240=>(bif v240 then((asT .any 94 v3).bind fun v241=>(ptrD p3 v241).bind fun v242=>(F55 N v242.1.1.1).bind fun v243=>some v243.1)else((isT 98 v3).bind fun v244=>(bif v244 then((asT .any 98 v3).bind fun v245=>(ptrD p2 v245).bind fun v246=>(F56 N v246).bind fun v247=>some v247.1)else none)))))))))))))))))))).bind fun v248=>(bif(v248 !=0)then(c4 v2 v3 v248 v7 (bits .or .u32 v211 536870912))else(c4 v2 v3 v248 v7 v211))
noncomputable def F84_j3(N:Nat)(self:T0→Ce→Ce→Option T4)(v2 v3:Ce)(v7:T19)(v211:Int):Option T4:=
 gate N (F84_g3 N self v2 v3 v7 (F84_j4 N self) v211)
noncomputable def F84_g2(N:Nat)(self:T0→Ce→Ce→Option T4)(v2 v3:Ce)(v22:Int)(v7:T19)(c3:Ce→Ce→T19→Int→Option T4)(v62:Bool):Option T4:=
 bif(!v62)then(((isT 104 v3).bind fun v100=>(bif v100 then((asT .unit 104 v3).bind fun v101=>none)else((isT 105 v3).bind fun v102=>(bif v102 then((asT .unit 105 v3).bind fun v103=>none)else((isT 72 v3).bind fun v104=>(bif v104 then((asT .any 72 v3).bind fun v105=>(ptrD p0 v105).bind fun v106=>(F38 N v106.1).bind fun v107=>some v107.1)else((isT 75 v3).bind fun v108=>(bif v108 then((asT .any 75 v3).bind fun v109=>(ptrD (.pair p0 .unit) v109).bind fun v110=>(F38 N v110.1.1).bind fun v111=>some v111.1)else((isT 78 v3).bind fun v112=>(bif v112 then((asT .any 78 v3).bind fun v113=>(ptrD (.pair p0 .unit) v113).bind fun v114=>(F38 N v114.1.1).bind fun v115=>some v115.1)else((isT 81 v3).bind fun v116=>(bif v116 then((asT .any 81 v3).bind fun v117=>(ptrD p1 v117).bind fun v118=>(F38 N v118.1.1.1).bind fun v119=>some v119.1)else((isT 85 v3).bind fun v120=>(bif v120 then((asT .any 85 v3).bind fun v121=>(ptrD p1 v121).bind fun v122=>(F38 N v122.1.1.1).bind fun v123=>some v123.1)else((isT 91 v3).bind fun v124=>(bif v124 then((asT .any 91 v3).bind fun v125=>(ptrD p1 v125).bind fun v126=>(F38 N v126.1.1.1).bind fun v127=>some v127.1)else((isT 94 v3).bind fun v128=>(bif v128 then((asT .any 94 v3).bind fun v129=>(ptrD p3 v129).bind fun v130=>(F38 N v130.1.1.1).bind fun v131=>some v131.1)else((isT 98 v3).bind fun v132=>(bif v132 then((asT .any 98 v3).bind fun v133=>(ptrD p2 v133).bind fun v134=>(F39 N N v134).bind fun v135=>some v135.1)else none)))))))))))))))))))).bind fun v136=>(some (Sum.inr (Sum.inl (v136,v7.2.1,())))))else(((isT 104 v3).bind fun v63=>(bif v63 then((asT .unit 104 v3).bind fun v64=>none)else((isT 105 v3).bind fun v65=>(bif v65 then((asT .unit 105 v3).bind fun v66=>none)else((isT 72 v3).bind fun v67=>(bif v67 then((asT .any 72 v3).bind fun v68=>(ptrD p0 v68).bind fun v69=>(F53 N v69.1).bind fun v70=>some v70.1)else((isT 75 v3).bind fun v71=>(bif v71 then((asT .any 75 v3).bind fun v72=>(ptrD (.pair p0 .unit) v72).bind fun v73=>(F53 N v73.1.1).bind fun v74=>some v74.1)else((isT 78 v3).bind fun v75=>(bif v75 then((asT .any 78 v3).bind fun v76=>(ptrD (.pair p0 .unit) v76).bind fun v77=>(F53 N v77.1.1).bind fun v78=>some v78.1)else((isT 81 v3).bind fun v79=>(bif v79 then((asT .any 81 v3).bind fun v80=>(ptrD p1 v80).bind fun v81=>(F53 N v81.1.1.1).bind fun v82=>some v82.1)else((isT 85 v3).bind fun v83=>(bif v83 then((asT .any 85 v3).bind fun v84=>(ptrD p1 v84).bind fun v85=>(F53 N v85.1.1.1).bind fun v86=>some v86.1)else((isT 91 v3).bind fun v87=>(bif v87 then((asT .any 91 v3).bind fun v88=>(ptrD p1 v88).bind fun v89=>(F53 N v89.1.1.1).bind fun v90=>some v90.1)else((isT 94 v3).bind fun v91=>(bif v91 then((asT .any 94 v3).bind fun v92=>(ptrD p3 v92).bind fun v93=>(F53 N v93.1.1.1).bind fun v94=>some v94.1)else((isT 98 v3).bind fun v95=>(bif v95 then((asT .any 98 v3).bind fun v96=>(ptrD p2 v96).bind fun v97=>(F54 N N v97).bind fun v98=>some v98.1)else none)))))))))))))))))))).bind fun v99=>(bif(!v99)then(((isT 104 v3).bind fun v137=>(bif v137 then((asT .unit 104 v3).bind fun v138=>none)else((isT 105 v3).bind fun v139=>(bif v139 then((asT .unit 105 v3).bind fun v140=>none)else((isT 72 v3).bind fun v141=>(bif v141 then((asT .any 72 v3).bind fun v142=>(ptrD p0 v142).bind fun v143=>(F38 N v143.1).bind fun v144=>some v144.1)else((isT 75 v3).bind fun v145=>(bif v145 then((asT .any 75 v3).bind fun v146=>(ptrD (.pair p0 .unit) v146).bind fun v147=>(F38 N v147.1.1).bind fun v148=>some v148.1)else((isT 78 v3).bind fun v149=>(bif v149 then((asT .any 78 v3).bind fun v150=>(ptrD (.pair p0 .unit) v150).bind fun v151=>(F38 N v151.1.1).bind fun v152=>some v152.1)else((isT 81 v3).bind fun v153=>(bif v153 then((asT .any 81 v3).bind fun v154=>(ptrD p1 v154).bind fun v155=>(F38 N v155.1.1.1).bind fun v156=>some v156.1)else((isT 85 v3).bind fun v157=>(bif v157 then((asT .any 85 v3).bind fun v158=>(ptrD p1 v158).bind fun v159=>(F38 N v159.1.1.1).bind fun v160=>some v160.1)else((isT 91 v3).bind fun v161=>(bif v161 then((asT .any 91 v3).bind fun v162=>(ptrD p1 v162).bind fun v163=>(F38 N v163.1.1.1).bind fun v164=>some v164.1)else((isT 94 v3).bind fun v165=>(bif v165 then((asT .any 94 v3).bind fun v166=>(ptrD p3 v166).bind fun v167=>(F38 N v167.1.1.1).bind fun v168=>some v168.1)else((isT 98 v3).bind fun v169=>(bif v169 then((asT .any 98 v3).bind fun v170=>(ptrD p2 v170).bind fun v171=>(F39 N N v171).bind fun v172=>some v172.1)else none)))))))))))))))))))).bind fun v173=>(some (Sum.inr (Sum.inl (v173,v7.2.1,())))))else(c3 v2 v3 v7 v22)))
noncomputable def F84_j2(N:Nat)(self:T0→Ce→Ce→Option T4)(v2 v3:Ce)(v22:Int)(v7:T19)(v62:Bool):Option T4:=
 gate N (F84_g2 N self v2 v3 v22 v7 (F84_j3 N self) v62)
noncomputable def F84_g1(N:Nat)(self:T0→Ce→Ce→Option T4)(v2 v3:Ce)(v7:T19)(c2:Ce→Ce→Int→T19→Bool→Option T4)(c3:Ce→Ce→T19→Int→Option T4)(v22:Int):Option T4:=
 ((isT 104 v3).bind fun v23=>(bif v23 then((asT .unit 104 v3).bind fun v24=>none)else((isT 105 v3).bind fun v25=>(bif v25 then((asT .unit 105 v3).bind fun v26=>none)else((isT 72 v3).bind fun v27=>(bif v27 then((asT .any 72 v3).bind fun v28=>(ptrD p0 v28).bind fun v29=>(F38 N v29.1).bind fun v30=>some v30.1)else((isT 75 v3).bind fun v31=>(bif v31 then((asT .any 75 v3).bind fun v32=>(ptrD (.pair p0 .unit) v32).bind fun v33=>(F38 N v33.1.1).bind fun v34=>some v34.1)else((isT 78 v3).bind fun v35=>(bif v35 then((asT .any 78 v3).bind fun v36=>(ptrD (.pair p0 .unit) v36).bind fun v37=>(F38 N v37.1.1).bind fun v38=>some v38.1)else((isT 81 v3).bind fun v39=>(bif v39 then((asT .any 81 v3).bind fun v40=>(ptrD p1 v40).bind fun v41=>(F38 N v41.1.1.1).bind fun v42=>some v42.1)else((isT 85 v3).bind fun v43=>(bif v43 then((asT .any 85 v3).bind fun v44=>(ptrD p1 v44).bind fun v45=>(F38 N v45.1.1.1).bind fun v46=>some v46.1)else((isT 91 v3).bind fun v47=>(bif v47 then((asT .any 91 v3).bind fun v48=>(ptrD p1 v48).bind fun v49=>(F38 N v49.1.1.1).bind fun v50=>some v50.1)else((isT 94 v3).bind fun v51=>(bif v51 then((asT .any 94 v3).bind fun v52=>(ptrD p3 v52).bind fun v53=>(F38 N v53.1.1.1).bind fun v54=>some v54.1)else((isT 98 v3).bind fun v55=>(bif v55 then((asT .any 98 v3).bind fun v56=>(ptrD p2 v56).bind fun v57=>(F39 N N v57).bind fun v58=>some v58.1)else none)))))))))))))))))))).bind fun v59=>(bif(v59==0)then((isT 98 v3).bind fun v60=>(bif v60 then((asT .any 98 v3).bind fun v61=>(c2 v2 v3 v22 v7 true))else(c2 v2 v3 v22 v7 false)))else(bif(v59==1)then(c3 v2 v3 v7 v22)else(bif(v59==2)then(c3 v2 v3 v7 (bits .or .u32 v22 2147483648))else(bif(v59==3)then(c3 v2 v3 v7 (bits .or .u32 v22 1073741824))else(bif(v59==4)then(c3 v2 v3 v7 (bits .or .u32 v22 3221225472))else(((isT 104 v3).bind fun v174=>(bif v174 then((asT .unit 104 v3).bind fun v175=>none)else((isT 105 v3).bind fun v176=>(bif v176 then((asT .unit 105 v3).bind fun v177=>none)else((isT 72 v3).bind fun v178=>(bif v178 then((asT .any 72 v3).bind fun v179=>(ptrD p0 v179).bind fun v180=>(F38 N v180.1).bind fun v181=>some v181.1)else((isT 75 v3).bind fun v182=>(bif v182 then((asT .any 75 v3).bind fun v183=>(ptrD (.pair p0 .unit) v183).bind fun v184=>(F38 N v184.1.1).bind fun v185=>some v185.1)else((isT 78 v3).bind fun v186=>(bif v186 then((asT .any 78 v3).bind fun v187=>(ptrD (.pair p0 .unit) v187).bind fun v188=>(F38 N v188.1.1).bind fun v189=>some v189.1)else((isT 81 v3).bind fun v190=>(bif v190 then((asT .any 81 v3).bind fun v191=>(ptrD p1 v191).bind fun v192=>(F38 N v192.1.1.1).bind fun v193=>some v193.1)else((isT 85 v3).bind fun v194=>(bif v194 then((asT .any 85 v3).bind fun v195=>(ptrD p1 v195).bind fun v196=>(F38 N v196.1.1.1).bind fun v197=>some v197.1)else((isT 91 v3).bind fun v198=>(bif v198 then((asT .any 91 v3).bind fun v199=>(ptrD p1 v199).bind fun v200=>(F38 N v200.1.1.1).bind fun v201=>some v201.1)else((isT 94 v3).bind fun v202=>(bif v202 then((asT .any 94 v3).bind fun v203=>(ptrD p3 v203).bind fun v204=>(F38 N v204.1.1.1).bind fun v205=>some v205.1)else((isT 98 v3).bind fun v206=>(bif v206 then((asT .any 98 v3).bind fun v207=>(ptrD p2 v207).bind fun v208=>(F39 N N v208).bind fun v209=>some v209.1)else none)))))))))))))))))))).bind fun v210=>(some (Sum.inr (Sum.inl (v210,v7.2.1,()))))))))))
noncomputable def F84_j1(N:Nat)(self:T0→Ce→Ce→Option T4)(v2 v3:Ce)(v7:T19)(v22:Int):Option T4:=
 gate N (F84_g1 N self v2 v3 v7 (F84_j2 N self) (F84_j3 N self) v22)
noncomputable def F84_g0(N:Nat)(self:T0→Ce→Ce→Option T4)(v2 v3:Ce)(v1:T0)(c1:Ce→Ce→T19→Int→Option T4)(v6:Int):Option T4:=
 (F52 N (v1.1,v1.2.1,v1.2.2.1,()) v6).bind fun v7=>((isT 72 v3).bind fun v8=>(bif v8 then((asT .any 72 v3).bind fun v9=>(c1 v2 v3 v7 1))else((isT 75 v3).bind fun v10=>(bif v10 then((asT .any 75 v3).bind fun v11=>(c1 v2 v3 v7 2))else((isT 81 v3).bind fun v12=>(bif v12 then((asT .any 81 v3).bind fun v13=>(c1 v2 v3 v7 3))else((isT 85 v3).bind fun v14=>(bif v14 then((asT .any 85 v3).bind fun v15=>(c1 v2 v3 v7 4))else((isT 91 v3).bind fun v16=>(bif v16 then((asT .any 91 v3).bind fun v17=>(c1 v2 v3 v7 5))else((isT 94 v3).bind fun v18=>(bif v18 then((asT .any 94 v3).bind fun v19=>(c1 v2 v3 v7 6))else((isT 98 v3).bind fun v20=>(bif v20 then((asT .any 98 v3).bind fun v21=>(c1 v2 v3 v7 7))else none))))))))))))))
noncomputable def F84_j0(N:Nat)(self:T0→Ce→Ce→Option T4)(v2 v3:Ce)(v1:T0)(v6:Int):Option T4:=
 gate N (F84_g0 N self v2 v3 v1 (F84_j1 N self) v6)
noncomputable def F84_g(N:Nat)(self:T0→Ce→Ce→Option T4)(v1:T0)(v2 v3:Ce)(c0:Ce→Ce→T0→Int→Option T4):Option T4:=
 ((isU 104 v2).bind fun v4=>(bif v4 then(c0 v2 v3 v1 0)else((isU 105 v2).bind fun v5=>(bif v5 then(c0 v2 v3 v1 1)else(some (Sum.inl ((),(v1.1,v1.2.1,v1.2.2.1,()),())))))))
noncomputable def F84(N:Nat):Nat→T0→Ce→Ce→Option T4
 |0,_,_,_=>none
 |d+1,v1,v2,v3=>F84_g N (F84 N d) v1 v2 v3 (F84_j0 N (F84 N d))
noncomputable def F84_con'(N d:Nat):Con2:=⟨36,[.ifc 66 (.box s1), .tr, .tr],a1,fun x=>F84 N d x.1 x.2.1 x.2.2.1⟩
noncomputable def F84_E(N d:Nat):Env:=⟨Tryz.prog,N,[F47_con N,F48_con N,F49_con N,F50_con N,F51_con N],[nm 0 [0,1,2] [1000000,1000001],nm 1 [0,1,2] [1000000,1000001],nm 2 [0,1,2] [1000000,1000001],nm 4 [0,1,2,39] [1000000,1000001],nm 5 [0,1,2,39,42] [1000000,1000001],nm 7 [0,1,2,46] [1000000,1000001],ng N 8 [0,1,2,7] [1000000,1000001],nm 9 [0,1,2,8] [102601,1000000],nm 10 [0,1,2,8,54] [102601,1000000],nm 11 [0,1,2] [102601,1000000],nm 12 [0,1,2] [102601,1000000],nm 14 [0,1,2,56] [102601,1000000],nm 15 [0,1,2,56,61] [102601,1000000],nm 17 [0,1,2,56,64] [102601,1000000],nm 19 [0,1,2,56,67] [102601,1000000],nm 21 [0,1,2,56,70] [102601,1000000],nm 23 [0,1,2,56,73] [102601,1000000],nm 25 [0,1,2,56,76] [102601,1000000],nm 27 [0,1,2,79] [102601,1000000],ng N 28 [0,1,2,9] [102601,1000000],nm 30 [0,1,2,9,82] [102601,1000000],nm 31 [0,1,2,9,82,86] [102601,1000000],ng N 32 [0,1,2,9,11] [102601,1000000],nm 33 [0,1,2,9,99] [102601,1000000],nm 35 [0,1,2,9,82,103] [102601,1000000],nm 36 [0,1,2,9,82,105] [102601,1000000],nm 38 [0,1,2,9,82,109] [102601,1000000],nm 40 [0,1,2,9,113] [102601,1000000],ng N 41 [0,1,2,9] [102601,1000000],nm 42 [0,1,2,9,12] [102601,1000000],nm 43 [0,1,2,9,12,120] [102601,1000000],ng N 44 [0,1,2,9,12] [102601,1000000],nm 45 [0,1,2,9,12,13] [102601,1000000],nm 46 [0,1,2,9,12,13,128] [102601,1000000],nm 47 [0,1,2,9,12] [102601,1000000],nm 48 [0,1,2,12,132] [102601,1000000],nm 49 [0,1,2,14] [102601,1000000],nm 50 [0,1,2,14,139] [102601,1000000],ng N 51 [0,1,2] [102601,1000000],nm 53 [38] [102601,1000000],nm 54 [0,1,141] [102601,1000000],nm 55 [0,1,141,146,147] [102601,1000000],nm 56 [0,1,15] [102601,1000000],nm 57 [0,1,15,151] [102601,1000000],nm 58 [0,1,15] [102601,1000000],nm 60 [0,1,141,167,168] [102601,1000000],nm 61 [0,1,16] [102601,1000000],nm 63 [0,1,141,183,184] [102601,1000000],nm 64 [0,1,17] [102601,1000000],nm 66 [0,1,141,205,206] [102601,1000000],nm 67 [0,1,18] [102601,1000000],nm 68 [0,1,18,19] [102601,1000000],nm 69 [0,1,18,19,20] [102601,1000000],nm 70 [0,1,18,19,20,215] [102601,1000000],nm 71 [0,1,18,19] [102601,1000000],nm 72 [0,1,18,217,218] [102601,1000000],nm 73 [0,1,18,217,218] [102601,1000000],nm 74 [0,1,18,21,217,218] [102601,1000000],nm 75 [0,1,18,22,217,218] [102601,1000000],nm 76 [0,1,18,22,217,218,229] [102601,1000000],nm 77 [0,1,18,217,218] [102601,1000000],nm 78 [] [102601,1000000],nm 80 [0,1,141,233,234] [102601,1000000],nm 81 [0,1,23] [102601,1000000],nm 82 [0,1,23,24] [102601,1000000],nm 83 [0,1,23,24,25] [102601,1000000],nm 84 [0,1,23,24,25,243] [102601,1000000],nm 85 [0,1,23,24] [102601,1000000],nm 86 [0,1,23,245,246] [102601,1000000],nm 87 [0,1,23,245,246] [102601,1000000],nm 88 [0,1,23,26,245,246] [102601,1000000],nm 89 [0,1,23,27,245,246] [102601,1000000],nm 90 [0,1,23,27,245,246,257] [102601,1000000],nm 91 [0,1,23,245,246] [102601,1000000],nm 92 [] [102601,1000000],nm 94 [0,1,141,261,262] [102601,1000000],nm 95 [0,1,28] [102601,1000000],nm 96 [0,1,28,29] [102601,1000000],nm 97 [0,1,28,29,30] [102601,1000000],nm 98 [0,1,28,29,30,271] [102601,1000000],nm 99 [0,1,28,29] [102601,1000000],nm 100 [0,1,28,273,274] [102601,1000000],nm 101 [0,1,28,273,274] [102601,1000000],nm 102 [0,1,28,31,273,274] [102601,1000000],nm 103 [0,1,28,32,273,274] [102601,1000000],nm 104 [0,1,28,32,273,274,285] [102601,1000000],nm 105 [0,1,28,273,274] [102601,1000000],nm 106 [] [102601,1000000],nm 108 [0,1,141,289,290] [102601,1000000],nm 109 [0,1,33] [102601,1000000],nm 110 [0,1,33,34] [102601,1000000],nm 111 [0,1,33,34,35] [102601,1000000],nm 112 [0,1,33,34,35,299] [102601,1000000],nm 113 [0,1,33,34] [102601,1000000],nm 114 [0,1,33,301,302] [102601,1000000],nm 115 [0,1,33,301,302] [102601,1000000],nm 116 [0,1,33,36,301,302] [102601,1000000],nm 117 [0,1,33,37,301,302] [102601,1000000],nm 118 [0,1,33,37,301,302,312] [102601,1000000],nm 119 [0,1,33,301,302] [102601,1000000],nm 120 [] [102601,1000000]],kdL [(3,(.int .i64)),(4, .bool),(70,(.int .i64)),(72, .any),(75, .any),(78, .any),(81, .any),(85, .any),(91, .any),(94, .any),(98, .any),(104, .unit),(105, .unit),(140,p0),(147,(.pair p0 .unit)),(152,p1),(155,(.pair p0 .unit)),(157,p1),(158,p1),(162,p3),(165,p2)],[F84_con' N d,F52_con N,F38_con N,F39_con N,F53_con N,F54_con N,F55_con N,F56_con N,F59_con N,F60_con N,F67_con N,F68_con N,F70_con N,F71_con N,F72_con N,F73_con N,F77_con N,F80_con N,F83_con N],[],(GL N),tl0,[(82,(.int .i64)),(84,(.int .i64)),(97, .bool),(101,(.int .i64)),(118,(.int .i64))]⟩
noncomputable def q18(N d:Nat):=kEnd2 (F84_E N d) [] Tryz.f36.results.toList a1 [.iface 66 (.ref 1000000 0), .dead, .dead]
noncomputable def F84_e6(N d n:Nat)(v2 v290:Ce)(v291 v299:Int)(v300:List Int)(v301 v302:Int):=
 lq (F84_E N d) (c36 [1,1,1,1,1,1,1,1,1,1,1,1,0,1,1,1,1,1,1,1,0,1,1,1,0,1,0,0]) n ⟨[(0, .iface 66 (.ref 1000000 0)),(1, .pv .any v2),(18, .pv .any v290),(217, .pv (.int .i64) v291),(218, .pv (.int .i64) v299)],[(102601, .arr 5 (.int .u8) v300),(1000000, .box [.own (.int .u8) 102601, .pv (.int .i64) v301, .pv (.int .i8) v302])],[]⟩ (kBlock 4 (kq (F84_E N d) (c36 [1,1,1,1,1,1,1,1,1,1,1,1,0,1,1,1,1,1,1,1,0,1,1,1,1]) (kBlock 3 (q18 N d))))
noncomputable def F84_e7(N d n:Nat)(v2 v310:Ce)(v311 v319:Int)(v320:List Int)(v321 v322:Int):=
 lq (F84_E N d) (c36 [1,1,1,1,1,1,1,1,1,1,1,1,0,1,1,1,1,1,1,1,1,1,0,1,1,1,0,1,0,0]) n ⟨[(0, .iface 66 (.ref 1000000 0)),(1, .pv .any v2),(23, .pv .any v310),(245, .pv (.int .i64) v311),(246, .pv (.int .i64) v319)],[(102601, .arr 5 (.int .u8) v320),(1000000, .box [.own (.int .u8) 102601, .pv (.int .i64) v321, .pv (.int .i8) v322])],[]⟩ (kBlock 6 (kq (F84_E N d) (c36 [1,1,1,1,1,1,1,1,1,1,1,1,0,1,1,1,1,1,1,1,1,1,0,1,1,1,1]) (kBlock 3 (q18 N d))))
noncomputable def F84_e8(N d n:Nat)(v2 v330:Ce)(v331 v339:Int)(v340:List Int)(v341 v342:Int):=
 lq (F84_E N d) (c36 [1,1,1,1,1,1,1,1,1,1,1,1,0,1,1,1,1,1,1,1,1,1,1,1,0,1,1,1,0,1,0,0]) n ⟨[(0, .iface 66 (.ref 1000000 0)),(1, .pv .any v2),(28, .pv .any v330),(273, .pv (.int .i64) v331),(274, .pv (.int .i64) v339)],[(102601, .arr 5 (.int .u8) v340),(1000000, .box [.own (.int .u8) 102601, .pv (.int .i64) v341, .pv (.int .i8) v342])],[]⟩ (kBlock 8 (kq (F84_E N d) (c36 [1,1,1,1,1,1,1,1,1,1,1,1,0,1,1,1,1,1,1,1,1,1,1,1,0,1,1,1,1]) (kBlock 3 (q18 N d))))
noncomputable def F84_e9(N d n:Nat)(v2 v350:Ce)(v351 v359:Int)(v360:List Int)(v361 v362:Int):=
 lq (F84_E N d) (c36 [1,1,1,1,1,1,1,1,1,1,1,1,0,1,1,1,1,1,1,1,1,1,1,1,1,1,0,1,1,1,0,1,0,0]) n ⟨[(0, .iface 66 (.ref 1000000 0)),(1, .pv .any v2),(33, .pv .any v350),(301, .pv (.int .i64) v351),(302, .pv (.int .i64) v359)],[(102601, .arr 5 (.int .u8) v360),(1000000, .box [.own (.int .u8) 102601, .pv (.int .i64) v361, .pv (.int .i8) v362])],[]⟩ (kBlock 10 (kq (F84_E N d) (c36 [1,1,1,1,1,1,1,1,1,1,1,1,0,1,1,1,1,1,1,1,1,1,1,1,1,1,0,1,1,1,1]) (kBlock 3 (q18 N d))))
noncomputable def F84_e5(N d:Nat)(v2 v3:Ce)(v252:List Int)(v253 v254:Int):=
 gate N (evC (F84_E N d) (c36 [1,1,1,1,1,1,1,1,1,1,1]) ⟨[(0, .iface 66 (.ref 1000000 0)),(1, .pv .any v2),(2, .pv .any v3)],[(102601, .arr 5 (.int .u8) v252),(1000000, .box [.own (.int .u8) 102601, .pv (.int .i64) v253, .pv (.int .i8) v254])],[]⟩ (q18 N d))
noncomputable def F84_e4(N d:Nat)(v2 v3:Ce)(v248:Int)(v7:T19)(v249:Int):=
 gate N (evC (F84_E N d) (c36 [1,1,1,1,1,1,1,1,1]) ⟨[(0, .iface 66 (.ref 1000000 0)),(1, .pv .any v2),(2, .pv .any v3),(9, .pv (.int .u32) v249),(12, .pv (.int .i64) v248)],[(102601, .arr 5 (.int .u8) v7.2.1.1),(1000000, .box [.own (.int .u8) 102601, .pv (.int .i64) v7.2.1.2.1, .pv (.int .i8) v7.2.1.2.2.1])],[]⟩ (q18 N d))
noncomputable def F84_e3(N d:Nat)(v2 v3:Ce)(v7:T19)(v211:Int):=
 gate N (evC (F84_E N d) (c36 [1,1,1,1,1,1,1]) ⟨[(0, .iface 66 (.ref 1000000 0)),(1, .pv .any v2),(2, .pv .any v3),(9, .pv (.int .u32) v211)],[(102601, .arr 5 (.int .u8) v7.2.1.1),(1000000, .box [.own (.int .u8) 102601, .pv (.int .i64) v7.2.1.2.1, .pv (.int .i8) v7.2.1.2.2.1])],[]⟩ (q18 N d))
noncomputable def F84_e2(N d:Nat)(v2 v3:Ce)(v22:Int)(v7:T19)(v62:Bool):=
 gate N (evC (F84_E N d) (c36 [1,1,1,1,1,1,0,1,0,1,0,1]) ⟨[(0, .iface 66 (.ref 1000000 0)),(1, .pv .any v2),(2, .pv .any v3),(9, .pv (.int .u32) v22),(11, .pv .bool v62)],[(102601, .arr 5 (.int .u8) v7.2.1.1),(1000000, .box [.own (.int .u8) 102601, .pv (.int .i64) v7.2.1.2.1, .pv (.int .i8) v7.2.1.2.2.1])],[]⟩ (kBlock 2 (kq (F84_E N d) (c36 [1,1,1,1,1,1,1]) (q18 N d))))
noncomputable def F84_e1(N d:Nat)(v2 v3:Ce)(v7:T19)(v22:Int):=
 gate N (evC (F84_E N d) (c36 [1,1,1,1,1,1]) ⟨[(0, .iface 66 (.ref 1000000 0)),(1, .pv .any v2),(2, .pv .any v3),(9, .pv (.int .u32) v22)],[(102601, .arr 5 (.int .u8) v7.2.1.1),(1000000, .box [.own (.int .u8) 102601, .pv (.int .i64) v7.2.1.2.1, .pv (.int .i8) v7.2.1.2.2.1])],[]⟩ (q18 N d))
noncomputable def F84_e0(N d:Nat)(v2 v3:Ce)(v1:T0)(v6:Int):=
 gate N (evC (F84_E N d) (c36 [1,1,1]) ⟨[(0, .iface 66 (.ref 1000000 0)),(1, .pv .any v2),(2, .pv .any v3),(7, .pv (.int .u8) v6)],[(1000000, .box [.own (.int .u8) 1000001, .pv (.int .i64) v1.2.1, .pv (.int .i8) v1.2.2.1]),(1000001, .arr 5 (.int .u8) v1.1)],[]⟩ (q18 N d))
theorem F84_t6(N d:Nat):∀(n:Nat) (v2 v290:Ce) (v291 v299:Int) (v300:List Int) (v301 v302:Int),F84_e6 N d n v2 v290 v291 v299 v300 v301 v302=F84_l6 N (F84 N d) n v2 v290 v291 v299 v300 v301 v302
 |0,_,_,_,_,_,_,_=>rfl
 |n+1,v2,v290,v291,v299,v300,v301,v302=>by
  have h:F84_e6 N d n v2 v290 v291=F84_l6 N (F84 N d) n v2 v290 v291:=by funext v299 v300 v301 v302;exact F84_t6 N d n v2 v290 v291 v299 v300 v301 v302
  exact Eq.trans (b:=F84_g6 N (F84 N d) v2 v290 v291 (F84_e6 N d n v2 v290 v291) v299 v300 v301 v302) (by kernel_rfl) (by rw[h];rfl)
theorem F84_t7(N d:Nat):∀(n:Nat) (v2 v310:Ce) (v311 v319:Int) (v320:List Int) (v321 v322:Int),F84_e7 N d n v2 v310 v311 v319 v320 v321 v322=F84_l7 N (F84 N d) n v2 v310 v311 v319 v320 v321 v322
 |0,_,_,_,_,_,_,_=>rfl
 |n+1,v2,v310,v311,v319,v320,v321,v322=>by
  have h:F84_e7 N d n v2 v310 v311=F84_l7 N (F84 N d) n v2 v310 v311:=by funext v319 v320 v321 v322;exact F84_t7 N d n v2 v310 v311 v319 v320 v321 v322
  exact Eq.trans (b:=F84_g7 N (F84 N d) v2 v310 v311 (F84_e7 N d n v2 v310 v311) v319 v320 v321 v322) (by kernel_rfl) (by rw[h];rfl)
theorem F84_t8(N d:Nat):∀(n:Nat) (v2 v330:Ce) (v331 v339:Int) (v340:List Int) (v341 v342:Int),F84_e8 N d n v2 v330 v331 v339 v340 v341 v342=F84_l8 N (F84 N d) n v2 v330 v331 v339 v340 v341 v342
 |0,_,_,_,_,_,_,_=>rfl
 |n+1,v2,v330,v331,v339,v340,v341,v342=>by
  have h:F84_e8 N d n v2 v330 v331=F84_l8 N (F84 N d) n v2 v330 v331:=by funext v339 v340 v341 v342;exact F84_t8 N d n v2 v330 v331 v339 v340 v341 v342
  exact Eq.trans (b:=F84_g8 N (F84 N d) v2 v330 v331 (F84_e8 N d n v2 v330 v331) v339 v340 v341 v342) (by kernel_rfl) (by rw[h];rfl)
theorem F84_t9(N d:Nat):∀(n:Nat) (v2 v350:Ce) (v351 v359:Int) (v360:List Int) (v361 v362:Int),F84_e9 N d n v2 v350 v351 v359 v360 v361 v362=F84_l9 N (F84 N d) n v2 v350 v351 v359 v360 v361 v362
 |0,_,_,_,_,_,_,_=>rfl
 |n+1,v2,v350,v351,v359,v360,v361,v362=>by
  have h:F84_e9 N d n v2 v350 v351=F84_l9 N (F84 N d) n v2 v350 v351:=by funext v359 v360 v361 v362;exact F84_t9 N d n v2 v350 v351 v359 v360 v361 v362
  exact Eq.trans (b:=F84_g9 N (F84 N d) v2 v350 v351 (F84_e9 N d n v2 v350 v351) v359 v360 v361 v362) (by kernel_rfl) (by rw[h];rfl)
theorem F84_t5(N d:Nat)(v2 v3:Ce)(v252:List Int)(v253 v254:Int):F84_e5 N d v2 v3 v252 v253 v254=F84_j5 N (F84 N d) v2 v3 v252 v253 v254:=by
 have h6:(F84_e6 N d N)=(F84_l6 N (F84 N d) N):=by funext v2 v290 v291 v299 v300 v301 v302;exact F84_t6 N d N v2 v290 v291 v299 v300 v301 v302
 have h7:(F84_e7 N d N)=(F84_l7 N (F84 N d) N):=by funext v2 v310 v311 v319 v320 v321 v322;exact F84_t7 N d N v2 v310 v311 v319 v320 v321 v322
 have h8:(F84_e8 N d N)=(F84_l8 N (F84 N d) N):=by funext v2 v330 v331 v339 v340 v341 v342;exact F84_t8 N d N v2 v330 v331 v339 v340 v341 v342
 have h9:(F84_e9 N d N)=(F84_l9 N (F84 N d) N):=by funext v2 v350 v351 v359 v360 v361 v362;exact F84_t9 N d N v2 v350 v351 v359 v360 v361 v362
 exact(congrArg (gate N) (show _=F84_g5 N (F84 N d) v2 v3 (F84_e6 N d N) (F84_e7 N d N) (F84_e8 N d N) (F84_e9 N d N) v252 v253 v254 from by kernel_rfl)).trans (by rw[h6,h7,h8,h9];rfl)
theorem F84_t4(N d:Nat)(v2 v3:Ce)(v248:Int)(v7:T19)(v249:Int):F84_e4 N d v2 v3 v248 v7 v249=F84_j4 N (F84 N d) v2 v3 v248 v7 v249:=by
 have h5:(F84_e5 N d)=(F84_j5 N (F84 N d)):=by funext v2 v3 v252 v253 v254;exact F84_t5 N d v2 v3 v252 v253 v254
 exact(congrArg (gate N) (show _=F84_g4 N (F84 N d) v2 v3 v248 v7 (F84_e5 N d) v249 from by kernel_rfl)).trans (by rw[h5];rfl)
theorem F84_t3(N d:Nat)(v2 v3:Ce)(v7:T19)(v211:Int):F84_e3 N d v2 v3 v7 v211=F84_j3 N (F84 N d) v2 v3 v7 v211:=by
 have h4:(F84_e4 N d)=(F84_j4 N (F84 N d)):=by funext v2 v3 v248 v7 v249;exact F84_t4 N d v2 v3 v248 v7 v249
 exact(congrArg (gate N) (show _=F84_g3 N (F84 N d) v2 v3 v7 (F84_e4 N d) v211 from by kernel_rfl)).trans (by rw[h4];rfl)
theorem F84_t2(N d:Nat)(v2 v3:Ce)(v22:Int)(v7:T19)(v62:Bool):F84_e2 N d v2 v3 v22 v7 v62=F84_j2 N (F84 N d) v2 v3 v22 v7 v62:=by
 have h3:(F84_e3 N d)=(F84_j3 N (F84 N d)):=by funext v2 v3 v7 v211;exact F84_t3 N d v2 v3 v7 v211
 exact(congrArg (gate N) (show _=F84_g2 N (F84 N d) v2 v3 v22 v7 (F84_e3 N d) v62 from by kernel_rfl)).trans (by rw[h3];rfl)
theorem F84_t1(N d:Nat)(v2 v3:Ce)(v7:T19)(v22:Int):F84_e1 N d v2 v3 v7 v22=F84_j1 N (F84 N d) v2 v3 v7 v22:=by
 have h2:(F84_e2 N d)=(F84_j2 N (F84 N d)):=by funext v2 v3 v22 v7 v62;exact F84_t2 N d v2 v3 v22 v7 v62
 have h3:(F84_e3 N d)=(F84_j3 N (F84 N d)):=by funext v2 v3 v7 v211;exact F84_t3 N d v2 v3 v7 v211
 exact(congrArg (gate N) (show _=F84_g1 N (F84 N d) v2 v3 v7 (F84_e2 N d) (F84_e3 N d) v22 from by kernel_rfl)).trans (by rw[h2,h3];rfl)
theorem F84_t0(N d:Nat)(v2 v3:Ce)(v1:T0)(v6:Int):F84_e0 N d v2 v3 v1 v6=F84_j0 N (F84 N d) v2 v3 v1 v6:=by
 have h1:(F84_e1 N d)=(F84_j1 N (F84 N d)):=by funext v2 v3 v7 v22;exact F84_t1 N d v2 v3 v7 v22
 exact(congrArg (gate N) (show _=F84_g0 N (F84 N d) v2 v3 v1 (F84_e1 N d) v6 from by kernel_rfl)).trans (by rw[h1];rfl)
theorem F84_t(N d:Nat)(v1:T0)(v2 v3:Ce):evF2 (F84_E N d) [] Tryz.f36 [.ifc 66 (.box s1), .tr, .tr] a1 (v1,v2,v3,())=F84 N (d+1) v1 v2 v3:=by
 have h0:(F84_e0 N d)=(F84_j0 N (F84 N d)):=by funext v2 v3 v1 v6;exact F84_t0 N d v2 v3 v1 v6
 exact Eq.trans (b:=F84_g N (F84 N d) v1 v2 v3 (F84_e0 N d)) (by kernel_rfl) (by rw[h0];rfl)
theorem F84_s'(N:Nat):∀d,(F84_con' N d).Sound Tryz.prog (GL N)
 |0=>fun _ _ _ _ _ _ _ _ _ _ _ h=>by cases h
 |d+1=>Con2.sound_of (c:=F84_con' N (d+1)) (E:=(F84_E N d)) (idle:=[]) Tryz.func36 (by kernel_rfl) (by kernel_rfl) ⟨(allCons (F47_s N) (allCons (F48_s N) (allCons (F49_s N) (allCons (F50_s N) (allCons (F51_s N) allNil))))),(allCons (F84_s' N d) (allCons (F52_s N) (allCons (F38_s N) (allCons (F39_s N) (allCons (F53_s N) (allCons (F54_s N) (allCons (F55_s N) (allCons (F56_s N) (allCons (F59_s N) (allCons (F60_s N) (allCons (F67_s N) (allCons (F68_s N) (allCons (F70_s N) (allCons (F71_s N) (allCons (F72_s N) (allCons (F73_s N) (allCons (F77_s N) (allCons (F80_s N) (allCons (F83_s N) allNil))))))))))))))))))),rfl⟩ allNil (fun x y h=>(F84_t N d x.1 x.2.1 x.2.2.1).trans h)
noncomputable def F84_con(N:Nat):Con2:=F84_con' N N
theorem F84_s(N:Nat):(F84_con N).Sound Tryz.prog (GL N):=F84_s' N N
noncomputable def F85_E(N:Nat):Env:=⟨Tryz.prog,N,[],[nm 0 [0] [1000000,1000001],nm 1 [0] [1000000,1000001]],kdL [],[],[],(GL N),tl0,[]⟩
noncomputable def F85_g(N:Nat)(v1:T0):Option (((List Int)×T0×Unit)):=
 ((chk2 v1.2.1 (v1.1.length:Int) v1.1.length).bind fun v2=>(some (((v1.1.drop v2.1).take (v2.2-v2.1)),(v1.1,v1.2.1,v1.2.2.1,()),())))
noncomputable def F85(N:Nat)(v1:T0):Option (((List Int)×T0×Unit)):=
 F85_g N v1
theorem F85_t(N:Nat)(v1:T0):evF2 (F85_E N) [] Tryz.f37 [.box s1] [⟨s11,[some (.box s0)]⟩] (v1,())=F85 N v1:=
 Eq.trans (b:=F85_g N v1) (by kernel_rfl) rfl
noncomputable def F85_con(N:Nat):Con2:=⟨37,[.box s1],[⟨s11,[some (.box s0)]⟩],fun x=>F85 N x.1⟩
theorem F85_s(N:Nat):(F85_con N).Sound Tryz.prog (GL N):=
 Con2.sound_of (c:=F85_con N) (E:=(F85_E N)) (idle:=[]) Tryz.func37 (by kernel_rfl) (by kernel_rfl) ⟨allNil,allNil,rfl⟩ allNil (fun x y h=>(F85_t N x.1).trans h)
noncomputable def F86_E(N:Nat):Env:=⟨Tryz.prog,N,[],[nm 0 [0,1] [],nm 1 [0,1] [],nm 2 [0,1,6] [100400,100401],nm 3 [6,7] [100400,100401],nm 4 [6,7,15] [100400,100401],nm 5 [6] [100400,100401]],kdL [],[F46_con N,F84_con N,F85_con N],[],(GL N),tl0,[]⟩
noncomputable def F86_g(N:Nat)(v1 v2:Ce):Option (((List Int)×Unit×Unit)⊕((List Int)×Int×Unit)⊕((List Int)×Unit×Unit)):=
 ((F46 N ([]:List Int)).bind fun v3=>((F84 N N v3.1 v2 v1).bind fun v4=>Sum.elim (fun v5=>(some (Sum.inl (([]:List Int),v5.1,())))) (fun v6=>Sum.elim (fun v7=>(some (Sum.inr (Sum.inl (([]:List Int),v7.1,()))))) (fun v8=>((F85 N v8.2.1).bind fun v9=>(some (Sum.inr (Sum.inr (v9.1,(),())))))) v6) v4))
noncomputable def F86(N:Nat)(v1 v2:Ce):Option (((List Int)×Unit×Unit)⊕((List Int)×Int×Unit)⊕((List Int)×Unit×Unit)):=
 F86_g N v1 v2
theorem F86_t(N:Nat)(v1 v2:Ce):evF2 (F86_E N) [] Tryz.f20 [.k .any, .k .any] a37 (v1,v2,())=F86 N v1 v2:=
 Eq.trans (b:=F86_g N v1 v2) (by kernel_rfl) rfl
noncomputable def F86_con(N:Nat):Con2:=⟨20,[.k .any, .k .any],a37,fun x=>F86 N x.1 x.2.1⟩
theorem F86_s(N:Nat):(F86_con N).Sound Tryz.prog (GL N):=
 Con2.sound_of (c:=F86_con N) (E:=(F86_E N)) (idle:=[]) Tryz.func20 (by kernel_rfl) (by kernel_rfl) ⟨allNil,(allCons (F46_s N) (allCons (F84_s N) (allCons (F85_s N) allNil))),rfl⟩ allNil (fun x y h=>(F86_t N x.1 x.2.1).trans h)
noncomputable def F87_E(N:Nat):Env:=⟨Tryz.prog,N,[F15_con N],[nm 0 [0,1] [],nm 1 [1,2,4,5] [2,4,5],nm 2 [1,2,4,5] [2,4,5],nm 3 [4,5,6,7] [4,5,100700],nm 4 [4,5,6,18] [4,5,100700],nm 5 [4,5,6] [4,5]],kdL [],[F45_con N,F86_con N],[],(GL N),tl0,[]⟩
noncomputable def F87_g(N:Nat)(v1:Geo)(v2:Bool):Option ((List Int)×Bool):=
 ((F45 N N (Geo.mk v1.kind v1.layout v1.srid v1.flat v1.ends v1.endss v1.kids)).bind fun v3=>(F15 N v2).bind fun v4=>(F86 N v3.1 v4).bind fun v5=>Sum.elim (fun v6=>(some (([]:List Int),false))) (fun v7=>Sum.elim (fun v8=>(some (([]:List Int),false))) (fun v9=>(some (v9.1,true))) v7) v5)
noncomputable def F87(N:Nat)(v1:Geo)(v2:Bool):Option ((List Int)×Bool):=
 F87_g N v1 v2
theorem F87_t(N:Nat)(v1:Geo)(v2:Bool):evF (F87_E N) [19] Tryz.f7 [.k .geo, .k .bool] [(.list (.int .u8)), .bool] (v1,v2,())=F87 N v1 v2:=
 Eq.trans (b:=F87_g N v1 v2) (by kernel_rfl) rfl
noncomputable def F87_con(N:Nat):Con:=⟨7,[.k .geo, .k .bool],[(.list (.int .u8)), .bool],fun x=>F87 N x.1 x.2.1⟩
theorem F87_s(N:Nat):(F87_con N).Sound Tryz.prog (GL N):=
 Con.sound_of (c:=F87_con N) (E:=(F87_E N)) (idle:=[19]) Tryz.func7 (by kernel_rfl) (by kernel_rfl) ⟨(allCons (F15_s N) allNil),(allCons (F45_s N) (allCons (F86_s N) allNil)),rfl⟩ (allCons (idle_of Tryz.func19 (by kernel_rfl)) allNil) (fun x y h=>(F87_t N x.1 x.2.1).trans h)
noncomputable def F88_E(N:Nat):Env:=⟨Tryz.prog,N,[math_Float64bits_con N],[nm 0 [0,1] [],nm 1 [0,1] [],nm 2 [0,1,11] [],nm 3 [0,1] [],nm 4 [1,12,13,14] [],nm 5 [1,12,13,14] [],nm 6 [1,5,6,12,13,14] [],nm 7 [1,12,13,14,26] [],nm 8 [1,12,13,14] [],nm 9 [] []],kdL [],[],[],(GL N),tl0,[]⟩
noncomputable def F88_g0(N:Nat)(v2 v1:List Nat)(r0:Int→Option (Bool))(v7:Int):Option (Bool):=
 (bif(decide ((v7:Int)<(v1.length:Int)))then((nth v1 v7).bind fun v8=>((math_Float64bits N v8).bind fun v9=>(nth v2 v7).bind fun v10=>(math_Float64bits N v10).bind fun v11=>(bif(v9 !=v11)then(some false)else((r0 (IntKind.i64.wrap (v7+1)))))))else(some true))
noncomputable def F88_l0(N:Nat):Nat→(List Nat)→(List Nat)→Int→Option (Bool)
 |0,_,_,_=>none
 |n+1,v2,v1,v7=>F88_g0 N v2 v1 (F88_l0 N n v2 v1) v7
noncomputable def F88_g(N:Nat)(v1 v2:List Nat)(c0:(List Nat)→(List Nat)→Int→Option (Bool)):Option (Bool):=
 (bif((v1.length:Int) !=(v2.length:Int))then(some false)else((c0 v2 v1 0)))
noncomputable def F88(N:Nat)(v1 v2:List Nat):Option (Bool):=
 F88_g N v1 v2 (F88_l0 N N)
noncomputable def F88_e0(N n:Nat)(v2 v1:List Nat)(v7:Int):=
 lq (F88_E N) (c26 [1,1,0,1,0,0]) n ⟨[(1, .pv (.list .float) v2),(12, .pv (.list .float) v1),(13, .pv (.int .i64) (v1.length:Int)),(14, .pv (.int .i64) v7)],[],[]⟩ (kBlock 0 (kq (F88_E N) (c26 [1,1,1]) (kEnd (F88_E N) [] Tryz.f26.results.toList [.bool])))
theorem F88_t0(N:Nat):∀(n:Nat) (v2 v1:List Nat) (v7:Int),F88_e0 N n v2 v1 v7=F88_l0 N n v2 v1 v7
 |0,_,_,_=>rfl
 |n+1,v2,v1,v7=>by
  have h:F88_e0 N n v2 v1=F88_l0 N n v2 v1:=by funext v7;exact F88_t0 N n v2 v1 v7
  exact Eq.trans (b:=F88_g0 N v2 v1 (F88_e0 N n v2 v1) v7) (by kernel_rfl) (by rw[h];rfl)
theorem F88_t(N:Nat)(v1 v2:List Nat):evF (F88_E N) [] Tryz.f26 [.k (.list .float), .k (.list .float)] [.bool] (v1,v2,())=F88 N v1 v2:=by
 have h0:(F88_e0 N N)=(F88_l0 N N):=by funext v2 v1 v7;exact F88_t0 N N v2 v1 v7
 exact Eq.trans (b:=F88_g N v1 v2 (F88_e0 N N)) (by kernel_rfl) (by rw[h0];rfl)
noncomputable def F88_con(N:Nat):Con:=⟨26,[.k (.list .float), .k (.list .float)],[.bool],fun x=>F88 N x.1 x.2.1⟩
theorem F88_s(N:Nat):(F88_con N).Sound Tryz.prog (GL N):=
 Con.sound_of (c:=F88_con N) (E:=(F88_E N)) (idle:=[]) Tryz.func26 (by kernel_rfl) (by kernel_rfl) ⟨(allCons (math_Float64bits_s N) allNil),allNil,rfl⟩ allNil (fun x y h=>(F88_t N x.1 x.2.1).trans h)
noncomputable def F89_E(N:Nat):Env:=⟨Tryz.prog,N,[],[nm 0 [0,1] [],nm 1 [0,1] [],nm 2 [0,1,11] [],nm 3 [0,1] [],nm 4 [1,12,13,14] [],nm 5 [1,12,13,14] [],nm 6 [1,5,6,12,13,14] [],nm 7 [1,12,13,14,24] [],nm 8 [1,12,13,14] [],nm 9 [] []],kdL [],[],[],(GL N),tl0,[]⟩
noncomputable def F89_g0(N:Nat)(v2 v1:List Int)(r0:Int→Option (Bool))(v5:Int):Option (Bool):=
 (bif(decide ((v5:Int)<(v1.length:Int)))then((nth v1 v5).bind fun v6=>((nth v2 v5).bind fun v7=>(bif(v6 !=v7)then(some false)else((r0 (IntKind.i64.wrap (v5+1)))))))else(some true))
noncomputable def F89_l0(N:Nat):Nat→(List Int)→(List Int)→Int→Option (Bool)
 |0,_,_,_=>none
 |n+1,v2,v1,v5=>F89_g0 N v2 v1 (F89_l0 N n v2 v1) v5
noncomputable def F89_g(N:Nat)(v1 v2:List Int)(c0:(List Int)→(List Int)→Int→Option (Bool)):Option (Bool):=
 (bif((v1.length:Int) !=(v2.length:Int))then(some false)else((c0 v2 v1 0)))
noncomputable def F89(N:Nat)(v1 v2:List Int):Option (Bool):=
 F89_g N v1 v2 (F89_l0 N N)
noncomputable def F89_e0(N n:Nat)(v2 v1:List Int)(v5:Int):=
 lq (F89_E N) (c27 [1,1,0,1,0,0]) n ⟨[(1, .pv (.list (.int .i64)) v2),(12, .pv (.list (.int .i64)) v1),(13, .pv (.int .i64) (v1.length:Int)),(14, .pv (.int .i64) v5)],[],[]⟩ (kBlock 0 (kq (F89_E N) (c27 [1,1,1]) (kEnd (F89_E N) [] Tryz.f27.results.toList [.bool])))
theorem F89_t0(N:Nat):∀(n:Nat) (v2 v1:List Int) (v5:Int),F89_e0 N n v2 v1 v5=F89_l0 N n v2 v1 v5
 |0,_,_,_=>rfl
 |n+1,v2,v1,v5=>by
  have h:F89_e0 N n v2 v1=F89_l0 N n v2 v1:=by funext v5;exact F89_t0 N n v2 v1 v5
  exact Eq.trans (b:=F89_g0 N v2 v1 (F89_e0 N n v2 v1) v5) (by kernel_rfl) (by rw[h];rfl)
theorem F89_t(N:Nat)(v1 v2:List Int):evF (F89_E N) [] Tryz.f27 [.k (.list (.int .i64)), .k (.list (.int .i64))] [.bool] (v1,v2,())=F89 N v1 v2:=by
 have h0:(F89_e0 N N)=(F89_l0 N N):=by funext v2 v1 v5;exact F89_t0 N N v2 v1 v5
 exact Eq.trans (b:=F89_g N v1 v2 (F89_e0 N N)) (by kernel_rfl) (by rw[h0];rfl)
noncomputable def F89_con(N:Nat):Con:=⟨27,[.k (.list (.int .i64)), .k (.list (.int .i64))],[.bool],fun x=>F89 N x.1 x.2.1⟩
theorem F89_s(N:Nat):(F89_con N).Sound Tryz.prog (GL N):=
 Con.sound_of (c:=F89_con N) (E:=(F89_E N)) (idle:=[]) Tryz.func27 (by kernel_rfl) (by kernel_rfl) ⟨allNil,allNil,rfl⟩ allNil (fun x y h=>(F89_t N x.1 x.2.1).trans h)
noncomputable def F90_g0(N:Nat)(self:Geo→Geo→Option (Bool))(v1 v2:Geo):Option (Bool):=
 (some false)
noncomputable def F90_j0(N:Nat)(self:Geo→Geo→Option (Bool))(v1 v2:Geo):Option (Bool):=
 gate N (F90_g0 N self v1 v2)
noncomputable def F90_g2(N:Nat)(self:Geo→Geo→Option (Bool))(v1 v2:Geo)(r2:Int→Option (Bool))(v15:Int):Option (Bool):=
 (bif(decide ((v15:Int)<(v1.kids.length:Int)))then((nth v1.kids v15).bind fun v16=>((nth v2.kids v15).bind fun v17=>(self (Geo.mk v16.kind v16.layout v16.srid v16.flat v16.ends v16.endss v16.kids) v17).bind fun v18=>(bif(!v18)then(some false)else((r2 (IntKind.i64.wrap (v15+1)))))))else(some true))
noncomputable def F90_l2(N:Nat)(self:Geo→Geo→Option (Bool)):Nat→Geo→Geo→Int→Option (Bool)
 |0,_,_,_=>none
 |n+1,v1,v2,v15=>F90_g2 N self v1 v2 (F90_l2 N self n v1 v2) v15
noncomputable def F90_g1(N:Nat)(self:Geo→Geo→Option (Bool))(v1 v2:Geo)(c2:Geo→Geo→Int→Option (Bool))(r1:Int→Option (Bool))(v8:Int):Option (Bool):=
 (bif(decide ((v8:Int)<(v1.endss.length:Int)))then((nth v1.endss v8).bind fun v9=>((nth v2.endss v8).bind fun v10=>(F89 N v9 v10).bind fun v11=>(bif(!v11)then(some false)else((r1 (IntKind.i64.wrap (v8+1)))))))else((c2 v1 v2 0)))
noncomputable def F90_l1(N:Nat)(self:Geo→Geo→Option (Bool)):Nat→Geo→Geo→Int→Option (Bool)
 |0,_,_,_=>none
 |n+1,v1,v2,v8=>F90_g1 N self v1 v2 (F90_l2 N self N) (F90_l1 N self n v1 v2) v8
noncomputable def F90_g(N:Nat)(self:Geo→Geo→Option (Bool))(v1 v2:Geo)(c0:Geo→Geo→Option (Bool))(c1:Geo→Geo→Int→Option (Bool)):Option (Bool):=
 (bif(v1.kind !=v2.kind)then(c0 v1 v2)else(bif(v1.layout !=v2.layout)then(c0 v1 v2)else(bif(v1.srid !=v2.srid)then(c0 v1 v2)else((F88 N v1.flat v2.flat).bind fun v3=>bif(!v3)then(c0 v1 v2)else((F89 N v1.ends v2.ends).bind fun v4=>bif(!v4)then(c0 v1 v2)else(bif((v1.endss.length:Int) !=(v2.endss.length:Int))then(c0 v1 v2)else(gate N (bif((v1.kids.length:Int) !=(v2.kids.length:Int))then(some false)else((c1 v1 v2 0))))))))))
noncomputable def F90(N:Nat):Nat→Geo→Geo→Option (Bool)
 |0,_,_=>none
 |d+1,v1,v2=>F90_g N (F90 N d) v1 v2 (F90_j0 N (F90 N d)) (F90_l1 N (F90 N d) N)
noncomputable def F90_con'(N d:Nat):Con:=⟨9,[.k .geo, .k .geo],[.bool],fun x=>F90 N d x.1 x.2.1⟩
noncomputable def F90_E(N d:Nat):Env:=⟨Tryz.prog,N,[F90_con' N d,F88_con N,F89_con N],[nm 0 [0,1] [],nm 1 [2,3] [2,3],ng N 2 [2,3,61] [2,3],nm 3 [2,3] [2,3],nm 4 [2,3,63,64,65] [2,3],nm 5 [2,3,63,64,65] [2,3],nm 6 [2,3,5,6,63,64,65] [2,3],nm 7 [2,3,63,64,65,77] [2,3],nm 8 [2,3,63,64,65] [2,3],nm 9 [2,3] [2,3],nm 10 [3,80,81,82] [3],nm 11 [3,80,81,82] [3],nm 12 [3,7,8,80,81,82] [3,8],nm 13 [3,80,81,82,94] [3],nm 14 [3,80,81,82] [3],nm 15 [] []],kdL [],[],[],(GL N),tl0,[]⟩
noncomputable def q19(N d:Nat):=kEnd (F90_E N d) [] Tryz.f9.results.toList [.bool]
noncomputable def F90_e0(N d:Nat)(v1 v2:Geo):=
 gate N (evC (F90_E N d) (c9 [1,0,1]) ⟨[(2, .ref 2 0),(3, .ref 3 0),(61, .pv .bool true)],[(2, .box [.pv (.int .i64) v1.kind, .pv (.int .i64) v1.layout, .pv (.int .i64) v1.srid, .pv (.list .float) v1.flat, .pv (.list (.int .i64)) v1.ends, .pv (.list (.list (.int .i64))) v1.endss, .pv (.list .geo) v1.kids]),(3, .box [.pv (.int .i64) v2.kind, .pv (.int .i64) v2.layout, .pv (.int .i64) v2.srid, .pv (.list .float) v2.flat, .pv (.list (.int .i64)) v2.ends, .pv (.list (.list (.int .i64))) v2.endss, .pv (.list .geo) v2.kids])],[]⟩ (kq (F90_E N d) (c9 [1,1]) (q19 N d)))
noncomputable def F90_e2(N d n:Nat)(v1 v2:Geo)(v15:Int):=
 lq (F90_E N d) (c9 [1,1,1,0,1,0,0]) n ⟨[(3, .ref 3 0),(80, .pv (.list .geo) v1.kids),(81, .pv (.int .i64) (v1.kids.length:Int)),(82, .pv (.int .i64) v15)],[(3, .box [.pv (.int .i64) v2.kind, .pv (.int .i64) v2.layout, .pv (.int .i64) v2.srid, .pv (.list .float) v2.flat, .pv (.list (.int .i64)) v2.ends, .pv (.list (.list (.int .i64))) v2.endss, .pv (.list .geo) v2.kids])],[]⟩ (kBlock 2 (kq (F90_E N d) (c9 [1,1,1,1]) (q19 N d)))
noncomputable def F90_e1(N d n:Nat)(v1 v2:Geo)(v8:Int):=
 lq (F90_E N d) (c9 [1,1,0,1,0,0]) n ⟨[(2, .ref 2 0),(3, .ref 3 0),(63, .pv (.list (.list (.int .i64))) v1.endss),(64, .pv (.int .i64) (v1.endss.length:Int)),(65, .pv (.int .i64) v8)],[(2, .box [.pv (.int .i64) v1.kind, .pv (.int .i64) v1.layout, .pv (.int .i64) v1.srid, .pv (.list .float) v1.flat, .pv (.list (.int .i64)) v1.ends, .pv (.list (.list (.int .i64))) v1.endss, .pv (.list .geo) v1.kids]),(3, .box [.pv (.int .i64) v2.kind, .pv (.int .i64) v2.layout, .pv (.int .i64) v2.srid, .pv (.list .float) v2.flat, .pv (.list (.int .i64)) v2.ends, .pv (.list (.list (.int .i64))) v2.endss, .pv (.list .geo) v2.kids])],[]⟩ (kBlock 0 (kq (F90_E N d) (c9 [1,1,1]) (q19 N d)))
theorem F90_t0(N d:Nat)(v1 v2:Geo):F90_e0 N d v1 v2=F90_j0 N (F90 N d) v1 v2:=by
 exact(congrArg (gate N) (show _=F90_g0 N (F90 N d) v1 v2 from by kernel_rfl)).trans (by rfl)
theorem F90_t2(N d:Nat):∀(n:Nat) (v1 v2:Geo) (v15:Int),F90_e2 N d n v1 v2 v15=F90_l2 N (F90 N d) n v1 v2 v15
 |0,_,_,_=>rfl
 |n+1,v1,v2,v15=>by
  have h:F90_e2 N d n v1 v2=F90_l2 N (F90 N d) n v1 v2:=by funext v15;exact F90_t2 N d n v1 v2 v15
  exact Eq.trans (b:=F90_g2 N (F90 N d) v1 v2 (F90_e2 N d n v1 v2) v15) (by kernel_rfl) (by rw[h];rfl)
theorem F90_t1(N d:Nat):∀(n:Nat) (v1 v2:Geo) (v8:Int),F90_e1 N d n v1 v2 v8=F90_l1 N (F90 N d) n v1 v2 v8
 |0,_,_,_=>rfl
 |n+1,v1,v2,v8=>by
  have h2:(F90_e2 N d N)=(F90_l2 N (F90 N d) N):=by funext v1 v2 v15;exact F90_t2 N d N v1 v2 v15
  have h:F90_e1 N d n v1 v2=F90_l1 N (F90 N d) n v1 v2:=by funext v8;exact F90_t1 N d n v1 v2 v8
  exact Eq.trans (b:=F90_g1 N (F90 N d) v1 v2 (F90_e2 N d N) (F90_e1 N d n v1 v2) v8) (by kernel_rfl) (by rw[h2,h];rfl)
theorem F90_t(N d:Nat)(v1 v2:Geo):evF (F90_E N d) [] Tryz.f9 [.k .geo, .k .geo] [.bool] (v1,v2,())=F90 N (d+1) v1 v2:=by
 have h0:(F90_e0 N d)=(F90_j0 N (F90 N d)):=by funext v1 v2;exact F90_t0 N d v1 v2
 have h1:(F90_e1 N d N)=(F90_l1 N (F90 N d) N):=by funext v1 v2 v8;exact F90_t1 N d N v1 v2 v8
 exact Eq.trans (b:=F90_g N (F90 N d) v1 v2 (F90_e0 N d) (F90_e1 N d N)) (by kernel_rfl) (by rw[h0,h1];rfl)
theorem F90_s'(N:Nat):∀d,(F90_con' N d).Sound Tryz.prog (GL N)
 |0=>fun _ _ _ _ _ _ _ _ h=>by cases h
 |d+1=>Con.sound_of (c:=F90_con' N (d+1)) (E:=(F90_E N d)) (idle:=[]) Tryz.func9 (by kernel_rfl) (by kernel_rfl) ⟨(allCons (F90_s' N d) (allCons (F88_s N) (allCons (F89_s N) allNil))),allNil,rfl⟩ allNil (fun x y h=>(F90_t N d x.1 x.2.1).trans h)
noncomputable def F90_con(N:Nat):Con:=F90_con' N N
theorem F90_s(N:Nat):(F90_con N).Sound Tryz.prog (GL N):=F90_s' N N
noncomputable def F91_E(N:Nat):Env:=⟨Tryz.prog,N,[],[nm 0 [0,1] [],nm 1 [0,1,4] [4],nm 2 [0,4,7] [4],nm 3 [0,4] []],kdL [],[],[],(GL N),tl0,[]⟩
noncomputable def F91_g(N:Nat)(v1:Ce)(v2:Int):Option (Geo×Bool):=
 (some ((Geo.mk 0 0 0 ([]:List Nat) ([]:List Int) ([]:List (List Int)) ([]:List Geo)),false))
noncomputable def F91(N:Nat)(v1:Ce)(v2:Int):Option (Geo×Bool):=
 F91_g N v1 v2
theorem F91_t(N:Nat)(v1:Ce)(v2:Int):evF (F91_E N) [] Tryz.f24 [.k .any, .ifc 175 (.int .u8)] [.geo, .bool] (v1,v2,())=F91 N v1 v2:=
 Eq.trans (b:=F91_g N v1 v2) (by kernel_rfl) rfl
noncomputable def F91_con(N:Nat):Con:=⟨24,[.k .any, .ifc 175 (.int .u8)],[.geo, .bool],fun x=>F91 N x.1 x.2.1⟩
theorem F91_s(N:Nat):(F91_con N).Sound Tryz.prog (GL N):=
 Con.sound_of (c:=F91_con N) (E:=(F91_E N)) (idle:=[]) Tryz.func24 (by kernel_rfl) (by kernel_rfl) ⟨allNil,allNil,rfl⟩ allNil (fun x y h=>(F91_t N x.1 x.2.1).trans h)
noncomputable def F92_E(N:Nat):Env:=⟨Tryz.prog,N,[],[nm 0 [0,1] [],nm 1 [0,1,4] [4],nm 2 [0,4,7] [4],nm 3 [0,4] []],kdL [],[],[],(GL N),tl0,[]⟩
noncomputable def F92_g(N:Nat)(v1:Ce)(v2:Int):Option (Geo×Bool):=
 (some ((Geo.mk 0 0 0 ([]:List Nat) ([]:List Int) ([]:List (List Int)) ([]:List Geo)),false))
noncomputable def F92(N:Nat)(v1:Ce)(v2:Int):Option (Geo×Bool):=
 F92_g N v1 v2
theorem F92_t(N:Nat)(v1:Ce)(v2:Int):evF (F92_E N) [] Tryz.f24 [.k .any, .ifc 179 (.int .u32)] [.geo, .bool] (v1,v2,())=F92 N v1 v2:=
 Eq.trans (b:=F92_g N v1 v2) (by kernel_rfl) rfl
noncomputable def F92_con(N:Nat):Con:=⟨24,[.k .any, .ifc 179 (.int .u32)],[.geo, .bool],fun x=>F92 N x.1 x.2.1⟩
theorem F92_s(N:Nat):(F92_con N).Sound Tryz.prog (GL N):=
 Con.sound_of (c:=F92_con N) (E:=(F92_E N)) (idle:=[]) Tryz.func24 (by kernel_rfl) (by kernel_rfl) ⟨allNil,allNil,rfl⟩ allNil (fun x y h=>(F92_t N x.1 x.2.1).trans h)
noncomputable def F93_E(N:Nat):Env:=⟨Tryz.prog,N,[],[nm 0 [0,1] [],nm 1 [0,1,4] [4],nm 2 [0,4,7] [4],nm 3 [0,4] []],kdL [],[],[],(GL N),tl0,[]⟩
noncomputable def F93_g(N:Nat)(v1:Ce)(v2:(Int×T18)):Option (Geo×Bool):=
 (some ((Geo.mk 0 0 0 ([]:List Nat) ([]:List Int) ([]:List (List Int)) ([]:List Geo)),false))
noncomputable def F93(N:Nat)(v1:Ce)(v2:(Int×T18)):Option (Geo×Bool):=
 F93_g N v1 v2
theorem F93_t(N:Nat)(v1:Ce)(v2:(Int×T18)):evF (F93_E N) [] Tryz.f24 [.k .any, .ifc 186 (.pair (.int .i64) p5)] [.geo, .bool] (v1,v2,())=F93 N v1 v2:=
 Eq.trans (b:=F93_g N v1 v2) (by kernel_rfl) rfl
noncomputable def F93_con(N:Nat):Con:=⟨24,[.k .any, .ifc 186 (.pair (.int .i64) p5)],[.geo, .bool],fun x=>F93 N x.1 x.2.1⟩
theorem F93_s(N:Nat):(F93_con N).Sound Tryz.prog (GL N):=
 Con.sound_of (c:=F93_con N) (E:=(F93_E N)) (idle:=[]) Tryz.func24 (by kernel_rfl) (by kernel_rfl) ⟨allNil,allNil,rfl⟩ allNil (fun x y h=>(F93_t N x.1 x.2.1).trans h)
noncomputable def F94_E(N:Nat):Env:=⟨Tryz.prog,N,[],[nm 0 [0,1] [],nm 1 [0,1,4] [4],nm 2 [0,4,7] [4],nm 3 [0,4] []],kdL [],[],[],(GL N),tl0,[]⟩
noncomputable def F94_g(N:Nat)(v1:Ce)(v2:T18):Option (Geo×Bool):=
 (some ((Geo.mk 0 0 0 ([]:List Nat) ([]:List Int) ([]:List (List Int)) ([]:List Geo)),false))
noncomputable def F94(N:Nat)(v1:Ce)(v2:T18):Option (Geo×Bool):=
 F94_g N v1 v2
theorem F94_t(N:Nat)(v1:Ce)(v2:T18):evF (F94_E N) [] Tryz.f24 [.k .any, .ifc 218 p5] [.geo, .bool] (v1,v2,())=F94 N v1 v2:=
 Eq.trans (b:=F94_g N v1 v2) (by kernel_rfl) rfl
noncomputable def F94_con(N:Nat):Con:=⟨24,[.k .any, .ifc 218 p5],[.geo, .bool],fun x=>F94 N x.1 x.2.1⟩
theorem F94_s(N:Nat):(F94_con N).Sound Tryz.prog (GL N):=
 Con.sound_of (c:=F94_con N) (E:=(F94_E N)) (idle:=[]) Tryz.func24 (by kernel_rfl) (by kernel_rfl) ⟨allNil,allNil,rfl⟩ allNil (fun x y h=>(F94_t N x.1 x.2.1).trans h)
noncomputable def F95_E(N:Nat):Env:=⟨Tryz.prog,N,[],[nm 0 [0,1] [],nm 1 [0,1,4] [4],nm 2 [0,4,7] [4],nm 3 [0,4] []],kdL [],[],[],(GL N),tl0,[]⟩
noncomputable def F95_g(N:Nat)(v1:Ce)(v2:Int):Option (Geo×Bool):=
 (some ((Geo.mk 0 0 0 ([]:List Nat) ([]:List Int) ([]:List (List Int)) ([]:List Geo)),false))
noncomputable def F95(N:Nat)(v1:Ce)(v2:Int):Option (Geo×Bool):=
 F95_g N v1 v2
theorem F95_t(N:Nat)(v1:Ce)(v2:Int):evF (F95_E N) [] Tryz.f24 [.k .any, .ifc 198 (.int .u32)] [.geo, .bool] (v1,v2,())=F95 N v1 v2:=
 Eq.trans (b:=F95_g N v1 v2) (by kernel_rfl) rfl
noncomputable def F95_con(N:Nat):Con:=⟨24,[.k .any, .ifc 198 (.int .u32)],[.geo, .bool],fun x=>F95 N x.1 x.2.1⟩
theorem F95_s(N:Nat):(F95_con N).Sound Tryz.prog (GL N):=
 Con.sound_of (c:=F95_con N) (E:=(F95_E N)) (idle:=[]) Tryz.func24 (by kernel_rfl) (by kernel_rfl) ⟨allNil,allNil,rfl⟩ allNil (fun x y h=>(F95_t N x.1 x.2.1).trans h)
noncomputable def F96_E(N:Nat):Env:=⟨Tryz.prog,N,[],[nm 0 [0] [],nm 1 [0] []],kdL [],[],[],(GL N),tl0,[]⟩
noncomputable def F96_g(N:Nat)(v1:List Int):Option ((T0×Unit)):=
 (some ((v1,0,0,()),()))
noncomputable def F96(N:Nat)(v1:List Int):Option ((T0×Unit)):=
 F96_g N v1
theorem F96_t(N:Nat)(v1:List Int):evF2 (F96_E N) [] Tryz.f35 s11 [⟨[.box s0],[none]⟩] (v1,())=F96 N v1:=
 Eq.trans (b:=F96_g N v1) (by kernel_rfl) rfl
noncomputable def F96_con(N:Nat):Con2:=⟨35,s11,[⟨[.box s0],[none]⟩],fun x=>F96 N x.1⟩
theorem F96_s(N:Nat):(F96_con N).Sound Tryz.prog (GL N):=
 Con2.sound_of (c:=F96_con N) (E:=(F96_E N)) (idle:=[]) Tryz.func35 (by kernel_rfl) (by kernel_rfl) ⟨allNil,allNil,rfl⟩ allNil (fun x y h=>(F96_t N x.1).trans h)
noncomputable def F97_E(N:Nat):Env:=⟨Tryz.prog,N,[],[nm 0 [0] [],nm 1 [0] []],kdL [],[],[],(GL N),tl0,[]⟩
noncomputable def F97_g(N:Nat)(v1:((List Int)×T18)):Option ((Bool×Unit)):=
 (some ((decide (((v1.1.length:Int):Int)≤v1.2.1)),()))
noncomputable def F97(N:Nat)(v1:((List Int)×T18)):Option ((Bool×Unit)):=
 F97_g N v1
theorem F97_t(N:Nat)(v1:((List Int)×T18)):evF2 (F97_E N) [] Tryz.f143 [.lref (.pair (.list (.int .u8)) (.pair (.int .i64) (.pair (.int .i8) .unit)))] a40 (v1,())=F97 N v1:=
 Eq.trans (b:=F97_g N v1) (by kernel_rfl) rfl
noncomputable def F97_con(N:Nat):Con2:=⟨143,[.lref (.pair (.list (.int .u8)) (.pair (.int .i64) (.pair (.int .i8) .unit)))],a40,fun x=>F97 N x.1⟩
theorem F97_s(N:Nat):(F97_con N).Sound Tryz.prog (GL N):=
 Con2.sound_of (c:=F97_con N) (E:=(F97_E N)) (idle:=[]) Tryz.func143 (by kernel_rfl) (by kernel_rfl) ⟨allNil,allNil,rfl⟩ allNil (fun x y h=>(F97_t N x.1).trans h)
noncomputable def F98_E(N:Nat):Env:=⟨Tryz.prog,N,[],[nm 0 [0] [1000000],nm 1 [0] [1000000],nm 2 [0] [1000000]],kdL [],[],[],(GL N),tl0,[]⟩
noncomputable def F98_g(N:Nat)(v1:T0):Option ((T0×Unit)):=
 (chk2 0 0 v1.1.length).bind fun v2=>(some ((((v1.1.drop v2.1).take (v2.2-v2.1)),0,0,()),()))
noncomputable def F98(N:Nat)(v1:T0):Option ((T0×Unit)):=
 F98_g N v1
theorem F98_t(N:Nat)(v1:T0):evF2 (F98_E N) [] Tryz.f140 [.box s0] [⟨[],[some (.box s0)]⟩] (v1,())=F98 N v1:=
 Eq.trans (b:=F98_g N v1) (by kernel_rfl) rfl
noncomputable def F98_con(N:Nat):Con2:=⟨140,[.box s0],[⟨[],[some (.box s0)]⟩],fun x=>F98 N x.1⟩
theorem F98_s(N:Nat):(F98_con N).Sound Tryz.prog (GL N):=
 Con2.sound_of (c:=F98_con N) (E:=(F98_E N)) (idle:=[]) Tryz.func140 (by kernel_rfl) (by kernel_rfl) ⟨allNil,allNil,rfl⟩ allNil (fun x y h=>(F98_t N x.1).trans h)
noncomputable def F99_E(N:Nat):Env:=⟨Tryz.prog,N,[],[nm 0 [0,1] [1000000,1000001],nm 1 [0,1] [1000000,1000001],nm 2 [0,1] [1000000,1000001],nm 3 [0,1,10] [1000000,1000001],nm 4 [1] [1000000,1000001],nm 5 [15] [1000000,1000001],nm 6 [] [1000000,1000001],nm 7 [0,1] [1000000,1000001],nm 8 [0,4] [1000000,1000001],nm 9 [0,4] [1000000,1000001],nm 10 [0,4,37] [1000000,1000001],ng N 11 [4] [1000000,1000001]],kdL [],[F97_con N,F98_con N],[],(GL N),tl0,[]⟩
noncomputable def F99_g0(N:Nat)(v1:T0)(v5:(Nat×Nat))(v2:List Int)(v6:Int):Option (T22⊕T22):=
 (some (Sum.inl (((min ((v1.1.drop v5.1).take (v5.2-v5.1)).length v2.length:Nat):Int),(),(v1.1,(IntKind.i64.wrap (v1.2.1+((min ((v1.1.drop v5.1).take (v5.2-v5.1)).length v2.length:Nat):Int))),v6,()),(((v1.1.drop v5.1).take (v5.2-v5.1)).take v2.length++v2.drop ((v1.1.drop v5.1).take (v5.2-v5.1)).length),())))
noncomputable def F99_j0(N:Nat)(v1:T0)(v5:(Nat×Nat))(v2:List Int)(v6:Int):Option (T22⊕T22):=
 gate N (F99_g0 N v1 v5 v2 v6)
noncomputable def F99_g(N:Nat)(v1:T0)(v2:List Int)(c0:T0→(Nat×Nat)→(List Int)→Int→Option (T22⊕T22)):Option (T22⊕T22):=
 ((F97 N (v1.1,v1.2.1,0,())).bind fun v3=>(bif v3.1 then((F98 N (v1.1,v1.2.1,0,())).bind fun v4=>(bif((v2.length:Int)==0)then(some (Sum.inl (0,(),v4.1,v2,())))else(some (Sum.inr (0,(),v4.1,v2,())))))else((chk2 v1.2.1 (v1.1.length:Int) v1.1.length).bind fun v5=>(bif(decide ((((min ((v1.1.drop v5.1).take (v5.2-v5.1)).length v2.length:Nat):Int):Int)>0))then(c0 v1 v5 v2 (-1))else(c0 v1 v5 v2 0)))))
noncomputable def F99(N:Nat)(v1:T0)(v2:List Int):Option (T22⊕T22):=
 F99_g N v1 v2 (F99_j0 N)
noncomputable def F99_e0(N:Nat)(v1:T0)(v5:(Nat×Nat))(v2:List Int)(v6:Int):=
 gate N (evC (F99_E N) (c139 [1,1,1,1,1,1]) ⟨[(4, .pv (.int .i64) ((min ((v1.1.drop v5.1).take (v5.2-v5.1)).length v2.length:Nat):Int))],[(1000000, .box [.pv (.list (.int .u8)) v1.1, .pv (.int .i64) (IntKind.i64.wrap (v1.2.1+((min ((v1.1.drop v5.1).take (v5.2-v5.1)).length v2.length:Nat):Int))), .pv (.int .i8) v6]),(1000001, .arr 204 (.int .u8) (((v1.1.drop v5.1).take (v5.2-v5.1)).take v2.length++v2.drop ((v1.1.drop v5.1).take (v5.2-v5.1)).length))],[]⟩ (kEnd2 (F99_E N) [] Tryz.f139.results.toList a20 [.ref 1000000 0, .own (.int .u8) 1000001]))
theorem F99_t0(N:Nat)(v1:T0)(v5:(Nat×Nat))(v2:List Int)(v6:Int):F99_e0 N v1 v5 v2 v6=F99_j0 N v1 v5 v2 v6:=by
 exact(congrArg (gate N) (show _=F99_g0 N v1 v5 v2 v6 from by kernel_rfl)).trans (by rfl)
theorem F99_t(N:Nat)(v1:T0)(v2:List Int):evF2 (F99_E N) [] Tryz.f139 [.box s0, .row 204 (.int .u8)] a20 (v1,v2,())=F99 N v1 v2:=by
 have h0:(F99_e0 N)=(F99_j0 N):=by funext v1 v5 v2 v6;exact F99_t0 N v1 v5 v2 v6
 exact Eq.trans (b:=F99_g N v1 v2 (F99_e0 N)) (by kernel_rfl) (by rw[h0];rfl)
noncomputable def F99_con(N:Nat):Con2:=⟨139,[.box s0, .row 204 (.int .u8)],a20,fun x=>F99 N x.1 x.2.1⟩
theorem F99_s(N:Nat):(F99_con N).Sound Tryz.prog (GL N):=
 Con2.sound_of (c:=F99_con N) (E:=(F99_E N)) (idle:=[]) Tryz.func139 (by kernel_rfl) (by kernel_rfl) ⟨allNil,(allCons (F97_s N) (allCons (F98_s N) allNil)),rfl⟩ allNil (fun x y h=>(F99_t N x.1 x.2.1).trans h)
noncomputable def F100_E(N:Nat):Env:=⟨Tryz.prog,N,[],[nm 0 [0] [1000000],nm 1 [0] [1000000],nm 2 [0,4] [4,1000000],nm 3 [4,6] [4,1000000],nm 4 [4,6,17] [4,1000000],nm 5 [4] [4,1000000]],kdL [(5,(.int .u8))],[F99_con N],[2000004],(GL N),tl0,[]⟩
noncomputable def F100_g(N:Nat)(v1:T0):Option (T13⊕T13):=
 ((F99 N (v1.1,v1.2.1,v1.2.2.1,()) ([0]:List Int)).bind fun v2=>Sum.elim (fun v3=>((chk 0 1).bind fun v5=>(v3.2.2.2.1[v5]?).bind fun v6=>(some (Sum.inr (v6,(),v3.2.2.1,()))))) (fun v4=>(some (Sum.inl (0,(),v4.2.2.1,())))) v2)
noncomputable def F100(N:Nat)(v1:T0):Option (T13⊕T13):=
 F100_g N v1
theorem F100_t(N:Nat)(v1:T0):evF2 (F100_E N) [] Tryz.f94 [.ifc 66 (.box s0)] a34 (v1,())=F100 N v1:=
 Eq.trans (b:=F100_g N v1) (by kernel_rfl) rfl
noncomputable def F100_con(N:Nat):Con2:=⟨94,[.ifc 66 (.box s0)],a34,fun x=>F100 N x.1⟩
theorem F100_s(N:Nat):(F100_con N).Sound Tryz.prog (GL N):=
 Con2.sound_of (c:=F100_con N) (E:=(F100_E N)) (idle:=[]) Tryz.func94 (by kernel_rfl) (by kernel_rfl) ⟨allNil,(allCons (F99_s N) allNil),rfl⟩ allNil (fun x y h=>(F100_t N x.1).trans h)
noncomputable def F101_E(N:Nat):Env:=⟨Tryz.prog,N,[],[nm 0 [0,1] [],nm 1 [1] [],nm 2 [1] []],kdL [],[],[],(GL N),tl0,[]⟩
noncomputable def F101_g(N:Nat)(v1:Unit)(v2:List Int):Option (Int):=
 ((nth v2 3).bind fun v3=>((nth v2 3).bind fun v4=>(nth v2 2).bind fun v5=>(nth v2 1).bind fun v6=>(nth v2 0).bind fun v7=>(some (bits .or .u32 (bits .or .u32 (bits .or .u32 (IntKind.u32.wrap v4) (IntKind.u32.wrap ((IntKind.u32.wrap v5)*2^(min (8:Int).toNat (IntKind.bits .u32))))) (IntKind.u32.wrap ((IntKind.u32.wrap v6)*2^(min (16:Int).toNat (IntKind.bits .u32))))) (IntKind.u32.wrap ((IntKind.u32.wrap v7)*2^(min (24:Int).toNat (IntKind.bits .u32))))))))
noncomputable def F101(N:Nat)(v1:Unit)(v2:List Int):Option (Int):=
 F101_g N v1 v2
theorem F101_t(N:Nat)(v1:Unit)(v2:List Int):evF (F101_E N) [] Tryz.f174 [.k .unit, .k (.list (.int .u8))] [(.int .u32)] (v1,v2,())=F101 N v1 v2:=
 Eq.trans (b:=F101_g N v1 v2) (by kernel_rfl) rfl
noncomputable def F101_con(N:Nat):Con:=⟨174,[.k .unit, .k (.list (.int .u8))],[(.int .u32)],fun x=>F101 N x.1 x.2.1⟩
theorem F101_s(N:Nat):(F101_con N).Sound Tryz.prog (GL N):=
 Con.sound_of (c:=F101_con N) (E:=(F101_E N)) (idle:=[]) Tryz.func174 (by kernel_rfl) (by kernel_rfl) ⟨allNil,allNil,rfl⟩ allNil (fun x y h=>(F101_t N x.1 x.2.1).trans h)
noncomputable def F102_E(N:Nat):Env:=⟨Tryz.prog,N,[],[nm 0 [0,1] [],nm 1 [1] [],nm 2 [1] []],kdL [],[],[],(GL N),tl0,[]⟩
noncomputable def F102_g(N:Nat)(v1:Unit)(v2:List Int):Option (Int):=
 ((nth v2 3).bind fun v3=>((nth v2 0).bind fun v4=>(nth v2 1).bind fun v5=>(nth v2 2).bind fun v6=>(nth v2 3).bind fun v7=>(some (bits .or .u32 (bits .or .u32 (bits .or .u32 (IntKind.u32.wrap v4) (IntKind.u32.wrap ((IntKind.u32.wrap v5)*2^(min (8:Int).toNat (IntKind.bits .u32))))) (IntKind.u32.wrap ((IntKind.u32.wrap v6)*2^(min (16:Int).toNat (IntKind.bits .u32))))) (IntKind.u32.wrap ((IntKind.u32.wrap v7)*2^(min (24:Int).toNat (IntKind.bits .u32))))))))
noncomputable def F102(N:Nat)(v1:Unit)(v2:List Int):Option (Int):=
 F102_g N v1 v2
theorem F102_t(N:Nat)(v1:Unit)(v2:List Int):evF (F102_E N) [] Tryz.f182 [.k .unit, .k (.list (.int .u8))] [(.int .u32)] (v1,v2,())=F102 N v1 v2:=
 Eq.trans (b:=F102_g N v1 v2) (by kernel_rfl) rfl
noncomputable def F102_con(N:Nat):Con:=⟨182,[.k .unit, .k (.list (.int .u8))],[(.int .u32)],fun x=>F102 N x.1 x.2.1⟩
theorem F102_s(N:Nat):(F102_con N).Sound Tryz.prog (GL N):=
 Con.sound_of (c:=F102_con N) (E:=(F102_E N)) (idle:=[]) Tryz.func182 (by kernel_rfl) (by kernel_rfl) ⟨allNil,allNil,rfl⟩ allNil (fun x y h=>(F102_t N x.1 x.2.1).trans h)
noncomputable def F103_E(N:Nat):Env:=⟨Tryz.prog,N,[],[nm 0 [0,1] [1000000,1000001],nm 1 [0,1] [1000000,1000001],nm 2 [0,1] [1000000,1000001],nm 3 [0,1,10] [1000000,1000001],nm 4 [1] [1000000,1000001],nm 5 [15] [1000000,1000001],nm 6 [] [1000000,1000001],nm 7 [0,1] [1000000,1000001],nm 8 [0,4] [1000000,1000001],nm 9 [0,4] [1000000,1000001],nm 10 [0,4,37] [1000000,1000001],ng N 11 [4] [1000000,1000001]],kdL [],[F97_con N,F98_con N],[],(GL N),tl0,[]⟩
noncomputable def F103_g0(N:Nat)(v1:T0)(v5:(Nat×Nat))(v2:T21)(v6:Int):Option (T11⊕T11):=
 (some (Sum.inl (((min ((v1.1.drop v5.1).take (v5.2-v5.1)).length v2.2.2:Nat):Int),(),(v1.1,(IntKind.i64.wrap (v1.2.1+((min ((v1.1.drop v5.1).take (v5.2-v5.1)).length v2.2.2:Nat):Int))),v6,()),((v2.1.take v2.2.1++(((v1.1.drop v5.1).take (v5.2-v5.1)).take v2.2.2++v2.1.drop (v2.2.1+min ((v1.1.drop v5.1).take (v5.2-v5.1)).length v2.2.2))),v2.2.1,v2.2.2),())))
noncomputable def F103_j0(N:Nat)(v1:T0)(v5:(Nat×Nat))(v2:T21)(v6:Int):Option (T11⊕T11):=
 gate N (F103_g0 N v1 v5 v2 v6)
noncomputable def F103_g(N:Nat)(v1:T0)(v2:T21)(c0:T0→(Nat×Nat)→T21→Int→Option (T11⊕T11)):Option (T11⊕T11):=
 ((F97 N (v1.1,v1.2.1,0,())).bind fun v3=>(bif v3.1 then((F98 N (v1.1,v1.2.1,0,())).bind fun v4=>(bif((v2.2.2:Int)==0)then(some (Sum.inl (0,(),v4.1,(v2.1,v2.2.1,v2.2.2),())))else(some (Sum.inr (0,(),v4.1,(v2.1,v2.2.1,v2.2.2),())))))else((chk2 v1.2.1 (v1.1.length:Int) v1.1.length).bind fun v5=>(bif(decide ((((min ((v1.1.drop v5.1).take (v5.2-v5.1)).length v2.2.2:Nat):Int):Int)>0))then(c0 v1 v5 v2 (-1))else(c0 v1 v5 v2 0)))))
noncomputable def F103(N:Nat)(v1:T0)(v2:T21):Option (T11⊕T11):=
 F103_g N v1 v2 (F103_j0 N)
noncomputable def F103_e0(N:Nat)(v1:T0)(v5:(Nat×Nat))(v2:T21)(v6:Int):=
 gate N (evC (F103_E N) (c139 [1,1,1,1,1,1]) ⟨[(4, .pv (.int .i64) ((min ((v1.1.drop v5.1).take (v5.2-v5.1)).length v2.2.2:Nat):Int))],[(1000000, .box [.pv (.list (.int .u8)) v1.1, .pv (.int .i64) (IntKind.i64.wrap (v1.2.1+((min ((v1.1.drop v5.1).take (v5.2-v5.1)).length v2.2.2:Nat):Int))), .pv (.int .i8) v6]),(1000001, .arr 207 (.int .u8) (v2.1.take v2.2.1++(((v1.1.drop v5.1).take (v5.2-v5.1)).take v2.2.2++v2.1.drop (v2.2.1+min ((v1.1.drop v5.1).take (v5.2-v5.1)).length v2.2.2))))],[]⟩ (kEnd2 (F103_E N) [] Tryz.f139.results.toList a21 [.ref 1000000 0, .sub (.int .u8) 1000001 v2.2.1 v2.2.2]))
theorem F103_t0(N:Nat)(v1:T0)(v5:(Nat×Nat))(v2:T21)(v6:Int):F103_e0 N v1 v5 v2 v6=F103_j0 N v1 v5 v2 v6:=by
 exact(congrArg (gate N) (show _=F103_g0 N v1 v5 v2 v6 from by kernel_rfl)).trans (by rfl)
theorem F103_t(N:Nat)(v1:T0)(v2:T21):evF2 (F103_E N) [] Tryz.f139 [.box s0, .sub 207 (.int .u8)] a21 (v1,v2,())=F103 N v1 v2:=by
 have h0:(F103_e0 N)=(F103_j0 N):=by funext v1 v5 v2 v6;exact F103_t0 N v1 v5 v2 v6
 exact Eq.trans (b:=F103_g N v1 v2 (F103_e0 N)) (by kernel_rfl) (by rw[h0];rfl)
noncomputable def F103_con(N:Nat):Con2:=⟨139,[.box s0, .sub 207 (.int .u8)],a21,fun x=>F103 N x.1 x.2.1⟩
theorem F103_s(N:Nat):(F103_con N).Sound Tryz.prog (GL N):=
 Con2.sound_of (c:=F103_con N) (E:=(F103_E N)) (idle:=[]) Tryz.func139 (by kernel_rfl) (by kernel_rfl) ⟨allNil,(allCons (F97_s N) (allCons (F98_s N) allNil)),rfl⟩ allNil (fun x y h=>(F103_t N x.1 x.2.1).trans h)
noncomputable def F104_E(N:Nat):Env:=⟨Tryz.prog,N,[],[nm 0 [0,1,2] [1000000,1000001],nm 1 [0,1,2,6,7] [1000000,1000001],nm 2 [0,1,2,6,7,12] [1000000,1000001],nm 3 [0,1,2,6,7] [1000000,1000001],nm 4 [0,1,2,6] [1000000,1000001],nm 5 [0,1,2,6] [1000000,1000001],nm 6 [0,1,2,6,7,8] [1000000,1000001],ng N 7 [2,6,7] [1000000,1000001],nm 8 [6,7,37] [1000000,1000001],ng N 10 [6,7,44] [1000000,1000001]],kdL [],[F103_con N],[],(GL N),tl0,[]⟩
noncomputable def F104_g3(N:Nat)(v3 v8:Int)(v16:T11):Option T2:=
 (bif(decide (((IntKind.i64.wrap (v8+v16.1)):Int)≥v3))then(some (Sum.inr (Sum.inl ((IntKind.i64.wrap (v8+v16.1)),(),v16.2.2.1,v16.2.2.2.1.1,()))))else(bif(decide (((IntKind.i64.wrap (v8+v16.1)):Int)>0))then(gate N (some (i2 ((IntKind.i64.wrap (v8+v16.1)),(),v16.2.2.1,v16.2.2.2.1.1,()))))else(gate N (some (Sum.inr (Sum.inr (Sum.inr ((IntKind.i64.wrap (v8+v16.1)),(),v16.2.2.1,v16.2.2.2.1.1,()))))))))
noncomputable def F104_j3(N:Nat)(v3 v8:Int)(v16:T11):Option T2:=
 gate N (F104_g3 N v3 v8 v16)
noncomputable def F104_g1(N:Nat)(v3 v8:Int)(v16:T11)(c3:Int→Int→T11→Option T2)(r1:Option T2):Option T2:=
 bif(decide (((IntKind.i64.wrap (v8+v16.1)):Int)<v3))then(c3 v3 v8 v16)else(c3 v3 v8 v16)
noncomputable def F104_l1(N:Nat):Nat→Int→Int→T11→Option T2
 |0,_,_,_=>none
 |n+1,v3,v8,v16=>F104_g1 N v3 v8 v16 (F104_j3 N) (F104_l1 N n v3 v8 v16)
noncomputable def F104_g2(N:Nat)(v8:Int)(v9:List Int)(v10 v11:Int)(v12:List Int):Option T2:=
 (some (Sum.inr (Sum.inl (v8,(),(v9,v10,v11,()),v12,()))))
noncomputable def F104_j2(N:Nat)(v8:Int)(v9:List Int)(v10 v11:Int)(v12:List Int):Option T2:=
 gate N (F104_g2 N v8 v9 v10 v11 v12)
noncomputable def F104_g0(N:Nat)(v3:Int)(c1:Int→Int→T11→Option T2)(c2 r0:Int→(List Int)→Int→Int→(List Int)→Option T2)(v8:Int)(v9:List Int)(v10 v11:Int)(v12:List Int):Option T2:=
 bif(decide ((v8:Int)<v3))then((chk2 v8 (v12.length:Int) v12.length).bind fun v13=>(F103 N (v9,v10,v11,()) (v12,v13.1,(v13.2-v13.1))).bind fun v14=>Sum.elim (fun v15=>(bif((((Nat.ble 1 (v13.2-v13.1)&&Nat.beq v15.2.2.2.1.2.1 v13.1)&&Nat.beq v15.2.2.2.1.2.2 (v13.2-v13.1))&&Nat.beq v15.2.2.2.1.1.length v12.length)&&true)then((r0 (IntKind.i64.wrap (v8+v15.1)) v15.2.2.1.1 v15.2.2.1.2.1 v15.2.2.1.2.2.1 v15.2.2.2.1.1))else none)) (fun v16=>(bif((((Nat.ble 1 (v13.2-v13.1)&&Nat.beq v16.2.2.2.1.2.1 v13.1)&&Nat.beq v16.2.2.2.1.2.2 (v13.2-v13.1))&&Nat.beq v16.2.2.2.1.1.length v12.length)&&true)then((c1 v3 v8 v16))else none)) v14)else(gate N (bif(decide ((v8:Int)≥v3))then(some (Sum.inr (Sum.inl (v8,(),(v9,v10,v11,()),v12,()))))else(bif(decide ((v8:Int)>0))then(c2 v8 v9 v10 v11 v12)else(c2 v8 v9 v10 v11 v12))))
noncomputable def F104_l0(N:Nat):Nat→Int→Int→(List Int)→Int→Int→(List Int)→Option T2
 |0,_,_,_,_,_,_=>none
 |n+1,v3,v8,v9,v10,v11,v12=>F104_g0 N v3 (F104_l1 N n) (F104_j2 N) (F104_l0 N n v3) v8 v9 v10 v11 v12
noncomputable def F104_g(N:Nat)(v1:T0)(v2:List Int)(v3:Int)(c0:Int→Int→(List Int)→Int→Int→(List Int)→Option T2):Option T2:=
 (bif(decide (((v2.length:Int):Int)<v3))then(some (Sum.inl (0,(),(v1.1,v1.2.1,v1.2.2.1,()),v2,())))else((c0 v3 0 v1.1 v1.2.1 v1.2.2.1 v2)))
noncomputable def F104(N:Nat)(v1:T0)(v2:List Int)(v3:Int):Option T2:=
 F104_g N v1 v2 v3 (F104_l0 N N)
noncomputable def q20(N:Nat):=kEnd2 (F104_E N) [] Tryz.f122.results.toList a2 [.iface 66 (.ref 1000000 0), .own (.int .u8) 1000001, .dead]
noncomputable def F104_e3(N:Nat)(v3 v8:Int)(v16:T11):=
 gate N (evC (F104_E N) (c122 [1,1,1]) ⟨[(2, .pv (.int .i64) v3),(6, .pv (.int .i64) (IntKind.i64.wrap (v8+v16.1))),(7, .iface 222 (.ep 5))],[(1000000, .box [.pv (.list (.int .u8)) v16.2.2.1.1, .pv (.int .i64) v16.2.2.1.2.1, .pv (.int .i8) v16.2.2.1.2.2.1]),(1000001, .arr 207 (.int .u8) v16.2.2.2.1.1)],[]⟩ (q20 N))
noncomputable def F104_e1(N n:Nat)(v3 v8:Int)(v16:T11):=
 lq (F104_E N) (c122 [1,1,0,0,0]) n ⟨[(0, .iface 66 (.ref 1000000 0)),(1, .own (.int .u8) 1000001),(2, .pv (.int .i64) v3),(6, .pv (.int .i64) (IntKind.i64.wrap (v8+v16.1))),(7, .iface 222 (.ep 5))],[(1000000, .box [.pv (.list (.int .u8)) v16.2.2.1.1, .pv (.int .i64) v16.2.2.1.2.1, .pv (.int .i8) v16.2.2.1.2.2.1]),(1000001, .arr 207 (.int .u8) v16.2.2.2.1.1)],[]⟩ (kBlock 0 (kq (F104_E N) (c122 [1,1,1]) (q20 N)))
noncomputable def F104_e2(N:Nat)(v8:Int)(v9:List Int)(v10 v11:Int)(v12:List Int):=
 gate N (evC (F104_E N) (c122 [1,1,1,0,1,1,1]) ⟨[(6, .pv (.int .i64) v8),(7, .niliface),(44, .pv .bool false)],[(1000000, .box [.pv (.list (.int .u8)) v9, .pv (.int .i64) v10, .pv (.int .i8) v11]),(1000001, .arr 207 (.int .u8) v12)],[]⟩ (kq (F104_E N) (c122 [1,1,1,1]) (q20 N)))
noncomputable def F104_e0(N n:Nat)(v3 v8:Int)(v9:List Int)(v10 v11:Int)(v12:List Int):=
 lq (F104_E N) (c122 [1,1,0,0,0]) n ⟨[(0, .iface 66 (.ref 1000000 0)),(1, .own (.int .u8) 1000001),(2, .pv (.int .i64) v3),(6, .pv (.int .i64) v8),(7, .niliface)],[(1000000, .box [.pv (.list (.int .u8)) v9, .pv (.int .i64) v10, .pv (.int .i8) v11]),(1000001, .arr 207 (.int .u8) v12)],[]⟩ (kBlock 0 (kq (F104_E N) (c122 [1,1,1]) (q20 N)))
theorem F104_t3(N:Nat)(v3 v8:Int)(v16:T11):F104_e3 N v3 v8 v16=F104_j3 N v3 v8 v16:=by
 exact(congrArg (gate N) (show _=F104_g3 N v3 v8 v16 from by kernel_rfl)).trans (by rfl)
theorem F104_t1(N:Nat):∀(n:Nat) (v3 v8:Int) (v16:T11),F104_e1 N n v3 v8 v16=F104_l1 N n v3 v8 v16
 |0,_,_,_=>rfl
 |n+1,v3,v8,v16=>by
  have h3:(F104_e3 N)=(F104_j3 N):=by funext v3 v8 v16;exact F104_t3 N v3 v8 v16
  have h:F104_e1 N n v3 v8 v16=F104_l1 N n v3 v8 v16:=by exact F104_t1 N n v3 v8 v16
  exact Eq.trans (b:=F104_g1 N v3 v8 v16 (F104_e3 N) (F104_e1 N n v3 v8 v16)) (by kernel_rfl) (by rw[h3,h];rfl)
theorem F104_t2(N:Nat)(v8:Int)(v9:List Int)(v10 v11:Int)(v12:List Int):F104_e2 N v8 v9 v10 v11 v12=F104_j2 N v8 v9 v10 v11 v12:=by
 exact(congrArg (gate N) (show _=F104_g2 N v8 v9 v10 v11 v12 from by kernel_rfl)).trans (by rfl)
theorem F104_t0(N:Nat):∀(n:Nat) (v3 v8:Int) (v9:List Int) (v10 v11:Int) (v12:List Int),F104_e0 N n v3 v8 v9 v10 v11 v12=F104_l0 N n v3 v8 v9 v10 v11 v12
 |0,_,_,_,_,_,_=>rfl
 |n+1,v3,v8,v9,v10,v11,v12=>by
  have h1:(F104_e1 N n)=(F104_l1 N n):=by funext v3 v8 v16;exact F104_t1 N n v3 v8 v16
  have h2:(F104_e2 N)=(F104_j2 N):=by funext v8 v9 v10 v11 v12;exact F104_t2 N v8 v9 v10 v11 v12
  have h:F104_e0 N n v3=F104_l0 N n v3:=by funext v8 v9 v10 v11 v12;exact F104_t0 N n v3 v8 v9 v10 v11 v12
  exact Eq.trans (b:=F104_g0 N v3 (F104_e1 N n) (F104_e2 N) (F104_e0 N n v3) v8 v9 v10 v11 v12) (by kernel_rfl) (by rw[h1,h2,h];rfl)
theorem F104_t(N:Nat)(v1:T0)(v2:List Int)(v3:Int):evF2 (F104_E N) [] Tryz.f122 [.ifc 66 (.box s0), .row 207 (.int .u8), .k (.int .i64)] a2 (v1,v2,v3,())=F104 N v1 v2 v3:=by
 have h0:(F104_e0 N N)=(F104_l0 N N):=by funext v3 v8 v9 v10 v11 v12;exact F104_t0 N N v3 v8 v9 v10 v11 v12
 exact Eq.trans (b:=F104_g N v1 v2 v3 (F104_e0 N N)) (by kernel_rfl) (by rw[h0];rfl)
noncomputable def F104_con(N:Nat):Con2:=⟨122,[.ifc 66 (.box s0), .row 207 (.int .u8), .k (.int .i64)],a2,fun x=>F104 N x.1 x.2.1 x.2.2.1⟩
theorem F104_s(N:Nat):(F104_con N).Sound Tryz.prog (GL N):=
 Con2.sound_of (c:=F104_con N) (E:=(F104_E N)) (idle:=[]) Tryz.func122 (by kernel_rfl) (by kernel_rfl) ⟨allNil,(allCons (F103_s N) allNil),rfl⟩ allNil (fun x y h=>(F104_t N x.1 x.2.1 x.2.2.1).trans h)
noncomputable def F105_E(N:Nat):Env:=⟨Tryz.prog,N,[],[nm 0 [0,1] [1000000,1000001],nm 1 [0,1] [1000000,1000001]],kdL [],[F104_con N],[],(GL N),tl0,[]⟩
noncomputable def F105_g(N:Nat)(v1:T0)(v2:List Int):Option T2:=
 ((F104 N (v1.1,v1.2.1,v1.2.2.1,()) v2 (v2.length:Int)).bind fun v3=>Sum.elim (fun v4=>(some (Sum.inl (v4.1,(),v4.2.2.1,v4.2.2.2.1,())))) (fun v5=>Sum.elim (fun v6=>(some (Sum.inr (Sum.inl (v6.1,(),v6.2.2.1,v6.2.2.2.1,()))))) (fun v7=>Sum.elim (fun v8=>(some (i2 (v8.1,(),v8.2.2.1,v8.2.2.2.1,())))) (fun v9=>(some (Sum.inr (Sum.inr (Sum.inr (v9.1,(),v9.2.2.1,v9.2.2.2.1,())))))) v7) v5) v3)
noncomputable def F105(N:Nat)(v1:T0)(v2:List Int):Option T2:=
 F105_g N v1 v2
theorem F105_t(N:Nat)(v1:T0)(v2:List Int):evF2 (F105_E N) [] Tryz.f118 [.ifc 66 (.box s0), .row 207 (.int .u8)] a17 (v1,v2,())=F105 N v1 v2:=
 Eq.trans (b:=F105_g N v1 v2) (by kernel_rfl) rfl
noncomputable def F105_con(N:Nat):Con2:=⟨118,[.ifc 66 (.box s0), .row 207 (.int .u8)],a17,fun x=>F105 N x.1 x.2.1⟩
theorem F105_s(N:Nat):(F105_con N).Sound Tryz.prog (GL N):=
 Con2.sound_of (c:=F105_con N) (E:=(F105_E N)) (idle:=[]) Tryz.func118 (by kernel_rfl) (by kernel_rfl) ⟨allNil,(allCons (F104_s N) allNil),rfl⟩ allNil (fun x y h=>(F105_t N x.1 x.2.1).trans h)
noncomputable def F106_E(N:Nat):Env:=⟨Tryz.prog,N,[F101_con N,F102_con N],[nm 0 [0,1] [1000000],nm 1 [0,1] [1000000],nm 2 [0,1,6] [6,1000000],nm 3 [1,6,8] [6,1000000],nm 4 [1,6,8,16] [6,1000000],nm 5 [1,6] [6,1000000]],kdL kd1,[F105_con N],[2000006],(GL N),tl0,[]⟩
noncomputable def F106_g(N:Nat)(v1:T0)(v2:Ce):Option (T13⊕T13⊕T13⊕T13):=
 ((F105 N (v1.1,v1.2.1,v1.2.2.1,()) ([0,0,0,0]:List Int)).bind fun v3=>Sum.elim (fun v4=>(some (Sum.inl (0,(),v4.2.2.1,())))) (fun v5=>Sum.elim (fun v6=>(((isT 104 v2).bind fun v19=>(bif v19 then(some ())else(isT 105 v2).bind fun v18=>(bif v18 then(some ())else(isT 72 v2).bind fun v17=>(bif v17 then none else(isT 75 v2).bind fun v16=>(bif v16 then none else(isT 78 v2).bind fun v15=>(bif v15 then none else(isT 81 v2).bind fun v14=>(bif v14 then none else(isT 85 v2).bind fun v13=>(bif v13 then none else(isT 91 v2).bind fun v12=>(bif v12 then none else(isT 94 v2).bind fun v11=>(bif v11 then none else(isT 98 v2).bind fun v10=>(bif v10 then none else none))))))))))).bind fun _=>(isT 104 v2).bind fun v20=>(bif v20 then((asT .unit 104 v2).bind fun v21=>(F101 N v21 v6.2.2.2.1).bind fun v22=>(some (Sum.inr (Sum.inr (Sum.inr (v22,(),v6.2.2.1,()))))))else((isT 105 v2).bind fun v23=>(bif v23 then((asT .unit 105 v2).bind fun v24=>(F102 N v24 v6.2.2.2.1).bind fun v25=>(some (Sum.inr (Sum.inr (Sum.inr (v25,(),v6.2.2.1,()))))))else((isT 72 v2).bind fun v26=>(bif v26 then((asT .any 72 v2).bind fun v27=>none)else((isT 75 v2).bind fun v29=>(bif v29 then((asT .any 75 v2).bind fun v30=>none)else((isT 78 v2).bind fun v32=>(bif v32 then((asT .any 78 v2).bind fun v33=>none)else((isT 81 v2).bind fun v35=>(bif v35 then((asT .any 81 v2).bind fun v36=>none)else((isT 85 v2).bind fun v38=>(bif v38 then((asT .any 85 v2).bind fun v39=>none)else((isT 91 v2).bind fun v41=>(bif v41 then((asT .any 91 v2).bind fun v42=>none)else((isT 94 v2).bind fun v44=>(bif v44 then((asT .any 94 v2).bind fun v45=>none)else((isT 98 v2).bind fun v47=>(bif v47 then((asT .any 98 v2).bind fun v48=>none)else none))))))))))))))))))))) (fun v7=>Sum.elim (fun v8=>(some (Sum.inr (Sum.inl (0,(),v8.2.2.1,()))))) (fun v9=>(some (i2 (0,(),v9.2.2.1,())))) v7) v5) v3)
noncomputable def F106(N:Nat)(v1:T0)(v2:Ce):Option (T13⊕T13⊕T13⊕T13):=
 F106_g N v1 v2
theorem F106_t(N:Nat)(v1:T0)(v2:Ce):evF2 (F106_E N) [] Tryz.f95 [.ifc 66 (.box s0), .k .any] a26 (v1,v2,())=F106 N v1 v2:=
 Eq.trans (b:=F106_g N v1 v2) (by kernel_rfl) rfl
noncomputable def F106_con(N:Nat):Con2:=⟨95,[.ifc 66 (.box s0), .k .any],a26,fun x=>F106 N x.1 x.2.1⟩
theorem F106_s(N:Nat):(F106_con N).Sound Tryz.prog (GL N):=
 Con2.sound_of (c:=F106_con N) (E:=(F106_E N)) (idle:=[]) Tryz.func95 (by kernel_rfl) (by kernel_rfl) ⟨(allCons (F101_s N) (allCons (F102_s N) allNil)),(allCons (F105_s N) allNil),rfl⟩ allNil (fun x y h=>(F106_t N x.1 x.2.1).trans h)
noncomputable def F107_E(N:Nat):Env:=⟨Tryz.prog,N,[],[nm 0 [0,1] [],nm 1 [1] [],nm 2 [1] []],kdL [],[],[],(GL N),tl0,[]⟩
noncomputable def F107_g(N:Nat)(v1:Unit)(v2:List Int):Option (Int):=
 ((nth v2 7).bind fun v3=>((nth v2 7).bind fun v4=>(nth v2 6).bind fun v5=>(nth v2 5).bind fun v6=>(nth v2 4).bind fun v7=>(nth v2 3).bind fun v8=>(nth v2 2).bind fun v9=>(nth v2 1).bind fun v10=>(nth v2 0).bind fun v11=>(some (bits .or .u64 (bits .or .u64 (bits .or .u64 (bits .or .u64 (bits .or .u64 (bits .or .u64 (bits .or .u64 (IntKind.u64.wrap v4) (IntKind.u64.wrap ((IntKind.u64.wrap v5)*2^(min (8:Int).toNat (IntKind.bits .u64))))) (IntKind.u64.wrap ((IntKind.u64.wrap v6)*2^(min (16:Int).toNat (IntKind.bits .u64))))) (IntKind.u64.wrap ((IntKind.u64.wrap v7)*2^(min (24:Int).toNat (IntKind.bits .u64))))) (IntKind.u64.wrap ((IntKind.u64.wrap v8)*2^(min (32:Int).toNat (IntKind.bits .u64))))) (IntKind.u64.wrap ((IntKind.u64.wrap v9)*2^(min (40:Int).toNat (IntKind.bits .u64))))) (IntKind.u64.wrap ((IntKind.u64.wrap v10)*2^(min (48:Int).toNat (IntKind.bits .u64))))) (IntKind.u64.wrap ((IntKind.u64.wrap v11)*2^(min (56:Int).toNat (IntKind.bits .u64))))))))
noncomputable def F107(N:Nat)(v1:Unit)(v2:List Int):Option (Int):=
 F107_g N v1 v2
theorem F107_t(N:Nat)(v1:Unit)(v2:List Int):evF (F107_E N) [] Tryz.f175 [.k .unit, .k (.list (.int .u8))] [(.int .u64)] (v1,v2,())=F107 N v1 v2:=
 Eq.trans (b:=F107_g N v1 v2) (by kernel_rfl) rfl
noncomputable def F107_con(N:Nat):Con:=⟨175,[.k .unit, .k (.list (.int .u8))],[(.int .u64)],fun x=>F107 N x.1 x.2.1⟩
theorem F107_s(N:Nat):(F107_con N).Sound Tryz.prog (GL N):=
 Con.sound_of (c:=F107_con N) (E:=(F107_E N)) (idle:=[]) Tryz.func175 (by kernel_rfl) (by kernel_rfl) ⟨allNil,allNil,rfl⟩ allNil (fun x y h=>(F107_t N x.1 x.2.1).trans h)
noncomputable def F108_E(N:Nat):Env:=⟨Tryz.prog,N,[],[nm 0 [0,1] [],nm 1 [1] [],nm 2 [1] []],kdL [],[],[],(GL N),tl0,[]⟩
noncomputable def F108_g(N:Nat)(v1:Unit)(v2:List Int):Option (Int):=
 ((nth v2 7).bind fun v3=>((nth v2 0).bind fun v4=>(nth v2 1).bind fun v5=>(nth v2 2).bind fun v6=>(nth v2 3).bind fun v7=>(nth v2 4).bind fun v8=>(nth v2 5).bind fun v9=>(nth v2 6).bind fun v10=>(nth v2 7).bind fun v11=>(some (bits .or .u64 (bits .or .u64 (bits .or .u64 (bits .or .u64 (bits .or .u64 (bits .or .u64 (bits .or .u64 (IntKind.u64.wrap v4) (IntKind.u64.wrap ((IntKind.u64.wrap v5)*2^(min (8:Int).toNat (IntKind.bits .u64))))) (IntKind.u64.wrap ((IntKind.u64.wrap v6)*2^(min (16:Int).toNat (IntKind.bits .u64))))) (IntKind.u64.wrap ((IntKind.u64.wrap v7)*2^(min (24:Int).toNat (IntKind.bits .u64))))) (IntKind.u64.wrap ((IntKind.u64.wrap v8)*2^(min (32:Int).toNat (IntKind.bits .u64))))) (IntKind.u64.wrap ((IntKind.u64.wrap v9)*2^(min (40:Int).toNat (IntKind.bits .u64))))) (IntKind.u64.wrap ((IntKind.u64.wrap v10)*2^(min (48:Int).toNat (IntKind.bits .u64))))) (IntKind.u64.wrap ((IntKind.u64.wrap v11)*2^(min (56:Int).toNat (IntKind.bits .u64))))))))
noncomputable def F108(N:Nat)(v1:Unit)(v2:List Int):Option (Int):=
 F108_g N v1 v2
theorem F108_t(N:Nat)(v1:Unit)(v2:List Int):evF (F108_E N) [] Tryz.f183 [.k .unit, .k (.list (.int .u8))] [(.int .u64)] (v1,v2,())=F108 N v1 v2:=
 Eq.trans (b:=F108_g N v1 v2) (by kernel_rfl) rfl
noncomputable def F108_con(N:Nat):Con:=⟨183,[.k .unit, .k (.list (.int .u8))],[(.int .u64)],fun x=>F108 N x.1 x.2.1⟩
theorem F108_s(N:Nat):(F108_con N).Sound Tryz.prog (GL N):=
 Con.sound_of (c:=F108_con N) (E:=(F108_E N)) (idle:=[]) Tryz.func183 (by kernel_rfl) (by kernel_rfl) ⟨allNil,allNil,rfl⟩ allNil (fun x y h=>(F108_t N x.1 x.2.1).trans h)
noncomputable def F109_E(N:Nat):Env:=⟨Tryz.prog,N,[F107_con N,F108_con N,math_Float64frombits_con N],[nm 0 [0,1] [],nm 1 [0,1] [],ng N 2 [5] []],kdL kd2,[],[],(GL N),tl0,[]⟩
noncomputable def F109_g0(N:Nat)(v33:Int):Option (Nat):=
 (math_Float64frombits N v33).bind fun v34=>(some v34)
noncomputable def F109_j0(N:Nat)(v33:Int):Option (Nat):=
 gate N (F109_g0 N v33)
noncomputable def F109_g(N:Nat)(v1:List Int)(v2:Ce)(c0:Int→Option (Nat)):Option (Nat):=
 ((isT 104 v2).bind fun v3=>(bif v3 then((asT .unit 104 v2).bind fun v4=>(F107 N v4 v1).bind fun v5=>(c0 v5))else((isT 105 v2).bind fun v6=>(bif v6 then((asT .unit 105 v2).bind fun v7=>(F108 N v7 v1).bind fun v8=>(c0 v8))else((isT 72 v2).bind fun v9=>(bif v9 then((asT .any 72 v2).bind fun v10=>none)else((isT 75 v2).bind fun v12=>(bif v12 then((asT .any 75 v2).bind fun v13=>none)else((isT 78 v2).bind fun v15=>(bif v15 then((asT .any 78 v2).bind fun v16=>none)else((isT 81 v2).bind fun v18=>(bif v18 then((asT .any 81 v2).bind fun v19=>none)else((isT 85 v2).bind fun v21=>(bif v21 then((asT .any 85 v2).bind fun v22=>none)else((isT 91 v2).bind fun v24=>(bif v24 then((asT .any 91 v2).bind fun v25=>none)else((isT 94 v2).bind fun v27=>(bif v27 then((asT .any 94 v2).bind fun v28=>none)else((isT 98 v2).bind fun v30=>(bif v30 then((asT .any 98 v2).bind fun v31=>none)else none))))))))))))))))))))
noncomputable def F109(N:Nat)(v1:List Int)(v2:Ce):Option (Nat):=
 F109_g N v1 v2 (F109_j0 N)
noncomputable def F109_e0(N:Nat)(v33:Int):=
 gate N (evC (F109_E N) (c123 [1,1]) ⟨[(5, .pv (.int .u64) v33)],[],[]⟩ (kEnd (F109_E N) [] Tryz.f123.results.toList [.float]))
theorem F109_t0(N:Nat)(v33:Int):F109_e0 N v33=F109_j0 N v33:=by
 exact(congrArg (gate N) (show _=F109_g0 N v33 from by kernel_rfl)).trans (by rfl)
theorem F109_t(N:Nat)(v1:List Int)(v2:Ce):evF (F109_E N) [] Tryz.f123 [.k (.list (.int .u8)), .k .any] [.float] (v1,v2,())=F109 N v1 v2:=by
 have h0:(F109_e0 N)=(F109_j0 N):=by funext v33;exact F109_t0 N v33
 exact Eq.trans (b:=F109_g N v1 v2 (F109_e0 N)) (by kernel_rfl) (by rw[h0];rfl)
noncomputable def F109_con(N:Nat):Con:=⟨123,[.k (.list (.int .u8)), .k .any],[.float],fun x=>F109 N x.1 x.2.1⟩
theorem F109_s(N:Nat):(F109_con N).Sound Tryz.prog (GL N):=
 Con.sound_of (c:=F109_con N) (E:=(F109_E N)) (idle:=[]) Tryz.func123 (by kernel_rfl) (by kernel_rfl) ⟨(allCons (F107_s N) (allCons (F108_s N) (allCons (math_Float64frombits_s N) allNil))),allNil,rfl⟩ allNil (fun x y h=>(F109_t N x.1 x.2.1).trans h)
noncomputable def F110_E(N:Nat):Env:=⟨Tryz.prog,N,[],[nm 0 [0,1] [1000000,1000001],nm 1 [0,1] [1000000,1000001],nm 2 [0,1] [1000000,1000001],nm 3 [0,1,10] [1000000,1000001],nm 4 [1] [1000000,1000001],nm 5 [15] [1000000,1000001],nm 6 [] [1000000,1000001],nm 7 [0,1] [1000000,1000001],nm 8 [0,4] [1000000,1000001],nm 9 [0,4] [1000000,1000001],nm 10 [0,4,37] [1000000,1000001],ng N 11 [4] [1000000,1000001]],kdL [],[F97_con N,F98_con N],[],(GL N),tl0,[]⟩
noncomputable def F110_g0(N:Nat)(v1:T0)(v5:(Nat×Nat))(v2:T21)(v6:Int):Option (T11⊕T11):=
 (some (Sum.inl (((min ((v1.1.drop v5.1).take (v5.2-v5.1)).length v2.2.2:Nat):Int),(),(v1.1,(IntKind.i64.wrap (v1.2.1+((min ((v1.1.drop v5.1).take (v5.2-v5.1)).length v2.2.2:Nat):Int))),v6,()),((v2.1.take v2.2.1++(((v1.1.drop v5.1).take (v5.2-v5.1)).take v2.2.2++v2.1.drop (v2.2.1+min ((v1.1.drop v5.1).take (v5.2-v5.1)).length v2.2.2))),v2.2.1,v2.2.2),())))
noncomputable def F110_j0(N:Nat)(v1:T0)(v5:(Nat×Nat))(v2:T21)(v6:Int):Option (T11⊕T11):=
 gate N (F110_g0 N v1 v5 v2 v6)
noncomputable def F110_g(N:Nat)(v1:T0)(v2:T21)(c0:T0→(Nat×Nat)→T21→Int→Option (T11⊕T11)):Option (T11⊕T11):=
 ((F97 N (v1.1,v1.2.1,0,())).bind fun v3=>(bif v3.1 then((F98 N (v1.1,v1.2.1,0,())).bind fun v4=>(bif((v2.2.2:Int)==0)then(some (Sum.inl (0,(),v4.1,(v2.1,v2.2.1,v2.2.2),())))else(some (Sum.inr (0,(),v4.1,(v2.1,v2.2.1,v2.2.2),())))))else((chk2 v1.2.1 (v1.1.length:Int) v1.1.length).bind fun v5=>(bif(decide ((((min ((v1.1.drop v5.1).take (v5.2-v5.1)).length v2.2.2:Nat):Int):Int)>0))then(c0 v1 v5 v2 (-1))else(c0 v1 v5 v2 0)))))
noncomputable def F110(N:Nat)(v1:T0)(v2:T21):Option (T11⊕T11):=
 F110_g N v1 v2 (F110_j0 N)
noncomputable def F110_e0(N:Nat)(v1:T0)(v5:(Nat×Nat))(v2:T21)(v6:Int):=
 gate N (evC (F110_E N) (c139 [1,1,1,1,1,1]) ⟨[(4, .pv (.int .i64) ((min ((v1.1.drop v5.1).take (v5.2-v5.1)).length v2.2.2:Nat):Int))],[(1000000, .box [.pv (.list (.int .u8)) v1.1, .pv (.int .i64) (IntKind.i64.wrap (v1.2.1+((min ((v1.1.drop v5.1).take (v5.2-v5.1)).length v2.2.2:Nat):Int))), .pv (.int .i8) v6]),(1000001, .arr 5 (.int .u8) (v2.1.take v2.2.1++(((v1.1.drop v5.1).take (v5.2-v5.1)).take v2.2.2++v2.1.drop (v2.2.1+min ((v1.1.drop v5.1).take (v5.2-v5.1)).length v2.2.2))))],[]⟩ (kEnd2 (F110_E N) [] Tryz.f139.results.toList a22 [.ref 1000000 0, .sub (.int .u8) 1000001 v2.2.1 v2.2.2]))
theorem F110_t0(N:Nat)(v1:T0)(v5:(Nat×Nat))(v2:T21)(v6:Int):F110_e0 N v1 v5 v2 v6=F110_j0 N v1 v5 v2 v6:=by
 exact(congrArg (gate N) (show _=F110_g0 N v1 v5 v2 v6 from by kernel_rfl)).trans (by rfl)
theorem F110_t(N:Nat)(v1:T0)(v2:T21):evF2 (F110_E N) [] Tryz.f139 [.box s0, .sub 5 (.int .u8)] a22 (v1,v2,())=F110 N v1 v2:=by
 have h0:(F110_e0 N)=(F110_j0 N):=by funext v1 v5 v2 v6;exact F110_t0 N v1 v5 v2 v6
 exact Eq.trans (b:=F110_g N v1 v2 (F110_e0 N)) (by kernel_rfl) (by rw[h0];rfl)
noncomputable def F110_con(N:Nat):Con2:=⟨139,[.box s0, .sub 5 (.int .u8)],a22,fun x=>F110 N x.1 x.2.1⟩
theorem F110_s(N:Nat):(F110_con N).Sound Tryz.prog (GL N):=
 Con2.sound_of (c:=F110_con N) (E:=(F110_E N)) (idle:=[]) Tryz.func139 (by kernel_rfl) (by kernel_rfl) ⟨allNil,(allCons (F97_s N) (allCons (F98_s N) allNil)),rfl⟩ allNil (fun x y h=>(F110_t N x.1 x.2.1).trans h)
noncomputable def F111_E(N:Nat):Env:=⟨Tryz.prog,N,[],[nm 0 [0,1,2] [1000000,1000001],nm 1 [0,1,2,6,7] [1000000,1000001],nm 2 [0,1,2,6,7,12] [1000000,1000001],nm 3 [0,1,2,6,7] [1000000,1000001],nm 4 [0,1,2,6] [1000000,1000001],nm 5 [0,1,2,6] [1000000,1000001],nm 6 [0,1,2,6,7,8] [1000000,1000001],ng N 7 [2,6,7] [1000000,1000001],nm 8 [6,7,37] [1000000,1000001],ng N 10 [6,7,44] [1000000,1000001]],kdL [],[F110_con N],[],(GL N),tl0,[]⟩
noncomputable def F111_g3(N:Nat)(v3 v8:Int)(v16:T11):Option T2:=
 (bif(decide (((IntKind.i64.wrap (v8+v16.1)):Int)≥v3))then(some (Sum.inr (Sum.inl ((IntKind.i64.wrap (v8+v16.1)),(),v16.2.2.1,v16.2.2.2.1.1,()))))else(bif(decide (((IntKind.i64.wrap (v8+v16.1)):Int)>0))then(gate N (some (i2 ((IntKind.i64.wrap (v8+v16.1)),(),v16.2.2.1,v16.2.2.2.1.1,()))))else(gate N (some (Sum.inr (Sum.inr (Sum.inr ((IntKind.i64.wrap (v8+v16.1)),(),v16.2.2.1,v16.2.2.2.1.1,()))))))))
noncomputable def F111_j3(N:Nat)(v3 v8:Int)(v16:T11):Option T2:=
 gate N (F111_g3 N v3 v8 v16)
noncomputable def F111_g1(N:Nat)(v3 v8:Int)(v16:T11)(c3:Int→Int→T11→Option T2)(r1:Option T2):Option T2:=
 bif(decide (((IntKind.i64.wrap (v8+v16.1)):Int)<v3))then(c3 v3 v8 v16)else(c3 v3 v8 v16)
noncomputable def F111_l1(N:Nat):Nat→Int→Int→T11→Option T2
 |0,_,_,_=>none
 |n+1,v3,v8,v16=>F111_g1 N v3 v8 v16 (F111_j3 N) (F111_l1 N n v3 v8 v16)
noncomputable def F111_g2(N:Nat)(v8:Int)(v9:List Int)(v10 v11:Int)(v12:List Int):Option T2:=
 (some (Sum.inr (Sum.inl (v8,(),(v9,v10,v11,()),v12,()))))
noncomputable def F111_j2(N:Nat)(v8:Int)(v9:List Int)(v10 v11:Int)(v12:List Int):Option T2:=
 gate N (F111_g2 N v8 v9 v10 v11 v12)
noncomputable def F111_g0(N:Nat)(v3:Int)(c1:Int→Int→T11→Option T2)(c2 r0:Int→(List Int)→Int→Int→(List Int)→Option T2)(v8:Int)(v9:List Int)(v10 v11:Int)(v12:List Int):Option T2:=
 bif(decide ((v8:Int)<v3))then((chk2 v8 (v12.length:Int) v12.length).bind fun v13=>(F110 N (v9,v10,v11,()) (v12,v13.1,(v13.2-v13.1))).bind fun v14=>Sum.elim (fun v15=>(bif((((Nat.ble 1 (v13.2-v13.1)&&Nat.beq v15.2.2.2.1.2.1 v13.1)&&Nat.beq v15.2.2.2.1.2.2 (v13.2-v13.1))&&Nat.beq v15.2.2.2.1.1.length v12.length)&&true)then((r0 (IntKind.i64.wrap (v8+v15.1)) v15.2.2.1.1 v15.2.2.1.2.1 v15.2.2.1.2.2.1 v15.2.2.2.1.1))else none)) (fun v16=>(bif((((Nat.ble 1 (v13.2-v13.1)&&Nat.beq v16.2.2.2.1.2.1 v13.1)&&Nat.beq v16.2.2.2.1.2.2 (v13.2-v13.1))&&Nat.beq v16.2.2.2.1.1.length v12.length)&&true)then((c1 v3 v8 v16))else none)) v14)else(gate N (bif(decide ((v8:Int)≥v3))then(some (Sum.inr (Sum.inl (v8,(),(v9,v10,v11,()),v12,()))))else(bif(decide ((v8:Int)>0))then(c2 v8 v9 v10 v11 v12)else(c2 v8 v9 v10 v11 v12))))
noncomputable def F111_l0(N:Nat):Nat→Int→Int→(List Int)→Int→Int→(List Int)→Option T2
 |0,_,_,_,_,_,_=>none
 |n+1,v3,v8,v9,v10,v11,v12=>F111_g0 N v3 (F111_l1 N n) (F111_j2 N) (F111_l0 N n v3) v8 v9 v10 v11 v12
noncomputable def F111_g(N:Nat)(v1:T0)(v2:List Int)(v3:Int)(c0:Int→Int→(List Int)→Int→Int→(List Int)→Option T2):Option T2:=
 (bif(decide (((v2.length:Int):Int)<v3))then(some (Sum.inl (0,(),(v1.1,v1.2.1,v1.2.2.1,()),v2,())))else((c0 v3 0 v1.1 v1.2.1 v1.2.2.1 v2)))
noncomputable def F111(N:Nat)(v1:T0)(v2:List Int)(v3:Int):Option T2:=
 F111_g N v1 v2 v3 (F111_l0 N N)
noncomputable def q21(N:Nat):=kEnd2 (F111_E N) [] Tryz.f122.results.toList a3 [.iface 66 (.ref 1000000 0), .own (.int .u8) 1000001, .dead]
noncomputable def F111_e3(N:Nat)(v3 v8:Int)(v16:T11):=
 gate N (evC (F111_E N) (c122 [1,1,1]) ⟨[(2, .pv (.int .i64) v3),(6, .pv (.int .i64) (IntKind.i64.wrap (v8+v16.1))),(7, .iface 222 (.ep 5))],[(1000000, .box [.pv (.list (.int .u8)) v16.2.2.1.1, .pv (.int .i64) v16.2.2.1.2.1, .pv (.int .i8) v16.2.2.1.2.2.1]),(1000001, .arr 5 (.int .u8) v16.2.2.2.1.1)],[]⟩ (q21 N))
noncomputable def F111_e1(N n:Nat)(v3 v8:Int)(v16:T11):=
 lq (F111_E N) (c122 [1,1,0,0,0]) n ⟨[(0, .iface 66 (.ref 1000000 0)),(1, .own (.int .u8) 1000001),(2, .pv (.int .i64) v3),(6, .pv (.int .i64) (IntKind.i64.wrap (v8+v16.1))),(7, .iface 222 (.ep 5))],[(1000000, .box [.pv (.list (.int .u8)) v16.2.2.1.1, .pv (.int .i64) v16.2.2.1.2.1, .pv (.int .i8) v16.2.2.1.2.2.1]),(1000001, .arr 5 (.int .u8) v16.2.2.2.1.1)],[]⟩ (kBlock 0 (kq (F111_E N) (c122 [1,1,1]) (q21 N)))
noncomputable def F111_e2(N:Nat)(v8:Int)(v9:List Int)(v10 v11:Int)(v12:List Int):=
 gate N (evC (F111_E N) (c122 [1,1,1,0,1,1,1]) ⟨[(6, .pv (.int .i64) v8),(7, .niliface),(44, .pv .bool false)],[(1000000, .box [.pv (.list (.int .u8)) v9, .pv (.int .i64) v10, .pv (.int .i8) v11]),(1000001, .arr 5 (.int .u8) v12)],[]⟩ (kq (F111_E N) (c122 [1,1,1,1]) (q21 N)))
noncomputable def F111_e0(N n:Nat)(v3 v8:Int)(v9:List Int)(v10 v11:Int)(v12:List Int):=
 lq (F111_E N) (c122 [1,1,0,0,0]) n ⟨[(0, .iface 66 (.ref 1000000 0)),(1, .own (.int .u8) 1000001),(2, .pv (.int .i64) v3),(6, .pv (.int .i64) v8),(7, .niliface)],[(1000000, .box [.pv (.list (.int .u8)) v9, .pv (.int .i64) v10, .pv (.int .i8) v11]),(1000001, .arr 5 (.int .u8) v12)],[]⟩ (kBlock 0 (kq (F111_E N) (c122 [1,1,1]) (q21 N)))
theorem F111_t3(N:Nat)(v3 v8:Int)(v16:T11):F111_e3 N v3 v8 v16=F111_j3 N v3 v8 v16:=by
 exact(congrArg (gate N) (show _=F111_g3 N v3 v8 v16 from by kernel_rfl)).trans (by rfl)
theorem F111_t1(N:Nat):∀(n:Nat) (v3 v8:Int) (v16:T11),F111_e1 N n v3 v8 v16=F111_l1 N n v3 v8 v16
 |0,_,_,_=>rfl
 |n+1,v3,v8,v16=>by
  have h3:(F111_e3 N)=(F111_j3 N):=by funext v3 v8 v16;exact F111_t3 N v3 v8 v16
  have h:F111_e1 N n v3 v8 v16=F111_l1 N n v3 v8 v16:=by exact F111_t1 N n v3 v8 v16
  exact Eq.trans (b:=F111_g1 N v3 v8 v16 (F111_e3 N) (F111_e1 N n v3 v8 v16)) (by kernel_rfl) (by rw[h3,h];rfl)
theorem F111_t2(N:Nat)(v8:Int)(v9:List Int)(v10 v11:Int)(v12:List Int):F111_e2 N v8 v9 v10 v11 v12=F111_j2 N v8 v9 v10 v11 v12:=by
 exact(congrArg (gate N) (show _=F111_g2 N v8 v9 v10 v11 v12 from by kernel_rfl)).trans (by rfl)
theorem F111_t0(N:Nat):∀(n:Nat) (v3 v8:Int) (v9:List Int) (v10 v11:Int) (v12:List Int),F111_e0 N n v3 v8 v9 v10 v11 v12=F111_l0 N n v3 v8 v9 v10 v11 v12
 |0,_,_,_,_,_,_=>rfl
 |n+1,v3,v8,v9,v10,v11,v12=>by
  have h1:(F111_e1 N n)=(F111_l1 N n):=by funext v3 v8 v16;exact F111_t1 N n v3 v8 v16
  have h2:(F111_e2 N)=(F111_j2 N):=by funext v8 v9 v10 v11 v12;exact F111_t2 N v8 v9 v10 v11 v12
  have h:F111_e0 N n v3=F111_l0 N n v3:=by funext v8 v9 v10 v11 v12;exact F111_t0 N n v3 v8 v9 v10 v11 v12
  exact Eq.trans (b:=F111_g0 N v3 (F111_e1 N n) (F111_e2 N) (F111_e0 N n v3) v8 v9 v10 v11 v12) (by kernel_rfl) (by rw[h1,h2,h];rfl)
theorem F111_t(N:Nat)(v1:T0)(v2:List Int)(v3:Int):evF2 (F111_E N) [] Tryz.f122 [.ifc 66 (.box s0), .row 5 (.int .u8), .k (.int .i64)] a3 (v1,v2,v3,())=F111 N v1 v2 v3:=by
 have h0:(F111_e0 N N)=(F111_l0 N N):=by funext v3 v8 v9 v10 v11 v12;exact F111_t0 N N v3 v8 v9 v10 v11 v12
 exact Eq.trans (b:=F111_g N v1 v2 v3 (F111_e0 N N)) (by kernel_rfl) (by rw[h0];rfl)
noncomputable def F111_con(N:Nat):Con2:=⟨122,[.ifc 66 (.box s0), .row 5 (.int .u8), .k (.int .i64)],a3,fun x=>F111 N x.1 x.2.1 x.2.2.1⟩
theorem F111_s(N:Nat):(F111_con N).Sound Tryz.prog (GL N):=
 Con2.sound_of (c:=F111_con N) (E:=(F111_E N)) (idle:=[]) Tryz.func122 (by kernel_rfl) (by kernel_rfl) ⟨allNil,(allCons (F110_s N) allNil),rfl⟩ allNil (fun x y h=>(F111_t N x.1 x.2.1 x.2.2.1).trans h)
noncomputable def F112_E(N:Nat):Env:=⟨Tryz.prog,N,[],[nm 0 [0,1] [1000000,1000001],nm 1 [0,1] [1000000,1000001]],kdL [],[F111_con N],[],(GL N),tl0,[]⟩
noncomputable def F112_g(N:Nat)(v1:T0)(v2:List Int):Option T2:=
 ((F111 N (v1.1,v1.2.1,v1.2.2.1,()) v2 (v2.length:Int)).bind fun v3=>Sum.elim (fun v4=>(some (Sum.inl (v4.1,(),v4.2.2.1,v4.2.2.2.1,())))) (fun v5=>Sum.elim (fun v6=>(some (Sum.inr (Sum.inl (v6.1,(),v6.2.2.1,v6.2.2.2.1,()))))) (fun v7=>Sum.elim (fun v8=>(some (i2 (v8.1,(),v8.2.2.1,v8.2.2.2.1,())))) (fun v9=>(some (Sum.inr (Sum.inr (Sum.inr (v9.1,(),v9.2.2.1,v9.2.2.2.1,())))))) v7) v5) v3)
noncomputable def F112(N:Nat)(v1:T0)(v2:List Int):Option T2:=
 F112_g N v1 v2
theorem F112_t(N:Nat)(v1:T0)(v2:List Int):evF2 (F112_E N) [] Tryz.f118 [.ifc 66 (.box s0), .row 5 (.int .u8)] a18 (v1,v2,())=F112 N v1 v2:=
 Eq.trans (b:=F112_g N v1 v2) (by kernel_rfl) rfl
noncomputable def F112_con(N:Nat):Con2:=⟨118,[.ifc 66 (.box s0), .row 5 (.int .u8)],a18,fun x=>F112 N x.1 x.2.1⟩
theorem F112_s(N:Nat):(F112_con N).Sound Tryz.prog (GL N):=
 Con2.sound_of (c:=F112_con N) (E:=(F112_E N)) (idle:=[]) Tryz.func118 (by kernel_rfl) (by kernel_rfl) ⟨allNil,(allCons (F111_s N) allNil),rfl⟩ allNil (fun x y h=>(F112_t N x.1 x.2.1).trans h)
end
end Go.Proofs.YtllnonlmibanfaaGreatDoor.EB
namespace Go.Proofs.YtllnonlmibanfaaGreatDoor.EB
open Go Go.Av
noncomputable section
noncomputable def F113_E(N:Nat):Env:=⟨Tryz.prog,N,[F109_con N],[nm 0 [0,1,2] [1000000,1000001],nm 1 [0,1,2] [1000000,1000001],nm 2 [0,1,2,7] [14,1000000,1000001],nm 3 [1,2,7,9] [14,1000000,1000001],nm 4 [1,2,7,9,22] [14,1000000,1000001],nm 5 [1,2,7] [14,1000000,1000001],nm 6 [1,2,7,25,26] [14,1000000,1000001],nm 7 [1,2,7,25,26] [14,1000000,1000001],nm 8 [1,2,7,10,25,26] [14,1000000,1000001],nm 9 [1,2,7,25,26] [14,1000000,1000001],nm 10 [] [1000000,1000001]],kdL [(5,(.int .u8))],[F112_con N],[],(GL N),tl0,[]⟩
noncomputable def F113_g0(N:Nat)(v2:Ce)(v3:List Nat)(v8:T22)(r0:Int→(List Nat)→Option (T17⊕T17⊕T17⊕T17))(v15:Int)(v16:List Nat):Option (T17⊕T17⊕T17⊕T17):=
 (bif(decide ((v15:Int)<(v3.length:Int)))then((chk2 (IntKind.i64.wrap (8*v15)) (v8.2.2.2.1.length:Int) v8.2.2.2.1.length).bind fun v17=>(F109 N ((v8.2.2.2.1.drop v17.1).take (v17.2-v17.1)) v2).bind fun v18=>(chk v15 v16.length).bind fun v19=>((r0 (IntKind.i64.wrap (v15+1)) (v16.set v19 v18))))else(some (Sum.inr (Sum.inr (Sum.inr ((),v8.2.2.1,v16,()))))))
noncomputable def F113_l0(N:Nat):Nat→Ce→(List Nat)→T22→Int→(List Nat)→Option (T17⊕T17⊕T17⊕T17)
 |0,_,_,_,_,_=>none
 |n+1,v2,v3,v8,v15,v16=>F113_g0 N v2 v3 v8 (F113_l0 N n v2 v3 v8) v15 v16
noncomputable def F113_g(N:Nat)(v1:T0)(v2:Ce)(v3:List Nat)(c0:Ce→(List Nat)→T22→Int→(List Nat)→Option (T17⊕T17⊕T17⊕T17)):Option (T17⊕T17⊕T17⊕T17):=
 ((mkn (IntKind.i64.wrap (8*(v3.length:Int))) (IntKind.i64.wrap (8*(v3.length:Int))) 1).bind fun v4=>((F112 N (v1.1,v1.2.1,v1.2.2.1,()) (List.replicate v4 (0:Int))).bind fun v5=>Sum.elim (fun v6=>(some (Sum.inl ((),v6.2.2.1,v3,())))) (fun v7=>Sum.elim (fun v8=>((c0 v2 v3 v8 0 v3))) (fun v9=>Sum.elim (fun v10=>(some (Sum.inr (Sum.inl ((),v10.2.2.1,v3,()))))) (fun v11=>(some (i2 ((),v11.2.2.1,v3,())))) v9) v7) v5))
noncomputable def F113(N:Nat)(v1:T0)(v2:Ce)(v3:List Nat):Option (T17⊕T17⊕T17⊕T17):=
 F113_g N v1 v2 v3 (F113_l0 N N)
noncomputable def F113_e0(N n:Nat)(v2:Ce)(v3:List Nat)(v8:T22)(v15:Int)(v16:List Nat):=
 lq (F113_E N) (c119 [1,1,1,0,1,0,0]) n ⟨[(1, .pv .any v2),(2, .own .float 1000001),(7, .own (.int .u8) 14),(25, .pv (.int .i64) (v3.length:Int)),(26, .pv (.int .i64) v15)],[(14, .arr 5 (.int .u8) v8.2.2.2.1),(1000000, .box [.pv (.list (.int .u8)) v8.2.2.1.1, .pv (.int .i64) v8.2.2.1.2.1, .pv (.int .i8) v8.2.2.1.2.2.1]),(1000001, .arr 65 .float v16)],[]⟩ (kBlock 0 (kq (F113_E N) (c119 [1,1,1,1]) (kEnd2 (F113_E N) [] Tryz.f119.results.toList a7 [.iface 66 (.ref 1000000 0), .dead, .own .float 1000001])))
theorem F113_t0(N:Nat):∀(n:Nat) (v2:Ce) (v3:List Nat) (v8:T22) (v15:Int) (v16:List Nat),F113_e0 N n v2 v3 v8 v15 v16=F113_l0 N n v2 v3 v8 v15 v16
 |0,_,_,_,_,_=>rfl
 |n+1,v2,v3,v8,v15,v16=>by
  have h:F113_e0 N n v2 v3 v8=F113_l0 N n v2 v3 v8:=by funext v15 v16;exact F113_t0 N n v2 v3 v8 v15 v16
  exact Eq.trans (b:=F113_g0 N v2 v3 v8 (F113_e0 N n v2 v3 v8) v15 v16) (by kernel_rfl) (by rw[h];rfl)
theorem F113_t(N:Nat)(v1:T0)(v2:Ce)(v3:List Nat):evF2 (F113_E N) [] Tryz.f119 [.ifc 66 (.box s0), .k .any, .row 65 .float] a7 (v1,v2,v3,())=F113 N v1 v2 v3:=by
 have h0:(F113_e0 N N)=(F113_l0 N N):=by funext v2 v3 v8 v15 v16;exact F113_t0 N N v2 v3 v8 v15 v16
 exact Eq.trans (b:=F113_g N v1 v2 v3 (F113_e0 N N)) (by kernel_rfl) (by rw[h0];rfl)
noncomputable def F113_con(N:Nat):Con2:=⟨119,[.ifc 66 (.box s0), .k .any, .row 65 .float],a7,fun x=>F113 N x.1 x.2.1 x.2.2.1⟩
theorem F113_s(N:Nat):(F113_con N).Sound Tryz.prog (GL N):=
 Con2.sound_of (c:=F113_con N) (E:=(F113_E N)) (idle:=[]) Tryz.func119 (by kernel_rfl) (by kernel_rfl) ⟨(allCons (F109_s N) allNil),(allCons (F112_s N) allNil),rfl⟩ allNil (fun x y h=>(F113_t N x.1 x.2.1 x.2.2.1).trans h)
noncomputable def F114_E(N:Nat):Env:=⟨Tryz.prog,N,[],[nm 0 [0,1,2] [1000000],nm 1 [0,1,2] [1000000],nm 2 [0,1,8] [11,1000000],nm 3 [8,9] [11,1000000],nm 4 [8,9,17] [11,1000000],nm 5 [8] [11,1000000]],kdL [(65, .float)],[F113_con N],[],(GL N),tl0,[]⟩
noncomputable def F114_g(N:Nat)(v1:T0)(v2:Ce)(v3:Int):Option (((List Nat)×Unit×T0×Unit)⊕((List Nat)×Unit×T0×Unit)⊕((List Nat)×Unit×T0×Unit)⊕((List Nat)×Unit×T0×Unit)):=
 ((mkn v3 v3 8).bind fun v4=>((F113 N (v1.1,v1.2.1,v1.2.2.1,()) v2 (List.replicate v4 (0:Nat))).bind fun v5=>Sum.elim (fun v6=>(some (Sum.inl (([]:List Nat),(),v6.2.1,())))) (fun v7=>Sum.elim (fun v8=>(some (Sum.inr (Sum.inl (([]:List Nat),(),v8.2.1,()))))) (fun v9=>Sum.elim (fun v10=>(some (i2 (([]:List Nat),(),v10.2.1,())))) (fun v11=>(some (Sum.inr (Sum.inr (Sum.inr (v11.2.2.1,(),v11.2.1,())))))) v9) v7) v5))
noncomputable def F114(N:Nat)(v1:T0)(v2:Ce)(v3:Int):Option (((List Nat)×Unit×T0×Unit)⊕((List Nat)×Unit×T0×Unit)⊕((List Nat)×Unit×T0×Unit)⊕((List Nat)×Unit×T0×Unit)):=
 F114_g N v1 v2 v3
theorem F114_t(N:Nat)(v1:T0)(v2:Ce)(v3:Int):evF2 (F114_E N) [] Tryz.f96 s6 a23 (v1,v2,v3,())=F114 N v1 v2 v3:=
 Eq.trans (b:=F114_g N v1 v2 v3) (by kernel_rfl) rfl
noncomputable def F114_con(N:Nat):Con2:=⟨96,s6,a23,fun x=>F114 N x.1 x.2.1 x.2.2.1⟩
theorem F114_s(N:Nat):(F114_con N).Sound Tryz.prog (GL N):=
 Con2.sound_of (c:=F114_con N) (E:=(F114_E N)) (idle:=[]) Tryz.func96 (by kernel_rfl) (by kernel_rfl) ⟨allNil,(allCons (F113_s N) allNil),rfl⟩ allNil (fun x y h=>(F114_t N x.1 x.2.1 x.2.2.1).trans h)
noncomputable def F115_E(N:Nat):Env:=⟨Tryz.prog,N,[math_Float64bits_con N],[nm 0 [0,1] [1000000],nm 1 [0,1] [1000000],nm 2 [0,1,5] [1000000],nm 3 [0,1,5,8,9,10] [1000000],nm 4 [0,1,5,8,9,10] [1000000],nm 5 [0,1,5,7,8,9,10] [1000000],nm 6 [0,1,5,8,9,10,16] [1000000],nm 7 [0,1,5,8,9,10] [1000000],ng N 8 [0,1,5] [1000000],nm 9 [0,1,18] [1000000],nm 10 [0,1] [1000000]],kdL [],[F75_con N,F18_con N],[],(GL N),tl0,[]⟩
noncomputable def F115_g1(N:Nat)(v1:Int)(v2:List Nat)(v10:Bool):Option ((T10×(List Nat)×Unit)⊕(T10×Unit)):=
 (bif v10 then((F75 N v1).bind fun v11=>(some (Sum.inl (v11.1,v2,()))))else((F18 N v1 v2).bind fun v12=>(some (Sum.inr (v12.1,())))))
noncomputable def F115_j1(N:Nat)(v1:Int)(v2:List Nat)(v10:Bool):Option ((T10×(List Nat)×Unit)⊕(T10×Unit)):=
 gate N (F115_g1 N v1 v2 v10)
noncomputable def F115_g0(N:Nat)(v1:Int)(v2:List Nat)(c1:Int→(List Nat)→Bool→Option ((T10×(List Nat)×Unit)⊕(T10×Unit)))(r0:Int→Option ((T10×(List Nat)×Unit)⊕(T10×Unit)))(v6:Int):Option ((T10×(List Nat)×Unit)⊕(T10×Unit)):=
 (bif(decide ((v6:Int)<(v2.length:Int)))then((chk v6 v2.length).bind fun v7=>(v2[v7]?).bind fun v8=>((math_Float64bits N v8).bind fun v9=>(bif(v9 !=9221120237041090560)then(c1 v1 v2 false)else((r0 (IntKind.i64.wrap (v6+1)))))))else(c1 v1 v2 true))
noncomputable def F115_l0(N:Nat):Nat→Int→(List Nat)→Int→Option ((T10×(List Nat)×Unit)⊕(T10×Unit))
 |0,_,_,_=>none
 |n+1,v1,v2,v6=>F115_g0 N v1 v2 (F115_j1 N) (F115_l0 N n v1 v2) v6
noncomputable def F115_g(N:Nat)(v1:Int)(v2:List Nat)(c0:Int→(List Nat)→Int→Option ((T10×(List Nat)×Unit)⊕(T10×Unit))):Option ((T10×(List Nat)×Unit)⊕(T10×Unit)):=
 ((c0 v1 v2 0))
noncomputable def F115(N:Nat)(v1:Int)(v2:List Nat):Option ((T10×(List Nat)×Unit)⊕(T10×Unit)):=
 F115_g N v1 v2 (F115_l0 N N)
noncomputable def q22(N:Nat):=kEnd2 (F115_E N) [] Tryz.f97.results.toList a15 [.dead, .own .float 1000000]
noncomputable def F115_e1(N:Nat)(v1:Int)(v2:List Nat)(v10:Bool):=
 gate N (evC (F115_E N) (c97 [1,1,1]) ⟨[(0, .pv (.int .i64) v1),(1, .own .float 1000000),(5, .pv .bool v10)],[(1000000, .arr 65 .float v2)],[]⟩ (q22 N))
noncomputable def F115_e0(N n:Nat)(v1:Int)(v2:List Nat)(v6:Int):=
 lq (F115_E N) (c97 [1,1,0,1,0,0]) n ⟨[(0, .pv (.int .i64) v1),(1, .own .float 1000000),(5, .pv .bool true),(8, .own .float 1000000),(9, .pv (.int .i64) (v2.length:Int)),(10, .pv (.int .i64) v6)],[(1000000, .arr 65 .float v2)],[]⟩ (kBlock 0 (kq (F115_E N) (c97 [1,1,1]) (q22 N)))
theorem F115_t1(N:Nat)(v1:Int)(v2:List Nat)(v10:Bool):F115_e1 N v1 v2 v10=F115_j1 N v1 v2 v10:=by
 exact(congrArg (gate N) (show _=F115_g1 N v1 v2 v10 from by kernel_rfl)).trans (by rfl)
theorem F115_t0(N:Nat):∀(n:Nat) (v1:Int) (v2:List Nat) (v6:Int),F115_e0 N n v1 v2 v6=F115_l0 N n v1 v2 v6
 |0,_,_,_=>rfl
 |n+1,v1,v2,v6=>by
  have h1:(F115_e1 N)=(F115_j1 N):=by funext v1 v2 v10;exact F115_t1 N v1 v2 v10
  have h:F115_e0 N n v1 v2=F115_l0 N n v1 v2:=by funext v6;exact F115_t0 N n v1 v2 v6
  exact Eq.trans (b:=F115_g0 N v1 v2 (F115_e1 N) (F115_e0 N n v1 v2) v6) (by kernel_rfl) (by rw[h1,h];rfl)
theorem F115_t(N:Nat)(v1:Int)(v2:List Nat):evF2 (F115_E N) [] Tryz.f97 s7 a15 (v1,v2,())=F115 N v1 v2:=by
 have h0:(F115_e0 N N)=(F115_l0 N N):=by funext v1 v2 v6;exact F115_t0 N N v1 v2 v6
 exact Eq.trans (b:=F115_g N v1 v2 (F115_e0 N N)) (by kernel_rfl) (by rw[h0];rfl)
noncomputable def F115_con(N:Nat):Con2:=⟨97,s7,a15,fun x=>F115 N x.1 x.2.1⟩
theorem F115_s(N:Nat):(F115_con N).Sound Tryz.prog (GL N):=
 Con2.sound_of (c:=F115_con N) (E:=(F115_E N)) (idle:=[]) Tryz.func97 (by kernel_rfl) (by kernel_rfl) ⟨(allCons (math_Float64bits_s N) allNil),(allCons (F75_s N) (allCons (F18_s N) allNil)),rfl⟩ allNil (fun x y h=>(F115_t N x.1 x.2.1).trans h)
noncomputable def F116_E(N:Nat):Env:=⟨Tryz.prog,N,[],[nm 0 [0,1,2] [1000000],nm 1 [0,1,2] [1000000],nm 2 [0,1,2,8,9] [1000000],nm 3 [0,1,2,8,9,20] [1000000],nm 4 [0,1,2,8] [1000000],nm 5 [0,1,2,8,10] [1000000],nm 6 [0,1,2,8,10,31] [1000000],ng N 7 [0,1,2,8] [1000000],nm 8 [0,1,11] [41,1000000],nm 9 [11,12] [41,1000000],nm 10 [11,12,47] [41,1000000],nm 11 [11] [41,1000000]],kdL [(65, .float)],[F106_con N,F113_con N],[],(GL N),tl0,[]⟩
noncomputable def F116_g0(N:Nat)(v2:Ce)(v3:Int)(v10:T13):Option T16:=
 (mkn (IntKind.i64.wrap ((IntKind.i64.wrap v10.1)*v3)) (IntKind.i64.wrap ((IntKind.i64.wrap v10.1)*v3)) 8).bind fun v11=>((F113 N v10.2.2.1 v2 (List.replicate v11 (0:Nat))).bind fun v12=>Sum.elim (fun v13=>(some (Sum.inl (([]:List Nat),(),v13.2.1,())))) (fun v14=>Sum.elim (fun v15=>(some (Sum.inr (Sum.inl (([]:List Nat),(),v15.2.1,()))))) (fun v16=>Sum.elim (fun v17=>(some (i2 (([]:List Nat),(),v17.2.1,())))) (fun v18=>(some (Sum.inr (Sum.inr (Sum.inr (Sum.inr (v18.2.2.1,(),v18.2.1,()))))))) v16) v14) v12)
noncomputable def F116_j0(N:Nat)(v2:Ce)(v3:Int)(v10:T13):Option T16:=
 gate N (F116_g0 N v2 v3 v10)
noncomputable def F116_g(N:Nat)(v1:T0)(v2:Ce)(v3:Int)(c0:Ce→Int→T13→Option T16):Option T16:=
 ((F106 N (v1.1,v1.2.1,v1.2.2.1,()) v2).bind fun v4=>Sum.elim (fun v5=>(some (Sum.inl (([]:List Nat),(),v5.2.2.1,())))) (fun v6=>Sum.elim (fun v7=>(some (Sum.inr (Sum.inl (([]:List Nat),(),v7.2.2.1,()))))) (fun v8=>Sum.elim (fun v9=>(some (i2 (([]:List Nat),(),v9.2.2.1,())))) (fun v10=>(bif(decide ((-1:Int)≥0))then(bif(decide (((IntKind.i64.wrap v10.1):Int)>(-1)))then(some (i3 (([]:List Nat),(1,(IntKind.i64.wrap v10.1), -1,()),v10.2.2.1,())))else(c0 v2 v3 v10))else(c0 v2 v3 v10))) v8) v6) v4)
noncomputable def F116(N:Nat)(v1:T0)(v2:Ce)(v3:Int):Option T16:=
 F116_g N v1 v2 v3 (F116_j0 N)
noncomputable def F116_e0(N:Nat)(v2:Ce)(v3:Int)(v10:T13):=
 gate N (evC (F116_E N) (c98 [1,1,1,1]) ⟨[(0, .iface 66 (.ref 1000000 0)),(1, .pv .any v2),(2, .pv (.int .i64) v3),(8, .pv (.int .u32) v10.1)],[(1000000, .box [.pv (.list (.int .u8)) v10.2.2.1.1, .pv (.int .i64) v10.2.2.1.2.1, .pv (.int .i8) v10.2.2.1.2.2.1])],[]⟩ (kEnd2 (F116_E N) [] Tryz.f98.results.toList a6 [.iface 66 (.ref 1000000 0), .dead, .dead]))
theorem F116_t0(N:Nat)(v2:Ce)(v3:Int)(v10:T13):F116_e0 N v2 v3 v10=F116_j0 N v2 v3 v10:=by
 exact(congrArg (gate N) (show _=F116_g0 N v2 v3 v10 from by kernel_rfl)).trans (by rfl)
theorem F116_t(N:Nat)(v1:T0)(v2:Ce)(v3:Int):evF2 (F116_E N) [] Tryz.f98 s6 a6 (v1,v2,v3,())=F116 N v1 v2 v3:=by
 have h0:(F116_e0 N)=(F116_j0 N):=by funext v2 v3 v10;exact F116_t0 N v2 v3 v10
 exact Eq.trans (b:=F116_g N v1 v2 v3 (F116_e0 N)) (by kernel_rfl) (by rw[h0];rfl)
noncomputable def F116_con(N:Nat):Con2:=⟨98,s6,a6,fun x=>F116 N x.1 x.2.1 x.2.2.1⟩
theorem F116_s(N:Nat):(F116_con N).Sound Tryz.prog (GL N):=
 Con2.sound_of (c:=F116_con N) (E:=(F116_E N)) (idle:=[]) Tryz.func98 (by kernel_rfl) (by kernel_rfl) ⟨allNil,(allCons (F106_s N) (allCons (F113_s N) allNil)),rfl⟩ allNil (fun x y h=>(F116_t N x.1 x.2.1 x.2.2.1).trans h)
noncomputable def F117_E(N:Nat):Env:=⟨Tryz.prog,N,[],[nm 0 [0,1,2] [1000000],nm 1 [0,1,2] [1000000],nm 2 [0,1,2,9,10] [1000000],nm 3 [0,1,2,9,10,24] [1000000],nm 4 [0,1,2,9] [1000000],nm 5 [0,1,2,9,11] [1000000],nm 6 [0,1,2,9,11,35] [1000000],ng N 7 [0,1,2,9] [1000000],nm 8 [0,1,2,9,12] [1000000],nm 9 [0,1,2,9,12,13] [42,1000000],(10,⟨[(12,65, .float,91000)],[],[],[],[],[0,1,2,12,13,43,44],[42,91000,1000000],none⟩),nm 11 [0,1,2,12,13,43,44] [42,91000,1000000],nm 12 [0,1,2,12,13,14,43,44] [42,91000,1000000],nm 13 [0,1,2,12,13,14,15,16,43,44] [42,91000,102550,1000000],nm 14 [0,1,2,12,13,14,15,16,43,44,55] [42,91000,102550,1000000],nm 15 [0,1,2,12,13,14,15,43,44] [42,91000,102550,1000000],nm 16 [0,1,2,12,13,14,43,44] [42,59,1000000],nm 17 [0,1,2,12,13,43,44] [42,59,1000000],nm 18 [12,13] [42,91000,1000000]],kdL [(3,(.int .i64)),(65, .float)],[F106_con N,F116_con N],[],(GL N),tl0,[]⟩
noncomputable def F117_g1(N:Nat)(v2:Ce)(v3:Int)(v10:T13)(r1:Int→(List Int)→(List Nat)→(List Int)→Int→Int→Option T6)(v22:Int)(v23:List Int)(v24:List Nat)(v25:List Int)(v26 v27:Int):Option T6:=
 (bif(decide ((v22:Int)<v10.1))then((F116 N (v25,v26,v27,()) v2 v3).bind fun v28=>Sum.elim (fun v29=>(some (Sum.inl (([]:List Nat),([]:List Int),(),v29.2.2.1,())))) (fun v30=>Sum.elim (fun v31=>(some (Sum.inr (Sum.inl (([]:List Nat),([]:List Int),(),v31.2.2.1,()))))) (fun v32=>Sum.elim (fun v33=>(some (i2 (([]:List Nat),([]:List Int),(),v33.2.2.1,())))) (fun v34=>Sum.elim (fun v35=>(some (i3 (([]:List Nat),([]:List Int),v35.2.1,v35.2.2.1,())))) (fun v36=>((lim ((v24.length+v36.1.length)*8)).bind fun _=>((chk v22 v23.length).bind fun v37=>((r1 (IntKind.u32.wrap (v22+1)) (v23.set v37 ((v24++v36.1).length:Int)) (v24++v36.1) v36.2.2.1.1 v36.2.2.1.2.1 v36.2.2.1.2.2.1))))) v34) v32) v30) v28)else(some (Sum.inr (Sum.inr (Sum.inr (Sum.inr (v24,v23,(),(v25,v26,v27,()),())))))))
noncomputable def F117_l1(N:Nat):Nat→Ce→Int→T13→Int→(List Int)→(List Nat)→(List Int)→Int→Int→Option T6
 |0,_,_,_,_,_,_,_,_,_=>none
 |n+1,v2,v3,v10,v22,v23,v24,v25,v26,v27=>F117_g1 N v2 v3 v10 (F117_l1 N n v2 v3 v10) v22 v23 v24 v25 v26 v27
noncomputable def F117_g0(N:Nat)(v2:Ce)(v3:Int)(v10:T13)(c1:Ce→Int→T13→Int→(List Int)→(List Nat)→(List Int)→Int→Int→Option T6):Option T6:=
 ((mkn v10.1 v10.1 8).bind fun v11=>((c1 v2 v3 v10 0 (List.replicate v11 (0:Int)) ([]:List Nat) v10.2.2.1.1 v10.2.2.1.2.1 v10.2.2.1.2.2.1)))
noncomputable def F117_j0(N:Nat)(v2:Ce)(v3:Int)(v10:T13):Option T6:=
 gate N (F117_g0 N v2 v3 v10 (F117_l1 N N))
noncomputable def F117_g(N:Nat)(v1:T0)(v2:Ce)(v3:Int)(c0:Ce→Int→T13→Option T6):Option T6:=
 ((F106 N (v1.1,v1.2.1,v1.2.2.1,()) v2).bind fun v4=>Sum.elim (fun v5=>(some (Sum.inl (([]:List Nat),([]:List Int),(),v5.2.2.1,())))) (fun v6=>Sum.elim (fun v7=>(some (Sum.inr (Sum.inl (([]:List Nat),([]:List Int),(),v7.2.2.1,()))))) (fun v8=>Sum.elim (fun v9=>(some (i2 (([]:List Nat),([]:List Int),(),v9.2.2.1,())))) (fun v10=>(bif(decide ((-1:Int)≥0))then(bif(decide (((IntKind.i64.wrap v10.1):Int)>(-1)))then(some (i3 (([]:List Nat),([]:List Int),(2,(IntKind.i64.wrap v10.1), -1,()),v10.2.2.1,())))else(c0 v2 v3 v10))else(c0 v2 v3 v10))) v8) v6) v4)
noncomputable def F117(N:Nat)(v1:T0)(v2:Ce)(v3:Int):Option T6:=
 F117_g N v1 v2 v3 (F117_j0 N)
noncomputable def q23(N:Nat):=kEnd2 (F117_E N) [] Tryz.f99.results.toList a4 [.iface 66 (.ref 1000000 0), .dead, .dead]
noncomputable def F117_e1(N n:Nat)(v2:Ce)(v3:Int)(v10:T13)(v22:Int)(v23:List Int)(v24:List Nat)(v25:List Int)(v26 v27:Int):=
 lq (F117_E N) (c99 [1,1,1,1,1,1,0,1,0,0]) n ⟨[(0, .iface 66 (.ref 1000000 0)),(1, .pv .any v2),(2, .pv (.int .i64) v3),(12, .own .float 91000),(13, .own (.int .i64) 42),(43, .pv (.int .u32) v10.1),(44, .pv (.int .u32) v22)],[(42, .arr 3 (.int .i64) v23),(91000, .arr 65 .float v24),(1000000, .box [.pv (.list (.int .u8)) v25, .pv (.int .i64) v26, .pv (.int .i8) v27])],[]⟩ (kBlock 0 (kq (F117_E N) (c99 [1,1,1,1,1,1,1]) (q23 N)))
noncomputable def F117_e0(N:Nat)(v2:Ce)(v3:Int)(v10:T13):=
 gate N (evC (F117_E N) (c99 [1,1,1,1]) ⟨[(0, .iface 66 (.ref 1000000 0)),(1, .pv .any v2),(2, .pv (.int .i64) v3),(9, .pv (.int .u32) v10.1)],[(1000000, .box [.pv (.list (.int .u8)) v10.2.2.1.1, .pv (.int .i64) v10.2.2.1.2.1, .pv (.int .i8) v10.2.2.1.2.2.1])],[]⟩ (q23 N))
theorem F117_t1(N:Nat):∀(n:Nat) (v2:Ce) (v3:Int) (v10:T13) (v22:Int) (v23:List Int) (v24:List Nat) (v25:List Int) (v26 v27:Int),F117_e1 N n v2 v3 v10 v22 v23 v24 v25 v26 v27=F117_l1 N n v2 v3 v10 v22 v23 v24 v25 v26 v27
 |0,_,_,_,_,_,_,_,_,_=>rfl
 |n+1,v2,v3,v10,v22,v23,v24,v25,v26,v27=>by
  have h:F117_e1 N n v2 v3 v10=F117_l1 N n v2 v3 v10:=by funext v22 v23 v24 v25 v26 v27;exact F117_t1 N n v2 v3 v10 v22 v23 v24 v25 v26 v27
  exact Eq.trans (b:=F117_g1 N v2 v3 v10 (F117_e1 N n v2 v3 v10) v22 v23 v24 v25 v26 v27) (by kernel_rfl) (by rw[h];rfl)
theorem F117_t0(N:Nat)(v2:Ce)(v3:Int)(v10:T13):F117_e0 N v2 v3 v10=F117_j0 N v2 v3 v10:=by
 have h1:(F117_e1 N N)=(F117_l1 N N):=by funext v2 v3 v10 v22 v23 v24 v25 v26 v27;exact F117_t1 N N v2 v3 v10 v22 v23 v24 v25 v26 v27
 exact(congrArg (gate N) (show _=F117_g0 N v2 v3 v10 (F117_e1 N N)from by kernel_rfl)).trans (by rw[h1];rfl)
theorem F117_t(N:Nat)(v1:T0)(v2:Ce)(v3:Int):evF2 (F117_E N) [] Tryz.f99 s6 a4 (v1,v2,v3,())=F117 N v1 v2 v3:=by
 have h0:(F117_e0 N)=(F117_j0 N):=by funext v2 v3 v10;exact F117_t0 N v2 v3 v10
 exact Eq.trans (b:=F117_g N v1 v2 v3 (F117_e0 N)) (by kernel_rfl) (by rw[h0];rfl)
noncomputable def F117_con(N:Nat):Con2:=⟨99,s6,a4,fun x=>F117 N x.1 x.2.1 x.2.2.1⟩
theorem F117_s(N:Nat):(F117_con N).Sound Tryz.prog (GL N):=
 Con2.sound_of (c:=F117_con N) (E:=(F117_E N)) (idle:=[]) Tryz.func99 (by kernel_rfl) (by kernel_rfl) ⟨allNil,(allCons (F106_s N) (allCons (F116_s N) allNil)),rfl⟩ allNil (fun x y h=>(F117_t N x.1 x.2.1 x.2.2.1).trans h)
noncomputable def F118_E(N:Nat):Env:=⟨Tryz.prog,N,[F17_con N],[nm 0 [0,1,2] [1000000],nm 1 [0,1,2] [1000000],nm 2 [0,1,2,7] [12,1000000],nm 3 [0,1,2,7] [12,1000000],nm 4 [1,2,7] [12,1000000],nm 5 [1,2,7] [12,1000000],nm 6 [1,7,35,36,37] [12,1000000],nm 7 [1,7,35,36,37] [],nm 8 [1,7,9,35,36,37] [],nm 9 [1,7,35,36,37] [],nm 10 [1,7] [12,1000000],nm 11 [1,7,61] [12,1000000],nm 12 [1,7,10] [12,1000000],nm 13 [1,7,10,69] [12,1000000],ng N 14 [7,10] [12,1000000],nm 15 [7,10] [12,82,1000000],nm 16 [7,86,87] [12,82,1000000],nm 17 [7,86,87] [12,82,1000000],nm 18 [7,11,86,87] [12,82,1000000],nm 19 [7,86,87] [12,82,1000000],nm 20 [7] [12,82,1000000]],kdL [(3,(.int .i64))],[],[],(GL N),tl0,[(1000006, .unit)]⟩
noncomputable def F118_g1(N:Nat)(v4 v1 v3:Int)(v2:List Nat)(r1:Int→(List Int)→Option ((T3×Unit)))(v7:Int)(v8:List Int):Option ((T3×Unit)):=
 (bif(decide ((v7:Int)<v4))then((chk v7 v8.length).bind fun v9=>((r1 (IntKind.i64.wrap (v7+1)) (v8.set v9 (IntKind.i64.wrap ((IntKind.i64.wrap (v7+1))*v3))))))else(some ((v1,v3,v2,0,v8,()),())))
noncomputable def F118_l1(N:Nat):Nat→Int→Int→Int→(List Nat)→Int→(List Int)→Option ((T3×Unit))
 |0,_,_,_,_,_,_=>none
 |n+1,v4,v1,v3,v2,v7,v8=>F118_g1 N v4 v1 v3 v2 (F118_l1 N n v4 v1 v3 v2) v7 v8
noncomputable def F118_g0(N:Nat)(v1 v3:Int)(v2:List Nat)(c1:Int→Int→Int→(List Nat)→Int→(List Int)→Option ((T3×Unit)))(v4:Int):Option ((T3×Unit)):=
 (mkn v4 v4 8).bind fun v5=>((c1 v4 v1 v3 v2 0 (List.replicate v5 (0:Int))))
noncomputable def F118_j0(N:Nat)(v1 v3:Int)(v2:List Nat)(v4:Int):Option ((T3×Unit)):=
 gate N (F118_g0 N v1 v3 v2 (F118_l1 N N) v4)
noncomputable def F118_g(N:Nat)(v1:Int)(v2:List Nat)(c0:Int→Int→(List Nat)→Int→Option ((T3×Unit))):Option ((T3×Unit)):=
 ((F17 N v1).bind fun v3=>(bif(decide (((v2.length:Int):Int)>0))then(bif(decide ((v3:Int)>0))then(if v3=0 then none else(c0 v1 v3 v2 (IntKind.i64.wrap (Int.tdiv (v2.length:Int) v3))))else(c0 v1 v3 v2 0))else(some ((v1,v3,v2,0,([]:List Int),()),()))))
noncomputable def F118(N:Nat)(v1:Int)(v2:List Nat):Option ((T3×Unit)):=
 F118_g N v1 v2 (F118_j0 N)
noncomputable def q24(N:Nat):=kq (F118_E N) (c48 [1,1,1,1,1,1,1]) (kEnd2 (F118_E N) [] Tryz.f48.results.toList a5 [.dead, .own .float 1000000, .dead])
noncomputable def F118_e1(N n:Nat)(v4 v1 v3:Int)(v2:List Nat)(v7:Int)(v8:List Int):=
 lq (F118_E N) (c48 [1,1,1,1,1,1,0,1,0,1,1,1,1,0,0]) n ⟨[(7, .ref 12 0),(86, .pv (.int .i64) v4),(87, .pv (.int .i64) v7)],[(12, .box [.pv (.int .i64) v1, .pv (.int .i64) v3, .own .float 1000000, .pv (.int .i64) 0, .own (.int .i64) 82]),(82, .arr 3 (.int .i64) v8),(1000000, .arr 65 .float v2)],[]⟩ (kBlock 2 (q24 N))
noncomputable def F118_e0(N:Nat)(v1 v3:Int)(v2:List Nat)(v4:Int):=
 gate N (evC (F118_E N) (c48 [1,1,1,1,1,1,0,1,0,1,1]) ⟨[(7, .ref 12 0),(10, .pv (.int .i64) v4)],[(12, .box [.pv (.int .i64) v1, .pv (.int .i64) v3, .own .float 1000000, .pv (.int .i64) 0, .nils]),(1000000, .arr 65 .float v2)],[]⟩ (q24 N))
theorem F118_t1(N:Nat):∀(n:Nat) (v4 v1 v3:Int) (v2:List Nat) (v7:Int) (v8:List Int),F118_e1 N n v4 v1 v3 v2 v7 v8=F118_l1 N n v4 v1 v3 v2 v7 v8
 |0,_,_,_,_,_,_=>rfl
 |n+1,v4,v1,v3,v2,v7,v8=>by
  have h:F118_e1 N n v4 v1 v3 v2=F118_l1 N n v4 v1 v3 v2:=by funext v7 v8;exact F118_t1 N n v4 v1 v3 v2 v7 v8
  exact Eq.trans (b:=F118_g1 N v4 v1 v3 v2 (F118_e1 N n v4 v1 v3 v2) v7 v8) (by kernel_rfl) (by rw[h];rfl)
theorem F118_t0(N:Nat)(v1 v3:Int)(v2:List Nat)(v4:Int):F118_e0 N v1 v3 v2 v4=F118_j0 N v1 v3 v2 v4:=by
 have h1:(F118_e1 N N)=(F118_l1 N N):=by funext v4 v1 v3 v2 v7 v8;exact F118_t1 N N v4 v1 v3 v2 v7 v8
 exact(congrArg (gate N) (show _=F118_g0 N v1 v3 v2 (F118_e1 N N) v4 from by kernel_rfl)).trans (by rw[h1];rfl)
theorem F118_t(N:Nat)(v1:Int)(v2:List Nat):evF2 (F118_E N) [] Tryz.f48 [.k (.int .i64), .row 65 .float, .snil] a5 (v1,v2,(),())=F118 N v1 v2:=by
 have h0:(F118_e0 N)=(F118_j0 N):=by funext v1 v3 v2 v4;exact F118_t0 N v1 v3 v2 v4
 exact Eq.trans (b:=F118_g N v1 v2 (F118_e0 N)) (by kernel_rfl) (by rw[h0];rfl)
noncomputable def F118_con(N:Nat):Con2:=⟨48,[.k (.int .i64), .row 65 .float, .snil],a5,fun x=>F118 N x.1 x.2.1⟩
theorem F118_s(N:Nat):(F118_con N).Sound Tryz.prog (GL N):=
 Con2.sound_of (c:=F118_con N) (E:=(F118_E N)) (idle:=[]) Tryz.func48 (by kernel_rfl) (by kernel_rfl) ⟨(allCons (F17_s N) allNil),allNil,rfl⟩ allNil (fun x y h=>(F118_t N x.1 x.2.1).trans h)
noncomputable def F119_E(N:Nat):Env:=⟨Tryz.prog,N,[],[nm 0 [0] [],nm 1 [0] []],kdL [],[F118_con N],[],(GL N),tl0,[]⟩
noncomputable def F119_g(N:Nat)(v1:Int):Option ((T3×Unit)):=
 ((F118 N v1 ([]:List Nat)).bind fun v2=>(some (v2.1,())))
noncomputable def F119(N:Nat)(v1:Int):Option ((T3×Unit)):=
 F119_g N v1
theorem F119_t(N:Nat)(v1:Int):evF2 (F119_E N) [] Tryz.f100 s10 a24 (v1,())=F119 N v1:=
 Eq.trans (b:=F119_g N v1) (by kernel_rfl) rfl
noncomputable def F119_con(N:Nat):Con2:=⟨100,s10,a24,fun x=>F119 N x.1⟩
theorem F119_s(N:Nat):(F119_con N).Sound Tryz.prog (GL N):=
 Con2.sound_of (c:=F119_con N) (E:=(F119_E N)) (idle:=[]) Tryz.func100 (by kernel_rfl) (by kernel_rfl) ⟨allNil,(allCons (F118_s N) allNil),rfl⟩ allNil (fun x y h=>(F119_t N x.1).trans h)
noncomputable def F120_E(N:Nat):Env:=⟨Tryz.prog,N,[],[nm 0 [0,1] [1000000,1000001,1000002],nm 1 [0,1] [1000000,1000001,1000002],nm 2 [0,1,17] [1000000,1000001,1000002],nm 3 [0,1] [1000000,1000001,1000002],nm 4 [0,1,36] [1000000,1000001,1000002],nm 5 [0] [50,1000000,1000001,1000002],nm 6 [] [50,71,1000000,1000001]],kdL [(3,(.int .i64)),(65, .float),(140,p0)],[F53_con N],[],(GL N),tl0,[]⟩
noncomputable def F120_g(N:Nat)(v1:T3)(v2:Ce):Option ((T18×T3×Unit)⊕(Unit×T3×Unit)):=
 ((isNilp v2).bind fun v3=>(bif v3 then none else((ptrD p0 v2).bind fun v4=>(bif(v4.1.1 !=v1.1)then((isNilp v2).bind fun v5=>(bif v5 then none else((ptrD p0 v2).bind fun v6=>(some (Sum.inl ((v6.1.1,v1.1,()),(v1.1,v1.2.1,v1.2.2.1,v1.2.2.2.1,v1.2.2.2.2.1,()),()))))))else((isNilp v2).bind fun v7=>(bif v7 then none else((ptrD p0 v2).bind fun v8=>(F53 N v8.1).bind fun v9=>(bif(!v9.1)then((isNilp v2).bind fun v10=>(bif v10 then none else((ptrD p0 v2).bind fun v11=>(lim ((v1.2.2.1.length+v11.1.2.2.1.length)*8)).bind fun _=>((lim ((v1.2.2.2.2.1.length+([((v1.2.2.1++v11.1.2.2.1).length:Int)]:List Int).length)*8)).bind fun _=>(some (Sum.inr ((),(v1.1,v1.2.1,(v1.2.2.1++v11.1.2.2.1),v1.2.2.2.1,(v1.2.2.2.2.1++([((v1.2.2.1++v11.1.2.2.1).length:Int)]:List Int)),()),())))))))else((lim ((v1.2.2.2.2.1.length+([(v1.2.2.1.length:Int)]:List Int).length)*8)).bind fun _=>(some (Sum.inr ((),(v1.1,v1.2.1,v1.2.2.1,v1.2.2.2.1,(v1.2.2.2.2.1++([(v1.2.2.1.length:Int)]:List Int)),()),()))))))))))))
noncomputable def F120(N:Nat)(v1:T3)(v2:Ce):Option ((T18×T3×Unit)⊕(Unit×T3×Unit)):=
 F120_g N v1 v2
theorem F120_t(N:Nat)(v1:T3)(v2:Ce):evF2 (F120_E N) [] Tryz.f101 s5 a11 (v1,v2,())=F120 N v1 v2:=
 Eq.trans (b:=F120_g N v1 v2) (by kernel_rfl) rfl
noncomputable def F120_con(N:Nat):Con2:=⟨101,s5,a11,fun x=>F120 N x.1 x.2.1⟩
theorem F120_s(N:Nat):(F120_con N).Sound Tryz.prog (GL N):=
 Con2.sound_of (c:=F120_con N) (E:=(F120_E N)) (idle:=[]) Tryz.func101 (by kernel_rfl) (by kernel_rfl) ⟨allNil,(allCons (F53_s N) allNil),rfl⟩ allNil (fun x y h=>(F120_t N x.1 x.2.1).trans h)
noncomputable def F121_E(N:Nat):Env:=⟨Tryz.prog,N,[],[nm 0 [0] [],nm 1 [0] []],kdL [],[F31_con N],[],(GL N),tl0,[]⟩
noncomputable def F121_g(N:Nat)(v1:Int):Option ((T3×Unit)):=
 ((F31 N v1 ([]:List Nat) ([]:List Int)).bind fun v2=>(some (v2.1,())))
noncomputable def F121(N:Nat)(v1:Int):Option ((T3×Unit)):=
 F121_g N v1
theorem F121_t(N:Nat)(v1:Int):evF2 (F121_E N) [] Tryz.f102 s10 a24 (v1,())=F121 N v1:=
 Eq.trans (b:=F121_g N v1) (by kernel_rfl) rfl
noncomputable def F121_con(N:Nat):Con2:=⟨102,s10,a24,fun x=>F121 N x.1⟩
theorem F121_s(N:Nat):(F121_con N).Sound Tryz.prog (GL N):=
 Con2.sound_of (c:=F121_con N) (E:=(F121_E N)) (idle:=[]) Tryz.func102 (by kernel_rfl) (by kernel_rfl) ⟨allNil,(allCons (F31_s N) allNil),rfl⟩ allNil (fun x y h=>(F121_t N x.1).trans h)
noncomputable def F122_E(N:Nat):Env:=⟨Tryz.prog,N,[],[nm 0 [0,1] [1000000,1000001,1000002],nm 1 [0,1] [1000000,1000001,1000002],nm 2 [0,1,18] [1000000,1000001,1000002],nm 3 [0,1] [1000000,1000001,1000002],nm 4 [0] [48,1000000,1000002],nm 5 [] [48,69,1000000]],kdL [(3,(.int .i64)),(65, .float),(147,(.pair p0 .unit))],[],[],(GL N),tl0,[]⟩
noncomputable def F122_g(N:Nat)(v1:T3)(v2:Ce):Option ((T18×T3×Unit)⊕(Unit×T3×Unit)):=
 ((isNilp v2).bind fun v3=>(bif v3 then none else((ptrD (.pair p0 .unit) v2).bind fun v4=>(bif(v4.1.1.1 !=v1.1)then((isNilp v2).bind fun v5=>(bif v5 then none else((ptrD (.pair p0 .unit) v2).bind fun v6=>(some (Sum.inl ((v6.1.1.1,v1.1,()),(v1.1,v1.2.1,v1.2.2.1,v1.2.2.2.1,v1.2.2.2.2.1,()),()))))))else((isNilp v2).bind fun v7=>(bif v7 then none else((ptrD (.pair p0 .unit) v2).bind fun v8=>(lim ((v1.2.2.1.length+v8.1.1.2.2.1.length)*8)).bind fun _=>((lim ((v1.2.2.2.2.1.length+([((v1.2.2.1++v8.1.1.2.2.1).length:Int)]:List Int).length)*8)).bind fun _=>(some (Sum.inr ((),(v1.1,v1.2.1,(v1.2.2.1++v8.1.1.2.2.1),v1.2.2.2.1,(v1.2.2.2.2.1++([((v1.2.2.1++v8.1.1.2.2.1).length:Int)]:List Int)),()),())))))))))))
noncomputable def F122(N:Nat)(v1:T3)(v2:Ce):Option ((T18×T3×Unit)⊕(Unit×T3×Unit)):=
 F122_g N v1 v2
theorem F122_t(N:Nat)(v1:T3)(v2:Ce):evF2 (F122_E N) [] Tryz.f103 s5 a11 (v1,v2,())=F122 N v1 v2:=
 Eq.trans (b:=F122_g N v1 v2) (by kernel_rfl) rfl
noncomputable def F122_con(N:Nat):Con2:=⟨103,s5,a11,fun x=>F122 N x.1 x.2.1⟩
theorem F122_s(N:Nat):(F122_con N).Sound Tryz.prog (GL N):=
 Con2.sound_of (c:=F122_con N) (E:=(F122_E N)) (idle:=[]) Tryz.func103 (by kernel_rfl) (by kernel_rfl) ⟨allNil,allNil,rfl⟩ allNil (fun x y h=>(F122_t N x.1 x.2.1).trans h)
noncomputable def F123_E(N:Nat):Env:=⟨Tryz.prog,N,[],[nm 0 [0] [],nm 1 [0] []],kdL [],[F34_con N],[],(GL N),tl0,[]⟩
noncomputable def F123_g(N:Nat)(v1:Int):Option ((T7×Unit)):=
 ((F34 N v1 ([]:List Nat) ([]:List (List Int))).bind fun v2=>(some (v2.1,())))
noncomputable def F123(N:Nat)(v1:Int):Option ((T7×Unit)):=
 F123_g N v1
theorem F123_t(N:Nat)(v1:Int):evF2 (F123_E N) [] Tryz.f104 s10 a48 (v1,())=F123 N v1:=
 Eq.trans (b:=F123_g N v1) (by kernel_rfl) rfl
noncomputable def F123_con(N:Nat):Con2:=⟨104,s10,a48,fun x=>F123 N x.1⟩
theorem F123_s(N:Nat):(F123_con N).Sound Tryz.prog (GL N):=
 Con2.sound_of (c:=F123_con N) (E:=(F123_E N)) (idle:=[]) Tryz.func104 (by kernel_rfl) (by kernel_rfl) ⟨allNil,(allCons (F34_s N) allNil),rfl⟩ allNil (fun x y h=>(F123_t N x.1).trans h)
noncomputable def F124_E(N:Nat):Env:=⟨Tryz.prog,N,[],[nm 0 [0,1] [1000000,1000001,1000002],nm 1 [0,1] [1000000,1000001,1000002],nm 2 [0,1,23] [1000000,1000001,1000002],nm 3 [0,1] [1000000,1000001,1000002],nm 4 [0,1,5] [1000000,1000001,1000002],nm 5 [0,1,5,6] [1000000,1000001,1000002],nm 6 [0,1,5,6,54] [1000000,1000001,1000002],nm 7 [0,1,5,6] [61,1000000,1000001,1000002],nm 8 [0,1,5,6,63] [61,1000000,1000001,1000002],nm 10 [0,1,5,6,75,76,77] [61,1000000,1000001,1000002],nm 11 [0,1,5,6,75,76,77] [61,1000000,1000001,1000002],nm 12 [0,1,5,6,7,8,75,76,77] [61,1000000,1000001,1000002],nm 13 [0,1,5,6,75,76,77] [61,1000000,1000001,1000002],ng N 14 [0,1,6] [61,1000000,1000001,1000002],nm 15 [0,6] [61,104,1000000,1000002],nm 16 [] [104,118,1000000]],kdL [(3,(.int .i64)),(23,(.list (.int .i64))),(65, .float),(152,p1)],[],[],(GL N),tl0,[]⟩
noncomputable def F124_g1(N:Nat)(v2:Ce)(v1:T7)(v22:List Int):Option ((T18×T7×Unit)⊕(Unit×T7×Unit)):=
 (isNilp v2).bind fun v23=>(bif v23 then none else((ptrD p1 v2).bind fun v24=>(lim ((v1.2.2.1.length+v24.1.1.1.2.2.1.length)*8)).bind fun _=>((lim ((v1.2.2.2.2.1.length+([v22]:List (List Int)).length)*24)).bind fun _=>(some (Sum.inr ((),(v1.1,v1.2.1,(v1.2.2.1++v24.1.1.1.2.2.1),v1.2.2.2.1,(v1.2.2.2.2.1++([v22]:List (List Int))),()),()))))))
noncomputable def F124_j1(N:Nat)(v2:Ce)(v1:T7)(v22:List Int):Option ((T18×T7×Unit)⊕(Unit×T7×Unit)):=
 gate N (F124_g1 N v2 v1 v22)
noncomputable def F124_g0(N:Nat)(v2:Ce)(v1:T7)(v15:(((T14×Unit)×((List Int)×Unit))×Unit))(c1:Ce→T7→(List Int)→Option ((T18×T7×Unit)⊕(Unit×T7×Unit)))(r0:Int→(List Int)→Option ((T18×T7×Unit)⊕(Unit×T7×Unit)))(v18:Int)(v19:List Int):Option ((T18×T7×Unit)⊕(Unit×T7×Unit)):=
 (bif(decide ((v18:Int)<(v15.1.2.1.length:Int)))then((nth v15.1.2.1 v18).bind fun v20=>((chk v18 v19.length).bind fun v21=>((r0 (IntKind.i64.wrap (v18+1)) (v19.set v21 (IntKind.i64.wrap (v20+(v1.2.2.1.length:Int))))))))else(c1 v2 v1 v19))
noncomputable def F124_l0(N:Nat):Nat→Ce→T7→(((T14×Unit)×((List Int)×Unit))×Unit)→Int→(List Int)→Option ((T18×T7×Unit)⊕(Unit×T7×Unit))
 |0,_,_,_,_,_=>none
 |n+1,v2,v1,v15,v18,v19=>F124_g0 N v2 v1 v15 (F124_j1 N) (F124_l0 N n v2 v1 v15) v18 v19
noncomputable def F124_g(N:Nat)(v1:T7)(v2:Ce)(c1:Ce→T7→(List Int)→Option ((T18×T7×Unit)⊕(Unit×T7×Unit)))(c0:Ce→T7→(((T14×Unit)×((List Int)×Unit))×Unit)→Int→(List Int)→Option ((T18×T7×Unit)⊕(Unit×T7×Unit))):Option ((T18×T7×Unit)⊕(Unit×T7×Unit)):=
 ((isNilp v2).bind fun v3=>(bif v3 then none else((ptrD p1 v2).bind fun v4=>(bif(v4.1.1.1.1 !=v1.1)then((isNilp v2).bind fun v5=>(bif v5 then none else((ptrD p1 v2).bind fun v6=>(some (Sum.inl ((v6.1.1.1.1,v1.1,()),(v1.1,v1.2.1,v1.2.2.1,v1.2.2.2.1,v1.2.2.2.2.1,()),()))))))else((isNilp v2).bind fun v7=>(bif v7 then none else((ptrD p1 v2).bind fun v8=>(bif(decide (((v8.1.2.1.length:Int):Int)>0))then((isNilp v2).bind fun v9=>(bif v9 then none else((ptrD p1 v2).bind fun v10=>(mkn (v10.1.2.1.length:Int) (v10.1.2.1.length:Int) 8).bind fun v11=>(bif((v1.2.2.1.length:Int)==0)then((isNilp v2).bind fun v12=>(bif v12 then none else((ptrD p1 v2).bind fun v13=>(c1 v2 v1 (v13.1.2.1.take (List.replicate v11 (0:Int)).length++(List.replicate v11 (0:Int)).drop v13.1.2.1.length)))))else((isNilp v2).bind fun v14=>(bif v14 then none else((ptrD p1 v2).bind fun v15=>((c0 v2 v1 v15 0 (List.replicate v11 (0:Int)))))))))))else(gate N ((isNilp v2).bind fun v25=>(bif v25 then none else((ptrD p1 v2).bind fun v26=>(lim ((v1.2.2.1.length+v26.1.1.1.2.2.1.length)*8)).bind fun _=>((lim ((v1.2.2.2.2.1.length+([([]:List Int)]:List (List Int)).length)*24)).bind fun _=>(some (Sum.inr ((),(v1.1,v1.2.1,(v1.2.2.1++v26.1.1.1.2.2.1),v1.2.2.2.1,(v1.2.2.2.2.1++([([]:List Int)]:List (List Int))),()),()))))))))))))))))
noncomputable def F124(N:Nat)(v1:T7)(v2:Ce):Option ((T18×T7×Unit)⊕(Unit×T7×Unit)):=
 F124_g N v1 v2 (F124_j1 N) (F124_l0 N N)
noncomputable def q25(N:Nat):=kEnd2 (F124_E N) [] Tryz.f105.results.toList a10 [.ref 1000000 0, .dead]
noncomputable def F124_e1(N:Nat)(v2:Ce)(v1:T7)(v22:List Int):=
 gate N (evC (F124_E N) (c105 [1,1,1,1,1]) ⟨[(0, .ref 1000000 0),(1, .pv .any v2),(6, .own (.int .i64) 61)],[(61, .arr 3 (.int .i64) v22),(1000000, .box [.pv (.int .i64) v1.1, .pv (.int .i64) v1.2.1, .own .float 1000001, .pv (.int .i64) v1.2.2.2.1, .own (.list (.int .i64)) 1000002]),(1000001, .arr 65 .float v1.2.2.1),(1000002, .arr 23 (.list (.int .i64)) v1.2.2.2.2.1)],[]⟩ (q25 N))
noncomputable def F124_e0(N n:Nat)(v2:Ce)(v1:T7)(v15:(((T14×Unit)×((List Int)×Unit))×Unit))(v18:Int)(v19:List Int):=
 lq (F124_E N) (c105 [1,1,1,1,0,1,0,1,1,1,1,0,0]) n ⟨[(0, .ref 1000000 0),(1, .pv .any v2),(5, .pv (.int .i64) (v1.2.2.1.length:Int)),(6, .own (.int .i64) 61),(75, .pv (.list (.int .i64)) v15.1.2.1),(76, .pv (.int .i64) (v15.1.2.1.length:Int)),(77, .pv (.int .i64) v18)],[(61, .arr 3 (.int .i64) v19),(1000000, .box [.pv (.int .i64) v1.1, .pv (.int .i64) v1.2.1, .own .float 1000001, .pv (.int .i64) v1.2.2.2.1, .own (.list (.int .i64)) 1000002]),(1000001, .arr 65 .float v1.2.2.1),(1000002, .arr 23 (.list (.int .i64)) v1.2.2.2.2.1)],[]⟩ (kBlock 0 (kq (F124_E N) (c105 [1,1,1,1,1]) (q25 N)))
theorem F124_t1(N:Nat)(v2:Ce)(v1:T7)(v22:List Int):F124_e1 N v2 v1 v22=F124_j1 N v2 v1 v22:=by
 exact(congrArg (gate N) (show _=F124_g1 N v2 v1 v22 from by kernel_rfl)).trans (by rfl)
theorem F124_t0(N:Nat):∀(n:Nat) (v2:Ce) (v1:T7) (v15:(((T14×Unit)×((List Int)×Unit))×Unit)) (v18:Int) (v19:List Int),F124_e0 N n v2 v1 v15 v18 v19=F124_l0 N n v2 v1 v15 v18 v19
 |0,_,_,_,_,_=>rfl
 |n+1,v2,v1,v15,v18,v19=>by
  have h1:(F124_e1 N)=(F124_j1 N):=by funext v2 v1 v22;exact F124_t1 N v2 v1 v22
  have h:F124_e0 N n v2 v1 v15=F124_l0 N n v2 v1 v15:=by funext v18 v19;exact F124_t0 N n v2 v1 v15 v18 v19
  exact Eq.trans (b:=F124_g0 N v2 v1 v15 (F124_e1 N) (F124_e0 N n v2 v1 v15) v18 v19) (by kernel_rfl) (by rw[h1,h];rfl)
theorem F124_t(N:Nat)(v1:T7)(v2:Ce):evF2 (F124_E N) [] Tryz.f105 s19 a10 (v1,v2,())=F124 N v1 v2:=by
 have h1:(F124_e1 N)=(F124_j1 N):=by funext v2 v1 v22;exact F124_t1 N v2 v1 v22
 have h0:(F124_e0 N N)=(F124_l0 N N):=by funext v2 v1 v15 v18 v19;exact F124_t0 N N v2 v1 v15 v18 v19
 exact Eq.trans (b:=F124_g N v1 v2 (F124_e1 N) (F124_e0 N N)) (by kernel_rfl) (by rw[h1,h0];rfl)
noncomputable def F124_con(N:Nat):Con2:=⟨105,s19,a10,fun x=>F124 N x.1 x.2.1⟩
theorem F124_s(N:Nat):(F124_con N).Sound Tryz.prog (GL N):=
 Con2.sound_of (c:=F124_con N) (E:=(F124_E N)) (idle:=[]) Tryz.func105 (by kernel_rfl) (by kernel_rfl) ⟨allNil,allNil,rfl⟩ allNil (fun x y h=>(F124_t N x.1 x.2.1).trans h)
noncomputable def F125_E(N:Nat):Env:=⟨Tryz.prog,N,[],[nm 0 [0] [],nm 1 [0] []],kdL [],[],[],(GL N),tl0,[]⟩
noncomputable def F125_g(N:Nat)(v1:T12):Option ((Int×Unit)):=
 (some ((v1.2.1.length:Int),()))
noncomputable def F125(N:Nat)(v1:T12):Option ((Int×Unit)):=
 F125_g N v1
theorem F125_t(N:Nat)(v1:T12):evF2 (F125_E N) [] Tryz.f86 [.lref p2] a31 (v1,())=F125 N v1:=
 Eq.trans (b:=F125_g N v1) (by kernel_rfl) rfl
noncomputable def F125_con(N:Nat):Con2:=⟨86,[.lref p2],a31,fun x=>F125 N x.1⟩
theorem F125_s(N:Nat):(F125_con N).Sound Tryz.prog (GL N):=
 Con2.sound_of (c:=F125_con N) (E:=(F125_E N)) (idle:=[]) Tryz.func86 (by kernel_rfl) (by kernel_rfl) ⟨allNil,allNil,rfl⟩ allNil (fun x y h=>(F125_t N x.1).trans h)
noncomputable def F126_g4(N:Nat)(self:T0→Option T1)(v68:T13)(r4:Int→Int→Int→Int→(List Nat)→(List Int)→(List Int)→Int→Int→Option T1)(v93 v94 v95 v96:Int)(v97:List Nat)(v98 v99:List Int)(v100 v101:Int):Option T1:=
 (bif(decide ((v93:Int)<v68.1))then((self (v99,v100,v101,())).bind fun v102=>Sum.elim (fun v103=>(some (Sum.inl (Ce.nili,(),v103.2.2.1,())))) (fun v104=>Sum.elim (fun v105=>(some (Sum.inr (Sum.inl (Ce.nili,v105.2.1,v105.2.2.1,()))))) (fun v106=>Sum.elim (fun v107=>(some (i2 (Ce.nili,(),v107.2.2.1,())))) (fun v108=>Sum.elim (fun v109=>(some (i3 (Ce.nili,(),v109.2.2.1,())))) (fun v110=>Sum.elim (fun v111=>(some (i4 (Ce.nili,v111.2.1,v111.2.2.1,())))) (fun v112=>Sum.elim (fun v113=>((isT 72 v113.1).bind fun v119=>(bif v119 then((asT .any 72 v113.1).bind fun v120=>((F120 N (v94,v95,v97,v96,v98,()) v120).bind fun v121=>Sum.elim (fun v122=>(some (i7 (Ce.nili,v122.1,v113.2.2.1,())))) (fun v123=>((r4 (IntKind.u32.wrap (v93+1)) v123.2.1.1 v123.2.1.2.1 v123.2.1.2.2.2.1 v123.2.1.2.2.1 v123.2.1.2.2.2.2.1 v113.2.2.1.1 v113.2.2.1.2.1 v113.2.2.1.2.2.1))) v121))else none))) (fun v114=>Sum.elim (fun v115=>(some (i6 (Ce.nili,v115.2.1,v115.2.2.1,())))) (fun v116=>Sum.elim (fun v117=>(some (i7 (Ce.nili,v117.2.1,v117.2.2.1,())))) (fun v118=>(some (Sum.inr (Sum.inr (Sum.inr (Sum.inr (Sum.inr (Sum.inr (Sum.inr (Sum.inr (Ce.nili,v118.2.1,v118.2.2.1,()))))))))))) v116) v114) v112) v110) v108) v106) v104) v102)else(some (i5 ((Ce.ifc 85 (Ce.ptr [(Ce.int .i64 v94),(Ce.int .i64 v95),(Ce.fl v97),(Ce.int .i64 v96),(Ce.il v98)])),(),(v99,v100,v101,()),()))))
noncomputable def F126_l4(N:Nat)(self:T0→Option T1):Nat→T13→Int→Int→Int→Int→(List Nat)→(List Int)→(List Int)→Int→Int→Option T1
 |0,_,_,_,_,_,_,_,_,_,_=>none
 |n+1,v68,v93,v94,v95,v96,v97,v98,v99,v100,v101=>F126_g4 N self v68 (F126_l4 N self n v68) v93 v94 v95 v96 v97 v98 v99 v100 v101
noncomputable def F126_g3(N:Nat)(self:T0→Option T1)(v13 v21:Int)(v68:T13)(c4:T13→Int→Int→Int→Int→(List Nat)→(List Int)→(List Int)→Int→Int→Option T1):Option T1:=
 (F119 N v13).bind fun v69=>(F30 N v69.1 (IntKind.i64.wrap v21)).bind fun v70=>((c4 v68 0 v70.2.1.1 v70.2.1.2.1 v70.2.1.2.2.2.1 v70.2.1.2.2.1 v70.2.1.2.2.2.2.1 v68.2.2.1.1 v68.2.2.1.2.1 v68.2.2.1.2.2.1))
noncomputable def F126_j3(N:Nat)(self:T0→Option T1)(v13 v21:Int)(v68:T13):Option T1:=
 gate N (F126_g3 N self v13 v21 v68 (F126_l4 N self N))
noncomputable def F126_g6(N:Nat)(self:T0→Option T1)(v130:T13)(r6:Int→Int→Int→Int→(List Nat)→(List Int)→(List Int)→Int→Int→Option T1)(v155 v156 v157 v158:Int)(v159:List Nat)(v160 v161:List Int)(v162 v163:Int):Option T1:=
 (bif(decide ((v155:Int)<v130.1))then((self (v161,v162,v163,())).bind fun v164=>Sum.elim (fun v165=>(some (Sum.inl (Ce.nili,(),v165.2.2.1,())))) (fun v166=>Sum.elim (fun v167=>(some (Sum.inr (Sum.inl (Ce.nili,v167.2.1,v167.2.2.1,()))))) (fun v168=>Sum.elim (fun v169=>(some (i2 (Ce.nili,(),v169.2.2.1,())))) (fun v170=>Sum.elim (fun v171=>(some (i3 (Ce.nili,(),v171.2.2.1,())))) (fun v172=>Sum.elim (fun v173=>(some (i4 (Ce.nili,v173.2.1,v173.2.2.1,())))) (fun v174=>Sum.elim (fun v175=>((isT 75 v175.1).bind fun v181=>(bif v181 then((asT .any 75 v175.1).bind fun v182=>((F122 N (v156,v157,v159,v158,v160,()) v182).bind fun v183=>Sum.elim (fun v184=>(some (i7 (Ce.nili,v184.1,v175.2.2.1,())))) (fun v185=>((r6 (IntKind.u32.wrap (v155+1)) v185.2.1.1 v185.2.1.2.1 v185.2.1.2.2.2.1 v185.2.1.2.2.1 v185.2.1.2.2.2.2.1 v175.2.2.1.1 v175.2.2.1.2.1 v175.2.2.1.2.2.1))) v183))else none))) (fun v176=>Sum.elim (fun v177=>(some (i6 (Ce.nili,v177.2.1,v177.2.2.1,())))) (fun v178=>Sum.elim (fun v179=>(some (i7 (Ce.nili,v179.2.1,v179.2.2.1,())))) (fun v180=>(some (Sum.inr (Sum.inr (Sum.inr (Sum.inr (Sum.inr (Sum.inr (Sum.inr (Sum.inr (Ce.nili,v180.2.1,v180.2.2.1,()))))))))))) v178) v176) v174) v172) v170) v168) v166) v164)else(some (i5 ((Ce.ifc 91 (Ce.ptr [(Ce.int .i64 v156),(Ce.int .i64 v157),(Ce.fl v159),(Ce.int .i64 v158),(Ce.il v160)])),(),(v161,v162,v163,()),()))))
noncomputable def F126_l6(N:Nat)(self:T0→Option T1):Nat→T13→Int→Int→Int→Int→(List Nat)→(List Int)→(List Int)→Int→Int→Option T1
 |0,_,_,_,_,_,_,_,_,_,_=>none
 |n+1,v130,v155,v156,v157,v158,v159,v160,v161,v162,v163=>F126_g6 N self v130 (F126_l6 N self n v130) v155 v156 v157 v158 v159 v160 v161 v162 v163
noncomputable def F126_g5(N:Nat)(self:T0→Option T1)(v13 v21:Int)(v130:T13)(c6:T13→Int→Int→Int→Int→(List Nat)→(List Int)→(List Int)→Int→Int→Option T1):Option T1:=
 (F121 N v13).bind fun v131=>(F32 N v131.1 (IntKind.i64.wrap v21)).bind fun v132=>((c6 v130 0 v132.2.1.1 v132.2.1.2.1 v132.2.1.2.2.2.1 v132.2.1.2.2.1 v132.2.1.2.2.2.2.1 v130.2.2.1.1 v130.2.2.1.2.1 v130.2.2.1.2.2.1))
noncomputable def F126_j5(N:Nat)(self:T0→Option T1)(v13 v21:Int)(v130:T13):Option T1:=
 gate N (F126_g5 N self v13 v21 v130 (F126_l6 N self N))
noncomputable def F126_g8(N:Nat)(self:T0→Option T1)(v192:T13)(r8:Int→Int→Int→Int→(List Nat)→T20→(List Int)→Int→Int→Option T1)(v217 v218 v219 v220:Int)(v221:List Nat)(v222:T20)(v223:List Int)(v224 v225:Int):Option T1:=
 (bif(decide ((v217:Int)<v192.1))then((self (v223,v224,v225,())).bind fun v226=>Sum.elim (fun v227=>(some (Sum.inl (Ce.nili,(),v227.2.2.1,())))) (fun v228=>Sum.elim (fun v229=>(some (Sum.inr (Sum.inl (Ce.nili,v229.2.1,v229.2.2.1,()))))) (fun v230=>Sum.elim (fun v231=>(some (i2 (Ce.nili,(),v231.2.2.1,())))) (fun v232=>Sum.elim (fun v233=>(some (i3 (Ce.nili,(),v233.2.2.1,())))) (fun v234=>Sum.elim (fun v235=>(some (i4 (Ce.nili,v235.2.1,v235.2.2.1,())))) (fun v236=>Sum.elim (fun v237=>((isT 81 v237.1).bind fun v243=>(bif v243 then((asT .any 81 v237.1).bind fun v244=>((F124 N (v218,v219,v221,v220,v222,()) v244).bind fun v245=>Sum.elim (fun v246=>(some (i7 (Ce.nili,v246.1,v237.2.2.1,())))) (fun v247=>((r8 (IntKind.u32.wrap (v217+1)) v247.2.1.1 v247.2.1.2.1 v247.2.1.2.2.2.1 v247.2.1.2.2.1 v247.2.1.2.2.2.2.1 v237.2.2.1.1 v237.2.2.1.2.1 v237.2.2.1.2.2.1))) v245))else none))) (fun v238=>Sum.elim (fun v239=>(some (i6 (Ce.nili,v239.2.1,v239.2.2.1,())))) (fun v240=>Sum.elim (fun v241=>(some (i7 (Ce.nili,v241.2.1,v241.2.2.1,())))) (fun v242=>(some (Sum.inr (Sum.inr (Sum.inr (Sum.inr (Sum.inr (Sum.inr (Sum.inr (Sum.inr (Ce.nili,v242.2.1,v242.2.2.1,()))))))))))) v240) v238) v236) v234) v232) v230) v228) v226)else(some (i5 ((Ce.ifc 94 (Ce.ptr [(Ce.int .i64 v218),(Ce.int .i64 v219),(Ce.fl v221),(Ce.int .i64 v220),(Ce.ill v222)])),(),(v223,v224,v225,()),()))))
noncomputable def F126_l8(N:Nat)(self:T0→Option T1):Nat→T13→Int→Int→Int→Int→(List Nat)→T20→(List Int)→Int→Int→Option T1
 |0,_,_,_,_,_,_,_,_,_,_=>none
 |n+1,v192,v217,v218,v219,v220,v221,v222,v223,v224,v225=>F126_g8 N self v192 (F126_l8 N self n v192) v217 v218 v219 v220 v221 v222 v223 v224 v225
noncomputable def F126_g7(N:Nat)(self:T0→Option T1)(v13 v21:Int)(v192:T13)(c8:T13→Int→Int→Int→Int→(List Nat)→T20→(List Int)→Int→Int→Option T1):Option T1:=
 (F123 N v13).bind fun v193=>(F35 N v193.1 (IntKind.i64.wrap v21)).bind fun v194=>((c8 v192 0 v194.2.1.1 v194.2.1.2.1 v194.2.1.2.2.2.1 v194.2.1.2.2.1 v194.2.1.2.2.2.2.1 v192.2.2.1.1 v192.2.2.1.2.1 v192.2.2.1.2.2.1))
noncomputable def F126_j7(N:Nat)(self:T0→Option T1)(v13 v21:Int)(v192:T13):Option T1:=
 gate N (F126_g7 N self v13 v21 v192 (F126_l8 N self N))
noncomputable def F126_g11(N:Nat)(self:T0→Option T1)(v281:List Int)(v282 v283 v309 v310:Int)(v311:List Ce):Option T1:=
 (some (i5 ((Ce.ifc 98 (Ce.ptr [(Ce.int .i64 v309),(Ce.sl v311),(Ce.int .i64 v310)])),(),(v281,v282,v283,()),())))
noncomputable def F126_j11(N:Nat)(self:T0→Option T1)(v281:List Int)(v282 v283 v309 v310:Int)(v311:List Ce):Option T1:=
 gate N (F126_g11 N self v281 v282 v283 v309 v310 v311)
noncomputable def F126_g10(N:Nat)(self:T0→Option T1)(v13:Int)(v254:T13)(c11:(List Int)→Int→Int→Int→Int→(List Ce)→Option T1)(r10:Int→Int→Int→(List Ce)→(List Int)→Int→Int→Option T1)(v277 v278 v279:Int)(v280:List Ce)(v281:List Int)(v282 v283:Int):Option T1:=
 (bif(decide ((v277:Int)<v254.1))then((self (v281,v282,v283,())).bind fun v284=>Sum.elim (fun v285=>(some (Sum.inl (Ce.nili,(),v285.2.2.1,())))) (fun v286=>Sum.elim (fun v287=>(some (Sum.inr (Sum.inl (Ce.nili,v287.2.1,v287.2.2.1,()))))) (fun v288=>Sum.elim (fun v289=>(some (i2 (Ce.nili,(),v289.2.2.1,())))) (fun v290=>Sum.elim (fun v291=>(some (i3 (Ce.nili,(),v291.2.2.1,())))) (fun v292=>Sum.elim (fun v293=>(some (i4 (Ce.nili,v293.2.1,v293.2.2.1,())))) (fun v294=>Sum.elim (fun v295=>((F40 N (v278,v280,v279,()) ([v295.1]:List Ce)).bind fun v301=>Sum.elim (fun v302=>(some (i7 (Ce.nili,v302.1,v295.2.2.1,())))) (fun v303=>((r10 (IntKind.u32.wrap (v277+1)) v303.2.1.1 v303.2.1.2.2.1 v303.2.1.2.1 v295.2.2.1.1 v295.2.2.1.2.1 v295.2.2.1.2.2.1))) v301)) (fun v296=>Sum.elim (fun v297=>(some (i6 (Ce.nili,v297.2.1,v297.2.2.1,())))) (fun v298=>Sum.elim (fun v299=>(some (i7 (Ce.nili,v299.2.1,v299.2.2.1,())))) (fun v300=>(some (Sum.inr (Sum.inr (Sum.inr (Sum.inr (Sum.inr (Sum.inr (Sum.inr (Sum.inr (Ce.nili,v300.2.1,v300.2.2.1,()))))))))))) v298) v296) v294) v292) v290) v288) v286) v284)else((F54 N N (v278,v280,v279,())).bind fun v304=>bif v304.1 then((F125 N (v278,v280,v279,())).bind fun v305=>(bif(v305.1==0)then((F43 N (v278,v280,v279,()) v13).bind fun v306=>Sum.elim (fun v307=>(some (i7 (Ce.nili,v307.1,(v281,v282,v283,()),())))) (fun v308=>(c11 v281 v282 v283 v308.2.1.1 v308.2.1.2.2.1 v308.2.1.2.1)) v306)else(c11 v281 v282 v283 v278 v279 v280)))else(c11 v281 v282 v283 v278 v279 v280)))
noncomputable def F126_l10(N:Nat)(self:T0→Option T1):Nat→Int→T13→Int→Int→Int→(List Ce)→(List Int)→Int→Int→Option T1
 |0,_,_,_,_,_,_,_,_,_=>none
 |n+1,v13,v254,v277,v278,v279,v280,v281,v282,v283=>F126_g10 N self v13 v254 (F126_j11 N self) (F126_l10 N self n v13 v254) v277 v278 v279 v280 v281 v282 v283
noncomputable def F126_g9(N:Nat)(self:T0→Option T1)(v13 v21:Int)(v254:T13)(c10:Int→T13→Int→Int→Int→(List Ce)→(List Int)→Int→Int→Option T1):Option T1:=
 (F36 N).bind fun v255=>(F37 N v255.1 (IntKind.i64.wrap v21)).bind fun v256=>((c10 v13 v254 0 v256.2.1.1 v256.2.1.2.2.1 v256.2.1.2.1 v254.2.2.1.1 v254.2.2.1.2.1 v254.2.2.1.2.2.1))
noncomputable def F126_j9(N:Nat)(self:T0→Option T1)(v13 v21:Int)(v254:T13):Option T1:=
 gate N (F126_g9 N self v13 v21 v254 (F126_l10 N self N))
noncomputable def F126_g2(N:Nat)(self:T0→Option T1)(v5:Ce)(v12:T13)(v13:Int)(c3 c5 c7 c9:Int→Int→T13→Option T1)(v21:Int)(v22:List Int)(v23 v24:Int):Option T1:=
 (bif((bits .andNot .u32 v12.1 3758096384)==1)then((F17 N v13).bind fun v25=>(F114 N (v22,v23,v24,()) v5 v25).bind fun v26=>Sum.elim (fun v27=>(some (i2 (Ce.nili,(),v27.2.2.1,())))) (fun v28=>Sum.elim (fun v29=>(some (i3 (Ce.nili,(),v29.2.2.1,())))) (fun v30=>Sum.elim (fun v31=>(some (Sum.inl (Ce.nili,(),v31.2.2.1,())))) (fun v32=>((F115 N v13 v32.1).bind fun v33=>Sum.elim (fun v34=>(F19 N v34.1 (IntKind.i64.wrap v21)).bind fun v36=>(some (i5 ((Ce.ifc 72 (Ce.ptr [(Ce.int .i64 v36.2.1.1),(Ce.int .i64 v36.2.1.2.1),(Ce.fl v36.2.1.2.2.1),(Ce.int .i64 v36.2.1.2.2.2.1)])),(),v32.2.2.1,())))) (fun v35=>(F19 N v35.1 (IntKind.i64.wrap v21)).bind fun v37=>(some (i5 ((Ce.ifc 72 (Ce.ptr [(Ce.int .i64 v37.2.1.1),(Ce.int .i64 v37.2.1.2.1),(Ce.fl v37.2.1.2.2.1),(Ce.int .i64 v37.2.1.2.2.2.1)])),(),v32.2.2.1,())))) v33)) v30) v28) v26)else(bif((bits .andNot .u32 v12.1 3758096384)==2)then((F17 N v13).bind fun v38=>(F116 N (v22,v23,v24,()) v5 v38).bind fun v39=>Sum.elim (fun v40=>(some (i2 (Ce.nili,(),v40.2.2.1,())))) (fun v41=>Sum.elim (fun v42=>(some (i3 (Ce.nili,(),v42.2.2.1,())))) (fun v43=>Sum.elim (fun v44=>(some (Sum.inl (Ce.nili,(),v44.2.2.1,())))) (fun v45=>Sum.elim (fun v46=>(some (i6 (Ce.nili,v46.2.1,v46.2.2.1,())))) (fun v47=>((F20 N v13 v47.1).bind fun v48=>(F21 N v48.1 (IntKind.i64.wrap v21)).bind fun v49=>(some (i5 ((Ce.ifc 75 (Ce.ptr [(Ce.int .i64 v49.2.1.1),(Ce.int .i64 v49.2.1.2.1),(Ce.fl v49.2.1.2.2.1),(Ce.int .i64 v49.2.1.2.2.2.1)])),(),v47.2.2.1,()))))) v45) v43) v41) v39)else(bif((bits .andNot .u32 v12.1 3758096384)==3)then((F17 N v13).bind fun v50=>(F117 N (v22,v23,v24,()) v5 v50).bind fun v51=>Sum.elim (fun v52=>(some (i2 (Ce.nili,(),v52.2.2.2.1,())))) (fun v53=>Sum.elim (fun v54=>(some (i3 (Ce.nili,(),v54.2.2.2.1,())))) (fun v55=>Sum.elim (fun v56=>(some (Sum.inl (Ce.nili,(),v56.2.2.2.1,())))) (fun v57=>Sum.elim (fun v58=>(some (i6 (Ce.nili,v58.2.2.1,v58.2.2.2.1,())))) (fun v59=>((F25 N v13 v59.1 v59.2.1).bind fun v60=>(F26 N v60.1 (IntKind.i64.wrap v21)).bind fun v61=>(some (i5 ((Ce.ifc 81 (Ce.ptr [(Ce.int .i64 v61.2.1.1),(Ce.int .i64 v61.2.1.2.1),(Ce.fl v61.2.1.2.2.1),(Ce.int .i64 v61.2.1.2.2.2.1),(Ce.il v61.2.1.2.2.2.2.1)])),(),v59.2.2.2.1,()))))) v57) v55) v53) v51)else(bif((bits .andNot .u32 v12.1 3758096384)==4)then((F106 N (v22,v23,v24,()) v5).bind fun v62=>Sum.elim (fun v63=>(some (i2 (Ce.nili,(),v63.2.2.1,())))) (fun v64=>Sum.elim (fun v65=>(some (i3 (Ce.nili,(),v65.2.2.1,())))) (fun v66=>Sum.elim (fun v67=>(some (Sum.inl (Ce.nili,(),v67.2.2.1,())))) (fun v68=>(bif(decide ((-1:Int)≥0))then(bif(decide (((IntKind.i64.wrap v68.1):Int)>(-1)))then(some (i6 (Ce.nili,(1,(IntKind.i64.wrap v68.1), -1,()),v68.2.2.1,())))else(c3 v13 v21 v68))else(c3 v13 v21 v68))) v66) v64) v62)else(bif((bits .andNot .u32 v12.1 3758096384)==5)then((F106 N (v22,v23,v24,()) v5).bind fun v124=>Sum.elim (fun v125=>(some (i2 (Ce.nili,(),v125.2.2.1,())))) (fun v126=>Sum.elim (fun v127=>(some (i3 (Ce.nili,(),v127.2.2.1,())))) (fun v128=>Sum.elim (fun v129=>(some (Sum.inl (Ce.nili,(),v129.2.2.1,())))) (fun v130=>(bif(decide ((-1:Int)≥0))then(bif(decide (((IntKind.i64.wrap v130.1):Int)>(-1)))then(some (i6 (Ce.nili,(2,(IntKind.i64.wrap v130.1), -1,()),v130.2.2.1,())))else(c5 v13 v21 v130))else(c5 v13 v21 v130))) v128) v126) v124)else(bif((bits .andNot .u32 v12.1 3758096384)==6)then((F106 N (v22,v23,v24,()) v5).bind fun v186=>Sum.elim (fun v187=>(some (i2 (Ce.nili,(),v187.2.2.1,())))) (fun v188=>Sum.elim (fun v189=>(some (i3 (Ce.nili,(),v189.2.2.1,())))) (fun v190=>Sum.elim (fun v191=>(some (Sum.inl (Ce.nili,(),v191.2.2.1,())))) (fun v192=>(bif(decide ((-1:Int)≥0))then(bif(decide (((IntKind.i64.wrap v192.1):Int)>(-1)))then(some (i6 (Ce.nili,(3,(IntKind.i64.wrap v192.1), -1,()),v192.2.2.1,())))else(c7 v13 v21 v192))else(c7 v13 v21 v192))) v190) v188) v186)else(bif((bits .andNot .u32 v12.1 3758096384)==7)then((F106 N (v22,v23,v24,()) v5).bind fun v248=>Sum.elim (fun v249=>(some (i2 (Ce.nili,(),v249.2.2.1,())))) (fun v250=>Sum.elim (fun v251=>(some (i3 (Ce.nili,(),v251.2.2.1,())))) (fun v252=>Sum.elim (fun v253=>(some (Sum.inl (Ce.nili,(),v253.2.2.1,())))) (fun v254=>(bif(decide ((-1:Int)≥0))then(bif(decide (((IntKind.i64.wrap v254.1):Int)>(-1)))then(some (i6 (Ce.nili,(1,(IntKind.i64.wrap v254.1), -1,()),v254.2.2.1,())))else(c9 v13 v21 v254))else(c9 v13 v21 v254))) v252) v250) v248)else(some (Sum.inr (Sum.inr (Sum.inr (Sum.inr (Sum.inr (Sum.inr (Sum.inr (Sum.inr (Ce.nili,v12.1,(v22,v23,v24,()),())))))))))))))))))
noncomputable def F126_j2(N:Nat)(self:T0→Option T1)(v5:Ce)(v12:T13)(v13 v21:Int)(v22:List Int)(v23 v24:Int):Option T1:=
 gate N (F126_g2 N self v5 v12 v13 (F126_j3 N self) (F126_j5 N self) (F126_j7 N self) (F126_j9 N self) v21 v22 v23 v24)
noncomputable def F126_g1(N:Nat)(self:T0→Option T1)(v5:Ce)(v12:T13)(c2:Ce→T13→Int→Int→(List Int)→Int→Int→Option T1)(v13:Int):Option T1:=
 (bif((bits .and .u32 v12.1 536870912) !=0)then((F106 N v12.2.2.1 v5).bind fun v14=>Sum.elim (fun v15=>(some (i2 (Ce.nili,(),v15.2.2.1,())))) (fun v16=>Sum.elim (fun v17=>(some (i3 (Ce.nili,(),v17.2.2.1,())))) (fun v18=>Sum.elim (fun v19=>(some (Sum.inl (Ce.nili,(),v19.2.2.1,())))) (fun v20=>(c2 v5 v12 v13 v20.1 v20.2.2.1.1 v20.2.2.1.2.1 v20.2.2.1.2.2.1)) v18) v16) v14)else(c2 v5 v12 v13 0 v12.2.2.1.1 v12.2.2.1.2.1 v12.2.2.1.2.2.1))
noncomputable def F126_j1(N:Nat)(self:T0→Option T1)(v5:Ce)(v12:T13)(v13:Int):Option T1:=
 gate N (F126_g1 N self v5 v12 (F126_j2 N self) v13)
noncomputable def F126_g0(N:Nat)(self:T0→Option T1)(v4:T13)(c1:Ce→T13→Int→Option T1)(v5:Ce):Option T1:=
 (F106 N v4.2.2.1 v5).bind fun v6=>Sum.elim (fun v7=>(some (i2 (Ce.nili,(),v7.2.2.1,())))) (fun v8=>Sum.elim (fun v9=>(some (i3 (Ce.nili,(),v9.2.2.1,())))) (fun v10=>Sum.elim (fun v11=>(some (Sum.inl (Ce.nili,(),v11.2.2.1,())))) (fun v12=>(bif((bits .and .u32 v12.1 3221225472)==0)then(c1 v5 v12 1)else(bif((bits .and .u32 v12.1 3221225472)==2147483648)then(c1 v5 v12 2)else(bif((bits .and .u32 v12.1 3221225472)==1073741824)then(c1 v5 v12 3)else(bif((bits .and .u32 v12.1 3221225472)==3221225472)then(c1 v5 v12 4)else(some (i4 (Ce.nili,v12.1,v12.2.2.1,())))))))) v10) v8) v6
noncomputable def F126_j0(N:Nat)(self:T0→Option T1)(v4:T13)(v5:Ce):Option T1:=
 gate N (F126_g0 N self v4 (F126_j1 N self) v5)
noncomputable def F126_g(N:Nat)(self:T0→Option T1)(v1:T0)(c0:T13→Ce→Option T1):Option T1:=
 ((F100 N (v1.1,v1.2.1,v1.2.2.1,())).bind fun v2=>Sum.elim (fun v3=>(some (Sum.inl (Ce.nili,(),v3.2.2.1,())))) (fun v4=>(bif(v4.1==0)then(c0 v4 (Ce.ifa 104 []))else(bif(v4.1==1)then(c0 v4 (Ce.ifa 105 []))else(some (Sum.inr (Sum.inl (Ce.nili,v4.1,v4.2.2.1,()))))))) v2)
noncomputable def F126(N:Nat):Nat→T0→Option T1
 |0,_=>none
 |d+1,v1=>F126_g N (F126 N d) v1 (F126_j0 N (F126 N d))
noncomputable def F126_con'(N d:Nat):Con2:=⟨61,[.ifc 66 (.box s0)],a0,fun x=>F126 N d x.1⟩
noncomputable def F126_E(N d:Nat):Env:=⟨Tryz.prog,N,[F17_con N],[nm 0 [0] [1000000],nm 1 [0] [1000000],nm 2 [0,4,5] [1000000],nm 3 [0,4,5,55] [1000000],nm 4 [0,4] [1000000],nm 5 [0,4] [1000000],nm 7 [0,4,57] [1000000],nm 8 [0,4,57,60] [1000000],nm 10 [0,4,64] [1000000],(11,⟨[],[],[(6, .unit)],[],[],[0,6],[1000000],some N⟩),nm 12 [0,5,6,7] [1000000],nm 13 [0,5,6,7,75] [1000000],nm 14 [0,6,7] [1000000],nm 15 [0,6,7,8] [1000000],nm 16 [0,6,7,8] [1000000],nm 18 [0,6,7,8,79] [1000000],nm 19 [0,6,7,8,79,82] [1000000],nm 21 [0,6,7,8,79,84] [1000000],nm 23 [0,6,7,8,79,86] [1000000],nm 25 [0,6,7,8,88] [1000000],ng N 26 [0,6,7,8,9] [1000000],nm 27 [0,6,7,8,9,10] [1000000],nm 28 [0,6,7,8,9,10,92] [1000000],nm 29 [0,5,6,7,8,9,10] [1000000],nm 30 [0,5,6,7,8,9,10,100] [1000000],ng N 31 [0,6,7,8,9,10] [1000000],nm 33 [0,6,7,9,10,103] [1000000],nm 34 [0,6,7,9,10,103,106] [1000000],nm 35 [9,10,11,12] [105650,1000000],nm 36 [9,10,11,12,117] [105650,1000000],nm 37 [9,10,11] [105650,1000000],nm 39 [0,6,7,9,10,103,126] [1000000],nm 40 [9,10,13,14] [106650,1000000],nm 41 [9,10,13,14,137] [106650,1000000],nm 42 [9,10,13] [106650,1000000],nm 44 [0,6,7,9,10,103,146] [1000000],nm 45 [9,10,15,16,17] [107650,107651,1000000],nm 46 [9,10,15,16,17,158] [107650,107651,1000000],nm 47 [9,10,15,16] [107650,107651,1000000],nm 49 [0,6,7,9,10,103,168] [1000000],nm 50 [0,9,10,18,19] [1000000],nm 51 [0,9,10,18,19,177] [1000000],nm 52 [0,9,10,18] [1000000],nm 53 [0,9,10,18,20] [1000000],nm 54 [0,9,10,18,20,188] [1000000],ng N 55 [0,9,10,18] [1000000],nm 56 [0,18,21] [109750,109751,109752,1000000],nm 57 [0,21,199,200] [109750,109751,109752,1000000],nm 58 [0,21,199,200] [109750,109751,109752,1000000],nm 59 [0,21,22,23,199,200] [109750,109751,109752,1000000],nm 60 [0,21,22,23,199,200,208] [109750,109751,109752,1000000],nm 61 [0,21,22,199,200] [109750,109751,109752,1000000],nm 62 [0,21,22,24,25,199,200] [109750,109751,109752,1000000],nm 63 [0,21,22,24,199,200,216] [109750,109751,109752,1000000],nm 64 [0,21,24,199,200] [109750,109751,109752,1000000],nm 65 [0,21,23,199,200] [109750,109751,109752,1000000],nm 66 [0,21,23,199,200,227] [109750,109751,109752,1000000],nm 67 [0,21,199,200] [109750,109751,109752,1000000],nm 68 [21] [109750,109751,109752,1000000],nm 70 [0,6,7,9,10,103,232] [1000000],nm 71 [0,9,10,26,27] [1000000],nm 72 [0,9,10,26,27,241] [1000000],nm 73 [0,9,10,26] [1000000],nm 74 [0,9,10,26,28] [1000000],nm 75 [0,9,10,26,28,252] [1000000],ng N 76 [0,9,10,26] [1000000],nm 77 [0,26,29] [112950,112951,112952,1000000],nm 78 [0,29,263,264] [112950,112951,112952,1000000],nm 79 [0,29,263,264] [112950,112951,112952,1000000],nm 80 [0,29,30,31,263,264] [112950,112951,112952,1000000],nm 81 [0,29,30,31,263,264,272] [112950,112951,112952,1000000],nm 82 [0,29,30,263,264] [112950,112951,112952,1000000],nm 83 [0,29,30,32,33,263,264] [112950,112951,112952,1000000],nm 84 [0,29,30,32,263,264,280] [112950,112951,112952,1000000],nm 85 [0,29,32,263,264] [112950,112951,112952,1000000],nm 86 [0,29,31,263,264] [112950,112951,112952,1000000],nm 87 [0,29,31,263,264,291] [112950,112951,112952,1000000],nm 88 [0,29,263,264] [112950,112951,112952,1000000],nm 89 [29] [112950,112951,112952,1000000],nm 91 [0,6,7,9,10,103,296] [1000000],nm 92 [0,9,10,34,35] [1000000],nm 93 [0,9,10,34,35,305] [1000000],nm 94 [0,9,10,34] [1000000],nm 95 [0,9,10,34,36] [1000000],nm 96 [0,9,10,34,36,316] [1000000],ng N 97 [0,9,10,34] [1000000],nm 98 [0,34,37] [116150,116151,116152,1000000],nm 99 [0,37,327,328] [116150,116151,116152,1000000],nm 100 [0,37,327,328] [116150,116151,116152,1000000],nm 101 [0,37,38,39,327,328] [116150,116151,116152,1000000],nm 102 [0,37,38,39,327,328,336] [116150,116151,116152,1000000],nm 103 [0,37,38,327,328] [116150,116151,116152,1000000],nm 104 [0,37,38,40,41,327,328] [116150,116151,116152,1000000],nm 105 [0,37,38,40,327,328,344] [116150,116151,116152,1000000],nm 106 [0,37,40,327,328] [116150,116151,116152,1000000],nm 107 [0,37,39,327,328] [116150,116151,116152,1000000],nm 108 [0,37,39,327,328,355] [116150,116151,116152,1000000],nm 109 [0,37,327,328] [116150,116151,116152,1000000],nm 110 [37] [116150,116151,116152,1000000],nm 112 [0,6,7,9,10,360] [1000000],nm 113 [0,9,10,42,43] [1000000],nm 114 [0,9,10,42,43,369] [1000000],nm 115 [0,9,10,42] [1000000],nm 116 [0,9,10,42,44] [1000000],nm 117 [0,9,10,42,44,380] [1000000],ng N 118 [0,9,10,42] [1000000],nm 119 [0,9,42,45] [119300,119301,1000000],nm 120 [0,9,45,390,391] [119300,119301,1000000],nm 121 [0,9,45,390,391] [119300,119301,1000000],nm 122 [0,9,45,46,47,390,391] [119300,119301,1000000],nm 123 [0,9,45,46,47,390,391,399] [119300,119301,1000000],nm 124 [0,9,45,46,390,391] [119300,119301,1000000],nm 125 [0,9,45,47,390,391] [119300,119301,1000000],nm 126 [0,9,45,47,390,391,406] [119300,119301,1000000],nm 127 [0,9,45,390,391] [119300,119301,1000000],nm 128 [9,45] [119300,119301,1000000],nm 129 [9,45,415] [119300,119301,1000000],nm 130 [45,48] [119300,119301,1000000],nm 131 [45,48,420] [119300,119301,1000000],ng N 132 [45] [119300,119301,1000000]],kdL [(50, .any),(72, .any),(75, .any),(81, .any)],[F126_con' N d,F100_con N,F106_con N,F114_con N,F115_con N,F19_con N,F116_con N,F20_con N,F21_con N,F117_con N,F25_con N,F26_con N,F119_con N,F30_con N,F120_con N,F121_con N,F32_con N,F122_con N,F123_con N,F35_con N,F124_con N,F36_con N,F37_con N,F40_con N,F54_con N,F125_con N,F43_con N],[],(GL N),tl0,[]⟩
noncomputable def q26(N d:Nat):=kEnd2 (F126_E N d) [] Tryz.f61.results.toList a0 [.iface 66 (.ref 1000000 0)]
noncomputable def q27(N d:Nat):=kBlock 2 (q26 N d)
noncomputable def F126_e4(N d n:Nat)(v68:T13)(v93 v94 v95 v96:Int)(v97:List Nat)(v98 v99:List Int)(v100 v101:Int):=
 lq (F126_E N d) (c61 [1,1,1,1,1,1,1,1,1,1,1,1,1,0,1,1,1,1,1,1,1,0,1,1,1,1,0,1,0,0]) n ⟨[(0, .iface 66 (.ref 1000000 0)),(21, .ref 109750 0),(199, .pv (.int .u32) v68.1),(200, .pv (.int .u32) v93)],[(109750, .box [.pv (.int .i64) v94, .pv (.int .i64) v95, .own .float 109751, .pv (.int .i64) v96, .own (.int .i64) 109752]),(109751, .arr 65 .float v97),(109752, .arr 3 (.int .i64) v98),(1000000, .box [.pv (.list (.int .u8)) v99, .pv (.int .i64) v100, .pv (.int .i8) v101])],[]⟩ (kBlock 3 (kq (F126_E N d) (c61 [1,1,1,1,1,1,1,1,1,1,1,1,1,0,1,1,1,1,1,1,1,0,1,1,1,1,1]) (q27 N d)))
noncomputable def F126_e3(N d:Nat)(v13 v21:Int)(v68:T13):=
 gate N (evC (F126_E N d) (c61 [1,1,1,1,1,1,1,1,1,1,1,1,1,0,1,1,1,1,1,1,1,0,1,1,1]) ⟨[(0, .iface 66 (.ref 1000000 0)),(9, .pv (.int .i64) v13),(10, .pv (.int .u32) v21),(18, .pv (.int .u32) v68.1)],[(1000000, .box [.pv (.list (.int .u8)) v68.2.2.1.1, .pv (.int .i64) v68.2.2.1.2.1, .pv (.int .i8) v68.2.2.1.2.2.1])],[]⟩ (q27 N d))
noncomputable def F126_e6(N d n:Nat)(v130:T13)(v155 v156 v157 v158:Int)(v159:List Nat)(v160 v161:List Int)(v162 v163:Int):=
 lq (F126_E N d) (c61 [1,1,1,1,1,1,1,1,1,1,1,1,1,0,1,1,1,1,1,1,1,1,1,0,1,1,1,1,0,1,0,0]) n ⟨[(0, .iface 66 (.ref 1000000 0)),(29, .ref 112950 0),(263, .pv (.int .u32) v130.1),(264, .pv (.int .u32) v155)],[(112950, .box [.pv (.int .i64) v156, .pv (.int .i64) v157, .own .float 112951, .pv (.int .i64) v158, .own (.int .i64) 112952]),(112951, .arr 65 .float v159),(112952, .arr 3 (.int .i64) v160),(1000000, .box [.pv (.list (.int .u8)) v161, .pv (.int .i64) v162, .pv (.int .i8) v163])],[]⟩ (kBlock 5 (kq (F126_E N d) (c61 [1,1,1,1,1,1,1,1,1,1,1,1,1,0,1,1,1,1,1,1,1,1,1,0,1,1,1,1,1]) (q27 N d)))
noncomputable def F126_e5(N d:Nat)(v13 v21:Int)(v130:T13):=
 gate N (evC (F126_E N d) (c61 [1,1,1,1,1,1,1,1,1,1,1,1,1,0,1,1,1,1,1,1,1,1,1,0,1,1,1]) ⟨[(0, .iface 66 (.ref 1000000 0)),(9, .pv (.int .i64) v13),(10, .pv (.int .u32) v21),(26, .pv (.int .u32) v130.1)],[(1000000, .box [.pv (.list (.int .u8)) v130.2.2.1.1, .pv (.int .i64) v130.2.2.1.2.1, .pv (.int .i8) v130.2.2.1.2.2.1])],[]⟩ (q27 N d))
noncomputable def F126_e8(N d n:Nat)(v192:T13)(v217 v218 v219 v220:Int)(v221:List Nat)(v222:T20)(v223:List Int)(v224 v225:Int):=
 lq (F126_E N d) (c61 [1,1,1,1,1,1,1,1,1,1,1,1,1,0,1,1,1,1,1,1,1,1,1,1,1,0,1,1,1,1,0,1,0,0]) n ⟨[(0, .iface 66 (.ref 1000000 0)),(37, .ref 116150 0),(327, .pv (.int .u32) v192.1),(328, .pv (.int .u32) v217)],[(116150, .box [.pv (.int .i64) v218, .pv (.int .i64) v219, .own .float 116151, .pv (.int .i64) v220, .own (.list (.int .i64)) 116152]),(116151, .arr 65 .float v221),(116152, .arr 23 (.list (.int .i64)) v222),(1000000, .box [.pv (.list (.int .u8)) v223, .pv (.int .i64) v224, .pv (.int .i8) v225])],[]⟩ (kBlock 7 (kq (F126_E N d) (c61 [1,1,1,1,1,1,1,1,1,1,1,1,1,0,1,1,1,1,1,1,1,1,1,1,1,0,1,1,1,1,1]) (q27 N d)))
noncomputable def F126_e7(N d:Nat)(v13 v21:Int)(v192:T13):=
 gate N (evC (F126_E N d) (c61 [1,1,1,1,1,1,1,1,1,1,1,1,1,0,1,1,1,1,1,1,1,1,1,1,1,0,1,1,1]) ⟨[(0, .iface 66 (.ref 1000000 0)),(9, .pv (.int .i64) v13),(10, .pv (.int .u32) v21),(34, .pv (.int .u32) v192.1)],[(1000000, .box [.pv (.list (.int .u8)) v192.2.2.1.1, .pv (.int .i64) v192.2.2.1.2.1, .pv (.int .i8) v192.2.2.1.2.2.1])],[]⟩ (q27 N d))
noncomputable def F126_e11(N d:Nat)(v281:List Int)(v282 v283 v309 v310:Int)(v311:List Ce):=
 gate N (evC (F126_E N d) (c61 [1,1,1,1,1,1,1,1,1,1,1,1,1,0,1,1,1,1,1,1,1,1,1,1,1,1,1,0,1,1,1,1,1,1]) ⟨[(45, .ref 119300 0)],[(119300, .box [.pv (.int .i64) v309, .own .any 119301, .pv (.int .i64) v310]),(119301, .arr 50 .any v311),(1000000, .box [.pv (.list (.int .u8)) v281, .pv (.int .i64) v282, .pv (.int .i8) v283])],[]⟩ (q27 N d))
noncomputable def F126_e10(N d n:Nat)(v13:Int)(v254:T13)(v277 v278 v279:Int)(v280:List Ce)(v281:List Int)(v282 v283:Int):=
 lq (F126_E N d) (c61 [1,1,1,1,1,1,1,1,1,1,1,1,1,0,1,1,1,1,1,1,1,1,1,1,1,1,1,0,1,1,1,1,0,1,0,0]) n ⟨[(0, .iface 66 (.ref 1000000 0)),(9, .pv (.int .i64) v13),(45, .ref 119300 0),(390, .pv (.int .u32) v254.1),(391, .pv (.int .u32) v277)],[(119300, .box [.pv (.int .i64) v278, .own .any 119301, .pv (.int .i64) v279]),(119301, .arr 50 .any v280),(1000000, .box [.pv (.list (.int .u8)) v281, .pv (.int .i64) v282, .pv (.int .i8) v283])],[]⟩ (kBlock 9 (kq (F126_E N d) (c61 [1,1,1,1,1,1,1,1,1,1,1,1,1,0,1,1,1,1,1,1,1,1,1,1,1,1,1,0,1,1,1,1,1]) (q27 N d)))
noncomputable def F126_e9(N d:Nat)(v13 v21:Int)(v254:T13):=
 gate N (evC (F126_E N d) (c61 [1,1,1,1,1,1,1,1,1,1,1,1,1,0,1,1,1,1,1,1,1,1,1,1,1,1,1,0,1,1,1]) ⟨[(0, .iface 66 (.ref 1000000 0)),(9, .pv (.int .i64) v13),(10, .pv (.int .u32) v21),(42, .pv (.int .u32) v254.1)],[(1000000, .box [.pv (.list (.int .u8)) v254.2.2.1.1, .pv (.int .i64) v254.2.2.1.2.1, .pv (.int .i8) v254.2.2.1.2.2.1])],[]⟩ (q27 N d))
noncomputable def F126_e2(N d:Nat)(v5:Ce)(v12:T13)(v13 v21:Int)(v22:List Int)(v23 v24:Int):=
 gate N (evC (F126_E N d) (c61 [1,1,1,1,1,1,1,1,1,1,1,1]) ⟨[(0, .iface 66 (.ref 1000000 0)),(6, .pv .any v5),(7, .pv (.int .u32) v12.1),(8, .pv (.int .u32) v12.1),(9, .pv (.int .i64) v13),(10, .pv (.int .u32) v21)],[(1000000, .box [.pv (.list (.int .u8)) v22, .pv (.int .i64) v23, .pv (.int .i8) v24])],[]⟩ (q26 N d))
noncomputable def F126_e1(N d:Nat)(v5:Ce)(v12:T13)(v13:Int):=
 gate N (evC (F126_E N d) (c61 [1,1,1,1,1,1,1,1,1,1]) ⟨[(0, .iface 66 (.ref 1000000 0)),(6, .pv .any v5),(7, .pv (.int .u32) v12.1),(8, .pv (.int .u32) v12.1),(9, .pv (.int .i64) v13)],[(1000000, .box [.pv (.list (.int .u8)) v12.2.2.1.1, .pv (.int .i64) v12.2.2.1.2.1, .pv (.int .i8) v12.2.2.1.2.2.1])],[]⟩ (q26 N d))
noncomputable def F126_e0(N d:Nat)(v4:T13)(v5:Ce):=
 gate N (evC (F126_E N d) (c61 [1,1,1,1,1]) ⟨[(0, .iface 66 (.ref 1000000 0)),(6, .pv .any v5)],[(1000000, .box [.pv (.list (.int .u8)) v4.2.2.1.1, .pv (.int .i64) v4.2.2.1.2.1, .pv (.int .i8) v4.2.2.1.2.2.1])],[]⟩ (q26 N d))
theorem F126_t4(N d:Nat):∀(n:Nat) (v68:T13) (v93 v94 v95 v96:Int) (v97:List Nat) (v98 v99:List Int) (v100 v101:Int),F126_e4 N d n v68 v93 v94 v95 v96 v97 v98 v99 v100 v101=F126_l4 N (F126 N d) n v68 v93 v94 v95 v96 v97 v98 v99 v100 v101
 |0,_,_,_,_,_,_,_,_,_,_=>rfl
 |n+1,v68,v93,v94,v95,v96,v97,v98,v99,v100,v101=>by
  have h:F126_e4 N d n v68=F126_l4 N (F126 N d) n v68:=by funext v93 v94 v95 v96 v97 v98 v99 v100 v101;exact F126_t4 N d n v68 v93 v94 v95 v96 v97 v98 v99 v100 v101
  exact Eq.trans (b:=F126_g4 N (F126 N d) v68 (F126_e4 N d n v68) v93 v94 v95 v96 v97 v98 v99 v100 v101) (by kernel_rfl) (by rw[h];rfl)
theorem F126_t3(N d:Nat)(v13 v21:Int)(v68:T13):F126_e3 N d v13 v21 v68=F126_j3 N (F126 N d) v13 v21 v68:=by
 have h4:(F126_e4 N d N)=(F126_l4 N (F126 N d) N):=by funext v68 v93 v94 v95 v96 v97 v98 v99 v100 v101;exact F126_t4 N d N v68 v93 v94 v95 v96 v97 v98 v99 v100 v101
 exact(congrArg (gate N) (show _=F126_g3 N (F126 N d) v13 v21 v68 (F126_e4 N d N)from by kernel_rfl)).trans (by rw[h4];rfl)
theorem F126_t6(N d:Nat):∀(n:Nat) (v130:T13) (v155 v156 v157 v158:Int) (v159:List Nat) (v160 v161:List Int) (v162 v163:Int),F126_e6 N d n v130 v155 v156 v157 v158 v159 v160 v161 v162 v163=F126_l6 N (F126 N d) n v130 v155 v156 v157 v158 v159 v160 v161 v162 v163
 |0,_,_,_,_,_,_,_,_,_,_=>rfl
 |n+1,v130,v155,v156,v157,v158,v159,v160,v161,v162,v163=>by
  have h:F126_e6 N d n v130=F126_l6 N (F126 N d) n v130:=by funext v155 v156 v157 v158 v159 v160 v161 v162 v163;exact F126_t6 N d n v130 v155 v156 v157 v158 v159 v160 v161 v162 v163
  exact Eq.trans (b:=F126_g6 N (F126 N d) v130 (F126_e6 N d n v130) v155 v156 v157 v158 v159 v160 v161 v162 v163) (by kernel_rfl) (by rw[h];rfl)
theorem F126_t5(N d:Nat)(v13 v21:Int)(v130:T13):F126_e5 N d v13 v21 v130=F126_j5 N (F126 N d) v13 v21 v130:=by
 have h6:(F126_e6 N d N)=(F126_l6 N (F126 N d) N):=by funext v130 v155 v156 v157 v158 v159 v160 v161 v162 v163;exact F126_t6 N d N v130 v155 v156 v157 v158 v159 v160 v161 v162 v163
 exact(congrArg (gate N) (show _=F126_g5 N (F126 N d) v13 v21 v130 (F126_e6 N d N)from by kernel_rfl)).trans (by rw[h6];rfl)
theorem F126_t8(N d:Nat):∀(n:Nat) (v192:T13) (v217 v218 v219 v220:Int) (v221:List Nat) (v222:T20) (v223:List Int) (v224 v225:Int),F126_e8 N d n v192 v217 v218 v219 v220 v221 v222 v223 v224 v225=F126_l8 N (F126 N d) n v192 v217 v218 v219 v220 v221 v222 v223 v224 v225
 |0,_,_,_,_,_,_,_,_,_,_=>rfl
 |n+1,v192,v217,v218,v219,v220,v221,v222,v223,v224,v225=>by
  have h:F126_e8 N d n v192=F126_l8 N (F126 N d) n v192:=by funext v217 v218 v219 v220 v221 v222 v223 v224 v225;exact F126_t8 N d n v192 v217 v218 v219 v220 v221 v222 v223 v224 v225
  exact Eq.trans (b:=F126_g8 N (F126 N d) v192 (F126_e8 N d n v192) v217 v218 v219 v220 v221 v222 v223 v224 v225) (by kernel_rfl) (by rw[h];rfl)
theorem F126_t7(N d:Nat)(v13 v21:Int)(v192:T13):F126_e7 N d v13 v21 v192=F126_j7 N (F126 N d) v13 v21 v192:=by
 have h8:(F126_e8 N d N)=(F126_l8 N (F126 N d) N):=by funext v192 v217 v218 v219 v220 v221 v222 v223 v224 v225;exact F126_t8 N d N v192 v217 v218 v219 v220 v221 v222 v223 v224 v225
 exact(congrArg (gate N) (show _=F126_g7 N (F126 N d) v13 v21 v192 (F126_e8 N d N)from by kernel_rfl)).trans (by rw[h8];rfl)
theorem F126_t11(N d:Nat)(v281:List Int)(v282 v283 v309 v310:Int)(v311:List Ce):F126_e11 N d v281 v282 v283 v309 v310 v311=F126_j11 N (F126 N d) v281 v282 v283 v309 v310 v311:=by
 exact(congrArg (gate N) (show _=F126_g11 N (F126 N d) v281 v282 v283 v309 v310 v311 from by kernel_rfl)).trans (by rfl)
theorem F126_t10(N d:Nat):∀(n:Nat) (v13:Int) (v254:T13) (v277 v278 v279:Int) (v280:List Ce) (v281:List Int) (v282 v283:Int),F126_e10 N d n v13 v254 v277 v278 v279 v280 v281 v282 v283=F126_l10 N (F126 N d) n v13 v254 v277 v278 v279 v280 v281 v282 v283
 |0,_,_,_,_,_,_,_,_,_=>rfl
 |n+1,v13,v254,v277,v278,v279,v280,v281,v282,v283=>by
  have h11:(F126_e11 N d)=(F126_j11 N (F126 N d)):=by funext v281 v282 v283 v309 v310 v311;exact F126_t11 N d v281 v282 v283 v309 v310 v311
  have h:F126_e10 N d n v13 v254=F126_l10 N (F126 N d) n v13 v254:=by funext v277 v278 v279 v280 v281 v282 v283;exact F126_t10 N d n v13 v254 v277 v278 v279 v280 v281 v282 v283
  exact Eq.trans (b:=F126_g10 N (F126 N d) v13 v254 (F126_e11 N d) (F126_e10 N d n v13 v254) v277 v278 v279 v280 v281 v282 v283) (by kernel_rfl) (by rw[h11,h];rfl)
theorem F126_t9(N d:Nat)(v13 v21:Int)(v254:T13):F126_e9 N d v13 v21 v254=F126_j9 N (F126 N d) v13 v21 v254:=by
 have h10:(F126_e10 N d N)=(F126_l10 N (F126 N d) N):=by funext v13 v254 v277 v278 v279 v280 v281 v282 v283;exact F126_t10 N d N v13 v254 v277 v278 v279 v280 v281 v282 v283
 exact(congrArg (gate N) (show _=F126_g9 N (F126 N d) v13 v21 v254 (F126_e10 N d N)from by kernel_rfl)).trans (by rw[h10];rfl)
theorem F126_t2(N d:Nat)(v5:Ce)(v12:T13)(v13 v21:Int)(v22:List Int)(v23 v24:Int):F126_e2 N d v5 v12 v13 v21 v22 v23 v24=F126_j2 N (F126 N d) v5 v12 v13 v21 v22 v23 v24:=by
 have h3:(F126_e3 N d)=(F126_j3 N (F126 N d)):=by funext v13 v21 v68;exact F126_t3 N d v13 v21 v68
 have h5:(F126_e5 N d)=(F126_j5 N (F126 N d)):=by funext v13 v21 v130;exact F126_t5 N d v13 v21 v130
 have h7:(F126_e7 N d)=(F126_j7 N (F126 N d)):=by funext v13 v21 v192;exact F126_t7 N d v13 v21 v192
 have h9:(F126_e9 N d)=(F126_j9 N (F126 N d)):=by funext v13 v21 v254;exact F126_t9 N d v13 v21 v254
 exact(congrArg (gate N) (show _=F126_g2 N (F126 N d) v5 v12 v13 (F126_e3 N d) (F126_e5 N d) (F126_e7 N d) (F126_e9 N d) v21 v22 v23 v24 from by kernel_rfl)).trans (by rw[h3,h5,h7,h9];rfl)
theorem F126_t1(N d:Nat)(v5:Ce)(v12:T13)(v13:Int):F126_e1 N d v5 v12 v13=F126_j1 N (F126 N d) v5 v12 v13:=by
 have h2:(F126_e2 N d)=(F126_j2 N (F126 N d)):=by funext v5 v12 v13 v21 v22 v23 v24;exact F126_t2 N d v5 v12 v13 v21 v22 v23 v24
 exact(congrArg (gate N) (show _=F126_g1 N (F126 N d) v5 v12 (F126_e2 N d) v13 from by kernel_rfl)).trans (by rw[h2];rfl)
theorem F126_t0(N d:Nat)(v4:T13)(v5:Ce):F126_e0 N d v4 v5=F126_j0 N (F126 N d) v4 v5:=by
 have h1:(F126_e1 N d)=(F126_j1 N (F126 N d)):=by funext v5 v12 v13;exact F126_t1 N d v5 v12 v13
 exact(congrArg (gate N) (show _=F126_g0 N (F126 N d) v4 (F126_e1 N d) v5 from by kernel_rfl)).trans (by rw[h1];rfl)
theorem F126_t(N d:Nat)(v1:T0):evF2 (F126_E N d) [] Tryz.f61 [.ifc 66 (.box s0)] a0 (v1,())=F126 N (d+1) v1:=by
 have h0:(F126_e0 N d)=(F126_j0 N (F126 N d)):=by funext v4 v5;exact F126_t0 N d v4 v5
 exact Eq.trans (b:=F126_g N (F126 N d) v1 (F126_e0 N d)) (by kernel_rfl) (by rw[h0];rfl)
theorem F126_s'(N:Nat):∀d,(F126_con' N d).Sound Tryz.prog (GL N)
 |0=>fun _ _ _ _ _ _ _ _ _ _ _ h=>by cases h
 |d+1=>Con2.sound_of (c:=F126_con' N (d+1)) (E:=(F126_E N d)) (idle:=[]) Tryz.func61 (by kernel_rfl) (by kernel_rfl) ⟨(allCons (F17_s N) allNil),(allCons (F126_s' N d) (allCons (F100_s N) (allCons (F106_s N) (allCons (F114_s N) (allCons (F115_s N) (allCons (F19_s N) (allCons (F116_s N) (allCons (F20_s N) (allCons (F21_s N) (allCons (F117_s N) (allCons (F25_s N) (allCons (F26_s N) (allCons (F119_s N) (allCons (F30_s N) (allCons (F120_s N) (allCons (F121_s N) (allCons (F32_s N) (allCons (F122_s N) (allCons (F123_s N) (allCons (F35_s N) (allCons (F124_s N) (allCons (F36_s N) (allCons (F37_s N) (allCons (F40_s N) (allCons (F54_s N) (allCons (F125_s N) (allCons (F43_s N) allNil))))))))))))))))))))))))))),rfl⟩ allNil (fun x y h=>(F126_t N d x.1).trans h)
noncomputable def F126_con(N:Nat):Con2:=F126_con' N N
theorem F126_s(N:Nat):(F126_con N).Sound Tryz.prog (GL N):=F126_s' N N
noncomputable def F127_E(N:Nat):Env:=⟨Tryz.prog,N,[],[nm 0 [0] [],nm 1 [0] []],kdL [],[F96_con N,F126_con N],[],(GL N),tl0,[]⟩
noncomputable def F127_g(N:Nat)(v1:List Int):Option ((Ce×Unit×Unit)⊕(Ce×Int×Unit)⊕(Ce×Unit×Unit)⊕(Ce×Unit×Unit)⊕(Ce×Int×Unit)⊕(Ce×Unit×Unit)⊕(Ce×(Int×T18)×Unit)⊕(Ce×T18×Unit)⊕(Ce×Int×Unit)):=
 ((F96 N v1).bind fun v2=>(F126 N N v2.1).bind fun v3=>Sum.elim (fun v4=>(some (Sum.inl (v4.1,(),())))) (fun v5=>Sum.elim (fun v6=>(some (Sum.inr (Sum.inl (v6.1,v6.2.1,()))))) (fun v7=>Sum.elim (fun v8=>(some (i2 (v8.1,(),())))) (fun v9=>Sum.elim (fun v10=>(some (i3 (v10.1,(),())))) (fun v11=>Sum.elim (fun v12=>(some (i4 (v12.1,v12.2.1,())))) (fun v13=>Sum.elim (fun v14=>(some (i5 (v14.1,(),())))) (fun v15=>Sum.elim (fun v16=>(some (i6 (v16.1,v16.2.1,())))) (fun v17=>Sum.elim (fun v18=>(some (i7 (v18.1,v18.2.1,())))) (fun v19=>(some (Sum.inr (Sum.inr (Sum.inr (Sum.inr (Sum.inr (Sum.inr (Sum.inr (Sum.inr (v19.1,v19.2.1,()))))))))))) v17) v15) v13) v11) v9) v7) v5) v3)
noncomputable def F127(N:Nat)(v1:List Int):Option ((Ce×Unit×Unit)⊕(Ce×Int×Unit)⊕(Ce×Unit×Unit)⊕(Ce×Unit×Unit)⊕(Ce×Int×Unit)⊕(Ce×Unit×Unit)⊕(Ce×(Int×T18)×Unit)⊕(Ce×T18×Unit)⊕(Ce×Int×Unit)):=
 F127_g N v1
theorem F127_t(N:Nat)(v1:List Int):evF2 (F127_E N) [] Tryz.f25 s11 a25 (v1,())=F127 N v1:=
 Eq.trans (b:=F127_g N v1) (by kernel_rfl) rfl
noncomputable def F127_con(N:Nat):Con2:=⟨25,s11,a25,fun x=>F127 N x.1⟩
theorem F127_s(N:Nat):(F127_con N).Sound Tryz.prog (GL N):=
 Con2.sound_of (c:=F127_con N) (E:=(F127_E N)) (idle:=[]) Tryz.func25 (by kernel_rfl) (by kernel_rfl) ⟨allNil,(allCons (F96_s N) (allCons (F126_s N) allNil)),rfl⟩ allNil (fun x y h=>(F127_t N x.1).trans h)
noncomputable def F128_E(N:Nat):Env:=⟨Tryz.prog,N,[],[nm 0 [0,1] [],nm 1 [0,1,4] [4],nm 2 [0,4,7] [4],nm 3 [0,4] []],kdL [],[],[],(GL N),tl0,[]⟩
noncomputable def F128_g(N:Nat)(v1:Ce):Option ((T5×Bool×Unit)):=
 (some ((0,0,0,([]:List Nat),([]:List Int),([]:List (List Int)),([]:List Geo),()),false,()))
noncomputable def F128(N:Nat)(v1:Ce):Option ((T5×Bool×Unit)):=
 F128_g N v1
theorem F128_t(N:Nat)(v1:Ce):evF2 (F128_E N) [] Tryz.f24 [.k .any, .ifc 222 (.ep 5)] a13 (v1,(),())=F128 N v1:=
 Eq.trans (b:=F128_g N v1) (by kernel_rfl) rfl
noncomputable def F128_con(N:Nat):Con2:=⟨24,[.k .any, .ifc 222 (.ep 5)],a13,fun x=>F128 N x.1⟩
theorem F128_s(N:Nat):(F128_con N).Sound Tryz.prog (GL N):=
 Con2.sound_of (c:=F128_con N) (E:=(F128_E N)) (idle:=[]) Tryz.func24 (by kernel_rfl) (by kernel_rfl) ⟨allNil,allNil,rfl⟩ allNil (fun x y h=>(F128_t N x.1).trans h)
noncomputable def F129_E(N:Nat):Env:=⟨Tryz.prog,N,[],[nm 0 [0,1] [],nm 1 [0,1,4] [4],nm 2 [0,4,7] [4],nm 3 [0,4] []],kdL [],[],[],(GL N),tl0,[]⟩
noncomputable def F129_g(N:Nat)(v1:Ce):Option ((T5×Bool×Unit)):=
 (some ((0,0,0,([]:List Nat),([]:List Int),([]:List (List Int)),([]:List Geo),()),false,()))
noncomputable def F129(N:Nat)(v1:Ce):Option ((T5×Bool×Unit)):=
 F129_g N v1
theorem F129_t(N:Nat)(v1:Ce):evF2 (F129_E N) [] Tryz.f24 [.k .any, .ifc 222 (.ep 4)] a13 (v1,(),())=F129 N v1:=
 Eq.trans (b:=F129_g N v1) (by kernel_rfl) rfl
noncomputable def F129_con(N:Nat):Con2:=⟨24,[.k .any, .ifc 222 (.ep 4)],a13,fun x=>F129 N x.1⟩
theorem F129_s(N:Nat):(F129_con N).Sound Tryz.prog (GL N):=
 Con2.sound_of (c:=F129_con N) (E:=(F129_E N)) (idle:=[]) Tryz.func24 (by kernel_rfl) (by kernel_rfl) ⟨allNil,allNil,rfl⟩ allNil (fun x y h=>(F129_t N x.1).trans h)
noncomputable def F130_E(N:Nat):Env:=⟨Tryz.prog,N,[],[nm 0 [0,1] [],nm 1 [0,1,4] [4],nm 2 [0,4,7] [4],nm 3 [0,4] []],kdL [],[],[],(GL N),tl0,[]⟩
noncomputable def F130_g(N:Nat)(v1:Ce):Option ((T5×Bool×Unit)):=
 (some ((0,0,0,([]:List Nat),([]:List Int),([]:List (List Int)),([]:List Geo),()),false,()))
noncomputable def F130(N:Nat)(v1:Ce):Option ((T5×Bool×Unit)):=
 F130_g N v1
theorem F130_t(N:Nat)(v1:Ce):evF2 (F130_E N) [] Tryz.f24 [.k .any, .ifc 222 (.ep 6)] a13 (v1,(),())=F130 N v1:=
 Eq.trans (b:=F130_g N v1) (by kernel_rfl) rfl
noncomputable def F130_con(N:Nat):Con2:=⟨24,[.k .any, .ifc 222 (.ep 6)],a13,fun x=>F130 N x.1⟩
theorem F130_s(N:Nat):(F130_con N).Sound Tryz.prog (GL N):=
 Con2.sound_of (c:=F130_con N) (E:=(F130_E N)) (idle:=[]) Tryz.func24 (by kernel_rfl) (by kernel_rfl) ⟨allNil,allNil,rfl⟩ allNil (fun x y h=>(F130_t N x.1).trans h)
noncomputable def F131_E(N:Nat):Env:=⟨Tryz.prog,N,[],[nm 0 [0] [],nm 1 [0] []],kdL [(165,p2)],[],[],(GL N),tl0,[]⟩
noncomputable def F131_g(N:Nat)(v1:Ce):Option (Int):=
 ((isNilp v1).bind fun v2=>(bif v2 then none else((ptrD p2 v1).bind fun v3=>(some v3.1))))
noncomputable def F131(N:Nat)(v1:Ce):Option (Int):=
 F131_g N v1
theorem F131_t(N:Nat)(v1:Ce):evF (F131_E N) [] Tryz.f92 [.k .any] [(.int .i64)] (v1,())=F131 N v1:=
 Eq.trans (b:=F131_g N v1) (by kernel_rfl) rfl
noncomputable def F131_con(N:Nat):Con:=⟨92,[.k .any],[(.int .i64)],fun x=>F131 N x.1⟩
theorem F131_s(N:Nat):(F131_con N).Sound Tryz.prog (GL N):=
 Con.sound_of (c:=F131_con N) (E:=(F131_E N)) (idle:=[]) Tryz.func92 (by kernel_rfl) (by kernel_rfl) ⟨allNil,allNil,rfl⟩ allNil (fun x y h=>(F131_t N x.1).trans h)
noncomputable def F132_E(N:Nat):Env:=⟨Tryz.prog,N,[],[nm 0 [0] [],nm 1 [0] []],kdL [(165,p2)],[],[],(GL N),tl0,[]⟩
noncomputable def F132_g(N:Nat)(v1:Ce):Option ((List Ce)):=
 ((isNilp v1).bind fun v2=>(bif v2 then none else((ptrD p2 v1).bind fun v3=>(some v3.2.1))))
noncomputable def F132(N:Nat)(v1:Ce):Option ((List Ce)):=
 F132_g N v1
theorem F132_t(N:Nat)(v1:Ce):evF (F132_E N) [] Tryz.f93 [.k .any] [(.list .any)] (v1,())=F132 N v1:=
 Eq.trans (b:=F132_g N v1) (by kernel_rfl) rfl
noncomputable def F132_con(N:Nat):Con:=⟨93,[.k .any],[(.list .any)],fun x=>F132 N x.1⟩
theorem F132_s(N:Nat):(F132_con N).Sound Tryz.prog (GL N):=
 Con.sound_of (c:=F132_con N) (E:=(F132_E N)) (idle:=[]) Tryz.func93 (by kernel_rfl) (by kernel_rfl) ⟨allNil,allNil,rfl⟩ allNil (fun x y h=>(F132_t N x.1).trans h)
noncomputable def F133_E(N:Nat):Env:=⟨Tryz.prog,N,[],[nm 0 [] [],nm 1 [] []],kdL [],[],[],(GL N),tl0,[]⟩
noncomputable def F133_g(N:Nat)(v1:T14):Option (((List Int)×Unit)):=
 (some (([]:List Int),()))
noncomputable def F133(N:Nat)(v1:T14):Option (((List Int)×Unit)):=
 F133_g N v1
theorem F133_t(N:Nat)(v1:T14):evF2 (F133_E N) [] Tryz.f153 [.lref p4] a49 (v1,())=F133 N v1:=
 Eq.trans (b:=F133_g N v1) (by kernel_rfl) rfl
noncomputable def F133_con(N:Nat):Con2:=⟨153,[.lref p4],a49,fun x=>F133 N x.1⟩
theorem F133_s(N:Nat):(F133_con N).Sound Tryz.prog (GL N):=
 Con2.sound_of (c:=F133_con N) (E:=(F133_E N)) (idle:=[]) Tryz.func153 (by kernel_rfl) (by kernel_rfl) ⟨allNil,allNil,rfl⟩ allNil (fun x y h=>(F133_t N x.1).trans h)
noncomputable def F134_E(N:Nat):Env:=⟨Tryz.prog,N,[],[nm 0 [] [],nm 1 [] []],kdL [],[],[],(GL N),tl0,[]⟩
noncomputable def F134_g(N:Nat)(v1:T14):Option ((T20×Unit)):=
 (some (([]:List (List Int)),()))
noncomputable def F134(N:Nat)(v1:T14):Option ((T20×Unit)):=
 F134_g N v1
theorem F134_t(N:Nat)(v1:T14):evF2 (F134_E N) [] Tryz.f154 [.lref p4] a44 (v1,())=F134 N v1:=
 Eq.trans (b:=F134_g N v1) (by kernel_rfl) rfl
noncomputable def F134_con(N:Nat):Con2:=⟨154,[.lref p4],a44,fun x=>F134 N x.1⟩
theorem F134_s(N:Nat):(F134_con N).Sound Tryz.prog (GL N):=
 Con2.sound_of (c:=F134_con N) (E:=(F134_E N)) (idle:=[]) Tryz.func154 (by kernel_rfl) (by kernel_rfl) ⟨allNil,allNil,rfl⟩ allNil (fun x y h=>(F134_t N x.1).trans h)
noncomputable def F135_E(N:Nat):Env:=⟨Tryz.prog,N,[],[nm 0 [0] [],nm 1 [0] []],kdL [],[],[],(GL N),tl0,[]⟩
noncomputable def F135_g(N:Nat)(v1:((T14×Unit)×(T20×Unit))):Option ((T20×Unit)):=
 (some (v1.2.1,()))
noncomputable def F135(N:Nat)(v1:((T14×Unit)×(T20×Unit))):Option ((T20×Unit)):=
 F135_g N v1
theorem F135_t(N:Nat)(v1:((T14×Unit)×(T20×Unit))):evF2 (F135_E N) [] Tryz.f159 [.lref (.pair p0 (.pair (.list (.list (.int .i64))) .unit))] a44 (v1,())=F135 N v1:=
 Eq.trans (b:=F135_g N v1) (by kernel_rfl) rfl
noncomputable def F135_con(N:Nat):Con2:=⟨159,[.lref (.pair p0 (.pair (.list (.list (.int .i64))) .unit))],a44,fun x=>F135 N x.1⟩
theorem F135_s(N:Nat):(F135_con N).Sound Tryz.prog (GL N):=
 Con2.sound_of (c:=F135_con N) (E:=(F135_E N)) (idle:=[]) Tryz.func159 (by kernel_rfl) (by kernel_rfl) ⟨allNil,allNil,rfl⟩ allNil (fun x y h=>(F135_t N x.1).trans h)
noncomputable def F136_g1(N:Nat)(self:Ce→Option (Geo))(v1:Ce)(v38 v63:Int):Option (Geo):=
 ((isT 104 v1).bind fun v64=>(bif v64 then((asT .unit 104 v1).bind fun v65=>none)else((isT 105 v1).bind fun v66=>(bif v66 then((asT .unit 105 v1).bind fun v67=>none)else((isT 72 v1).bind fun v68=>(bif v68 then((asT .any 72 v1).bind fun v69=>(ptrD p0 v69).bind fun v70=>(F38 N v70.1).bind fun v71=>some v71.1)else((isT 75 v1).bind fun v72=>(bif v72 then((asT .any 75 v1).bind fun v73=>(ptrD (.pair p0 .unit) v73).bind fun v74=>(F38 N v74.1.1).bind fun v75=>some v75.1)else((isT 78 v1).bind fun v76=>(bif v76 then((asT .any 78 v1).bind fun v77=>(ptrD (.pair p0 .unit) v77).bind fun v78=>(F38 N v78.1.1).bind fun v79=>some v79.1)else((isT 81 v1).bind fun v80=>(bif v80 then((asT .any 81 v1).bind fun v81=>(ptrD p1 v81).bind fun v82=>(F38 N v82.1.1.1).bind fun v83=>some v83.1)else((isT 85 v1).bind fun v84=>(bif v84 then((asT .any 85 v1).bind fun v85=>(ptrD p1 v85).bind fun v86=>(F38 N v86.1.1.1).bind fun v87=>some v87.1)else((isT 91 v1).bind fun v88=>(bif v88 then((asT .any 91 v1).bind fun v89=>(ptrD p1 v89).bind fun v90=>(F38 N v90.1.1.1).bind fun v91=>some v91.1)else((isT 94 v1).bind fun v92=>(bif v92 then((asT .any 94 v1).bind fun v93=>(ptrD p3 v93).bind fun v94=>(F38 N v94.1.1.1).bind fun v95=>some v95.1)else((isT 98 v1).bind fun v96=>(bif v96 then((asT .any 98 v1).bind fun v97=>(ptrD p2 v97).bind fun v98=>(F39 N N v98).bind fun v99=>some v99.1)else none)))))))))))))))))))).bind fun v100=>((isT 104 v1).bind fun v101=>(bif v101 then((asT .unit 104 v1).bind fun v102=>none)else((isT 105 v1).bind fun v103=>(bif v103 then((asT .unit 105 v1).bind fun v104=>none)else((isT 72 v1).bind fun v105=>(bif v105 then((asT .any 72 v1).bind fun v106=>(ptrD p0 v106).bind fun v107=>(F68 N v107.1).bind fun v108=>some v108.1)else((isT 75 v1).bind fun v109=>(bif v109 then((asT .any 75 v1).bind fun v110=>(ptrD (.pair p0 .unit) v110).bind fun v111=>(F68 N v111.1.1).bind fun v112=>some v112.1)else((isT 78 v1).bind fun v113=>(bif v113 then((asT .any 78 v1).bind fun v114=>(ptrD (.pair p0 .unit) v114).bind fun v115=>(F68 N v115.1.1).bind fun v116=>some v116.1)else((isT 81 v1).bind fun v117=>(bif v117 then((asT .any 81 v1).bind fun v118=>(ptrD p1 v118).bind fun v119=>(F68 N v119.1.1.1).bind fun v120=>some v120.1)else((isT 85 v1).bind fun v121=>(bif v121 then((asT .any 85 v1).bind fun v122=>(ptrD p1 v122).bind fun v123=>(F68 N v123.1.1.1).bind fun v124=>some v124.1)else((isT 91 v1).bind fun v125=>(bif v125 then((asT .any 91 v1).bind fun v126=>(ptrD p1 v126).bind fun v127=>(F68 N v127.1.1.1).bind fun v128=>some v128.1)else((isT 94 v1).bind fun v129=>(bif v129 then((asT .any 94 v1).bind fun v130=>(ptrD p3 v130).bind fun v131=>(F68 N v131.1.1.1).bind fun v132=>some v132.1)else((isT 98 v1).bind fun v133=>(bif v133 then((asT .any 98 v1).bind fun v134=>(ptrD p2 v134).bind fun v135=>none)else none)))))))))))))))))))).bind fun v136=>(F16 N v136).bind fun v137=>((isT 104 v1).bind fun v138=>(bif v138 then((asT .unit 104 v1).bind fun v139=>none)else((isT 105 v1).bind fun v140=>(bif v140 then((asT .unit 105 v1).bind fun v141=>none)else((isT 72 v1).bind fun v142=>(bif v142 then((asT .any 72 v1).bind fun v143=>(ptrD p0 v143).bind fun v144=>(F133 N v144.1).bind fun v145=>some v145.1)else((isT 75 v1).bind fun v146=>(bif v146 then((asT .any 75 v1).bind fun v147=>(ptrD (.pair p0 .unit) v147).bind fun v148=>(F133 N v148.1.1).bind fun v149=>some v149.1)else((isT 78 v1).bind fun v150=>(bif v150 then((asT .any 78 v1).bind fun v151=>(ptrD (.pair p0 .unit) v151).bind fun v152=>(F133 N v152.1.1).bind fun v153=>some v153.1)else((isT 81 v1).bind fun v154=>(bif v154 then((asT .any 81 v1).bind fun v155=>(ptrD p1 v155).bind fun v156=>(F72 N v156.1).bind fun v157=>some v157.1)else((isT 85 v1).bind fun v158=>(bif v158 then((asT .any 85 v1).bind fun v159=>(ptrD p1 v159).bind fun v160=>(F72 N v160.1).bind fun v161=>some v161.1)else((isT 91 v1).bind fun v162=>(bif v162 then((asT .any 91 v1).bind fun v163=>(ptrD p1 v163).bind fun v164=>(F72 N v164.1).bind fun v165=>some v165.1)else((isT 94 v1).bind fun v166=>(bif v166 then((asT .any 94 v1).bind fun v167=>(ptrD p3 v167).bind fun v168=>(F133 N v168.1.1.1).bind fun v169=>some v169.1)else((isT 98 v1).bind fun v170=>(bif v170 then((asT .any 98 v1).bind fun v171=>(ptrD p2 v171).bind fun v172=>none)else none)))))))))))))))))))).bind fun v173=>(F24 N v173).bind fun v174=>((isT 104 v1).bind fun v175=>(bif v175 then((asT .unit 104 v1).bind fun v176=>none)else((isT 105 v1).bind fun v177=>(bif v177 then((asT .unit 105 v1).bind fun v178=>none)else((isT 72 v1).bind fun v179=>(bif v179 then((asT .any 72 v1).bind fun v180=>(ptrD p0 v180).bind fun v181=>(F134 N v181.1).bind fun v182=>some v182.1)else((isT 75 v1).bind fun v183=>(bif v183 then((asT .any 75 v1).bind fun v184=>(ptrD (.pair p0 .unit) v184).bind fun v185=>(F134 N v185.1.1).bind fun v186=>some v186.1)else((isT 78 v1).bind fun v187=>(bif v187 then((asT .any 78 v1).bind fun v188=>(ptrD (.pair p0 .unit) v188).bind fun v189=>(F134 N v189.1.1).bind fun v190=>some v190.1)else((isT 81 v1).bind fun v191=>(bif v191 then((asT .any 81 v1).bind fun v192=>(ptrD p1 v192).bind fun v193=>(F134 N v193.1.1.1).bind fun v194=>some v194.1)else((isT 85 v1).bind fun v195=>(bif v195 then((asT .any 85 v1).bind fun v196=>(ptrD p1 v196).bind fun v197=>(F134 N v197.1.1.1).bind fun v198=>some v198.1)else((isT 91 v1).bind fun v199=>(bif v199 then((asT .any 91 v1).bind fun v200=>(ptrD p1 v200).bind fun v201=>(F134 N v201.1.1.1).bind fun v202=>some v202.1)else((isT 94 v1).bind fun v203=>(bif v203 then((asT .any 94 v1).bind fun v204=>(ptrD p3 v204).bind fun v205=>(F135 N v205.1).bind fun v206=>some v206.1)else((isT 98 v1).bind fun v207=>(bif v207 then((asT .any 98 v1).bind fun v208=>(ptrD p2 v208).bind fun v209=>none)else none)))))))))))))))))))).bind fun v210=>(F33 N v210).bind fun v211=>(some (Geo.mk v63 v100 v38 v137.1 v174.1 v211.1 ([]:List Geo)))
noncomputable def F136_j1(N:Nat)(self:Ce→Option (Geo))(v1:Ce)(v38 v63:Int):Option (Geo):=
 gate N (F136_g1 N self v1 v38 v63)
noncomputable def F136_g0(N:Nat)(self:Ce→Option (Geo))(v56:List Ce)(v55 v38:Int)(r0:Int→(List Geo)→Option (Geo))(v59:Int)(v60:List Geo):Option (Geo):=
 (bif(decide ((v59:Int)<(v56.length:Int)))then((nth v56 v59).bind fun v61=>((self v61).bind fun v62=>(lim ((v60.length+([v62]:List Geo).length)*120)).bind fun _=>((r0 (IntKind.i64.wrap (v59+1)) (v60++([v62]:List Geo))))))else(some (Geo.mk 7 v55 v38 ([]:List Nat) ([]:List Int) ([]:List (List Int)) v60)))
noncomputable def F136_l0(N:Nat)(self:Ce→Option (Geo)):Nat→(List Ce)→Int→Int→Int→(List Geo)→Option (Geo)
 |0,_,_,_,_,_=>none
 |n+1,v56,v55,v38,v59,v60=>F136_g0 N self v56 v55 v38 (F136_l0 N self n v56 v55 v38) v59 v60
noncomputable def F136_g(N:Nat)(self:Ce→Option (Geo))(v1:Ce)(c1:Ce→Int→Int→Option (Geo))(c0:(List Ce)→Int→Int→Int→(List Geo)→Option (Geo)):Option (Geo):=
 (((isT 104 v1).bind fun v2=>(bif v2 then((asT .unit 104 v1).bind fun v3=>none)else((isT 105 v1).bind fun v4=>(bif v4 then((asT .unit 105 v1).bind fun v5=>none)else((isT 72 v1).bind fun v6=>(bif v6 then((asT .any 72 v1).bind fun v7=>(ptrD p0 v7).bind fun v8=>(F55 N v8.1).bind fun v9=>some v9.1)else((isT 75 v1).bind fun v10=>(bif v10 then((asT .any 75 v1).bind fun v11=>(ptrD (.pair p0 .unit) v11).bind fun v12=>(F55 N v12.1.1).bind fun v13=>some v13.1)else((isT 78 v1).bind fun v14=>(bif v14 then((asT .any 78 v1).bind fun v15=>(ptrD (.pair p0 .unit) v15).bind fun v16=>(F55 N v16.1.1).bind fun v17=>some v17.1)else((isT 81 v1).bind fun v18=>(bif v18 then((asT .any 81 v1).bind fun v19=>(ptrD p1 v19).bind fun v20=>(F55 N v20.1.1.1).bind fun v21=>some v21.1)else((isT 85 v1).bind fun v22=>(bif v22 then((asT .any 85 v1).bind fun v23=>(ptrD p1 v23).bind fun v24=>(F55 N v24.1.1.1).bind fun v25=>some v25.1)else((isT 91 v1).bind fun v26=>(bif v26 then((asT .any 91 v1).bind fun v27=>(ptrD p1 v27).bind fun v28=>(F55 N v28.1.1.1).bind fun v29=>some v29.1)else((isT 94 v1).bind fun v30=>(bif v30 then((asT .any 94 v1).bind fun v31=>(ptrD p3 v31).bind fun v32=>(F55 N v32.1.1.1).bind fun v33=>some v33.1)else((isT 98 v1).bind fun v34=>(bif v34 then((asT .any 98 v1).bind fun v35=>(ptrD p2 v35).bind fun v36=>(F56 N v36).bind fun v37=>some v37.1)else none)))))))))))))))))))).bind fun v38=>((isT 72 v1).bind fun v39=>(bif v39 then((asT .any 72 v1).bind fun v40=>(c1 v1 v38 1))else((isT 75 v1).bind fun v41=>(bif v41 then((asT .any 75 v1).bind fun v42=>(c1 v1 v38 2))else((isT 78 v1).bind fun v43=>(bif v43 then((asT .any 78 v1).bind fun v44=>(c1 v1 v38 8))else((isT 81 v1).bind fun v45=>(bif v45 then((asT .any 81 v1).bind fun v46=>(c1 v1 v38 3))else((isT 85 v1).bind fun v47=>(bif v47 then((asT .any 85 v1).bind fun v48=>(c1 v1 v38 4))else((isT 91 v1).bind fun v49=>(bif v49 then((asT .any 91 v1).bind fun v50=>(c1 v1 v38 5))else((isT 94 v1).bind fun v51=>(bif v51 then((asT .any 94 v1).bind fun v52=>(c1 v1 v38 6))else((isT 98 v1).bind fun v53=>(bif v53 then((asT .any 98 v1).bind fun v54=>((F131 N v54).bind fun v55=>((F132 N v54).bind fun v56=>((c0 v56 v55 v38 0 ([]:List Geo))))))else(c1 v1 v38 0))))))))))))))))))
noncomputable def F136(N:Nat):Nat→Ce→Option (Geo)
 |0,_=>none
 |d+1,v1=>F136_g N (F136 N d) v1 (F136_j1 N (F136 N d)) (F136_l0 N (F136 N d) N)
noncomputable def F136_con'(N d:Nat):Con:=⟨60,[.k .any],[.geo],fun x=>F136 N d x.1⟩
noncomputable def F136_E(N d:Nat):Env:=⟨Tryz.prog,N,[F136_con' N d,F131_con N,F132_con N],[nm 0 [0] [],nm 1 [0,2] [2],nm 2 [0,2,3] [2,3],nm 3 [0,2,3,17] [2,3],nm 4 [0,2,3,17,19,20] [2,3],nm 5 [0,2,3] [2,3],nm 7 [0,2,3,17,23,24] [2,3],nm 8 [0,2,3] [2,3],nm 10 [0,2,3,17,27,28] [2,3],nm 11 [0,2,3] [2,3],nm 13 [0,2,3,17,31,32] [2,3],nm 14 [0,2,3] [2,3],nm 16 [0,2,3,17,35,36] [2,3],nm 17 [0,2,3] [2,3],nm 19 [0,2,3,17,39,40] [2,3],nm 20 [0,2,3] [2,3],nm 22 [0,2,3,17,43,44] [2,3],nm 23 [0,2,3] [2,3],nm 25 [0,2,3,47,48] [2,3],nm 26 [2,3,11] [2,3],nm 27 [2,3,11] [2,3],(28,⟨[],[(3,6,27, .geo,92850)],[],[],[],[2,3,54,55,56],[2,3,92850],none⟩),nm 29 [2,3,54,55,56] [2,3,92850],nm 30 [2,3,13,54,55,56] [2,3,92850],nm 31 [2,3,54,55,56] [2,3,65],nm 32 [2,3] [2,3,92850],ng N 33 [0,2,3] [2,3],nm 34 [2,3] [2,3,103650,103800,103950]],kdL [(3,(.int .i64)),(22,(.list .float)),(23,(.list (.int .i64))),(24,(.list (.list (.int .i64)))),(27, .geo),(70,(.int .i64)),(72, .any),(75, .any),(78, .any),(81, .any),(85, .any),(91, .any),(94, .any),(98, .any),(104, .unit),(105, .unit),(140,p0),(147,(.pair p0 .unit)),(152,p1),(155,(.pair p0 .unit)),(157,p1),(158,p1),(162,p3),(165,p2)],[F55_con N,F56_con N,F38_con N,F39_con N,F68_con N,F16_con N,F133_con N,F72_con N,F24_con N,F134_con N,F135_con N,F33_con N],[],(GL N),tl0,[(15,(.int .i64)),(70,(.int .i64)),(72,(.list .float)),(75,(.list (.int .i64))),(78,(.list (.list (.int .i64))))]⟩
noncomputable def F136_e1(N d:Nat)(v1:Ce)(v38 v63:Int):=
 gate N (evC (F136_E N d) (c60 [1,1,1]) ⟨[(0, .pv .any v1),(2, .ref 2 0),(3, .ref 3 0)],[(2, .box [.pv (.int .i64) 0, .pv (.int .i64) 0, .pv (.int .i64) 0, .nils, .nils, .nils, .nils]),(3, .box [.pv (.int .i64) v63, .pv (.int .i64) 0, .pv (.int .i64) v38, .nils, .nils, .nils, .nils])],[]⟩ (kEnd (F136_E N d) [] Tryz.f60.results.toList [.geo]))
noncomputable def F136_e0(N d n:Nat)(v56:List Ce)(v55 v38 v59:Int)(v60:List Geo):=
 lq (F136_E N d) (c60 [1,1,0,1,0,1,1,1,1,1,1,1,1,1,1,1,1,1,1,1,0,1,1,0,1,0,0]) n ⟨[(2, .ref 2 0),(3, .ref 3 0),(54, .pv (.list .any) v56),(55, .pv (.int .i64) (v56.length:Int)),(56, .pv (.int .i64) v59)],[(2, .box [.pv (.int .i64) 0, .pv (.int .i64) 0, .pv (.int .i64) 0, .nils, .nils, .nils, .nils]),(3, .box [.pv (.int .i64) 7, .pv (.int .i64) v55, .pv (.int .i64) v38, .nils, .nils, .nils, .own .geo 92850]),(92850, .arr 27 .geo v60)],[]⟩ (kBlock 1 (kq (F136_E N d) (c60 [1,1,0,1,0,1,1,1,1,1,1,1,1,1,1,1,1,1,1,1,0,1,1,1]) (kBlock 0 (kq (F136_E N d) (c60 [1,1,1]) (kEnd (F136_E N d) [] Tryz.f60.results.toList [.geo])))))
theorem F136_t1(N d:Nat)(v1:Ce)(v38 v63:Int):F136_e1 N d v1 v38 v63=F136_j1 N (F136 N d) v1 v38 v63:=by
 exact(congrArg (gate N) (show _=F136_g1 N (F136 N d) v1 v38 v63 from by kernel_rfl)).trans (by rfl)
theorem F136_t0(N d:Nat):∀(n:Nat) (v56:List Ce) (v55 v38 v59:Int) (v60:List Geo),F136_e0 N d n v56 v55 v38 v59 v60=F136_l0 N (F136 N d) n v56 v55 v38 v59 v60
 |0,_,_,_,_,_=>rfl
 |n+1,v56,v55,v38,v59,v60=>by
  have h:F136_e0 N d n v56 v55 v38=F136_l0 N (F136 N d) n v56 v55 v38:=by funext v59 v60;exact F136_t0 N d n v56 v55 v38 v59 v60
  exact Eq.trans (b:=F136_g0 N (F136 N d) v56 v55 v38 (F136_e0 N d n v56 v55 v38) v59 v60) (by kernel_rfl) (by rw[h];rfl)
theorem F136_t(N d:Nat)(v1:Ce):evF (F136_E N d) [] Tryz.f60 [.k .any] [.geo] (v1,())=F136 N (d+1) v1:=by
 have h1:(F136_e1 N d)=(F136_j1 N (F136 N d)):=by funext v1 v38 v63;exact F136_t1 N d v1 v38 v63
 have h0:(F136_e0 N d N)=(F136_l0 N (F136 N d) N):=by funext v56 v55 v38 v59 v60;exact F136_t0 N d N v56 v55 v38 v59 v60
 exact Eq.trans (b:=F136_g N (F136 N d) v1 (F136_e1 N d) (F136_e0 N d N)) (by kernel_rfl) (by rw[h1,h0];rfl)
theorem F136_s'(N:Nat):∀d,(F136_con' N d).Sound Tryz.prog (GL N)
 |0=>fun _ _ _ _ _ _ _ _ h=>by cases h
 |d+1=>Con.sound_of (c:=F136_con' N (d+1)) (E:=(F136_E N d)) (idle:=[]) Tryz.func60 (by kernel_rfl) (by kernel_rfl) ⟨(allCons (F136_s' N d) (allCons (F131_s N) (allCons (F132_s N) allNil))),(allCons (F55_s N) (allCons (F56_s N) (allCons (F38_s N) (allCons (F39_s N) (allCons (F68_s N) (allCons (F16_s N) (allCons (F133_s N) (allCons (F72_s N) (allCons (F24_s N) (allCons (F134_s N) (allCons (F135_s N) (allCons (F33_s N) allNil)))))))))))),rfl⟩ allNil (fun x y h=>(F136_t N d x.1).trans h)
noncomputable def F136_con(N:Nat):Con:=F136_con' N N
theorem F136_s(N:Nat):(F136_con N).Sound Tryz.prog (GL N):=F136_s' N N
noncomputable def F137_E(N:Nat):Env:=⟨Tryz.prog,N,[F136_con N],[nm 0 [0,1] [],nm 1 [0,1,4] [4],nm 2 [0,4,7] [4],nm 3 [0,4] [4]],kdL [],[],[],(GL N),tl0,[]⟩
noncomputable def F137_g(N:Nat)(v1:Ce):Option ((T5×Bool×Unit)):=
 ((F136 N N v1).bind fun v2=>(some ((v2.kind,v2.layout,v2.srid,v2.flat,v2.ends,v2.endss,v2.kids,()),true,())))
noncomputable def F137(N:Nat)(v1:Ce):Option ((T5×Bool×Unit)):=
 F137_g N v1
theorem F137_t(N:Nat)(v1:Ce):evF2 (F137_E N) [] Tryz.f24 [.k .any, .nili] a38 (v1,(),())=F137 N v1:=
 Eq.trans (b:=F137_g N v1) (by kernel_rfl) rfl
noncomputable def F137_con(N:Nat):Con2:=⟨24,[.k .any, .nili],a38,fun x=>F137 N x.1⟩
theorem F137_s(N:Nat):(F137_con N).Sound Tryz.prog (GL N):=
 Con2.sound_of (c:=F137_con N) (E:=(F137_E N)) (idle:=[]) Tryz.func24 (by kernel_rfl) (by kernel_rfl) ⟨(allCons (F136_s N) allNil),allNil,rfl⟩ allNil (fun x y h=>(F137_t N x.1).trans h)
end
end Go.Proofs.YtllnonlmibanfaaGreatDoor.EB
namespace Go.Proofs.YtllnonlmibanfaaGreatDoor.EB
open Go Go.Av
def ordC(big:Bool):Ce:=if big then .ifa 104 []else .ifa 105 []
def w32(big:Bool)(n:Int):List Int:=
 if big then [IntKind.u8.wrap (Int.fdiv n (2^24)),IntKind.u8.wrap (Int.fdiv n (2^16)),IntKind.u8.wrap (Int.fdiv n (2^8)),IntKind.u8.wrap n]
 else [IntKind.u8.wrap n,IntKind.u8.wrap (Int.fdiv n (2^8)),IntKind.u8.wrap (Int.fdiv n (2^16)),IntKind.u8.wrap (Int.fdiv n (2^24))]
theorem wW(N:Nat)(b ys:List Int)(l:Int)(h:b.length+ys.length≤140737488355328):bytes_Buffer_Write N (b,0,l,()) ys=some ((ys.length:Int),(),(b++ys,0,0,()),()):=if_pos ⟨rfl,h⟩
theorem wB(N:Nat)(b:List Int)(l o:Int)(h:b.length+1≤140737488355328):F52 N (b,0,l,()) o=some ((),(b++[o],0,0,()),()):=
 (show F52 N (b,0,l,()) o=(bytes_Buffer_Write N (b,0,l,()) [o]).bind (fun v4=>some ((),(v4.2.2.1.1,v4.2.2.1.2.1,v4.2.2.1.2.2.1,()),()))from rfl).trans (by rw[wW N b [o] l h];rfl)
theorem wU(N:Nat)(big:Bool)(b:List Int)(l n:Int)(h:b.length+4≤140737488355328):F59 (N+8) (b,0,l,()) (ordC big) n=some ((),(b++w32 big n,0,0,()),()):=by
 cases big
 ·exact(show F59 (N+8) (b,0,l,()) (ordC false) n=(bytes_Buffer_Write (N+8) (b,0,l,()) (w32 false n)).bind (fun v4=>some ((),(v4.2.2.1.1,v4.2.2.1.2.1,v4.2.2.1.2.2.1,()),()))from by kernel_rfl).trans (by rw[wW (N+8) b (w32 false n) l h];rfl)
 ·exact(show F59 (N+8) (b,0,l,()) (ordC true) n=(bytes_Buffer_Write (N+8) (b,0,l,()) (w32 true n)).bind (fun v4=>some ((),(v4.2.2.1.1,v4.2.2.1.2.1,v4.2.2.1.2.2.1,()),()))from by kernel_rfl).trans (by rw[wW (N+8) b (w32 true n) l h];rfl)
end Go.Proofs.YtllnonlmibanfaaGreatDoor.EB
namespace Go.Proofs.YtllnonlmibanfaaGreatDoor.EB
open Go Go.Av
theorem z8:(2:Int)^(min (8:Int).toNat (IntKind.bits .u64))=256:=by decide+kernel
theorem z16:(2:Int)^(min (16:Int).toNat (IntKind.bits .u64))=65536:=by decide+kernel
theorem z24:(2:Int)^(min (24:Int).toNat (IntKind.bits .u64))=16777216:=by decide+kernel
theorem z32:(2:Int)^(min (32:Int).toNat (IntKind.bits .u64))=4294967296:=by decide+kernel
theorem z40:(2:Int)^(min (40:Int).toNat (IntKind.bits .u64))=1099511627776:=by decide+kernel
theorem z48:(2:Int)^(min (48:Int).toNat (IntKind.bits .u64))=281474976710656:=by decide+kernel
theorem z56:(2:Int)^(min (56:Int).toNat (IntKind.bits .u64))=72057594037927936:=by decide+kernel
def w64(big:Bool)(n:Int):List Int:=
 if big then [IntKind.u8.wrap (Int.fdiv n 72057594037927936),IntKind.u8.wrap (Int.fdiv n 281474976710656),IntKind.u8.wrap (Int.fdiv n 1099511627776),IntKind.u8.wrap (Int.fdiv n 4294967296),IntKind.u8.wrap (Int.fdiv n 16777216),IntKind.u8.wrap (Int.fdiv n 65536),IntKind.u8.wrap (Int.fdiv n 256),IntKind.u8.wrap n]
 else [IntKind.u8.wrap n,IntKind.u8.wrap (Int.fdiv n 256),IntKind.u8.wrap (Int.fdiv n 65536),IntKind.u8.wrap (Int.fdiv n 16777216),IntKind.u8.wrap (Int.fdiv n 4294967296),IntKind.u8.wrap (Int.fdiv n 1099511627776),IntKind.u8.wrap (Int.fdiv n 281474976710656),IntKind.u8.wrap (Int.fdiv n 72057594037927936)]
theorem set_app(a l:List Int)(k:Nat)(x:Int):(a++l).set (a.length+k) x=a++l.set k x:=by
 rw[List.set_append_right _ _ (by omega)];simp
theorem chkN{k:Int}{n m:Nat}(hk:k=(n:Int))(h:n<m):chk k m=some n:=by
 subst hk;unfold chk;rw[if_pos ⟨by omega,by omega⟩];simp
theorem get_app(a l:List Int)(k:Nat):(a++l)[a.length+k]?=l[k]?:=by
 rw[List.getElem?_append_right (by omega)];simp
theorem p64B(N:Nat)(a r:List Int)(c0 c1 c2 c3 c4 c5 c6 c7 n:Int):
 F62 N (a++c0::c1::c2::c3::c4::c5::c6::c7::r,a.length,r.length+8) n=some ((a++(w64 true n++r),a.length,r.length+8),()):=by
 unfold F62 F62_g
 simp only[chkN (k:=0) (n:=0) (m:=r.length+8) rfl (by omega),chkN (k:=1) (n:=1) (m:=r.length+8) rfl (by omega),chkN (k:=2) (n:=2) (m:=r.length+8) rfl (by omega),chkN (k:=3) (n:=3) (m:=r.length+8) rfl (by omega),chkN (k:=4) (n:=4) (m:=r.length+8) rfl (by omega),chkN (k:=5) (n:=5) (m:=r.length+8) rfl (by omega),chkN (k:=6) (n:=6) (m:=r.length+8) rfl (by omega),chkN (k:=7) (n:=7) (m:=r.length+8) rfl (by omega),Option.bind_some,set_app,get_app,z8,z16,z24,z32,z40,z48,z56]
 rfl
theorem p64L(N:Nat)(a r:List Int)(c0 c1 c2 c3 c4 c5 c6 c7 n:Int):
 F63 N (a++c0::c1::c2::c3::c4::c5::c6::c7::r,a.length,r.length+8) n=some ((a++(w64 false n++r),a.length,r.length+8),()):=by
 unfold F63 F63_g
 simp only[chkN (k:=0) (n:=0) (m:=r.length+8) rfl (by omega),chkN (k:=1) (n:=1) (m:=r.length+8) rfl (by omega),chkN (k:=2) (n:=2) (m:=r.length+8) rfl (by omega),chkN (k:=3) (n:=3) (m:=r.length+8) rfl (by omega),chkN (k:=4) (n:=4) (m:=r.length+8) rfl (by omega),chkN (k:=5) (n:=5) (m:=r.length+8) rfl (by omega),chkN (k:=6) (n:=6) (m:=r.length+8) rfl (by omega),chkN (k:=7) (n:=7) (m:=r.length+8) rfl (by omega),Option.bind_some,set_app,get_app,z8,z16,z24,z32,z40,z48,z56]
 rfl
end Go.Proofs.YtllnonlmibanfaaGreatDoor.EB
namespace Go.Proofs.YtllnonlmibanfaaGreatDoor.EB
open Go Go.Av
theorem and5(m o l l':Nat)(h1:1≤m)(h2:l=l'):((((Nat.ble 1 m&&Nat.beq o o)&&Nat.beq m m)&&Nat.beq l l')&&true)=true:=by
 subst h2;simp[Nat.ble_eq,h1]
theorem w64_len(big:Bool)(n:Int):(w64 big n).length=8:=by cases big<;>rfl
theorem wF(N:Nat)(big:Bool)(a r:List Int)(c0 c1 c2 c3 c4 c5 c6 c7:Int)(f:Nat):
 F64 N (a++c0::c1::c2::c3::c4::c5::c6::c7::r,a.length,r.length+8) (ordC big) f=some ((a++(w64 big f++r),a.length,r.length+8),()):=by
 have hl:(a++(w64 big (f:Int)++r)).length=(a++c0::c1::c2::c3::c4::c5::c6::c7::r).length:=by simp[w64_len];omega
 have ha:=and5 (r.length+8) a.length _ _ (by omega) hl
 cases big
 ·exact(show F64 N (a++c0::c1::c2::c3::c4::c5::c6::c7::r,a.length,r.length+8) (ordC false) f=
   (F63 N (a++c0::c1::c2::c3::c4::c5::c6::c7::r,a.length,r.length+8) (f:Int)).bind (fun v10=>(bif((((Nat.ble 1 (r.length+8)&&Nat.beq v10.1.2.1 a.length)&&Nat.beq v10.1.2.2 (r.length+8))&&Nat.beq v10.1.1.length (a++c0::c1::c2::c3::c4::c5::c6::c7::r).length)&&true)then(some ((v10.1.1,a.length,r.length+8),()))else none))from by kernel_rfl).trans (by rw[p64L,Option.bind_some,ha];rfl)
 ·exact(show F64 N (a++c0::c1::c2::c3::c4::c5::c6::c7::r,a.length,r.length+8) (ordC true) f=
   (F62 N (a++c0::c1::c2::c3::c4::c5::c6::c7::r,a.length,r.length+8) (f:Int)).bind (fun v10=>(bif((((Nat.ble 1 (r.length+8)&&Nat.beq v10.1.2.1 a.length)&&Nat.beq v10.1.2.2 (r.length+8))&&Nat.beq v10.1.1.length (a++c0::c1::c2::c3::c4::c5::c6::c7::r).length)&&true)then(some ((v10.1.1,a.length,r.length+8),()))else none))from by kernel_rfl).trans (by rw[p64B,Option.bind_some,ha];rfl)
end Go.Proofs.YtllnonlmibanfaaGreatDoor.EB
namespace Go.Proofs.YtllnonlmibanfaaGreatDoor.EB
open Go Go.Av
def fs(big:Bool)(fl:List Nat):List Int:=fl.flatMap fun(f:Nat)=>w64 big (f:Int)
theorem fs_len(big:Bool)(fl:List Nat):(fs big fl).length=8*fl.length:=by
 induction fl with
 |nil=>rfl
 |cons a r ih=>simp only[fs,List.flatMap_cons,List.length_append,w64_len,List.length_cons]at ih⊢;omega
theorem nthN{α:Type}{l:List α}{i:Nat}(h:i<l.length):nth l (i:Int)=some l[i]:=by
 unfold nth;rw[if_pos (by omega),Int.toNat_natCast,List.getElem?_eq_getElem h]
theorem chk2N{k h:Int}{n m:Nat}{len:Nat}(hk:k=(n:Int))(hh:h=(m:Int))(h1:n≤m)(h2:m≤len):chk2 k h len=some (n,m):=by
 subst hk;subst hh;unfold chk2;rw[if_pos ⟨by omega,by omega,by omega⟩];simp
theorem wrapN{x:Int}{n:Nat}(h:x=(n:Int))(hn:n<9223372036854775808):IntKind.i64.wrap x=(n:Int):=by
 subst h;rw[IntKind.wrap_i64];omega
theorem wFA_loop(N:Nat)(big:Bool)(b:List Int)(l:Int)(fl:List Nat)(hb:b.length+8*fl.length≤140737488355328):∀(c i n:Nat) (dn:List Int),i+c=fl.length→c+1≤n→dn.length=8*i→
 F69_l0 N n (ordC big) fl (b,0,l,()) (i:Int) (dn++List.replicate (8*c) 0)=some ((),(b++(dn++fs big (fl.drop i)),0,0,()),()):=by
 intro c
 induction c with
 |zero=>
  intro i n dn hi hn hd
  obtain⟨n,rfl⟩:∃k,n=k+1:=⟨n-1,by omega⟩
  show F69_g0 N (ordC big) fl (b,0,l,()) _ (i:Int) (dn++[])=_
  unfold F69_g0
  rw[decide_eq_false (by omega),cond_false,List.append_nil,wW N b dn l (by omega),List.drop_eq_nil_of_le (by omega),show fs big []=[]from rfl,List.append_nil]
  rfl
 |succ c ih=>
  intro i n dn hi hn hd
  obtain⟨n,rfl⟩:∃k,n=k+1:=⟨n-1,by omega⟩
  have hlt:i<fl.length:=by omega
  have hrep:List.replicate (8*(c+1)) (0:Int)=0::0::0::0::0::0::0::0::List.replicate (8*c) 0:=by
   rw[show 8*(c+1)=8*c+8 from by omega];rfl
  have hlen:(dn++List.replicate (8*(c+1)) (0:Int)).length=8*i+8*(c+1):=by simp[hd]
  have hm:8*i+8*(c+1)-8*i=(List.replicate (8*c) (0:Int)).length+8:=by rw[List.length_replicate];omega
  have hF:=wF N big dn (List.replicate (8*c) 0) 0 0 0 0 0 0 0 0 fl[i]
  have ha:=and5 ((List.replicate (8*c) (0:Int)).length+8) dn.length (dn++(w64 big (fl[i]:Int)++List.replicate (8*c) (0:Int))).length (8*i+8*(c+1)) (by omega) (by simp[w64_len,hd];omega)
  have hr:=ih (i+1) n (dn++w64 big (fl[i]:Int)) (by omega) (by omega) (by simp[w64_len,hd];omega)
  show F69_g0 N (ordC big) fl (b,0,l,()) (F69_l0 N n (ordC big) fl (b,0,l,())) (i:Int) (dn++List.replicate (8*(c+1)) 0)=_
  unfold F69_g0
  rw[decide_eq_true (by omega),cond_true,nthN hlt,Option.bind_some,hlen,chk2N (n:=8*i) (m:=8*i+8*(c+1)) (wrapN (by omega) (by omega)) rfl (by omega) (by omega),Option.bind_some]
  simp only[hm]
  rw[hrep,←hd,hF,Option.bind_some]
  simp only[]
  rw[show 8*i=dn.length from hd.symm]at ha
  rw[ha,cond_true,wrapN (n:=i+1) (by omega) (by omega),←List.append_assoc,hr,List.append_assoc,List.drop_eq_getElem_cons hlt]
  rfl
theorem wFA(N:Nat)(big:Bool)(b:List Int)(l:Int)(fl:List Nat)(hb:b.length+8*fl.length≤140737488355328)(hN:fl.length+1≤N):
 F69 N (b,0,l,()) (ordC big) fl=some ((),(b++fs big fl,0,0,()),()):=by
 unfold F69 F69_g
 have hm:mkn (IntKind.i64.wrap (8*(fl.length:Int))) (IntKind.i64.wrap (8*(fl.length:Int))) 1=some (8*fl.length):=by
  rw[wrapN (n:=8*fl.length) (by omega) (by omega)];unfold mkn;rw[if_pos ⟨by omega,by omega,by omega,by omega⟩,Int.toNat_natCast]
 rw[hm,Option.bind_some]
 have h:=wFA_loop N big b l fl hb fl.length 0 N [] (by omega) hN rfl
 simpa using h
theorem wC0(N:Nat)(big:Bool)(b:List Int)(l:Int)(fl:List Nat)(hb:b.length+8*fl.length≤140737488355328)(hN:fl.length+1≤N):
 F70 N (b,0,l,()) (ordC big) fl=some ((),(b++fs big fl,0,0,()),()):=by
 unfold F70 F70_g
 rw[wFA N big b l fl hb hN];rfl
theorem w32_len(big:Bool)(n:Int):(w32 big n).length=4:=by cases big<;>rfl
def c1(big:Bool)(fl:List Nat)(st:Int):List Int:=w32 big (IntKind.u32.wrap (IntKind.i64.wrap (Int.tdiv (fl.length:Int) st)))++fs big fl
theorem c1_len(big:Bool)(fl:List Nat)(st:Int):(c1 big fl st).length=4+8*fl.length:=by simp[c1,w32_len,fs_len]
theorem wC1(N:Nat)(big:Bool)(b:List Int)(l st:Int)(fl:List Nat)(hs:st≠0)(hb:b.length+4+8*fl.length≤140737488355328)(hN:fl.length+1≤N+8):
 F71 (N+8) (b,0,l,()) (ordC big) fl st=some ((),(b++c1 big fl st,0,0,()),()):=by
 unfold F71 F71_g
 rw[if_neg hs,wU N big b l _ (by omega),Option.bind_some]
 show(F69 (N+8) (b++w32 big _,0,0,()) (ordC big) fl).bind _=_
 rw[wFA (N+8) big _ 0 fl (by simp[w32_len];omega) hN,List.append_assoc];rfl
end Go.Proofs.YtllnonlmibanfaaGreatDoor.EB
namespace Go.Av
open Go
def rung(x:Nat):Nat:=x%9223372036854775808
def fin(x:Nat):Bool:=decide (rung x<9218868437227405312)
def val(r:Nat):Nat:=if r<4503599627370496 then r else(4503599627370496+r%4503599627370496)*2^(r/4503599627370496-1)
end Go.Av
namespace Go.Av
open Go
theorem gate_pos{R:Type}{n:Nat}(h:0<n)(x:Option R):gate n x=x:=by
 cases n with
 |zero=>omega
 |succ n=>rfl
theorem nth_nat{α:Type}(xs:List α)(i:Nat):nth xs (i:Int)=xs[i]?:=by
 unfold nth;rw[if_pos (by omega)];simp
theorem wrap_in{n:Int}(h:-9223372036854775808≤n∧n≤9223372036854775807):IntKind.i64.wrap n=n:=by
 simp[IntKind.wrap,IntKind.signed,IntKind.bits]
 omega
theorem lim_le{n:Nat}(h:n≤140737488355328):lim n=some ():=by
 unfold lim;rw[if_pos h]
end Go.Av
namespace Go.Av
open Go
section
variable {α σ R:Type} {xs:List α}
theorem foldLoop{L:Nat→Int→σ→Option R}{f:σ→α→σ}{fin:σ→Option R}(P:Nat→σ→Prop)
 (hend:∀n st,P xs.length st→L (n+1) (xs.length:Int) st=fin st)
 (hstep:∀n i st (h:i<xs.length),P i st→L (n+1) (i:Int) st=L n ((i+1:Nat):Int) (f st xs[i])∧P (i+1) (f st xs[i])):
 ∀(c i n:Nat) (st:σ),i+c=xs.length→c+1≤n→P i st→L n (i:Int) st=fin ((xs.drop i).foldl f st)∧P xs.length ((xs.drop i).foldl f st)
 |0,i,n,st,hi,hn,hp=>by
  obtain⟨n,rfl⟩:∃m,n=m+1:=⟨n-1,by omega⟩
  have e:i=xs.length:=by omega
  subst e
  rw[List.drop_length]
  exact⟨hend n st hp,hp⟩
 |c+1,i,n,st,hi,hn,hp=>by
  obtain⟨n,rfl⟩:∃m,n=m+1:=⟨n-1,by omega⟩
  have hlt:i<xs.length:=by omega
  obtain⟨h1,h2⟩:=hstep n i st hlt hp
  rw[h1,List.drop_eq_getElem_cons hlt,List.foldl_cons]
  exact foldLoop P hend hstep c (i+1) n _ (by omega) (by omega) h2
theorem foldLoop0{L:Nat→Int→σ→Option R}{f:σ→α→σ}{fin:σ→Option R}(P:Nat→σ→Prop)
 (hend:∀n st,P xs.length st→L (n+1) (xs.length:Int) st=fin st)
 (hstep:∀n i st (h:i<xs.length),P i st→L (n+1) (i:Int) st=L n ((i+1:Nat):Int) (f st xs[i])∧P (i+1) (f st xs[i]))
 (n:Nat) (st:σ) (hn:xs.length+1≤n) (hp:P 0 st):L n 0 st=fin (xs.foldl f st)∧P xs.length (xs.foldl f st):=by
 have:=foldLoop P hend hstep xs.length 0 n st (by omega) hn hp
 simpa using this
theorem checkLoop{L:Nat→Int→Option R}{e:Option R→Prop}{fin:Option R}(Q:α→Prop)
 (hend:∀n,L (n+1) (xs.length:Int)=fin)
 (hstep:∀n i (h:i<xs.length),e (L (n+1) (i:Int))∨(L (n+1) (i:Int)=L n ((i+1:Nat):Int)∧Q xs[i])):
 ∀(c i n:Nat),i+c=xs.length→c+1≤n→e (L n (i:Int))∨(L n (i:Int)=fin∧∀x∈xs.drop i,Q x)
 |0,i,n,hi,hn=>by
  obtain⟨n,rfl⟩:∃m,n=m+1:=⟨n-1,by omega⟩
  have h:i=xs.length:=by omega
  subst h
  rw[List.drop_length]
  exact .inr ⟨hend n,fun x hx=>by simp at hx⟩
 |c+1,i,n,hi,hn=>by
  obtain⟨n,rfl⟩:∃m,n=m+1:=⟨n-1,by omega⟩
  have hlt:i<xs.length:=by omega
  rcases hstep n i hlt with h|⟨h1,h2⟩
  ·exact .inl h
  ·rw[h1,List.drop_eq_getElem_cons hlt]
   rcases checkLoop Q hend hstep c (i+1) n (by omega) (by omega)with h|⟨h3,h4⟩
   ·exact .inl h
   ·exact .inr ⟨h3,fun x hx=>by
     rcases List.mem_cons.1 hx with rfl|hx
     ·exact h2
     ·exact h4 x hx⟩
theorem checkLoop0{L:Nat→Int→Option R}{e:Option R→Prop}{fin:Option R}(Q:α→Prop)
 (hend:∀n,L (n+1) (xs.length:Int)=fin)
 (hstep:∀n i (h:i<xs.length),e (L (n+1) (i:Int))∨(L (n+1) (i:Int)=L n ((i+1:Nat):Int)∧Q xs[i]))
 (n:Nat) (hn:xs.length+1≤n):e (L n 0)∨(L n 0=fin∧∀x∈xs,Q x):=by
 have:=checkLoop Q hend hstep xs.length 0 n (by omega) hn
 simpa using this
theorem stateLoop{L:Nat→Int→σ→Option R}{e:Option R→Prop}{fin:σ→Option R}(P:Nat→σ→Prop)
 (hend:∀n st,P xs.length st→L (n+1) (xs.length:Int) st=fin st)
 (hstep:∀n i st (h:i<xs.length),P i st→e (L (n+1) (i:Int) st)∨∃st',L (n+1) (i:Int) st=L n ((i+1:Nat):Int) st'∧P (i+1) st'):
 ∀(c i n:Nat) (st:σ),i+c=xs.length→c+1≤n→P i st→e (L n (i:Int) st)∨∃st',L n (i:Int) st=fin st'∧P xs.length st'
 |0,i,n,st,hi,hn,hp=>by
  obtain⟨n,rfl⟩:∃m,n=m+1:=⟨n-1,by omega⟩
  have h:i=xs.length:=by omega
  subst h
  exact .inr ⟨st,hend n st hp,hp⟩
 |c+1,i,n,st,hi,hn,hp=>by
  obtain⟨n,rfl⟩:∃m,n=m+1:=⟨n-1,by omega⟩
  have hlt:i<xs.length:=by omega
  rcases hstep n i st hlt hp with h|⟨st',h1,h2⟩
  ·exact .inl h
  ·rw[h1]
   exact stateLoop P hend hstep c (i+1) n st' (by omega) (by omega) h2
theorem stateLoop0{L:Nat→Int→σ→Option R}{e:Option R→Prop}{fin:σ→Option R}(P:Nat→σ→Prop)
 (hend:∀n st,P xs.length st→L (n+1) (xs.length:Int) st=fin st)
 (hstep:∀n i st (h:i<xs.length),P i st→e (L (n+1) (i:Int) st)∨∃st',L (n+1) (i:Int) st=L n ((i+1:Nat):Int) st'∧P (i+1) st')
 (n:Nat) (st:σ) (hn:xs.length+1≤n) (hp:P 0 st):e (L n 0 st)∨∃st',L n 0 st=fin st'∧P xs.length st':=by
 have:=stateLoop P hend hstep xs.length 0 n st (by omega) hn hp
 simpa using this
end
theorem nth_get{α:Type}{xs:List α}{i:Nat}(h:i<xs.length):nth xs (i:Int)=some xs[i]:=by rw[nth_nat,List.getElem?_eq_getElem h]
theorem succ_in{i n:Nat}(h:i<n)(hn:n≤9223372036854775807):IntKind.i64.wrap ((i:Int)+1)=((i+1:Nat):Int):=by rw[wrap_in (by omega)];omega
end Go.Av
namespace Go.Av
open Go
theorem take_snoc{α:Type}{xs:List α}{i:Nat}(h:i<xs.length):xs.take (i+1)=xs.take i++[xs[i]]:=by
 rw[List.take_add_one,List.getElem?_eq_getElem h];rfl
theorem w32_eq(n:Int):IntKind.u32.wrap n=n%4294967296:=by simp[IntKind.wrap,IntKind.signed,IntKind.bits]
theorem w64_eq(n:Int):IntKind.u64.wrap n=n%18446744073709551616:=by simp[IntKind.wrap,IntKind.signed,IntKind.bits]
theorem w64_in{n:Int}(h:0≤n∧n<18446744073709551616):IntKind.u64.wrap n=n:=by rw[w64_eq];omega
def Lim(l:List Int):Prop:=∀x∈l,0≤x∧x<4294967296
theorem Lim.app{a b:List Int}(ha:Lim a)(hb:Lim b):Lim (a++b):=fun x hx=>(List.mem_append.1 hx).elim (ha x) (hb x)
theorem Lim.one{x:Int}(h:0≤x∧x<4294967296):Lim [x]:=fun y hy=>by simp at hy;subst hy;exact h
theorem Lim.nil:Lim []:=fun y hy=>by simp at hy
theorem Lim.left{a b:List Int}(h:Lim (a++b)):Lim a:=fun x hx=>h x (List.mem_append_left _ hx)
theorem Lim.take{a:List Int}(n:Nat)(h:Lim a):Lim (a.take n):=fun x hx=>h x (List.mem_of_mem_take hx)
theorem Lim.drop{a:List Int}(n:Nat)(h:Lim a):Lim (a.drop n):=fun x hx=>h x (List.mem_of_mem_drop hx)
def Nrm(l:List Int):Prop:=∀r x,l=r++[x]→x≠0
theorem Nrm.nil:Nrm []:=fun r x h=>by simp at h
theorem Lim.set{a:List Int}(ha:Lim a)(m:Nat){d:Int}(hd:0≤d∧d<4294967296):Lim (a.set m d):=fun x hx=>by
 rcases List.mem_or_eq_of_mem_set hx with h|rfl
 ·exact ha x h
 ·exact hd
end Go.Av
namespace Go.Proofs.YtllnonlmibanfaaGreatDoor.EB
open Go Go.Av
theorem orR{s:Nat}{p a c:Int}(hp:p=((2^s:Nat):Int))(hs:s≤64)(ha:0≤a∧a<18446744073709551616)(hd:p∣a)(hc:0≤c∧c<p):bits .or .u64 a c=a+c:=by
 subst hp
 obtain⟨A,rfl⟩:=Int.eq_ofNat_of_zero_le ha.1
 obtain⟨C,rfl⟩:=Int.eq_ofNat_of_zero_le hc.1
 have hC:C<2^s:=by omega
 have hD:2^s∣A:=by exact_mod_cast hd
 obtain⟨q,rfl⟩:=hD
 have hp:2^s*2^(64-s)=18446744073709551616:=by rw[←Nat.pow_add,show s+(64-s)=64 by omega]
 have hq:q<2^(64-s):=by
  have h1:2^s*q<2^s*2^(64-s):=by rw[hp];omega
  exact Nat.lt_of_mul_lt_mul_left h1
 have hsum:2^s*q+C<18446744073709551616:=by
  have h1:2^s*(q+1)≤2^s*2^(64-s):=Nat.mul_le_mul_left _ (by omega)
  rw[hp,Nat.mul_add,Nat.mul_one]at h1
  omega
 have hor:2^s*q|||C=2^s*q+C:=(Nat.two_pow_add_eq_or_of_lt hC q).symm
 unfold bits
 have e1:BitVec.ofInt (IntKind.bits .u64) ((2^s*q:Nat):Int)=BitVec.ofNat 64 (2^s*q):=by
  rw[BitVec.ofInt_natCast];rfl
 have e2:BitVec.ofInt (IntKind.bits .u64) ((C:Nat):Int)=BitVec.ofNat 64 C:=by
  rw[BitVec.ofInt_natCast];rfl
 skip
 rw[e1,e2,w64_eq]
 have e3:(BitVec.ofNat 64 (2^s*q)|||BitVec.ofNat 64 C).toNat=2^s*q+C:=by
  rw[BitVec.toNat_or,BitVec.toNat_ofNat,BitVec.toNat_ofNat,Nat.mod_eq_of_lt (by omega),Nat.mod_eq_of_lt (by omega),hor]
 have e4:((BitVec.ofNat 64 (2^s*q)|||BitVec.ofNat 64 C:BitVec (IntKind.bits .u64)).toNat:Int)=((2^s*q+C:Nat):Int):=by exact_mod_cast e3
 show((BitVec.ofNat 64 (2^s*q)|||BitVec.ofNat 64 C:BitVec (IntKind.bits .u64)).toNat:Int)%18446744073709551616=_
 rw[e4]
 omega
theorem orComm(k:IntKind)(a c:Int):bits .or k a c=bits .or k c a:=by
 unfold bits
 simp only[BitVec.or_comm]
theorem orL{s:Nat}{p a c:Int}(hp:p=((2^s:Nat):Int))(hs:s≤64)(hc:0≤c∧c<18446744073709551616)(hd:p∣c)(ha:0≤a∧a<p):bits .or .u64 a c=a+c:=by
 rw[orComm,orR hp hs hc hd ha,Int.add_comm]
theorem w32_in{n:Int}(h:0≤n∧n<4294967296):IntKind.u32.wrap n=n:=by rw[w32_eq];omega
theorem orR3{s:Nat}{p a c:Int}(hp:p=((2^s:Nat):Int))(hs:s≤32)(ha:0≤a∧a<4294967296)(hd:p∣a)(hc:0≤c∧c<p):bits .or .u32 a c=a+c:=by
 subst hp
 obtain⟨A,rfl⟩:=Int.eq_ofNat_of_zero_le ha.1
 obtain⟨C,rfl⟩:=Int.eq_ofNat_of_zero_le hc.1
 have hC:C<2^s:=by omega
 have hD:2^s∣A:=by exact_mod_cast hd
 obtain⟨q,rfl⟩:=hD
 have hp:2^s*2^(32-s)=4294967296:=by rw[←Nat.pow_add,show s+(32-s)=32 by omega]
 have hq:q<2^(32-s):=by
  have h1:2^s*q<2^s*2^(32-s):=by rw[hp];omega
  exact Nat.lt_of_mul_lt_mul_left h1
 have hsum:2^s*q+C<4294967296:=by
  have h1:2^s*(q+1)≤2^s*2^(32-s):=Nat.mul_le_mul_left _ (by omega)
  rw[hp,Nat.mul_add,Nat.mul_one]at h1
  omega
 have hor:2^s*q|||C=2^s*q+C:=(Nat.two_pow_add_eq_or_of_lt hC q).symm
 unfold bits
 have e1:BitVec.ofInt (IntKind.bits .u32) ((2^s*q:Nat):Int)=BitVec.ofNat 32 (2^s*q):=by
  rw[BitVec.ofInt_natCast];rfl
 have e2:BitVec.ofInt (IntKind.bits .u32) ((C:Nat):Int)=BitVec.ofNat 32 C:=by
  rw[BitVec.ofInt_natCast];rfl
 skip
 rw[e1,e2,w32_eq]
 have e3:(BitVec.ofNat 32 (2^s*q)|||BitVec.ofNat 32 C).toNat=2^s*q+C:=by
  rw[BitVec.toNat_or,BitVec.toNat_ofNat,BitVec.toNat_ofNat,Nat.mod_eq_of_lt (by omega),Nat.mod_eq_of_lt (by omega),hor]
 have e4:((BitVec.ofNat 32 (2^s*q)|||BitVec.ofNat 32 C:BitVec (IntKind.bits .u32)).toNat:Int)=((2^s*q+C:Nat):Int):=by exact_mod_cast e3
 show((BitVec.ofNat 32 (2^s*q)|||BitVec.ofNat 32 C:BitVec (IntKind.bits .u32)).toNat:Int)%4294967296=_
 rw[e4]
 omega
theorem orL3{s:Nat}{p a c:Int}(hp:p=((2^s:Nat):Int))(hs:s≤32)(hc:0≤c∧c<4294967296)(hd:p∣c)(ha:0≤a∧a<p):bits .or .u32 a c=a+c:=by
 rw[orComm,orR3 hp hs hc hd ha,Int.add_comm]
theorem y8:(2:Int)^(min (8:Int).toNat (IntKind.bits .u32))=256:=by decide+kernel
theorem y16:(2:Int)^(min (16:Int).toNat (IntKind.bits .u32))=65536:=by decide+kernel
theorem y24:(2:Int)^(min (24:Int).toNat (IntKind.bits .u32))=16777216:=by decide+kernel
def Byte(x:Int):Prop:=0≤x∧x≤255
theorem four(x0 x1 x2 x3:Int)(h0:Byte x0)(h1:Byte x1)(h2:Byte x2)(h3:Byte x3):
 bits .or .u32 (bits .or .u32 (bits .or .u32 (IntKind.u32.wrap x3) (IntKind.u32.wrap ((IntKind.u32.wrap x2)*2^(min (8:Int).toNat (IntKind.bits .u32))))) (IntKind.u32.wrap ((IntKind.u32.wrap x1)*2^(min (16:Int).toNat (IntKind.bits .u32))))) (IntKind.u32.wrap ((IntKind.u32.wrap x0)*2^(min (24:Int).toNat (IntKind.bits .u32))))
  =((x0*256+x1)*256+x2)*256+x3:=by
 unfold Byte at *
 rw[y8,y16,y24]
 rw[w32_in (n:=x0) (by omega),w32_in (n:=x1) (by omega),w32_in (n:=x2) (by omega),w32_in (n:=x3) (by omega)]
 rw[w32_in (n:=x2*256) (by omega),w32_in (n:=x1*65536) (by omega),w32_in (n:=x0*16777216) (by omega)]
 rw[orL3 (s:=8) (p:=256) (by decide) (by decide) (by omega) ⟨x2,Int.mul_comm _ _⟩ (by omega)]
 rw[orL3 (s:=16) (p:=65536) (by decide) (by decide) (by omega) ⟨x1,Int.mul_comm _ _⟩ (by omega)]
 rw[orL3 (s:=24) (p:=16777216) (by decide) (by decide) (by omega) ⟨x0,Int.mul_comm _ _⟩ (by omega)]
 omega
theorem eight(x0 x1 x2 x3 x4 x5 x6 x7:Int)(h0:Byte x0)(h1:Byte x1)(h2:Byte x2)(h3:Byte x3)(h4:Byte x4)(h5:Byte x5)(h6:Byte x6)(h7:Byte x7):
 bits .or .u64 (bits .or .u64 (bits .or .u64 (bits .or .u64 (bits .or .u64 (bits .or .u64 (bits .or .u64 (IntKind.u64.wrap x7) (IntKind.u64.wrap ((IntKind.u64.wrap x6)*2^(min (8:Int).toNat (IntKind.bits .u64))))) (IntKind.u64.wrap ((IntKind.u64.wrap x5)*2^(min (16:Int).toNat (IntKind.bits .u64))))) (IntKind.u64.wrap ((IntKind.u64.wrap x4)*2^(min (24:Int).toNat (IntKind.bits .u64))))) (IntKind.u64.wrap ((IntKind.u64.wrap x3)*2^(min (32:Int).toNat (IntKind.bits .u64))))) (IntKind.u64.wrap ((IntKind.u64.wrap x2)*2^(min (40:Int).toNat (IntKind.bits .u64))))) (IntKind.u64.wrap ((IntKind.u64.wrap x1)*2^(min (48:Int).toNat (IntKind.bits .u64))))) (IntKind.u64.wrap ((IntKind.u64.wrap x0)*2^(min (56:Int).toNat (IntKind.bits .u64))))
  =(((((((0*256+x0)*256+x1)*256+x2)*256+x3)*256+x4)*256+x5)*256+x6)*256+x7:=by
 unfold Byte at *
 rw[z8,z16,z24,z32,z40,z48,z56]
 rw[w64_in (n:=x0) (by omega),w64_in (n:=x1) (by omega),w64_in (n:=x2) (by omega),w64_in (n:=x3) (by omega),w64_in (n:=x4) (by omega),w64_in (n:=x5) (by omega),w64_in (n:=x6) (by omega),w64_in (n:=x7) (by omega)]
 rw[w64_in (n:=x6*256) (by omega),w64_in (n:=x5*65536) (by omega),w64_in (n:=x4*16777216) (by omega),w64_in (n:=x3*4294967296) (by omega),w64_in (n:=x2*1099511627776) (by omega),w64_in (n:=x1*281474976710656) (by omega),w64_in (n:=x0*72057594037927936) (by omega)]
 rw[orL (s:=8) (p:=256) (by decide) (by decide) (by omega) ⟨x6,Int.mul_comm _ _⟩ (by omega)]
 rw[orL (s:=16) (p:=65536) (by decide) (by decide) (by omega) ⟨x5,Int.mul_comm _ _⟩ (by omega)]
 rw[orL (s:=24) (p:=16777216) (by decide) (by decide) (by omega) ⟨x4,Int.mul_comm _ _⟩ (by omega)]
 rw[orL (s:=32) (p:=4294967296) (by decide) (by decide) (by omega) ⟨x3,Int.mul_comm _ _⟩ (by omega)]
 rw[orL (s:=40) (p:=1099511627776) (by decide) (by decide) (by omega) ⟨x2,Int.mul_comm _ _⟩ (by omega)]
 rw[orL (s:=48) (p:=281474976710656) (by decide) (by decide) (by omega) ⟨x1,Int.mul_comm _ _⟩ (by omega)]
 rw[orL (s:=56) (p:=72057594037927936) (by decide) (by decide) (by omega) ⟨x0,Int.mul_comm _ _⟩ (by omega)]
 omega
theorem w8_eq(n:Int):IntKind.u8.wrap n=n%256:=by simp[IntKind.wrap,IntKind.signed,IntKind.bits]
theorem byte_w(n:Int):Byte (IntKind.u8.wrap n):=by rw[w8_eq];unfold Byte;omega
theorem fd{n:Int}(p:Int)(hp:0≤p):Int.fdiv n p=n/p:=Int.fdiv_eq_ediv_of_nonneg _ hp
theorem qq24:(2:Int)^24=16777216:=by decide+kernel
theorem qq16:(2:Int)^16=65536:=by decide+kernel
theorem qq8:(2:Int)^8=256:=by decide+kernel
theorem u32B(N:Nat)(n:Int)(h:0≤n∧n<4294967296):F101 N () (w32 true n)=some n:=by
 refine Eq.trans (b:=some _) rfl ?_
 rw[four _ _ _ _ (byte_w _) (byte_w _) (byte_w _) (byte_w _),w8_eq,w8_eq,w8_eq,w8_eq,qq24,qq16,qq8,fd _ (by decide),fd _ (by decide),fd _ (by decide)]
 congr 1;omega
theorem u32L(N:Nat)(n:Int)(h:0≤n∧n<4294967296):F102 N () (w32 false n)=some n:=by
 refine Eq.trans (b:=some _) rfl ?_
 rw[four _ _ _ _ (byte_w _) (byte_w _) (byte_w _) (byte_w _),w8_eq,w8_eq,w8_eq,w8_eq,qq24,qq16,qq8,fd _ (by decide),fd _ (by decide),fd _ (by decide)]
 congr 1;omega
theorem u64B(N:Nat)(n:Int)(r:List Int)(h:0≤n∧n<18446744073709551616):F107 N () (w64 true n++r)=some n:=by
 have g:∀i:Nat,i<8→nth (w64 true n++r) (i:Int)=(w64 true n)[i]?:=fun i hi=>by
  rw[nth_nat,List.getElem?_append_left (by rw[w64_len];exact hi)]
 unfold F107 F107_g
 rw[show nth (w64 true n++r) 7=_ from g 7 (by decide),show nth (w64 true n++r) 6=_ from g 6 (by decide),show nth (w64 true n++r) 5=_ from g 5 (by decide),show nth (w64 true n++r) 4=_ from g 4 (by decide),show nth (w64 true n++r) 3=_ from g 3 (by decide),show nth (w64 true n++r) 2=_ from g 2 (by decide),show nth (w64 true n++r) 1=_ from g 1 (by decide),show nth (w64 true n++r) 0=_ from g 0 (by decide)]
 refine Eq.trans (b:=some _) rfl ?_
 rw[eight _ _ _ _ _ _ _ _ (byte_w _) (byte_w _) (byte_w _) (byte_w _) (byte_w _) (byte_w _) (byte_w _) (byte_w _)]
 simp only[w8_eq,fd _ (show(0:Int)≤256 from by decide),fd _ (show(0:Int)≤65536 from by decide),fd _ (show(0:Int)≤16777216 from by decide),fd _ (show(0:Int)≤4294967296 from by decide),fd _ (show(0:Int)≤1099511627776 from by decide),fd _ (show(0:Int)≤281474976710656 from by decide),fd _ (show(0:Int)≤72057594037927936 from by decide)]
 congr 1;omega
theorem u64L(N:Nat)(n:Int)(r:List Int)(h:0≤n∧n<18446744073709551616):F108 N () (w64 false n++r)=some n:=by
 have g:∀i:Nat,i<8→nth (w64 false n++r) (i:Int)=(w64 false n)[i]?:=fun i hi=>by
  rw[nth_nat,List.getElem?_append_left (by rw[w64_len];exact hi)]
 unfold F108 F108_g
 rw[show nth (w64 false n++r) 7=_ from g 7 (by decide),show nth (w64 false n++r) 6=_ from g 6 (by decide),show nth (w64 false n++r) 5=_ from g 5 (by decide),show nth (w64 false n++r) 4=_ from g 4 (by decide),show nth (w64 false n++r) 3=_ from g 3 (by decide),show nth (w64 false n++r) 2=_ from g 2 (by decide),show nth (w64 false n++r) 1=_ from g 1 (by decide),show nth (w64 false n++r) 0=_ from g 0 (by decide)]
 refine Eq.trans (b:=some _) rfl ?_
 rw[eight _ _ _ _ _ _ _ _ (byte_w _) (byte_w _) (byte_w _) (byte_w _) (byte_w _) (byte_w _) (byte_w _) (byte_w _)]
 simp only[w8_eq,fd _ (show(0:Int)≤256 from by decide),fd _ (show(0:Int)≤65536 from by decide),fd _ (show(0:Int)≤16777216 from by decide),fd _ (show(0:Int)≤4294967296 from by decide),fd _ (show(0:Int)≤1099511627776 from by decide),fd _ (show(0:Int)≤281474976710656 from by decide),fd _ (show(0:Int)≤72057594037927936 from by decide)]
 congr 1;omega
theorem rF(N:Nat)(big:Bool)(f:Nat)(r:List Int)(h:f<18446744073709551616):F109 (N+8) (w64 big (f:Int)++r) (ordC big)=some f:=by
 cases big
 ·refine Eq.trans (b:=(F108 (N+8) () (w64 false (f:Int)++r)).bind fun v=>F109_j0 (N+8) v) (by kernel_rfl) ?_
  rw[u64L (N+8) (f:Int) r ⟨by omega,by omega⟩];rfl
 ·refine Eq.trans (b:=(F107 (N+8) () (w64 true (f:Int)++r)).bind fun v=>F109_j0 (N+8) v) (by kernel_rfl) ?_
  rw[u64B (N+8) (f:Int) r ⟨by omega,by omega⟩];rfl
end Go.Proofs.YtllnonlmibanfaaGreatDoor.EB
namespace Go.Proofs.YtllnonlmibanfaaGreatDoor.EB
open Go Go.Av
theorem drop_lt{bs e r:List Int}{o:Nat}(h:bs.drop o=e++r)(he:0<e.length):o+e.length+r.length=bs.length:=by
 have h1:=congrArg List.length h
 rw[List.length_drop,List.length_append]at h1
 omega
theorem drop_drop'{bs e r:List Int}{o:Nat}(h:bs.drop o=e++r):bs.drop (o+e.length)=r:=by
 rw[←List.drop_drop,h,List.drop_left]
theorem rd1(N:Nat)(bs:List Int)(o:Nat)(l x:Int)(r:List Int)(h:bs.drop o=x::r)(hb:bs.length≤1000000000000):
 F99 (N+8) (bs,(o:Int),l,()) [0]=some (Sum.inl (1,(),(bs,((o+1:Nat):Int), -1,()),[x],())):=by
 have hl:=drop_lt (e:=[x]) (r:=r) h (by simp)
 simp only[List.length_cons,List.length_nil]at hl
 have ht:(bs.drop o).take (bs.length-o)=x::r:=by rw[List.take_of_length_le (by simp),h]
 have hm:min (x::r).length ([0]:List Int).length=1:=by simp
 unfold F99 F99_g F97 F97_g
 simp only[Option.bind_some]
 rw[decide_eq_false (by omega),cond_false,chk2N (n:=o) (m:=bs.length) rfl rfl (by omega) (by omega),Option.bind_some]
 simp only[]
 rw[ht,hm,decide_eq_true (by decide),cond_true]
 unfold F99_j0 F99_g0
 rw[gate_pos (by omega)]
 simp only[]
 rw[ht,hm,wrapN (n:=o+1) (by omega) (by omega),List.drop_eq_nil_of_le (by simp),List.append_nil]
 rfl
theorem rB(N:Nat)(bs:List Int)(o:Nat)(l x:Int)(r:List Int)(h:bs.drop o=x::r)(hb:bs.length≤1000000000000):
 F100 (N+8) (bs,(o:Int),l,())=some (Sum.inr (x,(),(bs,((o+1:Nat):Int), -1,()),())):=by
 unfold F100 F100_g
 rw[rd1 N bs o l x r h hb]
 rfl
theorem rdb(N:Nat)(bs:List Int)(o:Nat)(l:Int)(e r ys:List Int)(h:bs.drop o=e++r)(he:e.length=ys.length)(hy:0<ys.length)(hb:bs.length≤1000000000000):
 F103 (N+8) (bs,(o:Int),l,()) (ys,0,ys.length)=some (Sum.inl ((ys.length:Int),(),(bs,((o+ys.length:Nat):Int), -1,()),(e,0,ys.length),())):=by
 have hl:=drop_lt h (by omega)
 have ht:(bs.drop o).take (bs.length-o)=e++r:=by rw[List.take_of_length_le (by simp),h]
 have hm:min (e++r).length ys.length=ys.length:=by rw[List.length_append];omega
 unfold F103 F103_g F97 F97_g
 simp only[Option.bind_some]
 rw[decide_eq_false (by omega),cond_false,chk2N (n:=o) (m:=bs.length) rfl rfl (by omega) (by omega),Option.bind_some]
 simp only[]
 rw[ht,hm,decide_eq_true (by omega),cond_true]
 unfold F103_j0 F103_g0
 rw[gate_pos (by omega)]
 simp only[]
 rw[ht,hm,wrapN (n:=o+ys.length) (by omega) (by omega),List.take_zero,List.nil_append,Nat.zero_add,List.drop_eq_nil_of_le (Nat.le_refl _),List.append_nil,List.take_left' he]
theorem rab(N:Nat)(bs:List Int)(o:Nat)(l:Int)(e r ys:List Int)(h:bs.drop o=e++r)(he:e.length=ys.length)(hb:bs.length≤1000000000000)(l':Int)(hl':l'=if ys=[]then l else-1):
 F104 (N+8) (bs,(o:Int),l,()) ys (ys.length:Int)=some (Sum.inr (Sum.inl ((ys.length:Int),(),(bs,((o+ys.length:Nat):Int),l',()),e,()))):=by
 subst hl'
 unfold F104 F104_g
 rw[decide_eq_false (by omega),cond_false]
 by_cases hy:ys=[]
 ·subst hy
  have:e=[]:=List.eq_nil_of_length_eq_zero he
  subst this
  rw[if_pos rfl]
  show F104_g0 (N+8) 0 _ _ _ 0 bs (o:Int) l []=_
  unfold F104_g0
  rw[decide_eq_false (by omega),cond_false,gate_pos (by omega),decide_eq_true (by omega),cond_true]
  rfl
 ·have hpos:0<ys.length:=List.length_pos_iff.2 hy
  have hl:=drop_lt h (by omega)
  rw[if_neg hy]
  show F104_g0 (N+8) (ys.length:Int) (F104_l1 (N+8) (N+7)) (F104_j2 (N+8)) (F104_l0 (N+8) (N+7) (ys.length:Int)) 0 bs (o:Int) l ys=_
  unfold F104_g0
  rw[decide_eq_true (by omega),cond_true,chk2N (k:=0) (n:=0) (m:=ys.length) (len:=ys.length) rfl rfl (by omega) (by omega),Option.bind_some]
  simp only[]
  rw[Nat.sub_zero,rdb N bs o l e r ys h he hpos hb,Option.bind_some]
  simp only[Sum.elim_inl]
  have ha:=and5 ys.length 0 e.length ys.length (by omega) he
  rw[ha,cond_true,wrapN (n:=ys.length) (by omega) (by omega)]
  show F104_g0 (N+8) (ys.length:Int) (F104_l1 (N+8) (N+6)) (F104_j2 (N+8)) (F104_l0 (N+8) (N+6) (ys.length:Int)) (ys.length:Int) bs ((o+ys.length:Nat):Int) (-1) e=_
  unfold F104_g0
  rw[decide_eq_false (by omega),cond_false,gate_pos (by omega),decide_eq_true (by omega),cond_true]
theorem rfb(N:Nat)(bs:List Int)(o:Nat)(l:Int)(e r ys:List Int)(h:bs.drop o=e++r)(he:e.length=ys.length)(hb:bs.length≤1000000000000)(l':Int)(hl':l'=if ys=[]then l else-1):
 F105 (N+8) (bs,(o:Int),l,()) ys=some (Sum.inr (Sum.inl ((ys.length:Int),(),(bs,((o+ys.length:Nat):Int),l',()),e,()))):=by
 unfold F105 F105_g
 rw[rab N bs o l e r ys h he hb l' hl']
 rfl
theorem rdc(N:Nat)(bs:List Int)(o:Nat)(l:Int)(e r ys:List Int)(h:bs.drop o=e++r)(he:e.length=ys.length)(hy:0<ys.length)(hb:bs.length≤1000000000000):
 F110 (N+8) (bs,(o:Int),l,()) (ys,0,ys.length)=some (Sum.inl ((ys.length:Int),(),(bs,((o+ys.length:Nat):Int), -1,()),(e,0,ys.length),())):=by
 have hl:=drop_lt h (by omega)
 have ht:(bs.drop o).take (bs.length-o)=e++r:=by rw[List.take_of_length_le (by simp),h]
 have hm:min (e++r).length ys.length=ys.length:=by rw[List.length_append];omega
 unfold F110 F110_g F97 F97_g
 simp only[Option.bind_some]
 rw[decide_eq_false (by omega),cond_false,chk2N (n:=o) (m:=bs.length) rfl rfl (by omega) (by omega),Option.bind_some]
 simp only[]
 rw[ht,hm,decide_eq_true (by omega),cond_true]
 unfold F110_j0 F110_g0
 rw[gate_pos (by omega)]
 simp only[]
 rw[ht,hm,wrapN (n:=o+ys.length) (by omega) (by omega),List.take_zero,List.nil_append,Nat.zero_add,List.drop_eq_nil_of_le (Nat.le_refl _),List.append_nil,List.take_left' he]
theorem rac(N:Nat)(bs:List Int)(o:Nat)(l:Int)(e r ys:List Int)(h:bs.drop o=e++r)(he:e.length=ys.length)(hb:bs.length≤1000000000000)(l':Int)(hl':l'=if ys=[]then l else-1):
 F111 (N+8) (bs,(o:Int),l,()) ys (ys.length:Int)=some (Sum.inr (Sum.inl ((ys.length:Int),(),(bs,((o+ys.length:Nat):Int),l',()),e,()))):=by
 subst hl'
 unfold F111 F111_g
 rw[decide_eq_false (by omega),cond_false]
 by_cases hy:ys=[]
 ·subst hy
  have:e=[]:=List.eq_nil_of_length_eq_zero he
  subst this
  rw[if_pos rfl]
  show F111_g0 (N+8) 0 _ _ _ 0 bs (o:Int) l []=_
  unfold F111_g0
  rw[decide_eq_false (by omega),cond_false,gate_pos (by omega),decide_eq_true (by omega),cond_true]
  rfl
 ·have hpos:0<ys.length:=List.length_pos_iff.2 hy
  have hl:=drop_lt h (by omega)
  rw[if_neg hy]
  show F111_g0 (N+8) (ys.length:Int) (F111_l1 (N+8) (N+7)) (F111_j2 (N+8)) (F111_l0 (N+8) (N+7) (ys.length:Int)) 0 bs (o:Int) l ys=_
  unfold F111_g0
  rw[decide_eq_true (by omega),cond_true,chk2N (k:=0) (n:=0) (m:=ys.length) (len:=ys.length) rfl rfl (by omega) (by omega),Option.bind_some]
  simp only[]
  rw[Nat.sub_zero,rdc N bs o l e r ys h he hpos hb,Option.bind_some]
  simp only[Sum.elim_inl]
  have ha:=and5 ys.length 0 e.length ys.length (by omega) he
  rw[ha,cond_true,wrapN (n:=ys.length) (by omega) (by omega)]
  show F111_g0 (N+8) (ys.length:Int) (F111_l1 (N+8) (N+6)) (F111_j2 (N+8)) (F111_l0 (N+8) (N+6) (ys.length:Int)) (ys.length:Int) bs ((o+ys.length:Nat):Int) (-1) e=_
  unfold F111_g0
  rw[decide_eq_false (by omega),cond_false,gate_pos (by omega),decide_eq_true (by omega),cond_true]
theorem rfc(N:Nat)(bs:List Int)(o:Nat)(l:Int)(e r ys:List Int)(h:bs.drop o=e++r)(he:e.length=ys.length)(hb:bs.length≤1000000000000)(l':Int)(hl':l'=if ys=[]then l else-1):
 F112 (N+8) (bs,(o:Int),l,()) ys=some (Sum.inr (Sum.inl ((ys.length:Int),(),(bs,((o+ys.length:Nat):Int),l',()),e,()))):=by
 unfold F112 F112_g
 rw[rac N bs o l e r ys h he hb l' hl']
 rfl
theorem rU(N:Nat)(big:Bool)(bs:List Int)(o:Nat)(l n:Int)(r:List Int)(h:bs.drop o=w32 big n++r)(hn:0≤n∧n<4294967296)(hb:bs.length≤1000000000000):
 F106 (N+8) (bs,(o:Int),l,()) (ordC big)=some (Sum.inr (Sum.inr (Sum.inr (n,(),(bs,((o+4:Nat):Int), -1,()),())))):=by
 have hf:=rfb N bs o l (w32 big n) r [0,0,0,0] h (by rw[w32_len];rfl) hb (-1) (by simp)
 unfold F106 F106_g
 rw[hf,Option.bind_some]
 cases big
 ·refine Eq.trans (b:=(F102 (N+8) () (w32 false n)).bind fun v25=>some (Sum.inr (Sum.inr (Sum.inr (v25,(),(bs,((o+4:Nat):Int), -1,()),()))))) (by kernel_rfl) ?_
  rw[u32L _ n hn];rfl
 ·refine Eq.trans (b:=(F101 (N+8) () (w32 true n)).bind fun v25=>some (Sum.inr (Sum.inr (Sum.inr (v25,(),(bs,((o+4:Nat):Int), -1,()),()))))) (by kernel_rfl) ?_
  rw[u32B _ n hn];rfl
end Go.Proofs.YtllnonlmibanfaaGreatDoor.EB
namespace Go.Proofs.YtllnonlmibanfaaGreatDoor.EB
open Go Go.Av
theorem fs_cons(big:Bool)(a:Nat)(r:List Nat):fs big (a::r)=w64 big (a:Int)++fs big r:=rfl
theorem fs_drop(big:Bool):∀(fl:List Nat) (i:Nat),(fs big fl).drop (8*i)=fs big (fl.drop i)
 |fl,0=>by simp
 |[],i+1=>by simp[fs]
 |a::r,i+1=>by
  have h:(w64 big (a:Int)).length=8:=w64_len big _
  rw[fs_cons,show 8*(i+1)=(w64 big (a:Int)).length+8*i from by omega,←List.drop_drop,List.drop_left,fs_drop big r i]
  rfl
theorem rFA_loop(N:Nat)(big:Bool)(fl:List Nat)(hf:∀f∈fl,f<18446744073709551616)(hl:fl.length≤1000000000000)(v:Int×Unit×(List Int×Int×Int×Unit)×List Int×Unit)(hv:v.2.2.2.1=fs big fl):∀(c i n:Nat),i+c=fl.length→c+1≤n→
 F113_l0 (N+8) n (ordC big) (List.replicate fl.length 0) v (i:Int) (fl.take i++List.replicate c 0)=some (Sum.inr (Sum.inr (Sum.inr ((),(v.2.2.1.1,v.2.2.1.2.1,v.2.2.1.2.2.1,()),fl,())))):=by
 intro c
 induction c with
 |zero=>
  intro i n hi hn
  obtain⟨n,rfl⟩:∃k,n=k+1:=⟨n-1,by omega⟩
  show F113_g0 (N+8) (ordC big) _ v _ (i:Int) (fl.take i++[])=_
  unfold F113_g0
  rw[List.length_replicate,decide_eq_false (by omega),cond_false,List.append_nil,List.take_of_length_le (by omega)]
 |succ c ih=>
  intro i n hi hn
  obtain⟨n,rfl⟩:∃k,n=k+1:=⟨n-1,by omega⟩
  have hlt:i<fl.length:=by omega
  have hd:((fs big fl).drop (8*i)).take (8*fl.length-8*i)=w64 big (fl[i]:Int)++fs big (fl.drop (i+1)):=by
   rw[List.take_of_length_le (by rw[List.length_drop,fs_len];exact Nat.le_refl _),fs_drop,List.drop_eq_getElem_cons hlt,fs_cons]
  have hr:=ih (i+1) n (by omega) (by omega)
  show F113_g0 (N+8) (ordC big) _ v (F113_l0 (N+8) n (ordC big) (List.replicate fl.length 0) v) (i:Int) (fl.take i++List.replicate (c+1) 0)=_
  unfold F113_g0
  rw[List.length_replicate,decide_eq_true (by omega),cond_true,hv,fs_len,chk2N (n:=8*i) (m:=8*fl.length) (wrapN (by omega) (by omega)) rfl (by omega) (by omega),Option.bind_some]
  simp only[]
  rw[hd,rF N big fl[i] _ (hf _ (List.getElem_mem hlt)),Option.bind_some,chkN (n:=i) rfl (by simp;omega),Option.bind_some,wrapN (n:=i+1) (by omega) (by omega)]
  have e2:(fl.take i++List.replicate (c+1) 0).set i fl[i]=fl.take (i+1)++List.replicate c 0:=by
   rw[List.set_append_right _ _ (by rw[List.length_take];omega),List.length_take,Nat.min_eq_left (by omega),Nat.sub_self,List.replicate_succ,List.set_cons_zero,List.take_add_one,List.getElem?_eq_getElem hlt]
   simp only[Option.toList_some,List.append_assoc,List.cons_append,List.nil_append]
  rw[e2];exact hr
theorem rFA(N:Nat)(big:Bool)(fl:List Nat)(hf:∀f∈fl,f<18446744073709551616)(bs:List Int)(o:Nat)(l:Int)(r:List Int)(h:bs.drop o=fs big fl++r)(hb:bs.length≤1000000000000)(hN:fl.length+1≤N+8)(hl:fl.length≤1000000000)(l':Int)(hl':l'=if fl=[]then l else-1):
 F113 (N+8) (bs,(o:Int),l,()) (ordC big) (List.replicate fl.length 0)=some (Sum.inr (Sum.inr (Sum.inr ((),(bs,((o+8*fl.length:Nat):Int),l',()),fl,())))):=by
 have hm:mkn (IntKind.i64.wrap (8*((List.replicate fl.length 0).length:Int))) (IntKind.i64.wrap (8*((List.replicate fl.length 0).length:Int))) 1=some (8*fl.length):=by
  rw[List.length_replicate,wrapN (n:=8*fl.length) (by omega) (by omega)];unfold mkn;rw[if_pos ⟨by omega,by omega,by omega,by omega⟩,Int.toNat_natCast]
 have hF:=rfc N bs o l (fs big fl) r (List.replicate (8*fl.length) 0) h (by rw[fs_len,List.length_replicate]) hb l' (by
  rw[hl']
  cases fl with
  |nil=>rfl
  |cons a q=>rw[if_neg (by simp),if_neg (by intro e;have:=congrArg List.length e;simp at this)])
 rw[List.length_replicate]at hF
 unfold F113 F113_g
 rw[hm,Option.bind_some,hF,Option.bind_some]
 have:=rFA_loop N big fl hf (by omega) (((8*fl.length:Nat):Int),(),(bs,((o+8*fl.length:Nat):Int),l',()),fs big fl,()) rfl fl.length 0 (N+8) (by omega) hN
 simpa using this
theorem rC0(N:Nat)(big:Bool)(fl:List Nat)(hf:∀f∈fl,f<18446744073709551616)(bs:List Int)(o:Nat)(l:Int)(r:List Int)(h:bs.drop o=fs big fl++r)(hb:bs.length≤1000000000000)(hN:fl.length+1≤N+8)(hl:fl.length≤1000000000)(h0:fl≠[]):
 F114 (N+8) (bs,(o:Int),l,()) (ordC big) (fl.length:Int)=some (Sum.inr (Sum.inr (Sum.inr (fl,(),(bs,((o+8*fl.length:Nat):Int), -1,()),())))):=by
 unfold F114 F114_g
 have hm:mkn (fl.length:Int) (fl.length:Int) 8=some fl.length:=by
  unfold mkn;rw[if_pos ⟨by omega,by omega,by omega,by omega⟩,Int.toNat_natCast]
 rw[hm,Option.bind_some,rFA N big fl hf bs o l r h hb hN hl (-1) (by rw[if_neg h0])]
 rfl
theorem rC1(N:Nat)(big:Bool)(fl:List Nat)(st k:Nat)(hk:fl.length=k*st)(hs:0<st)(hf:∀f∈fl,f<18446744073709551616)(bs:List Int)(o:Nat)(l:Int)(r:List Int)(h:bs.drop o=c1 big fl (st:Int)++r)(hb:bs.length≤1000000000000)(hN:fl.length+1≤N+8)(hl:fl.length≤1000000000):
 F116 (N+8) (bs,(o:Int),l,()) (ordC big) (st:Int)=some (Sum.inr (Sum.inr (Sum.inr (Sum.inr (fl,(),(bs,((o+(4+8*fl.length):Nat):Int), -1,()),()))))):=by
 have hkl:k≤fl.length:=by rw[hk];exact Nat.le_mul_of_pos_right k hs
 have hn:IntKind.u32.wrap (IntKind.i64.wrap (Int.tdiv (fl.length:Int) (st:Int)))=(k:Int):=by
  have e:Int.tdiv (fl.length:Int) (st:Int)=(k:Int):=by
   rw[hk,Int.natCast_mul,Int.mul_tdiv_cancel _ (by omega)]
  rw[e,wrapN (n:=k) rfl (by omega),w32_in ⟨by omega,by omega⟩]
 unfold c1 at h
 rw[hn,List.append_assoc]at h
 have hU:=rU N big bs o l (k:Int) (fs big fl++r) h ⟨by omega,by omega⟩ hb
 have h2:=drop_drop' h
 rw[w32_len]at h2
 have hF:=rFA N big fl hf bs (o+4) (-1) r h2 hb hN hl (-1) (by split<;>rfl)
 unfold F116 F116_g
 rw[hU,Option.bind_some]
 simp only[Sum.elim_inr]
 rw[decide_eq_false (by omega),cond_false]
 unfold F116_j0 F116_g0
 rw[gate_pos (by omega)]
 simp only[]
 have hm:mkn (IntKind.i64.wrap (IntKind.i64.wrap (k:Int)*(st:Int))) (IntKind.i64.wrap (IntKind.i64.wrap (k:Int)*(st:Int))) 8=some fl.length:=by
  rw[wrapN (n:=k) rfl (by omega),wrapN (n:=fl.length) (by rw[hk,Int.natCast_mul]) (by omega)];unfold mkn;rw[if_pos ⟨by omega,by omega,by omega,by omega⟩,Int.toNat_natCast]
 rw[hm,Option.bind_some,hF,Option.bind_some]
 simp only[Sum.elim_inr]
 rw[Nat.add_assoc]
end Go.Proofs.YtllnonlmibanfaaGreatDoor.EB
namespace Go.Proofs.YtllnonlmibanfaaGreatDoor.EB
open Go Go.Av
def segs(big:Bool)(fl:List Nat)(st:Int):Nat→List Nat→List Int
 |_,[]=>[]
 |p,e::r=>c1 big ((fl.drop p).take (e-p)) st++segs big fl st e r
def Ch(n:Nat):Nat→List Nat→Prop
 |_,[]=>True
 |p,e::r=>p≤e∧e≤n∧Ch n e r
theorem segs_len{big:Bool}{fl:List Nat}{st:Int}:∀(es:List Nat) (p:Nat),Ch fl.length p es→p≤fl.length→(segs big fl st p es).length≤4*es.length+8*(fl.length-p)
 |[],p,_,_=>by simp[segs]
 |e::r,p,h,hp=>by
  have h2:=segs_len (big:=big) (fl:=fl) (st:=st) r e h.2.2 h.2.1
  have h1:=h.1;have h3:=h.2.1
  simp only[segs,List.length_append,c1_len,List.length_take,List.length_drop,List.length_cons]
  omega
def ints(es:List Nat):List Int:=es.map fun(e:Nat)=>(e:Int)
theorem wC2_loop(N:Nat)(big:Bool)(fl:List Nat)(st:Int)(hs:st≠0)(es:List Nat)(hN:fl.length+1≤N+8)(hf:fl.length<9223372036854775808):∀(c i n p:Nat) (b:List Int),i+c=es.length→c+1≤n→Ch fl.length p (es.drop i)→p≤fl.length→
 b.length+4*c+8*(fl.length-p)≤140737488355328→es.length<9223372036854775807→
 F73_l0 (N+8) n (ordC big) fl st (ints es) (p:Int) (i:Int) b 0 0=some ((),(b++segs big fl st p (es.drop i),0,0,()),()):=by
 intro c
 induction c with
 |zero=>
  intro i n p b hi hn hc hp hb he
  obtain⟨n,rfl⟩:∃k,n=k+1:=⟨n-1,by omega⟩
  show F73_g0 (N+8) (ordC big) fl st (ints es) _ (p:Int) (i:Int) b 0 0=_
  unfold F73_g0
  rw[decide_eq_false (by simp[ints];omega),cond_false,List.drop_eq_nil_of_le (by omega),show segs big fl st p []=[]from rfl,List.append_nil]
 |succ c ih=>
  intro i n p b hi hn hc hp hb he
  obtain⟨n,rfl⟩:∃k,n=k+1:=⟨n-1,by omega⟩
  have hlt:i<es.length:=by omega
  rw[List.drop_eq_getElem_cons hlt]at hc⊢
  obtain⟨h1,h2,h3⟩:=hc
  have hn':nth (ints es) (i:Int)=some (es[i]:Int):=by rw[nthN (by simpa[ints]using hlt)];simp[ints]
  have hsl:((fl.drop p).take (es[i]-p)).length=es[i]-p:=by simp;omega
  have hW:=wC1 N big b 0 st ((fl.drop p).take (es[i]-p)) hs (by rw[hsl];omega) (by rw[hsl];omega)
  have hr:=ih (i+1) n es[i] (b++c1 big ((fl.drop p).take (es[i]-p)) st) (by omega) (by omega) h3 h2 (by simp only[List.length_append,c1_len,hsl];omega) he
  show F73_g0 (N+8) (ordC big) fl st (ints es) (F73_l0 (N+8) n (ordC big) fl st (ints es)) (p:Int) (i:Int) b 0 0=_
  unfold F73_g0
  rw[decide_eq_true (by simp[ints];omega),cond_true,hn',Option.bind_some,chk2N (n:=p) (m:=es[i]) rfl rfl h1 h2,Option.bind_some]
  simp only[]
  rw[hW,Option.bind_some,wrapN (n:=i+1) (by omega) (by omega)]
  simp only[]
  rw[hr,List.append_assoc];rfl
def c2(big:Bool)(fl:List Nat)(es:List Nat)(st:Int):List Int:=w32 big (IntKind.u32.wrap (es.length:Int))++segs big fl st 0 es
theorem wC2(N:Nat)(big:Bool)(fl:List Nat)(st:Int)(hs:st≠0)(es:List Nat)(hN:fl.length+1≤N+8)(hN2:es.length+1≤N+8)(b:List Int)(l:Int)(hc:Ch fl.length 0 es)
 (hb:b.length+4+4*es.length+8*fl.length≤140737488355328):
 F73 (N+8) (b,0,l,()) (ordC big) fl (ints es) st=some ((),(b++c2 big fl es st,0,0,()),()):=by
 unfold F73 F73_g
 rw[show((ints es).length:Int)=(es.length:Int)from by simp[ints]]
 rw[wU N big b l _ (by omega),Option.bind_some]
 show F73_l0 (N+8) (N+8) (ordC big) fl st (ints es) ((0:Nat):Int) ((0:Nat):Int) (b++w32 big _) 0 0=_
 rw[wC2_loop N big fl st hs es hN (by omega) es.length 0 (N+8) 0 _ (by omega) hN2 hc (by omega) (by simp only[List.length_append,w32_len];omega) (by omega),List.append_assoc];rfl
end Go.Proofs.YtllnonlmibanfaaGreatDoor.EB
namespace Go.Proofs.YtllnonlmibanfaaGreatDoor.EB
open Go Go.Av
def Cw(st n:Nat):Nat→List Nat→Prop
 |p,[]=>p=n
 |p,e::r=>p≤e∧st∣e-p∧Cw st n e r
theorem Cw_le{st n:Nat}:∀{es:List Nat} {p:Nat},Cw st n p es→p≤n
 |[],p,h=>by unfold Cw at h;omega
 |e::r,p,h=>Nat.le_trans h.1 (Cw_le h.2.2)
theorem Cw_Ch{st n:Nat}:∀{es:List Nat} {p:Nat},Cw st n p es→Ch n p es
 |[],p,h=>trivial
 |e::r,p,h=>⟨h.1,Cw_le h.2.2,Cw_Ch h.2.2⟩
theorem ints_snoc(es:List Nat){i:Nat}(hi:i<es.length)(c:Nat):(ints (es.take i)++List.replicate (c+1) 0).set i (es[i]:Int)=ints (es.take (i+1))++List.replicate c 0:=by
 have hl:(ints (es.take i)).length=i:=by simp[ints];omega
 rw[List.set_append_right _ _ (by omega),hl,Nat.sub_self,List.replicate_succ,List.set_cons_zero,List.take_add_one,List.getElem?_eq_getElem hi]
 simp only[ints,List.map_append,List.map_cons,List.map_nil,Option.toList_some,List.append_assoc,List.cons_append,List.nil_append]
theorem u32i{x:Int}{n:Nat}(h:x=(n:Int))(hn:n<4294967296):IntKind.u32.wrap x=(n:Int):=by
 subst h;exact w32_in ⟨by omega,by omega⟩
theorem rC2_loop(N:Nat)(big:Bool)(fl:List Nat)(st:Nat)(hs:0<st)(hf:∀f∈fl,f<18446744073709551616)(hl:fl.length≤1000000000)(hN:fl.length+1≤N+8)(es:List Nat)(he:es.length<4294967296)(bs:List Int)(hb:bs.length≤1000000000000)(r:List Int)(v:Int×Unit×(List Int×Int×Int×Unit)×Unit)(hv:v.1=(es.length:Int)):∀(c i n p o:Nat),i+c=es.length→c+1≤n→Cw st fl.length p (es.drop i)→bs.drop o=segs big fl (st:Int) p (es.drop i)++r→
 F117_l1 (N+8) n (ordC big) (st:Int) v (i:Int) (ints (es.take i)++List.replicate c 0) (fl.take p) bs (o:Int) (-1)=some (Sum.inr (Sum.inr (Sum.inr (Sum.inr (fl,ints es,(),(bs,((o+(segs big fl (st:Int) p (es.drop i)).length:Nat):Int), -1,()),()))))):=by
 intro c
 induction c with
 |zero=>
  intro i n p o hi hn hc h
  obtain⟨n,rfl⟩:∃k,n=k+1:=⟨n-1,by omega⟩
  show F117_g1 (N+8) (ordC big) (st:Int) v _ (i:Int) (ints (es.take i)++[]) (fl.take p) bs (o:Int) (-1)=_
  unfold F117_g1
  rw[List.drop_eq_nil_of_le (by omega)]at hc⊢
  unfold Cw at hc
  rw[hv,decide_eq_false (by omega),cond_false,List.append_nil,List.take_of_length_le (by omega),List.take_of_length_le (by omega)]
  rfl
 |succ c ih=>
  intro i n p o hi hn hc h
  obtain⟨n,rfl⟩:∃k,n=k+1:=⟨n-1,by omega⟩
  have hlt:i<es.length:=by omega
  rw[List.drop_eq_getElem_cons hlt]at hc h⊢
  obtain⟨h1,⟨k,hk⟩,h3⟩:=hc
  have h2:=Cw_le h3
  have hsl:((fl.drop p).take (es[i]-p)).length=es[i]-p:=by simp;omega
  have hlen:(c1 big ((fl.drop p).take (es[i]-p)) (st:Int)).length=4+8*(es[i]-p):=by rw[c1_len,hsl]
  unfold segs at h⊢
  rw[List.append_assoc]at h
  have hR:=rC1 N big ((fl.drop p).take (es[i]-p)) st k (by rw[hsl,hk,Nat.mul_comm]) hs (fun f hm=>hf f (List.mem_of_mem_drop (List.mem_of_mem_take hm))) bs o (-1) _ h hb (by rw[hsl];omega) (by rw[hsl];omega)
  have hd:=drop_drop' h
  rw[hlen]at hd
  rw[hsl]at hR
  have hr:=ih (i+1) n es[i] (o+(4+8*(es[i]-p))) (by omega) (by omega) h3 hd
  show F117_g1 (N+8) (ordC big) (st:Int) v (F117_l1 (N+8) n (ordC big) (st:Int) v) (i:Int) (ints (es.take i)++List.replicate (c+1) 0) (fl.take p) bs (o:Int) (-1)=_
  unfold F117_g1
  rw[hv,decide_eq_true (by omega),cond_true,hR,Option.bind_some]
  simp only[Sum.elim_inr]
  have htl:(fl.take p).length=p:=by simp;omega
  have hta:fl.take p++(fl.drop p).take (es[i]-p)=fl.take es[i]:=by
   rw[←List.take_add,show p+(es[i]-p)=es[i]from by omega]
  rw[htl,hsl,lim_le (by omega),Option.bind_some,chkN (n:=i) rfl (by simp[ints];omega),Option.bind_some,hta,u32i (n:=i+1) (by omega) (by omega)]
  rw[show((fl.take es[i]).length:Int)=(es[i]:Int)from by simp;omega,ints_snoc es hlt c,hr,List.length_append,hlen,Nat.add_assoc,Nat.add_assoc]
theorem rC2(N:Nat)(big:Bool)(fl:List Nat)(st:Nat)(hs:0<st)(hf:∀f∈fl,f<18446744073709551616)(hl:fl.length≤1000000000)(hN:fl.length+1≤N+8)(es:List Nat)(he:es.length<4294967296)(hN2:es.length+1≤N+8)(bs:List Int)(hb:bs.length≤1000000000000)(r:List Int)(hc:Cw st fl.length 0 es)(o:Nat)(l:Int)(h:bs.drop o=c2 big fl es (st:Int)++r):
 F117 (N+8) (bs,(o:Int),l,()) (ordC big) (st:Int)=some (Sum.inr (Sum.inr (Sum.inr (Sum.inr (fl,ints es,(),(bs,((o+(c2 big fl es (st:Int)).length:Nat):Int), -1,()),()))))):=by
 unfold c2 at h⊢
 rw[u32i (n:=es.length) rfl he]at h⊢
 rw[List.append_assoc]at h
 have hU:=rU N big bs o l (es.length:Int) _ h ⟨by omega,by omega⟩ hb
 have h2:=drop_drop' h
 rw[w32_len]at h2
 unfold F117 F117_g
 rw[hU,Option.bind_some]
 simp only[Sum.elim_inr]
 rw[decide_eq_false (by omega),cond_false]
 unfold F117_j0 F117_g0
 rw[gate_pos (by omega)]
 simp only[]
 have hm:mkn (es.length:Int) (es.length:Int) 8=some es.length:=by
  unfold mkn;rw[if_pos ⟨by omega,by omega,by omega,by omega⟩,Int.toNat_natCast]
 rw[hm,Option.bind_some]
 have:=rC2_loop N big fl st hs hf hl hN es he bs hb r ((es.length:Int),(),(bs,((o+4:Nat):Int), -1,()),()) rfl es.length 0 (N+8) 0 (o+4) (by omega) hN2 hc h2
 rw[List.length_append,w32_len,←Nat.add_assoc]
 simpa[ints]using this
end Go.Proofs.YtllnonlmibanfaaGreatDoor.EB
namespace Go.Proofs.YtllnonlmibanfaaGreatDoor.EB
open Go Go.Av
theorem wFAo_loop(N:Nat)(big:Bool)(b:List Int)(l:Int)(fl:List Nat)(hb:b.length+8*fl.length≤140737488355328):∀(c i n:Nat) (dn:List Int),i+c=fl.length→c+1≤n→dn.length=8*i→
 F65_l0 N n (ordC big) fl (b,0,l,()) (i:Int) (dn++List.replicate (8*c) 0)=some ((),(b++(dn++fs big (fl.drop i)),0,0,()),fl,()):=by
 intro c
 induction c with
 |zero=>
  intro i n dn hi hn hd
  obtain⟨n,rfl⟩:∃k,n=k+1:=⟨n-1,by omega⟩
  show F65_g0 N (ordC big) fl (b,0,l,()) _ (i:Int) (dn++[])=_
  unfold F65_g0
  rw[decide_eq_false (by omega),cond_false,List.append_nil,wW N b dn l (by omega),List.drop_eq_nil_of_le (by omega),show fs big []=[]from rfl,List.append_nil]
  rfl
 |succ c ih=>
  intro i n dn hi hn hd
  obtain⟨n,rfl⟩:∃k,n=k+1:=⟨n-1,by omega⟩
  have hlt:i<fl.length:=by omega
  have hrep:List.replicate (8*(c+1)) (0:Int)=0::0::0::0::0::0::0::0::List.replicate (8*c) 0:=by
   rw[show 8*(c+1)=8*c+8 from by omega];rfl
  have hlen:(dn++List.replicate (8*(c+1)) (0:Int)).length=8*i+8*(c+1):=by simp[hd]
  have hm:8*i+8*(c+1)-8*i=(List.replicate (8*c) (0:Int)).length+8:=by rw[List.length_replicate];omega
  have hF:=wF N big dn (List.replicate (8*c) 0) 0 0 0 0 0 0 0 0 fl[i]
  have ha:=and5 ((List.replicate (8*c) (0:Int)).length+8) dn.length (dn++(w64 big (fl[i]:Int)++List.replicate (8*c) (0:Int))).length (8*i+8*(c+1)) (by omega) (by simp[w64_len,hd];omega)
  have hr:=ih (i+1) n (dn++w64 big (fl[i]:Int)) (by omega) (by omega) (by simp[w64_len,hd];omega)
  show F65_g0 N (ordC big) fl (b,0,l,()) (F65_l0 N n (ordC big) fl (b,0,l,())) (i:Int) (dn++List.replicate (8*(c+1)) 0)=_
  unfold F65_g0
  rw[decide_eq_true (by omega),cond_true,chkN rfl hlt,Option.bind_some,List.getElem?_eq_getElem hlt,Option.bind_some,hlen,chk2N (n:=8*i) (m:=8*i+8*(c+1)) (wrapN (by omega) (by omega)) rfl (by omega) (by omega),Option.bind_some]
  simp only[hm]
  rw[hrep,←hd,hF,Option.bind_some]
  simp only[]
  rw[show 8*i=dn.length from hd.symm]at ha
  rw[ha,cond_true,wrapN (n:=i+1) (by omega) (by omega),←List.append_assoc,hr,List.append_assoc,List.drop_eq_getElem_cons hlt]
  rfl
theorem wFAo(N:Nat)(big:Bool)(b:List Int)(l:Int)(fl:List Nat)(hb:b.length+8*fl.length≤140737488355328)(hN:fl.length+1≤N):
 F65 N (b,0,l,()) (ordC big) fl=some ((),(b++fs big fl,0,0,()),fl,()):=by
 unfold F65 F65_g
 have hm:mkn (IntKind.i64.wrap (8*(fl.length:Int))) (IntKind.i64.wrap (8*(fl.length:Int))) 1=some (8*fl.length):=by
  rw[wrapN (n:=8*fl.length) (by omega) (by omega)];unfold mkn;rw[if_pos ⟨by omega,by omega,by omega,by omega⟩,Int.toNat_natCast]
 rw[hm,Option.bind_some]
 have h:=wFAo_loop N big b l fl hb fl.length 0 N [] (by omega) hN rfl
 simpa using h
end Go.Proofs.YtllnonlmibanfaaGreatDoor.EB
namespace Go.Proofs.YtllnonlmibanfaaGreatDoor.EB
open Go Go.Av
theorem wC0o(N:Nat)(big:Bool)(b:List Int)(l:Int)(fl:List Nat)(hb:b.length+8*fl.length≤140737488355328)(hN:fl.length+1≤N):
 F66 N (b,0,l,()) (ordC big) fl=some ((),(b++fs big fl,0,0,()),fl,()):=by
 unfold F66 F66_g
 rw[wFAo N big b l fl hb hN];rfl
def qn:Nat:=9221120237041090560
theorem wE(N:Nat)(big:Bool)(b:List Int)(l:Int)(st:Nat)(hs:st=2∨st=3∨st=4)(hb:b.length+32≤140737488355328):
 F67 (N+8) (b,0,l,()) (ordC big) (st:Int)=some ((),(b++fs big (List.replicate st qn),0,0,()),()):=by
 rcases hs with rfl|rfl|rfl
 ·exact(show F67 (N+8) (b,0,l,()) (ordC big) ((2:Nat):Int)=(F66 (N+8) (b,0,l,()) (ordC big) [qn,qn]).bind (fun v11=>some ((),(v11.2.1.1,v11.2.1.2.1,v11.2.1.2.2.1,()),()))from by kernel_rfl).trans (by rw[wC0o (N+8) big b l [qn,qn] (by simp;omega) (by simp)];rfl)
 ·exact(show F67 (N+8) (b,0,l,()) (ordC big) ((3:Nat):Int)=(F66 (N+8) (b,0,l,()) (ordC big) [qn,qn,qn]).bind (fun v11=>some ((),(v11.2.1.1,v11.2.1.2.1,v11.2.1.2.2.1,()),()))from by kernel_rfl).trans (by rw[wC0o (N+8) big b l [qn,qn,qn] (by simp;omega) (by simp)];rfl)
 ·exact(show F67 (N+8) (b,0,l,()) (ordC big) ((4:Nat):Int)=(F66 (N+8) (b,0,l,()) (ordC big) [qn,qn,qn,qn]).bind (fun v11=>some ((),(v11.2.1.1,v11.2.1.2.1,v11.2.1.2.2.1,()),()))from by kernel_rfl).trans (by rw[wC0o (N+8) big b l [qn,qn,qn,qn] (by simp;omega) (by simp)];rfl)
end Go.Proofs.YtllnonlmibanfaaGreatDoor.EB
namespace Go.Proofs.YtllnonlmibanfaaGreatDoor.EB
open Go Go.Av
def oB(big:Bool):Int:=if big then 0 else 1
def cell4(ly st:Int)(fl:List Nat)(sr:Int):List Ce:=[Ce.int .i64 ly,Ce.int .i64 st,Ce.fl fl,Ce.int .i64 sr]
def fg(ly:Int):Int:=if ly=2 then 2147483648 else if ly=3 then 1073741824 else if ly=4 then 3221225472 else 0
def hdr(big:Bool)(k ly sr:Int):List Int:=oB big::(if sr=0 then w32 big (k+fg ly)else w32 big (k+fg ly+536870912)++w32 big (IntKind.u32.wrap sr))
theorem hdr_len(big:Bool)(k ly sr:Int):(hdr big k ly sr).length≤9:=by
 unfold hdr;split<;>simp[w32_len]
theorem hdx{R:Type}(N:Nat)(big:Bool)(b:List Int)(l sr k ly:Int)(hb:b.length+9≤140737488355328)(J:List Int→Int→Int→Option R):
 ((F52 (N+8) (b,0,l,()) (oB big)).bind fun v7=>bif(sr !=0)then
  ((F59 (N+8) v7.2.1 (ordC big) (k+fg ly+536870912)).bind fun v8=>(F59 (N+8) v8.2.1 (ordC big) (IntKind.u32.wrap sr)).bind fun v9=>J v9.2.1.1 v9.2.1.2.1 v9.2.1.2.2.1)
  else((F59 (N+8) v7.2.1 (ordC big) (k+fg ly)).bind fun v8=>J v8.2.1.1 v8.2.1.2.1 v8.2.1.2.2.1))=J (b++hdr big k ly sr) 0 0:=by
 rw[wB (N+8) b l _ (by omega),Option.bind_some]
 by_cases h:sr=0
 ·subst h
  rw[show((0:Int) !=0)=false from rfl,cond_false]
  show(F59 (N+8) (b++[oB big],0,0,()) (ordC big) (k+fg ly)).bind _=_
  rw[wU N big _ 0 _ (by simp;omega),Option.bind_some,List.append_assoc]
  rfl
 ·rw[show(sr !=0)=true from by simpa using h,cond_true]
  show(F59 (N+8) (b++[oB big],0,0,()) (ordC big) (k+fg ly+536870912)).bind _=_
  rw[wU N big _ 0 _ (by simp;omega),Option.bind_some]
  show(F59 (N+8) ((b++[oB big])++w32 big _,0,0,()) (ordC big) (IntKind.u32.wrap sr)).bind _=_
  rw[wU N big _ 0 _ (by simp[w32_len];omega),Option.bind_some,List.append_assoc,List.append_assoc]
  unfold hdr
  rw[if_neg h]
  rfl
theorem hdP(N d:Nat)(big:Bool)(b:List Int)(l ly st:Int)(fl:List Nat)(sr:Int)(hly:ly=1∨ly=2∨ly=3∨ly=4)(hb:b.length+9≤140737488355328):
 F84 (N+8) (d+1) (b,0,l,()) (ordC big) (Ce.ifc 72 (Ce.ptr (cell4 ly st fl sr)))=F84_j5 (N+8) (F84 (N+8) d) (ordC big) (Ce.ifc 72 (Ce.ptr (cell4 ly st fl sr))) (b++hdr big 1 ly sr) 0 0:=by
 refine Eq.trans ?_ (hdx N big b l sr 1 ly hb (F84_j5 (N+8) (F84 (N+8) d) (ordC big) (Ce.ifc 72 (Ce.ptr (cell4 ly st fl sr)))))
 rcases hly with rfl|rfl|rfl|rfl<;>cases big<;>kernel_rfl
theorem hdL(N d:Nat)(big:Bool)(b:List Int)(l ly st:Int)(fl:List Nat)(sr:Int)(hly:ly=1∨ly=2∨ly=3∨ly=4)(hb:b.length+9≤140737488355328):
 F84 (N+8) (d+1) (b,0,l,()) (ordC big) (Ce.ifc 75 (Ce.ptr (cell4 ly st fl sr)))=F84_j5 (N+8) (F84 (N+8) d) (ordC big) (Ce.ifc 75 (Ce.ptr (cell4 ly st fl sr))) (b++hdr big 2 ly sr) 0 0:=by
 refine Eq.trans ?_ (hdx N big b l sr 2 ly hb (F84_j5 (N+8) (F84 (N+8) d) (ordC big) (Ce.ifc 75 (Ce.ptr (cell4 ly st fl sr)))))
 rcases hly with rfl|rfl|rfl|rfl<;>cases big<;>kernel_rfl
theorem hdY(N d:Nat)(big:Bool)(b:List Int)(l ly st:Int)(fl:List Nat)(sr:Int)(es:List Int)(hly:ly=1∨ly=2∨ly=3∨ly=4)(hb:b.length+9≤140737488355328):
 F84 (N+8) (d+1) (b,0,l,()) (ordC big) (Ce.ifc 81 (Ce.ptr (cell4 ly st fl sr++[Ce.il es])))=F84_j5 (N+8) (F84 (N+8) d) (ordC big) (Ce.ifc 81 (Ce.ptr (cell4 ly st fl sr++[Ce.il es]))) (b++hdr big 3 ly sr) 0 0:=by
 refine Eq.trans ?_ (hdx N big b l sr 3 ly hb (F84_j5 (N+8) (F84 (N+8) d) (ordC big) (Ce.ifc 81 (Ce.ptr (cell4 ly st fl sr++[Ce.il es])))))
 rcases hly with rfl|rfl|rfl|rfl<;>cases big<;>kernel_rfl
theorem hdM(N d:Nat)(big:Bool)(b:List Int)(l ly st:Int)(fl:List Nat)(sr:Int)(es:List Int)(hly:ly=1∨ly=2∨ly=3∨ly=4)(hb:b.length+9≤140737488355328):
 F84 (N+8) (d+1) (b,0,l,()) (ordC big) (Ce.ifc 85 (Ce.ptr (cell4 ly st fl sr++[Ce.il es])))=F84_j5 (N+8) (F84 (N+8) d) (ordC big) (Ce.ifc 85 (Ce.ptr (cell4 ly st fl sr++[Ce.il es]))) (b++hdr big 4 ly sr) 0 0:=by
 refine Eq.trans ?_ (hdx N big b l sr 4 ly hb (F84_j5 (N+8) (F84 (N+8) d) (ordC big) (Ce.ifc 85 (Ce.ptr (cell4 ly st fl sr++[Ce.il es])))))
 rcases hly with rfl|rfl|rfl|rfl<;>cases big<;>kernel_rfl
theorem hdLn(N d:Nat)(big:Bool)(b:List Int)(l ly st:Int)(fl:List Nat)(sr:Int)(es:List Int)(hly:ly=1∨ly=2∨ly=3∨ly=4)(hb:b.length+9≤140737488355328):
 F84 (N+8) (d+1) (b,0,l,()) (ordC big) (Ce.ifc 91 (Ce.ptr (cell4 ly st fl sr++[Ce.il es])))=F84_j5 (N+8) (F84 (N+8) d) (ordC big) (Ce.ifc 91 (Ce.ptr (cell4 ly st fl sr++[Ce.il es]))) (b++hdr big 5 ly sr) 0 0:=by
 refine Eq.trans ?_ (hdx N big b l sr 5 ly hb (F84_j5 (N+8) (F84 (N+8) d) (ordC big) (Ce.ifc 91 (Ce.ptr (cell4 ly st fl sr++[Ce.il es])))))
 rcases hly with rfl|rfl|rfl|rfl<;>cases big<;>kernel_rfl
theorem hdQ(N d:Nat)(big:Bool)(b:List Int)(l ly st:Int)(fl:List Nat)(sr:Int)(ess:List (List Int))(hly:ly=1∨ly=2∨ly=3∨ly=4)(hb:b.length+9≤140737488355328):
 F84 (N+8) (d+1) (b,0,l,()) (ordC big) (Ce.ifc 94 (Ce.ptr (cell4 ly st fl sr++[Ce.ill ess])))=F84_j5 (N+8) (F84 (N+8) d) (ordC big) (Ce.ifc 94 (Ce.ptr (cell4 ly st fl sr++[Ce.ill ess]))) (b++hdr big 6 ly sr) 0 0:=by
 refine Eq.trans ?_ (hdx N big b l sr 6 ly hb (F84_j5 (N+8) (F84 (N+8) d) (ordC big) (Ce.ifc 94 (Ce.ptr (cell4 ly st fl sr++[Ce.ill ess])))))
 rcases hly with rfl|rfl|rfl|rfl<;>cases big<;>kernel_rfl
end Go.Proofs.YtllnonlmibanfaaGreatDoor.EB
namespace Go.Proofs.YtllnonlmibanfaaGreatDoor.EB
open Go Go.Av
abbrev RR:Type:=(Ce×Unit×((List Int)×Int×Int×Unit)×Unit)⊕(Ce×Int×((List Int)×Int×Int×Unit)×Unit)⊕(Ce×Unit×((List Int)×Int×Int×Unit)×Unit)⊕(Ce×Unit×((List Int)×Int×Int×Unit)×Unit)⊕(Ce×Int×((List Int)×Int×Int×Unit)×Unit)⊕(Ce×Unit×((List Int)×Int×Int×Unit)×Unit)⊕(Ce×(Int×(Int×(Int×Unit)))×((List Int)×Int×Int×Unit)×Unit)⊕(Ce×(Int×(Int×Unit))×((List Int)×Int×Int×Unit)×Unit)⊕(Ce×Int×((List Int)×Int×Int×Unit)×Unit)
def rok(c:Ce)(bs:List Int)(o:Nat):Option RR:=some (Sum.inr (Sum.inr (Sum.inr (Sum.inr (Sum.inr (Sum.inl (c,(),(bs,(o:Int), -1,()),())))))))
def cd(k ly sr:Int):Int:=if sr=0 then k+fg ly else k+fg ly+536870912
def lyr(ly:Int):Int:=if ly=0 then 1 else ly
def ly5(ly:Int):Prop:=ly=0∨ly=1∨ly=2∨ly=3∨ly=4
def k7(k:Int):Prop:=k=1∨k=2∨k=3∨k=4∨k=5∨k=6∨k=7
theorem cd_bd{k ly sr:Int}(hk:k7 k)(hl:ly5 ly):0≤cd k ly sr∧cd k ly sr<4294967296:=by
 unfold cd fg;unfold k7 at hk;unfold ly5 at hl
 split<;>rcases hl with rfl|rfl|rfl|rfl|rfl<;>simp<;>omega
theorem cd_ly{k ly sr:Int}(hk:k7 k)(hl:ly5 ly):bits .and .u32 (cd k ly sr) 3221225472=fg ly:=by
 unfold cd
 split<;>rcases hl with rfl|rfl|rfl|rfl|rfl<;>rcases hk with rfl|rfl|rfl|rfl|rfl|rfl|rfl<;>decide+kernel
theorem cd_k{k ly sr:Int}(hk:k7 k)(hl:ly5 ly):bits .andNot .u32 (cd k ly sr) 3758096384=k:=by
 unfold cd
 split<;>rcases hl with rfl|rfl|rfl|rfl|rfl<;>rcases hk with rfl|rfl|rfl|rfl|rfl|rfl|rfl<;>decide+kernel
theorem cd_sr{k ly sr:Int}(hk:k7 k)(hl:ly5 ly):(bits .and .u32 (cd k ly sr) 536870912 !=0)= !(sr==0):=by
 unfold cd
 split
 ·rename_i h;subst h
  rcases hl with rfl|rfl|rfl|rfl|rfl<;>rcases hk with rfl|rfl|rfl|rfl|rfl|rfl|rfl<;>decide+kernel
 ·rename_i h
  rw[show(sr==0)=false from by simpa using h]
  rcases hl with rfl|rfl|rfl|rfl|rfl<;>rcases hk with rfl|rfl|rfl|rfl|rfl|rfl|rfl<;>decide+kernel
theorem rhd(N d:Nat)(big:Bool)(bs:List Int)(o:Nat)(l k ly sr:Int)(r:List Int)(hk:k7 k)(hly:ly5 ly)(h:bs.drop o=hdr big k ly sr++r)(hb:bs.length≤1000000000000):
 F126 (N+8) (d+1) (bs,(o:Int),l,())=F126_j2 (N+8) (F126 (N+8) d) (ordC big) (cd k ly sr,(),(bs,((o+5:Nat):Int), -1,()),()) (lyr ly) (IntKind.u32.wrap sr) bs ((o+(hdr big k ly sr).length:Nat):Int) (-1):=by
 have hc:=cd_bd (sr:=sr) hk hly
 have e0:hdr big k ly sr=[oB big]++(w32 big (cd k ly sr)++(if sr=0 then []else w32 big (IntKind.u32.wrap sr))):=by
  unfold hdr cd
  by_cases hs:sr=0
  ·simp[hs]
  ·simp[hs]
 have e1:(hdr big k ly sr).length=5+(if sr=0 then 0 else 4):=by
  rw[e0,List.length_append,List.length_append,w32_len]
  split<;>simp[w32_len]
 rw[e0,List.append_assoc]at h
 have h1:=drop_drop' h
 simp only[List.length_cons,List.length_nil,Nat.zero_add]at h1
 rw[List.append_assoc]at h1
 have h2:=drop_drop' h1
 rw[w32_len]at h2
 have hB:=rB N bs o l (oB big) _ h hb
 have hU:=rU N big bs (o+1) (-1) (cd k ly sr) _ h1 hc hb
 show F126_g (N+8) (F126 (N+8) d) (bs,(o:Int),l,()) (F126_j0 (N+8) (F126 (N+8) d))=_
 unfold F126_g
 rw[hB,Option.bind_some]
 simp only[Sum.elim_inr]
 have go:F126_j0 (N+8) (F126 (N+8) d) (oB big,(),(bs,((o+1:Nat):Int), -1,()),()) (ordC big)=F126_j2 (N+8) (F126 (N+8) d) (ordC big) (cd k ly sr,(),(bs,((o+5:Nat):Int), -1,()),()) (lyr ly) (IntKind.u32.wrap sr) bs ((o+(hdr big k ly sr).length:Nat):Int) (-1):=by
  unfold F126_j0 F126_g0
  rw[gate_pos (by omega),hU,Option.bind_some]
  simp only[Sum.elim_inr]
  have j1:F126_j1 (N+8) (F126 (N+8) d) (ordC big) (cd k ly sr,(),(bs,((o+1+4:Nat):Int), -1,()),()) (lyr ly)=F126_j2 (N+8) (F126 (N+8) d) (ordC big) (cd k ly sr,(),(bs,((o+5:Nat):Int), -1,()),()) (lyr ly) (IntKind.u32.wrap sr) bs ((o+(hdr big k ly sr).length:Nat):Int) (-1):=by
   unfold F126_j1 F126_g1
   rw[gate_pos (by omega)]
   simp only[]
   rw[cd_sr hk hly,e1]
   by_cases hs:sr=0
   ·subst hs
    rfl
   ·rw[show(sr==0)=false from by simpa using hs,if_neg hs,Bool.not_false,cond_true]
    rw[if_neg hs]at h2
    have hU2:=rU N big bs (o+1+4) (-1) (IntKind.u32.wrap sr) r h2 (by rw[w32_eq];omega) hb
    rw[hU2]
    rfl
  rw[cd_ly hk hly]
  rcases hly with rfl|rfl|rfl|rfl|rfl<;>exact j1
 cases big
 ·exact go
 ·exact go
end Go.Proofs.YtllnonlmibanfaaGreatDoor.EB
namespace Go.Proofs.YtllnonlmibanfaaGreatDoor.EB
open Go Go.Av
abbrev WR3:Type:=(Unit×((List Int)×Int×Int×Unit)×Unit)⊕(Int×((List Int)×Int×Int×Unit)×Unit)⊕(Unit×((List Int)×Int×Int×Unit)×Unit)
def wok(b:List Int):Option WR3:=some (Sum.inr (Sum.inr ((),(b,0,0,()),())))
def oP(ly st:Int)(fl:List Nat)(sr:Int):Ce:= .ifc 72 (.ptr (cell4 ly st fl sr))
def oL(ly st:Int)(fl:List Nat)(sr:Int):Ce:= .ifc 75 (.ptr (cell4 ly st fl sr))
def oY(ly st:Int)(fl:List Nat)(sr:Int)(es:List Int):Ce:= .ifc 81 (.ptr (cell4 ly st fl sr++[Ce.il es]))
def eP(big:Bool)(ly:Int)(st:Nat)(fl:List Nat)(sr:Int):List Int:=hdr big 1 ly sr++fs big (if fl=[]then List.replicate st qn else fl)
def eL(big:Bool)(ly:Int)(st:Nat)(fl:List Nat)(sr:Int):List Int:=hdr big 2 ly sr++c1 big fl (st:Int)
def eY(big:Bool)(ly:Int)(st:Nat)(fl:List Nat)(sr:Int)(es:List Nat):List Int:=hdr big 3 ly sr++c2 big fl es (st:Int)
theorem wP(N d:Nat)(big:Bool)(b:List Int)(l ly:Int)(st:Nat)(fl:List Nat)(sr:Int)(hly:ly=1∨ly=2∨ly=3∨ly=4)(hs:st=2∨st=3∨st=4)(hb:b.length+9+8*fl.length+32≤140737488355328)(hN:fl.length+1≤N+8):
 F84 (N+8) (d+1) (b,0,l,()) (ordC big) (oP ly st fl sr)=wok (b++eP big ly st fl sr):=by
 have hh:=hdr_len big 1 ly sr
 refine(hdP N d big b l ly st fl sr hly (by omega)).trans ?_
 generalize hH:b++hdr big 1 ly sr=B
 have hB:B.length≤b.length+9:=by rw[←hH,List.length_append];omega
 rw[show b++eP big ly st fl sr=B++fs big (if fl=[]then List.replicate st qn else fl)from by rw[←hH,List.append_assoc];rfl]
 cases fl with
 |nil=>
  refine(show F84_j5 (N+8) (F84 (N+8) d) (ordC big) (Ce.ifc 72 (Ce.ptr (cell4 ly st [] sr))) B 0 0=(F67 (N+8) (B,0,0,()) (ordC big) (st:Int)).bind (fun v=>some (Sum.inr (Sum.inr ((),v.2.1,()))))from by kernel_rfl).trans ?_
  rw[wE N big B 0 st hs (by omega)];rfl
 |cons a r=>
  refine(show F84_j5 (N+8) (F84 (N+8) d) (ordC big) (Ce.ifc 72 (Ce.ptr (cell4 ly st (a::r) sr))) B 0 0=(F70 (N+8) (B,0,0,()) (ordC big) (a::r)).bind (fun v=>some (Sum.inr (Sum.inr ((),v.2.1,()))))from by kernel_rfl).trans ?_
  rw[wC0 (N+8) big B 0 (a::r) (by omega) hN,if_neg (by simp)];rfl
theorem wL(N d:Nat)(big:Bool)(b:List Int)(l ly:Int)(st:Nat)(fl:List Nat)(sr:Int)(hly:ly=1∨ly=2∨ly=3∨ly=4)(hs:st=2∨st=3∨st=4)(hb:b.length+13+8*fl.length≤140737488355328)(hN:fl.length+1≤N+8):
 F84 (N+8) (d+1) (b,0,l,()) (ordC big) (oL ly st fl sr)=wok (b++eL big ly st fl sr):=by
 have hh:=hdr_len big 2 ly sr
 refine(hdL N d big b l ly st fl sr hly (by omega)).trans ?_
 generalize hH:b++hdr big 2 ly sr=B
 have hB:B.length≤b.length+9:=by rw[←hH,List.length_append];omega
 rw[show b++eL big ly st fl sr=B++c1 big fl (st:Int)from by rw[←hH,List.append_assoc];rfl]
 refine(show F84_j5 (N+8) (F84 (N+8) d) (ordC big) (Ce.ifc 75 (Ce.ptr (cell4 ly st fl sr))) B 0 0=(F71 (N+8) (B,0,0,()) (ordC big) fl (st:Int)).bind (fun v=>some (Sum.inr (Sum.inr ((),v.2.1,()))))from by kernel_rfl).trans ?_
 rw[wC1 N big B 0 (st:Int) fl (by omega) (by omega) hN];rfl
theorem wY(N d:Nat)(big:Bool)(b:List Int)(l ly:Int)(st:Nat)(fl:List Nat)(sr:Int)(es:List Nat)(hly:ly=1∨ly=2∨ly=3∨ly=4)(hs:st=2∨st=3∨st=4)(hb:b.length+13+8*fl.length+4*es.length≤140737488355328)(hN:fl.length+1≤N+8)(hN2:es.length+1≤N+8)(hc:Ch fl.length 0 es):
 F84 (N+8) (d+1) (b,0,l,()) (ordC big) (oY ly st fl sr (ints es))=wok (b++eY big ly st fl sr es):=by
 have hh:=hdr_len big 3 ly sr
 refine(hdY N d big b l ly st fl sr (ints es) hly (by omega)).trans ?_
 generalize hH:b++hdr big 3 ly sr=B
 have hB:B.length≤b.length+9:=by rw[←hH,List.length_append];omega
 rw[show b++eY big ly st fl sr es=B++c2 big fl es (st:Int)from by rw[←hH,List.append_assoc];rfl]
 refine(show F84_j5 (N+8) (F84 (N+8) d) (ordC big) (Ce.ifc 81 (Ce.ptr (cell4 ly st fl sr++[Ce.il (ints es)]))) B 0 0=(F73 (N+8) (B,0,0,()) (ordC big) fl (ints es) (st:Int)).bind (fun v=>some (Sum.inr (Sum.inr ((),v.2.1,()))))from by kernel_rfl).trans ?_
 rw[wC2 N big fl (st:Int) (by omega) es hN hN2 B 0 hc (by omega)];rfl
end Go.Proofs.YtllnonlmibanfaaGreatDoor.EB
namespace Go.Proofs.YtllnonlmibanfaaGreatDoor.EB
open Go Go.Av
def prv(es:List Nat)(i:Nat):Nat:=if i=0 then 0 else es.getD (i-1) 0
def prt(fl:List Nat)(es:List Nat)(i:Nat):List Nat:=(fl.drop (prv es i)).take (es.getD i 0-prv es i)
def oM(ly st:Int)(fl:List Nat)(sr:Int)(es:List Int):Ce:= .ifc 85 (.ptr (cell4 ly st fl sr++[Ce.il es]))
theorem Ch_at{n:Nat}:∀{es:List Nat} {p:Nat},Ch n p es→∀i,i<es.length→(if i=0 then p else es.getD (i-1) 0)≤es.getD i 0∧es.getD i 0≤n
 |[],_,_,i,h=>by simp at h
 |e::r,p,h,i,hi=>by
  cases i with
  |zero=>exact⟨h.1,h.2.1⟩
  |succ i=>
   have:=Ch_at h.2.2 i (by simpa using hi)
   cases i with
   |zero=>simpa using this
   |succ i=>simpa using this
theorem coJ(N:Nat)(ly st:Int)(fl:List Nat)(sr:Int)(es:List Nat)(i p:Nat)(hi:i<es.length)(h1:p≤es.getD i 0)(h2:es.getD i 0≤fl.length):
 F74_j0 (N+8) (Ce.ptr (cell4 ly st fl sr++[Ce.il (ints es)])) (i:Int) (p:Int)=some ((fl.drop p).take (es.getD i 0-p)):=by
 have hn:nth (ints es) (i:Int)=some ((es.getD i 0:Nat):Int):=by rw[nthN (by simpa[ints]using hi)];simp[ints,List.getD_eq_getElem?_getD,List.getElem?_eq_getElem hi]
 refine Eq.trans (b:=(nth (ints es) (i:Int)).bind fun v9=>bif(v9==(p:Int))then some ([]:List Nat)else((nth (ints es) (i:Int)).bind fun v14=>(chk2 (p:Int) v14 fl.length).bind fun v15=>some ((fl.drop v15.1).take (v15.2-v15.1)))) (by kernel_rfl) ?_
 rw[hn,Option.bind_some,Option.bind_some,chk2N (n:=p) (m:=es.getD i 0) rfl rfl h1 h2,Option.bind_some]
 by_cases h:es.getD i 0=p
 ·rw[h,show(((p:Nat):Int)==(p:Int))=true from by simp,cond_true,Nat.sub_self];rfl
 ·rw[show(((es.getD i 0:Nat):Int)==(p:Int))=false from by simpa using fun e=>h (by exact_mod_cast e),cond_false]
theorem mCo(N:Nat)(ly st:Int)(fl:List Nat)(sr:Int)(es:List Nat)(hc:Ch fl.length 0 es)(i:Nat)(hi:i<es.length)(he:es.length<9223372036854775807):
 F74 (N+8) (Ce.ptr (cell4 ly st fl sr++[Ce.il (ints es)])) (i:Int)=some (prt fl es i):=by
 have hC:=Ch_at hc i hi
 unfold F74 F74_g
 cases i with
 |zero=>
  rw[decide_eq_false (by omega),cond_false]
  exact coJ N ly st fl sr es 0 0 hi (Nat.zero_le _) hC.2
 |succ k=>
  rw[decide_eq_true (by omega),cond_true]
  refine Eq.trans (b:=(nth (ints es) (IntKind.i64.wrap (((k+1:Nat):Int)-1))).bind fun v5=>F74_j0 (N+8) (Ce.ptr (cell4 ly st fl sr++[Ce.il (ints es)])) ((k+1:Nat):Int) v5) (by kernel_rfl) ?_
  have hk:k<es.length:=by omega
  rw[wrapN (n:=k) (by omega) (by omega),nthN (by simpa[ints]using hk),Option.bind_some]
  have e:(ints es)[k]'(by simpa[ints]using hk)=((es.getD k 0:Nat):Int):=by simp[ints,List.getD_eq_getElem?_getD,List.getElem?_eq_getElem hk]
  rw[e]
  exact coJ N ly st fl sr es (k+1) (es.getD k 0) hi hC.1 hC.2
end Go.Proofs.YtllnonlmibanfaaGreatDoor.EB
namespace Go.Proofs.YtllnonlmibanfaaGreatDoor.EB
open Go Go.Av
def sd(ly:Int):Nat:=if ly=1 then 2 else if ly=4 then 4 else 3
theorem agree_same{R:Type}(r:R):agree (some r) (some r)=some r:=by unfold agree;simp
theorem mPt(N:Nat)(ly st:Int)(hly:ly=1∨ly=2∨ly=3∨ly=4)(fl:List Nat)(sr:Int)(es:List Nat)(hc:Ch fl.length 0 es)(i:Nat)(hi:i<es.length)(he:es.length<9223372036854775807):
 F77 (N+8) (Ce.ptr (cell4 ly st fl sr++[Ce.il (ints es)])) (i:Int)=some ((ly,((sd ly:Nat):Int),prt fl es i,0,()),()):=by
 refine Eq.trans (b:=(F74 (N+8) (Ce.ptr (cell4 ly st fl sr++[Ce.il (ints es)])) (i:Int)).bind fun v3=>bif Nat.ble 1 v3.length then some ((ly,((sd ly:Nat):Int),v3,0,()),())else agree (some ((ly,((sd ly:Nat):Int),[],0,()),())) (some ((ly,((sd ly:Nat):Int),v3,0,()),()))) ?_ ?_
 ·rcases hly with rfl|rfl|rfl|rfl<;>kernel_rfl
 ·rw[mCo N ly st fl sr es hc i hi he,Option.bind_some]
  cases h:prt fl es i with
  |nil=>exact agree_same _
  |cons a r=>rfl
end Go.Proofs.YtllnonlmibanfaaGreatDoor.EB
namespace Go.Proofs.YtllnonlmibanfaaGreatDoor.EB
open Go Go.Av
theorem prt_len{fl es:List Nat}{i:Nat}:(prt fl es i).length≤fl.length:=by simp[prt];omega
theorem sd_or{ly:Int}:sd ly=2∨sd ly=3∨sd ly=4:=by unfold sd;split;exact .inl rfl;split;exact .inr (.inr rfl);exact .inr (.inl rfl)
theorem eP_len(big:Bool)(ly:Int)(st:Nat)(hs:st=2∨st=3∨st=4)(fl:List Nat)(sr:Int):(eP big ly st fl sr).length≤41+8*fl.length:=by
 have hh:=hdr_len big 1 ly sr
 unfold eP;rw[List.length_append,fs_len]
 split
 ·rw[List.length_replicate];omega
 ·omega
def psM(big:Bool)(ly:Int)(fl es:List Nat):Nat→Nat→List Int
 |_,0=>[]
 |i,c+1=>eP big ly (sd ly) (prt fl es i) 0++psM big ly fl es (i+1) c
theorem wM_loop(N d:Nat)(big:Bool)(ly st:Int)(hly:ly=1∨ly=2∨ly=3∨ly=4)(fl:List Nat)(sr:Int)(es:List Nat)(hc:Ch fl.length 0 es)(he:es.length<9223372036854775807)(hN:fl.length+1≤N+8):∀(c i n:Nat) (b:List Int),i+c=es.length→c+1≤n→
 b.length+c*(41+8*fl.length)+(41+8*fl.length)≤140737488355328→
 F84_l6 (N+8) (F84 (N+8) (d+1)) n (ordC big) (Ce.ptr (cell4 ly st fl sr++[Ce.il (ints es)])) (es.length:Int) (i:Int) b 0 0=wok (b++psM big ly fl es i c):=by
 intro c
 induction c with
 |zero=>
  intro i n b hi hn hb
  obtain⟨n,rfl⟩:∃k,n=k+1:=⟨n-1,by omega⟩
  show F84_g6 (N+8) _ (ordC big) _ (es.length:Int) _ (i:Int) b 0 0=_
  unfold F84_g6
  rw[decide_eq_false (by omega),cond_false,show psM big ly fl es i 0=[]from rfl,List.append_nil]
  rfl
 |succ c ih=>
  intro i n b hi hn hb
  obtain⟨n,rfl⟩:∃k,n=k+1:=⟨n-1,by omega⟩
  rw[Nat.succ_mul]at hb
  have hp:=prt_len (fl:=fl) (es:=es) (i:=i)
  have hL:=eP_len big ly (sd ly) sd_or (prt fl es i) 0
  have hW:=wP N d big b 0 ly (sd ly) (prt fl es i) 0 hly sd_or (by omega) (by omega)
  have hr:=ih (i+1) n (b++eP big ly (sd ly) (prt fl es i) 0) (by omega) (by omega) (by rw[List.length_append];omega)
  show F84_g6 (N+8) (F84 (N+8) (d+1)) (ordC big) _ (es.length:Int) (F84_l6 (N+8) (F84 (N+8) (d+1)) n (ordC big) _ (es.length:Int)) (i:Int) b 0 0=_
  unfold F84_g6
  rw[decide_eq_true (by omega),cond_true,mPt N ly st hly fl sr es hc i (by omega) he,Option.bind_some]
  refine Eq.trans (b:=(F84 (N+8) (d+1) (b,0,0,()) (ordC big) (oP ly (sd ly) (prt fl es i) 0)).bind _) rfl ?_
  rw[hW]
  refine Eq.trans (b:=F84_l6 (N+8) (F84 (N+8) (d+1)) n (ordC big) (Ce.ptr (cell4 ly st fl sr++[Ce.il (ints es)])) (es.length:Int) (IntKind.i64.wrap ((i:Int)+1)) (b++eP big ly (sd ly) (prt fl es i) 0) 0 0) rfl ?_
  rw[wrapN (n:=i+1) (by omega) (by omega),hr,List.append_assoc];rfl
def eM(big:Bool)(ly:Int)(fl:List Nat)(sr:Int)(es:List Nat):List Int:=hdr big 4 ly sr++(w32 big (IntKind.u32.wrap (es.length:Int))++psM big ly fl es 0 es.length)
theorem wM(N d:Nat)(big:Bool)(b:List Int)(l ly st:Int)(hly:ly=1∨ly=2∨ly=3∨ly=4)(fl:List Nat)(sr:Int)(es:List Nat)(hc:Ch fl.length 0 es)(hN:fl.length+1≤N+8)(hN2:es.length+1≤N+8)
 (hb:b.length+13+es.length*(41+8*fl.length)+(41+8*fl.length)≤140737488355328) (he:es.length<9223372036854775807):
 F84 (N+8) (d+2) (b,0,l,()) (ordC big) (oM ly st fl sr (ints es))=wok (b++eM big ly fl sr es):=by
 have hh:=hdr_len big 4 ly sr
 refine(hdM N (d+1) big b l ly st fl sr (ints es) hly (by omega)).trans ?_
 generalize hH:b++hdr big 4 ly sr=B
 have hB:B.length≤b.length+9:=by rw[←hH,List.length_append];omega
 rw[show b++eM big ly fl sr es=B++(w32 big (IntKind.u32.wrap (es.length:Int))++psM big ly fl es 0 es.length)from by rw[←hH,List.append_assoc];rfl]
 refine Eq.trans (b:=(F59 (N+8) (B,0,0,()) (ordC big) (IntKind.u32.wrap ((ints es).length:Int))).bind (fun v=>F84_l6 (N+8) (F84 (N+8) (d+1)) (N+8) (ordC big) (Ce.ptr (cell4 ly st fl sr++[Ce.il (ints es)])) ((ints es).length:Int) 0 v.2.1.1 v.2.1.2.1 v.2.1.2.2.1)) (by kernel_rfl) ?_
 rw[show((ints es).length:Int)=(es.length:Int)from by simp[ints],wU N big B 0 _ (by omega),Option.bind_some]
 refine(wM_loop N d big ly st hly fl sr es hc he hN es.length 0 (N+8) (B++w32 big (IntKind.u32.wrap (es.length:Int))) (by omega) hN2 (by rw[List.length_append,w32_len];omega)).trans ?_
 rw[List.append_assoc]
end Go.Proofs.YtllnonlmibanfaaGreatDoor.EB
namespace Go.Proofs.YtllnonlmibanfaaGreatDoor.EB
open Go Go.Av
def sc(sr:Int):Int:=IntKind.i64.wrap (IntKind.u32.wrap sr)
def ly4(ly:Int):Prop:=ly=1∨ly=2∨ly=3∨ly=4
theorem ly45{ly:Int}(h:ly4 ly):ly5 ly:= .inr h
theorem lyr4{ly:Int}(h:ly4 ly):lyr ly=ly:=by unfold lyr;rw[if_neg];rcases h with rfl|rfl|rfl|rfl<;>decide
theorem stN(N:Nat){ly:Int}(h:ly4 ly):F17 N ly=some ((sd ly:Nat):Int):=by rcases h with rfl|rfl|rfl|rfl<;>rfl
theorem sd_pos{ly:Int}:0<sd ly:=by rcases @sd_or ly with h|h|h<;>omega
theorem npe(N:Nat){ly:Int}(h:ly4 ly):F115 (N+8) ly (List.replicate (sd ly) qn)=some (Sum.inl ((ly,((sd ly:Nat):Int),[],0,()),List.replicate (sd ly) qn,())):=by
 rcases h with rfl|rfl|rfl|rfl<;>kernel_rfl
theorem npf(N:Nat){ly:Int}(h:ly4 ly)(a:Nat)(r:List Nat)(ha:a≠qn):F115 (N+8) ly (a::r)=some (Sum.inr ((ly,((sd ly:Nat):Int),a::r,0,()),())):=by
 unfold F115 F115_g
 show F115_g0 (N+8) ly (a::r) (F115_j1 (N+8)) (F115_l0 (N+8) (N+7) ly (a::r)) 0=_
 unfold F115_g0
 rw[decide_eq_true (by simp),cond_true,chkN (k:=0) (n:=0) (m:=(a::r).length) rfl (by simp),Option.bind_some,List.getElem?_cons_zero,Option.bind_some]
 show(bif((a:Int) !=9221120237041090560)then _ else _)=_
 have:((a:Int) !=9221120237041090560)=true:=by
  have:(a:Int)≠9221120237041090560:=fun e=>ha (by unfold qn;omega)
  simpa using this
 rw[this,cond_true]
 rcases h with rfl|rfl|rfl|rfl<;>rfl
theorem rP(N d:Nat)(big:Bool)(bs:List Int)(o:Nat)(l ly sr:Int)(fl:List Nat)(r:List Int)(hly:ly4 ly)(hfl:fl=[]∨(fl.length=sd ly∧∀a,fl.head?=some a→a≠qn))(hf:∀f∈fl,f<18446744073709551616)(h:bs.drop o=eP big ly (sd ly) fl sr++r)(hb:bs.length≤1000000000000):
 F126 (N+8) (d+1) (bs,(o:Int),l,())=rok (oP ly ((sd ly:Nat):Int) fl (sc sr)) bs (o+(eP big ly (sd ly) fl sr).length):=by
 unfold eP at h⊢
 rw[List.append_assoc]at h
 rw[rhd N d big bs o l 1 ly sr _ (.inl rfl) (ly45 hly) h hb,lyr4 hly]
 have h2:=drop_drop' h
 generalize hq:(if fl=[]then List.replicate (sd ly) qn else fl)=gl at h2⊢
 have hgl:gl.length=sd ly:=by
  rw[←hq]
  rcases hfl with e|⟨e,_⟩
  ·rw[if_pos e,List.length_replicate]
  ·rw[if_neg (by intro e2;rw[e2]at e;have:= @sd_pos ly;simp at e;omega),e]
 have hgf:∀f∈gl,f<18446744073709551616:=by
  rw[←hq];split
  ·intro f hm;rw[List.mem_replicate]at hm;rw[hm.2];decide
  ·exact hf
 have hs4:sd ly≤4:=by rcases @sd_or ly with h|h|h<;>omega
 have hR:=rC0 N big gl hgf bs _ (-1) r h2 hb (by omega) (by omega) (by intro e;rw[e]at hgl;have:= @sd_pos ly;simp at hgl;omega)
 rw[hgl]at hR
 unfold F126_j2 F126_g2
 rw[gate_pos (by omega),cd_k (.inl rfl) (ly45 hly),show((1:Int)==1)=true from rfl,cond_true,stN (N+8) hly,Option.bind_some,hR,Option.bind_some]
 simp only[Sum.elim_inr]
 have hlen:o+(hdr big 1 ly sr++fs big gl).length=o+(hdr big 1 ly sr).length+8*sd ly:=by rw[List.length_append,fs_len,hgl,Nat.add_assoc]
 rw[hlen]
 cases fl with
 |nil=>
  rw[if_pos rfl]at hq
  subst hq
  rw[npe N hly]
  rfl
 |cons a q=>
  rw[if_neg (by simp)]at hq
  subst hq
  rw[npf N hly a q (by
   rcases hfl with e|⟨_,e⟩
   ·cases e
   ·exact e a rfl)]
  rfl
theorem rL(N d:Nat)(big:Bool)(bs:List Int)(o:Nat)(l ly sr:Int)(fl:List Nat)(r:List Int)(hly:ly4 ly)(hd:sd ly∣fl.length)(hf:∀f∈fl,f<18446744073709551616)(hN:fl.length+1≤N+8)(hl:fl.length≤1000000000)(h:bs.drop o=eL big ly (sd ly) fl sr++r)(hb:bs.length≤1000000000000):
 F126 (N+8) (d+1) (bs,(o:Int),l,())=rok (oL ly ((sd ly:Nat):Int) fl (sc sr)) bs (o+(eL big ly (sd ly) fl sr).length):=by
 obtain⟨k,hk⟩:=hd
 unfold eL at h⊢
 rw[List.append_assoc]at h
 rw[rhd N d big bs o l 2 ly sr _ (.inr (.inl rfl)) (ly45 hly) h hb,lyr4 hly]
 have h2:=drop_drop' h
 have hR:=rC1 N big fl (sd ly) k (by rw[hk,Nat.mul_comm]) sd_pos hf bs _ (-1) r h2 hb hN hl
 unfold F126_j2 F126_g2
 rw[gate_pos (by omega),cd_k (.inr (.inl rfl)) (ly45 hly),show((2:Int)==1)=false from rfl,cond_false,show((2:Int)==2)=true from rfl,cond_true,stN (N+8) hly,Option.bind_some,hR,Option.bind_some]
 simp only[Sum.elim_inr]
 have hlen:o+(hdr big 2 ly sr++c1 big fl ((sd ly:Nat):Int)).length=o+(hdr big 2 ly sr).length+(4+8*fl.length):=by rw[List.length_append,c1_len,Nat.add_assoc]
 rw[hlen]
 rcases hly with rfl|rfl|rfl|rfl<;>rfl
theorem rY(N d:Nat)(big:Bool)(bs:List Int)(o:Nat)(l ly sr:Int)(fl:List Nat)(es:List Nat)(r:List Int)(hly:ly4 ly)(hc:Cw (sd ly) fl.length 0 es)(hf:∀f∈fl,f<18446744073709551616)(hN:fl.length+1≤N+8)(hl:fl.length≤1000000000)(he:es.length<4294967296)(hN2:es.length+1≤N+8)(h:bs.drop o=eY big ly (sd ly) fl sr es++r)(hb:bs.length≤1000000000000):
 F126 (N+8) (d+1) (bs,(o:Int),l,())=rok (oY ly ((sd ly:Nat):Int) fl (sc sr) (ints es)) bs (o+(eY big ly (sd ly) fl sr es).length):=by
 unfold eY at h⊢
 rw[List.append_assoc]at h
 rw[rhd N d big bs o l 3 ly sr _ (.inr (.inr (.inl rfl))) (ly45 hly) h hb,lyr4 hly]
 have h2:=drop_drop' h
 have hR:=rC2 N big fl (sd ly) sd_pos hf hl hN es he hN2 bs hb r hc _ (-1) h2
 unfold F126_j2 F126_g2
 rw[gate_pos (by omega),cd_k (.inr (.inr (.inl rfl))) (ly45 hly),show((3:Int)==1)=false from rfl,cond_false,show((3:Int)==2)=false from rfl,cond_false,show((3:Int)==3)=true from rfl,cond_true,stN (N+8) hly,Option.bind_some,hR,Option.bind_some]
 simp only[Sum.elim_inr]
 have hlen:o+(hdr big 3 ly sr++c2 big fl es ((sd ly:Nat):Int)).length=o+(hdr big 3 ly sr).length+(c2 big fl es ((sd ly:Nat):Int)).length:=by rw[List.length_append,Nat.add_assoc]
 rw[hlen]
 rcases hly with rfl|rfl|rfl|rfl<;>rfl
end Go.Proofs.YtllnonlmibanfaaGreatDoor.EB
