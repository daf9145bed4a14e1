/-
  laws.FnParts: the regions that draw their order under guards: the roots compared; the last words. Printed by gen_lpend.py. By the session.
-/
import Derived.Test.YtikikddkhikfkaaDoorPa35
import Derived.Test.YtikikddkhikfkaaDoorPa29
import Derived.Test.YtikikddkhikfkaaDoorPa7
import Derived.Deep.Cut
set_option linter.all false
namespace Go.Proofs.YtikikddkhikfkaaDoor
open Go.RowKit

noncomputable def midOps : Array Oper := ((((Tryd.f5.body.map regionsOf).getD []).find? fun x => x.1 == 20).map Prod.snd).getD #[]
noncomputable def endOps : Array Oper := ((((Tryd.f5.body.map regionsOf).getD []).find? fun x => x.1 == 32).map Prod.snd).getD #[]
set_option maxRecDepth 100000 in
set_option maxHeartbeats 12800000 in
theorem parts_mid {Q : Exit → Act → World → Prop} {C : Code} (hC : C = .region 20 midOps true) {ds : List Deferred} {v0 v1 v3 v4 v5 v6 v7 v8 v9 v10 v12 v13 v17 v18 v19 v20 v21 v22 v23 v24 v25 v26 v27 v28 v29 v30 v31 v32 v33 v34 v35 v36 v37 v38 v39 v40 v41 v42 v43 v44 v45 v46 v47 v48 v49 v50 v51 v52 v53 v54 v55 v56 v57 v58 v59 v60 v61 v62 v63 v64 v65 v66 v67 v68 v69 v70 v71 v72 v73 v74 v75 v76 v77 v78 v79 v80 v81 v82 v83 v84 v85 v86 v87 v88 v89 v90 v91 v92 v93 v94 v95 v96 v97 v98 v99 v100 v101 v102 v103 v104 v105 v106 v107 v108 v109 v110 v111 v112 v113 v114 v115 v116 v117 v118 v119 v120 v121 v122 v123 v124 v125 v126 v127 v128 v129 v130 v131 v132 v133 v134 v135 v136 v137 v138 v139 v140 v141 v142 v143 v144 v145 v146 v147 v148 v149 v150 v151 v152 v153 v154 v155 v156 v157 v158 v159 v160 v161 v162 v163 v164 v165 v166 v167 v168 v169 v170 v171 v172 v173 v174 v175 v176 v177 v178 v179 v180 v181 v182 v183 v184 v185 v186 v187 v188 v189 v190 v191 v192 v193 v194 v195 v196 : Value} {n M rc c1 c2 bcc : Nat} {A1 A2 RA BA : Option Addr} {rt1 : List UInt8} {w11 : World}
    (hp : ∀ c (a : Act) (d : Option Nat) (v : Value) w, Q (.panic c) (a.put d v) w → Q (.panic c) a w)
    (KC1 : Hid (∀ W, Below w11.heap.size w11 W → Calls Tryd.prog 22 #[.slice A1 n c1] W (MadeQ W rt1)))
    (hrd : Rd w11 w11.heap.size 1 RA 32 (bc rt1))
    (h : ∀ (r109 r110 r111 r112 r113 r114 r115 r116 r117 r118 r119 r120 r121 r122 r123 r124 r125 r126 : Value) (w' : World), Below w11.heap.size w11 w' → Q .normal ⟨List.toArray (v0 :: v1 :: (.slice A2 M c2) :: v3 :: v4 :: v5 :: v6 :: v7 :: v8 :: v9 :: v10 :: (.slice A1 n c1) :: v12 :: v13 :: (.int .i64 (n : Int)) :: (.slice RA 32 rc) :: (.slice BA M bcc) :: v17 :: v18 :: v19 :: v20 :: v21 :: v22 :: v23 :: v24 :: v25 :: v26 :: v27 :: v28 :: v29 :: v30 :: v31 :: v32 :: v33 :: v34 :: v35 :: v36 :: v37 :: v38 :: v39 :: v40 :: v41 :: v42 :: v43 :: v44 :: v45 :: v46 :: v47 :: v48 :: v49 :: v50 :: v51 :: v52 :: v53 :: v54 :: v55 :: v56 :: v57 :: v58 :: v59 :: v60 :: v61 :: v62 :: v63 :: v64 :: v65 :: v66 :: v67 :: v68 :: v69 :: v70 :: v71 :: v72 :: v73 :: v74 :: v75 :: v76 :: v77 :: v78 :: v79 :: v80 :: v81 :: v82 :: v83 :: v84 :: v85 :: v86 :: v87 :: v88 :: v89 :: v90 :: v91 :: v92 :: v93 :: v94 :: v95 :: v96 :: v97 :: v98 :: v99 :: v100 :: v101 :: v102 :: v103 :: v104 :: v105 :: v106 :: v107 :: v108 :: r109 :: r110 :: r111 :: r112 :: r113 :: r114 :: r115 :: r116 :: r117 :: r118 :: r119 :: r120 :: r121 :: r122 :: r123 :: r124 :: r125 :: r126 :: (.bool false) :: v128 :: v129 :: v130 :: v131 :: v132 :: v133 :: v134 :: v135 :: v136 :: v137 :: v138 :: v139 :: v140 :: v141 :: v142 :: v143 :: v144 :: v145 :: v146 :: v147 :: v148 :: v149 :: v150 :: v151 :: v152 :: v153 :: v154 :: v155 :: v156 :: v157 :: v158 :: v159 :: v160 :: v161 :: v162 :: v163 :: v164 :: v165 :: v166 :: v167 :: v168 :: v169 :: v170 :: v171 :: v172 :: v173 :: v174 :: v175 :: v176 :: v177 :: v178 :: v179 :: v180 :: v181 :: v182 :: v183 :: v184 :: v185 :: v186 :: v187 :: v188 :: v189 :: v190 :: v191 :: v192 :: v193 :: v194 :: v195 :: v196 :: []), ds⟩ w') :
    C.wp Tryd.prog Q ⟨List.toArray (v0 :: v1 :: (.slice A2 M c2) :: v3 :: v4 :: v5 :: v6 :: v7 :: v8 :: v9 :: v10 :: (.slice A1 n c1) :: v12 :: v13 :: (.int .i64 (n : Int)) :: (.slice RA 32 rc) :: (.slice BA M bcc) :: v17 :: v18 :: v19 :: v20 :: v21 :: v22 :: v23 :: v24 :: v25 :: v26 :: v27 :: v28 :: v29 :: v30 :: v31 :: v32 :: v33 :: v34 :: v35 :: v36 :: v37 :: v38 :: v39 :: v40 :: v41 :: v42 :: v43 :: v44 :: v45 :: v46 :: v47 :: v48 :: v49 :: v50 :: v51 :: v52 :: v53 :: v54 :: v55 :: v56 :: v57 :: v58 :: v59 :: v60 :: v61 :: v62 :: v63 :: v64 :: v65 :: v66 :: v67 :: v68 :: v69 :: v70 :: v71 :: v72 :: v73 :: v74 :: v75 :: v76 :: v77 :: v78 :: v79 :: v80 :: v81 :: v82 :: v83 :: v84 :: v85 :: v86 :: v87 :: v88 :: v89 :: v90 :: v91 :: v92 :: v93 :: v94 :: v95 :: v96 :: v97 :: v98 :: v99 :: v100 :: v101 :: v102 :: v103 :: v104 :: v105 :: v106 :: v107 :: v108 :: v109 :: v110 :: v111 :: v112 :: v113 :: v114 :: v115 :: v116 :: v117 :: v118 :: v119 :: v120 :: v121 :: v122 :: v123 :: v124 :: v125 :: v126 :: v127 :: v128 :: v129 :: v130 :: v131 :: v132 :: v133 :: v134 :: v135 :: v136 :: v137 :: v138 :: v139 :: v140 :: v141 :: v142 :: v143 :: v144 :: v145 :: v146 :: v147 :: v148 :: v149 :: v150 :: v151 :: v152 :: v153 :: v154 :: v155 :: v156 :: v157 :: v158 :: v159 :: v160 :: v161 :: v162 :: v163 :: v164 :: v165 :: v166 :: v167 :: v168 :: v169 :: v170 :: v171 :: v172 :: v173 :: v174 :: v175 :: v176 :: v177 :: v178 :: v179 :: v180 :: v181 :: v182 :: v183 :: v184 :: v185 :: v186 :: v187 :: v188 :: v189 :: v190 :: v191 :: v192 :: v193 :: v194 :: v195 :: v196 :: []), ds⟩ w11 := by
  subst hC
  have eo : midOps = midOps := rfl
  conv at eo =>
    rhs
    whnf
  rw [eo]
  clear eo
  have HS0 : Hid (Below w11.heap.size w11 w11.drew) := Lib.hid (Below.refl _ _).drew
  have HH := Lib.hid h
  clear h
  obtain ⟨s1, he1⟩ : ∃ s : ByteArray, s = ⟨rt1.toArray⟩ := ⟨_, rfl⟩
  have HE1 := Lib.hid he1
  have HC0 : Hid (∀ w', Below w11.heap.size w11 w' → (convert 22 9 (.slice RA 32 rc)).run Tryd.prog w' = .ok (.string s1) w') := Lib.hid fun w' h => by rw [HE1.out]; exact conv_row (hrd.below h)
  clear he1 hrd
  refine wp_region_L (fun w' : World => Below w11.heap.size w11 w') 18 (by kernel_rfl) ?_
  refine wpAnyL_take 0 (v := .int .i64 (n : Int)) rfl (by kernel_rfl) (fun c a w h => hp c a _ _ w h) (yields_on (by kernel_rfl) (fun w' hw' => by go_simp)) HS0.out ?_
  simp only [Act.put, List.setIfInBounds_toArray, List.set_cons_zero, List.set_cons_succ]
  refine wpAnyL_take 1 (v := .slice A1 n c1) rfl (by kernel_rfl) (fun c a w h => hp c a _ _ w h) (yields_on (by kernel_rfl) (fun w' hw' => by go_simp)) HS0.out ?_
  simp only [Act.put, List.setIfInBounds_toArray, List.set_cons_zero, List.set_cons_succ]
  refine wpAnyL_take 2 (v := .int .i64 (n : Int)) rfl (by kernel_rfl) (fun c a w h => hp c a _ _ w h) (yields_on (by kernel_rfl) (fun w' hw' => by go_simp)) HS0.out ?_
  simp only [Act.put, List.setIfInBounds_toArray, List.set_cons_zero, List.set_cons_succ]
  refine wpAnyL_take 3 (v := .bool false) rfl (by kernel_rfl) (fun c a w h => hp c a _ _ w h) (yields_on (by kernel_rfl) (fun w' hw' => by go_simp)) HS0.out ?_
  simp only [Act.put, List.setIfInBounds_toArray, List.set_cons_zero, List.set_cons_succ]
  refine wpAnyL_take 4 (v := .bool false) rfl (by kernel_rfl) (fun c a w h => hp c a _ _ w h) (yields_on (by kernel_rfl) (fun w' hw' => by go_simp)) HS0.out ?_
  simp only [Act.put, List.setIfInBounds_toArray, List.set_cons_zero, List.set_cons_succ]
  refine wpAnyL_take 5 (v := .slice RA 32 rc) rfl (by kernel_rfl) (fun c a w h => hp c a _ _ w h) (yields_on (by kernel_rfl) (fun w' hw' => by go_simp)) HS0.out ?_
  simp only [Act.put, List.setIfInBounds_toArray, List.set_cons_zero, List.set_cons_succ]
  refine wpAnyL_take 6 (v := .string s1) rfl (by kernel_rfl) (fun c a w h => hp c a _ _ w h) (yields_on (by kernel_rfl) (fun w' hw' => by have hc := HC0.out w' hw'; go_simp)) HS0.out ?_
  simp only [Act.put, List.setIfInBounds_toArray, List.set_cons_zero, List.set_cons_succ]
  refine wpAnyL_take 7 (v := .slice A1 n c1) rfl (by kernel_rfl) (fun c a w h => hp c a _ _ w h) (yields_on (by kernel_rfl) (fun w' hw' => by go_simp)) HS0.out ?_
  simp only [Act.put, List.setIfInBounds_toArray, List.set_cons_zero, List.set_cons_succ]
  refine wpAnyL_on 8 rfl (by kernel_rfl) (by kernel_rfl) ?_
  go_simp
  refine (KC1.out _ HS0.out).mono ?_
  rintro e wa ⟨Aa, ma, ca', rfl, hr, hb⟩
  have HSa : Hid (Below w11.heap.size w11 wa) := Lib.hid (HS0.out.trans (hb.mono HS0.out.size))
  have HCa : Hid (∀ w', Below wa.heap.size wa w' → (convert 22 9 (.slice Aa ma ca')).run Tryd.prog w' = .ok (.string s1) w') := Lib.hid fun w' h => by rw [HE1.out]; exact conv_row (hr.rd.below h)
  have HZa : Hid (Below wa.heap.size wa wa) := Lib.hid (Below.refl _ _)
  have HPa : Hid (Below w11.heap.size w11 wa) := Lib.hid HSa.out
  clear hr hb
  refine ⟨HPa.out, wpAnyL_imp (S := fun w' : World => Below wa.heap.size wa w') (fun w' h => HPa.out.trans (h.mono HPa.out.size)) ?_⟩
  refine wpAnyL_take 9 (v := .string s1) rfl (by kernel_rfl) (fun c a w h => hp c a _ _ w h) (yields_on (by kernel_rfl) (fun w' hw' => by have hc := HCa.out w' hw'; go_simp)) HZa.out ?_
  simp only [Act.put, List.setIfInBounds_toArray, List.set_cons_zero, List.set_cons_succ]
  refine wpAnyL_take 10 (v := .bool false) rfl (by kernel_rfl) (fun c a w h => hp c a _ _ w h) (yields_on (by kernel_rfl) (fun w' hw' => by go_simp)) HZa.out ?_
  simp only [Act.put, List.setIfInBounds_toArray, List.set_cons_zero, List.set_cons_succ]
  refine wpAnyL_take 11 (v := .bool false) rfl (by kernel_rfl) (fun c a w h => hp c a _ _ w h) (yields_on (by kernel_rfl) (fun w' hw' => by go_simp)) HZa.out ?_
  simp only [Act.put, List.setIfInBounds_toArray, List.set_cons_zero, List.set_cons_succ]
  refine wpAnyL_take 12 (v := .bool false) rfl (by kernel_rfl) (fun c a w h => hp c a _ _ w h) (yields_on (by kernel_rfl) (fun w' hw' => by go_simp)) HZa.out ?_
  simp only [Act.put, List.setIfInBounds_toArray, List.set_cons_zero, List.set_cons_succ]
  refine wpAnyL_take 13 (v := .slice BA M bcc) rfl (by kernel_rfl) (fun c a w h => hp c a _ _ w h) (yields_on (by kernel_rfl) (fun w' hw' => by go_simp)) HZa.out ?_
  simp only [Act.put, List.setIfInBounds_toArray, List.set_cons_zero, List.set_cons_succ]
  refine wpAnyL_take 14 (v := .int .i64 (M : Int)) rfl (by kernel_rfl) (fun c a w h => hp c a _ _ w h) (yields_on (by kernel_rfl) (fun w' hw' => by go_simp)) HZa.out ?_
  simp only [Act.put, List.setIfInBounds_toArray, List.set_cons_zero, List.set_cons_succ]
  refine wpAnyL_take 15 (v := .slice A2 M c2) rfl (by kernel_rfl) (fun c a w h => hp c a _ _ w h) (yields_on (by kernel_rfl) (fun w' hw' => by go_simp)) HZa.out ?_
  simp only [Act.put, List.setIfInBounds_toArray, List.set_cons_zero, List.set_cons_succ]
  refine wpAnyL_take 16 (v := .int .i64 (M : Int)) rfl (by kernel_rfl) (fun c a w h => hp c a _ _ w h) (yields_on (by kernel_rfl) (fun w' hw' => by go_simp)) HZa.out ?_
  simp only [Act.put, List.setIfInBounds_toArray, List.set_cons_zero, List.set_cons_succ]
  refine wpAnyL_take 17 (v := .bool false) rfl (by kernel_rfl) (fun c a w h => hp c a _ _ w h) (yields_on (by kernel_rfl) (fun w' hw' => by go_simp)) HZa.out ?_
  simp only [Act.put, List.setIfInBounds_toArray, List.set_cons_zero, List.set_cons_succ]
  refine wpAnyL_one 18 rfl (by kernel_rfl) rfl ?_
  go_simp
  refine wpAnyL_done (by kernel_rfl) ?_ _
  exact HH.out _ _ _ _ _ _ _ _ _ _ _ _ _ _ _ _ _ _ _ HSa.out
set_option maxRecDepth 100000 in
set_option maxHeartbeats 12800000 in
theorem parts_end {Q : Exit → Act → World → Prop} {C : Code} (hC : C = .region 32 endOps true) {ds : List Deferred} {v2 v5 v6 v7 v8 v9 v10 v12 v13 v14 v15 v16 v20 v21 v22 v23 v24 v25 v26 v27 v28 v29 v30 v31 v32 v33 v34 v35 v36 v37 v38 v39 v40 v41 v42 v43 v44 v45 v46 v47 v48 v49 v50 v51 v52 v53 v54 v55 v56 v57 v58 v59 v60 v61 v62 v63 v64 v65 v66 v67 v68 v69 v70 v71 v72 v73 v74 v75 v76 v77 v78 v79 v80 v81 v82 v83 v84 v85 v86 v87 v88 v89 v90 v91 v92 v93 v94 v95 v96 v97 v98 v99 v100 v101 v102 v103 v104 v105 v106 v107 v108 v109 v110 v111 v112 v113 v114 v115 v116 v117 v118 v119 v120 v121 v122 v123 v124 v125 v126 v127 v128 v129 v130 v131 v132 v133 v134 v135 v136 v137 v138 v139 v140 v141 v142 v143 v144 v145 v146 v147 v148 v149 v150 v151 v152 v153 v154 v155 v156 v157 v158 v159 v160 v161 v162 v163 v164 v165 v166 v167 v168 v169 v170 v171 v172 v173 v174 v175 v176 v177 v178 v179 v180 v181 v182 v183 v184 v185 v186 v187 v188 v189 v190 v191 v192 v193 v194 v195 v196 : Value} {n cnt pp L S tm dc tc c1 c3 xm xc : Nat} {ad : Addr} {DA TA A3 XA : Option Addr} {all b : Bool} {rt1 rt2 : List UInt8} {w11 : World}
    (hp : ∀ c (a : Act) (d : Option Nat) (v : Value) w, Q (.panic c) (a.put d v) w → Q (.panic c) a w)
    (hall : decide (cnt = n) = all) (hpn : pp < n) (hb12 : decide (rt1 = rt2) = b)
    (KP : Hid (∀ W, Below w11.heap.size w11 W → Calls Tryd.prog 24 #[.slice DA L dc, .int .i64 (S : Int), .int .i64 (pp : Int), .slice TA tm tc] W fun e w' => e = .returned (.bool b) ∧ Below W.heap.size W w'))
    (KL1 : Hid (∀ W, Below w11.heap.size w11 W → Calls Tryd.prog 25 #[.slice TA tm tc] W (MadeQ W rt1)))
    (KL2 : Hid (∀ W, Below w11.heap.size w11 W → Calls Tryd.prog 25 #[.slice XA xm xc] W (MadeQ W rt2)))
    (hx : ∀ W, Below w11.heap.size w11 W → W.cell? (ad.add pp) = some (.slice XA xm xc))
    (h : ∀ (r166 r167 r168 r169 r170 r171 r172 r173 r174 r175 r176 r177 r178 r179 r180 r181 r182 r183 r184 r185 r186 r187 r188 r189 r190 r191 r192 r193 r194 r195 r196 : Value) (w' : World), Below w11.heap.size w11 w' → Q .normal ⟨List.toArray ((.slice DA L dc) :: (.int .i64 (S : Int)) :: v2 :: (.int .i64 (pp : Int)) :: (.slice TA tm tc) :: v5 :: v6 :: v7 :: v8 :: v9 :: (.bool true) :: (.slice (some ad) n c1) :: v12 :: v13 :: v14 :: v15 :: v16 :: (.bool all) :: (.int .i64 (cnt : Int)) :: (.slice A3 cnt c3) :: v20 :: v21 :: v22 :: v23 :: v24 :: v25 :: v26 :: v27 :: v28 :: v29 :: v30 :: v31 :: v32 :: v33 :: v34 :: v35 :: v36 :: v37 :: v38 :: v39 :: v40 :: v41 :: v42 :: v43 :: v44 :: v45 :: v46 :: v47 :: v48 :: v49 :: v50 :: v51 :: v52 :: v53 :: v54 :: v55 :: v56 :: v57 :: v58 :: v59 :: v60 :: v61 :: v62 :: v63 :: v64 :: v65 :: v66 :: v67 :: v68 :: v69 :: v70 :: v71 :: v72 :: v73 :: v74 :: v75 :: v76 :: v77 :: v78 :: v79 :: v80 :: v81 :: v82 :: v83 :: v84 :: v85 :: v86 :: v87 :: v88 :: v89 :: v90 :: v91 :: v92 :: v93 :: v94 :: v95 :: v96 :: v97 :: v98 :: v99 :: v100 :: v101 :: v102 :: v103 :: v104 :: v105 :: v106 :: v107 :: v108 :: v109 :: v110 :: v111 :: v112 :: v113 :: v114 :: v115 :: v116 :: v117 :: v118 :: v119 :: v120 :: v121 :: v122 :: v123 :: v124 :: v125 :: v126 :: v127 :: v128 :: v129 :: v130 :: v131 :: v132 :: v133 :: v134 :: v135 :: v136 :: v137 :: v138 :: v139 :: v140 :: v141 :: v142 :: v143 :: v144 :: v145 :: v146 :: v147 :: v148 :: v149 :: v150 :: v151 :: v152 :: v153 :: v154 :: v155 :: v156 :: v157 :: v158 :: v159 :: v160 :: v161 :: v162 :: v163 :: v164 :: v165 :: r166 :: r167 :: r168 :: r169 :: r170 :: r171 :: r172 :: r173 :: r174 :: r175 :: r176 :: r177 :: r178 :: r179 :: r180 :: r181 :: r182 :: r183 :: r184 :: r185 :: r186 :: r187 :: r188 :: r189 :: r190 :: r191 :: r192 :: r193 :: r194 :: r195 :: r196 :: []), ds⟩ w') :
    C.wp Tryd.prog Q ⟨List.toArray ((.slice DA L dc) :: (.int .i64 (S : Int)) :: v2 :: (.int .i64 (pp : Int)) :: (.slice TA tm tc) :: v5 :: v6 :: v7 :: v8 :: v9 :: v10 :: (.slice (some ad) n c1) :: v12 :: v13 :: v14 :: v15 :: v16 :: (.bool all) :: (.int .i64 (cnt : Int)) :: (.slice A3 cnt c3) :: v20 :: v21 :: v22 :: v23 :: v24 :: v25 :: v26 :: v27 :: v28 :: v29 :: v30 :: v31 :: v32 :: v33 :: v34 :: v35 :: v36 :: v37 :: v38 :: v39 :: v40 :: v41 :: v42 :: v43 :: v44 :: v45 :: v46 :: v47 :: v48 :: v49 :: v50 :: v51 :: v52 :: v53 :: v54 :: v55 :: v56 :: v57 :: v58 :: v59 :: v60 :: v61 :: v62 :: v63 :: v64 :: v65 :: v66 :: v67 :: v68 :: v69 :: v70 :: v71 :: v72 :: v73 :: v74 :: v75 :: v76 :: v77 :: v78 :: v79 :: v80 :: v81 :: v82 :: v83 :: v84 :: v85 :: v86 :: v87 :: v88 :: v89 :: v90 :: v91 :: v92 :: v93 :: v94 :: v95 :: v96 :: v97 :: v98 :: v99 :: v100 :: v101 :: v102 :: v103 :: v104 :: v105 :: v106 :: v107 :: v108 :: v109 :: v110 :: v111 :: v112 :: v113 :: v114 :: v115 :: v116 :: v117 :: v118 :: v119 :: v120 :: v121 :: v122 :: v123 :: v124 :: v125 :: v126 :: v127 :: v128 :: v129 :: v130 :: v131 :: v132 :: v133 :: v134 :: v135 :: v136 :: v137 :: v138 :: v139 :: v140 :: v141 :: v142 :: v143 :: v144 :: v145 :: v146 :: v147 :: v148 :: v149 :: v150 :: v151 :: v152 :: v153 :: v154 :: v155 :: v156 :: v157 :: v158 :: v159 :: v160 :: v161 :: v162 :: v163 :: v164 :: v165 :: v166 :: v167 :: v168 :: v169 :: v170 :: v171 :: v172 :: v173 :: v174 :: v175 :: v176 :: v177 :: v178 :: v179 :: v180 :: v181 :: v182 :: v183 :: v184 :: v185 :: v186 :: v187 :: v188 :: v189 :: v190 :: v191 :: v192 :: v193 :: v194 :: v195 :: v196 :: []), ds⟩ w11 := by
  subst hC
  have eo : endOps = endOps := rfl
  conv at eo =>
    rhs
    whnf
  rw [eo]
  clear eo
  have HS0 : Hid (Below w11.heap.size w11 w11.drew) := Lib.hid (Below.refl _ _).drew
  have HH := Lib.hid h
  clear h
  obtain ⟨s1, he1⟩ : ∃ s : ByteArray, s = ⟨rt1.toArray⟩ := ⟨_, rfl⟩
  obtain ⟨s2, he2⟩ : ∃ s : ByteArray, s = ⟨rt2.toArray⟩ := ⟨_, rfl⟩
  have HE1 := Lib.hid he1; have HE2 := Lib.hid he2
  have g1 : decide (s1 = s2) = b := by
    rw [← hb12, he1, he2]
    by_cases hq : rt1 = rt2
    · rw [hq]; simp
    · rw [decide_eq_false hq, decide_eq_false]
      intro e
      injection e with e
      exact hq (List.toArray_inj e)
  have g2 : (s1.toList == s2.toList) = b := by
    rw [← hb12, he1, he2, toList_data, toList_data]
    show (rt1.toArray.toList == rt2.toArray.toList) = _
    rw [List.toList_toArray, List.toList_toArray]
    by_cases hq : rt1 = rt2
    · rw [hq]; simp
    · rw [decide_eq_false hq, beq_eq_false_iff_ne]; exact hq
  have a1 : (cnt == n) = all := by rw [← hall]; by_cases hq : cnt = n <;> simp [hq]
  have a2 : ((cnt : Int) == (n : Int)) = all := by rw [← hall]; by_cases hq : cnt = n <;> simp [hq] <;> omega
  have HX := Lib.hid hx
  have G1 := Lib.hid (And.intro g1 g2); have G2 := Lib.hid (And.intro a1 a2); have G3 := Lib.hid hall
  clear he1 he2 hb12 hx g1 g2 a1 a2 hall
  refine wp_region_L (fun w' : World => Below w11.heap.size w11 w') 31 (by kernel_rfl) ?_
  refine wpAnyL_take 0 (v := .int .i64 (cnt : Int)) rfl (by kernel_rfl) (fun c a w h => hp c a _ _ w h) (yields_on (by kernel_rfl) (fun w' hw' => by go_simp)) HS0.out ?_
  simp only [Act.put, List.setIfInBounds_toArray, List.set_cons_zero, List.set_cons_succ]
  refine wpAnyL_take 1 (v := .slice A3 cnt c3) rfl (by kernel_rfl) (fun c a w h => hp c a _ _ w h) (yields_on (by kernel_rfl) (fun w' hw' => by go_simp)) HS0.out ?_
  simp only [Act.put, List.setIfInBounds_toArray, List.set_cons_zero, List.set_cons_succ]
  refine wpAnyL_take 2 (v := .int .i64 (cnt : Int)) rfl (by kernel_rfl) (fun c a w h => hp c a _ _ w h) (yields_on (by kernel_rfl) (fun w' hw' => by go_simp)) HS0.out ?_
  simp only [Act.put, List.setIfInBounds_toArray, List.set_cons_zero, List.set_cons_succ]
  refine wpAnyL_take 3 (v := .bool true) rfl (by kernel_rfl) (fun c a w h => hp c a _ _ w h) (yields_on (by kernel_rfl) (fun w' hw' => by go_simp)) HS0.out ?_
  simp only [Act.put, List.setIfInBounds_toArray, List.set_cons_zero, List.set_cons_succ]
  refine wpAnyL_take 4 (v := .bool true) rfl (by kernel_rfl) (fun c a w h => hp c a _ _ w h) (yields_on (by kernel_rfl) (fun w' hw' => by go_simp)) HS0.out ?_
  simp only [Act.put, List.setIfInBounds_toArray, List.set_cons_zero, List.set_cons_succ]
  refine wpAnyL_take 5 (v := .bool all) rfl (by kernel_rfl) (fun c a w h => hp c a _ _ w h) (yields_on (by kernel_rfl) (fun w' hw' => by go_simp)) HS0.out ?_
  simp only [Act.put, List.setIfInBounds_toArray, List.set_cons_zero, List.set_cons_succ]
  refine wpAnyL_take 6 (v := .slice A3 cnt c3) rfl (by kernel_rfl) (fun c a w h => hp c a _ _ w h) (yields_on (by kernel_rfl) (fun w' hw' => by go_simp)) HS0.out ?_
  simp only [Act.put, List.setIfInBounds_toArray, List.set_cons_zero, List.set_cons_succ]
  refine wpAnyL_take 7 (v := .int .i64 (cnt : Int)) rfl (by kernel_rfl) (fun c a w h => hp c a _ _ w h) (yields_on (by kernel_rfl) (fun w' hw' => by go_simp)) HS0.out ?_
  simp only [Act.put, List.setIfInBounds_toArray, List.set_cons_zero, List.set_cons_succ]
  refine wpAnyL_take 8 (v := .slice (some ad) n c1) rfl (by kernel_rfl) (fun c a w h => hp c a _ _ w h) (yields_on (by kernel_rfl) (fun w' hw' => by go_simp)) HS0.out ?_
  simp only [Act.put, List.setIfInBounds_toArray, List.set_cons_zero, List.set_cons_succ]
  refine wpAnyL_take 9 (v := .int .i64 (n : Int)) rfl (by kernel_rfl) (fun c a w h => hp c a _ _ w h) (yields_on (by kernel_rfl) (fun w' hw' => by go_simp)) HS0.out ?_
  simp only [Act.put, List.setIfInBounds_toArray, List.set_cons_zero, List.set_cons_succ]
  refine wpAnyL_take 10 (v := .bool all) rfl (by kernel_rfl) (fun c a w h => hp c a _ _ w h) (yields_on (by kernel_rfl) (fun w' hw' => by have a1 := G2.out.1; have a2 := G2.out.2; have a3 := G3.out; go_simp)) HS0.out ?_
  simp only [Act.put, List.setIfInBounds_toArray, List.set_cons_zero, List.set_cons_succ]
  refine wpAnyL_take 11 (v := .bool true) rfl (by kernel_rfl) (fun c a w h => hp c a _ _ w h) (yields_on (by kernel_rfl) (fun w' hw' => by go_simp)) HS0.out ?_
  simp only [Act.put, List.setIfInBounds_toArray, List.set_cons_zero, List.set_cons_succ]
  refine wpAnyL_take 12 (v := .bool true) rfl (by kernel_rfl) (fun c a w h => hp c a _ _ w h) (yields_on (by kernel_rfl) (fun w' hw' => by go_simp)) HS0.out ?_
  simp only [Act.put, List.setIfInBounds_toArray, List.set_cons_zero, List.set_cons_succ]
  refine wpAnyL_take 13 (v := .bool true) rfl (by kernel_rfl) (fun c a w h => hp c a _ _ w h) (yields_on (by kernel_rfl) (fun w' hw' => by go_simp)) HS0.out ?_
  simp only [Act.put, List.setIfInBounds_toArray, List.set_cons_zero, List.set_cons_succ]
  refine wpAnyL_take 14 (v := .slice DA L dc) rfl (by kernel_rfl) (fun c a w h => hp c a _ _ w h) (yields_on (by kernel_rfl) (fun w' hw' => by go_simp)) HS0.out ?_
  simp only [Act.put, List.setIfInBounds_toArray, List.set_cons_zero, List.set_cons_succ]
  refine wpAnyL_take 15 (v := .int .i64 (S : Int)) rfl (by kernel_rfl) (fun c a w h => hp c a _ _ w h) (yields_on (by kernel_rfl) (fun w' hw' => by go_simp)) HS0.out ?_
  simp only [Act.put, List.setIfInBounds_toArray, List.set_cons_zero, List.set_cons_succ]
  refine wpAnyL_take 16 (v := .int .i64 (pp : Int)) rfl (by kernel_rfl) (fun c a w h => hp c a _ _ w h) (yields_on (by kernel_rfl) (fun w' hw' => by go_simp)) HS0.out ?_
  simp only [Act.put, List.setIfInBounds_toArray, List.set_cons_zero, List.set_cons_succ]
  refine wpAnyL_take 17 (v := .slice TA tm tc) rfl (by kernel_rfl) (fun c a w h => hp c a _ _ w h) (yields_on (by kernel_rfl) (fun w' hw' => by go_simp)) HS0.out ?_
  simp only [Act.put, List.setIfInBounds_toArray, List.set_cons_zero, List.set_cons_succ]
  refine wpAnyL_take 19 (v := .slice TA tm tc) rfl (by kernel_rfl) (fun c a w h => hp c a _ _ w h) (yields_on (by kernel_rfl) (fun w' hw' => by go_simp)) HS0.out ?_
  simp only [Act.put, List.setIfInBounds_toArray, List.set_cons_zero, List.set_cons_succ]
  refine wpAnyL_take 22 (v := .slice (some ad) n c1) rfl (by kernel_rfl) (fun c a w h => hp c a _ _ w h) (yields_on (by kernel_rfl) (fun w' hw' => by go_simp)) HS0.out ?_
  simp only [Act.put, List.setIfInBounds_toArray, List.set_cons_zero, List.set_cons_succ]
  refine wpAnyL_take 23 (v := .int .i64 (pp : Int)) rfl (by kernel_rfl) (fun c a w h => hp c a _ _ w h) (yields_on (by kernel_rfl) (fun w' hw' => by go_simp)) HS0.out ?_
  simp only [Act.put, List.setIfInBounds_toArray, List.set_cons_zero, List.set_cons_succ]
  refine wpAnyL_take 24 (v := .pointer (some (ad.add pp))) rfl (by kernel_rfl) (fun c a w h => hp c a _ _ w h) (yields_on (by kernel_rfl) (fun w' hw' => by go_simp)) HS0.out ?_
  simp only [Act.put, List.setIfInBounds_toArray, List.set_cons_zero, List.set_cons_succ]
  refine wpAnyL_take 25 (v := .slice XA xm xc) rfl (by kernel_rfl) (fun c a w h => hp c a _ _ w h) (yields_on (by kernel_rfl) (fun w' hw' => by have hc := HX.out w' hw'; go_simp)) HS0.out ?_
  simp only [Act.put, List.setIfInBounds_toArray, List.set_cons_zero, List.set_cons_succ]
  refine wpAnyL_on 18 rfl (by kernel_rfl) (by kernel_rfl) ?_
  go_simp
  refine (KP.out _ HS0.out).mono ?_
  rintro e wa ⟨rfl, hb⟩
  have HSa : Hid (Below w11.heap.size w11 wa) := Lib.hid (HS0.out.trans (hb.mono HS0.out.size))
  have HZa : Hid (Below wa.heap.size wa wa) := Lib.hid (Below.refl _ _)
  have HPa : Hid (Below w11.heap.size w11 wa) := Lib.hid HSa.out
  clear hb
  refine ⟨HPa.out, wpAnyL_imp (S := fun w' : World => Below wa.heap.size wa w') (fun w' h => HPa.out.trans (h.mono HPa.out.size)) ?_⟩
  refine wpAnyL_on 20 rfl (by kernel_rfl) (by kernel_rfl) ?_
  go_simp
  refine (KL1.out _ HSa.out).mono ?_
  rintro e wb ⟨Ab, mb, cb', rfl, hr, hb⟩
  have HSb : Hid (Below w11.heap.size w11 wb) := Lib.hid (HSa.out.trans (hb.mono HSa.out.size))
  have HCb : Hid (∀ w', Below wb.heap.size wb w' → (convert 22 9 (.slice Ab mb cb')).run Tryd.prog w' = .ok (.string s1) w') := Lib.hid fun w' h => by rw [HE1.out]; exact conv_row (hr.rd.below h)
  have HZb : Hid (Below wb.heap.size wb wb) := Lib.hid (Below.refl _ _)
  have HPb : Hid (Below wa.heap.size wa wb) := Lib.hid hb
  clear hr hb
  refine ⟨HPb.out, wpAnyL_imp (S := fun w' : World => Below wb.heap.size wb w') (fun w' h => HPb.out.trans (h.mono HPb.out.size)) ?_⟩
  refine wpAnyL_take 21 (v := .string s1) rfl (by kernel_rfl) (fun c a w h => hp c a _ _ w h) (yields_on (by kernel_rfl) (fun w' hw' => by have hc := HCb.out w' hw'; go_simp)) HZb.out ?_
  simp only [Act.put, List.setIfInBounds_toArray, List.set_cons_zero, List.set_cons_succ]
  refine wpAnyL_on 26 rfl (by kernel_rfl) (by kernel_rfl) ?_
  go_simp
  refine (KL2.out _ HSb.out).mono ?_
  rintro e wc ⟨Ac, mc, cc', rfl, hr, hb⟩
  have HSc : Hid (Below w11.heap.size w11 wc) := Lib.hid (HSb.out.trans (hb.mono HSb.out.size))
  have HCc : Hid (∀ w', Below wc.heap.size wc w' → (convert 22 9 (.slice Ac mc cc')).run Tryd.prog w' = .ok (.string s2) w') := Lib.hid fun w' h => by rw [HE2.out]; exact conv_row (hr.rd.below h)
  have HZc : Hid (Below wc.heap.size wc wc) := Lib.hid (Below.refl _ _)
  have HPc : Hid (Below wb.heap.size wb wc) := Lib.hid hb
  clear hr hb
  refine ⟨HPc.out, wpAnyL_imp (S := fun w' : World => Below wc.heap.size wc w') (fun w' h => HPc.out.trans (h.mono HPc.out.size)) ?_⟩
  refine wpAnyL_take 27 (v := .string s2) rfl (by kernel_rfl) (fun c a w h => hp c a _ _ w h) (yields_on (by kernel_rfl) (fun w' hw' => by have hc := HCc.out w' hw'; go_simp)) HZc.out ?_
  simp only [Act.put, List.setIfInBounds_toArray, List.set_cons_zero, List.set_cons_succ]
  refine wpAnyL_take 28 (v := .bool b) rfl (by kernel_rfl) (fun c a w h => hp c a _ _ w h) (yields_on (by kernel_rfl) (fun w' hw' => by have a1 := G1.out.1; have a2 := G1.out.2; go_simp)) HZc.out ?_
  simp only [Act.put, List.setIfInBounds_toArray, List.set_cons_zero, List.set_cons_succ]
  refine wpAnyL_take 29 (v := .bool true) rfl (by kernel_rfl) (fun c a w h => hp c a _ _ w h) (yields_on (by kernel_rfl) (fun w' hw' => by go_simp)) HZc.out ?_
  simp only [Act.put, List.setIfInBounds_toArray, List.set_cons_zero, List.set_cons_succ]
  refine wpAnyL_take 30 (v := .bool true) rfl (by kernel_rfl) (fun c a w h => hp c a _ _ w h) (yields_on (by kernel_rfl) (fun w' hw' => by go_simp)) HZc.out ?_
  simp only [Act.put, List.setIfInBounds_toArray, List.set_cons_zero, List.set_cons_succ]
  refine wpAnyL_one 31 rfl (by kernel_rfl) rfl ?_
  go_simp
  refine wpAnyL_done (by kernel_rfl) ?_ _
  exact HH.out _ _ _ _ _ _ _ _ _ _ _ _ _ _ _ _ _ _ _ _ _ _ _ _ _ _ _ _ _ _ _ _ HSc.out
end Go.Proofs.YtikikddkhikfkaaDoor
