/-
  A round of the law's loop.
-/
import Derived.Test.YbulkbdskDoorPut
import Derived.Test.YbulkbdskDoorQuick
import Derived.Deep.RegionHeld3
namespace Go.Proofs.YbulkbdskDoor
open Go Go.RowKit

def findBlock (n : Nat) : Code → Option Code
  | .block m c => if m = n then some (.block m c) else findBlock n c
  | .seq a b => match findBlock n a with
    | some c => some c
    | none => findBlock n b
  | .loop c => findBlock n c
  | .scope c => findBlock n c
  | .cond _ a b => match findBlock n a with
    | some c => some c
    | none => findBlock n b
  | _ => none

set_option maxHeartbeats 40000000 in
set_option maxRecDepth 1000000 in
theorem law_round (ao : Option Addr) (len cap g n dl k ob oo : Nat) (v : Value) (pf : Nat → Peer) (pr dn br : Nat → Bool) (po : Nat → Nat) (a b : Int) (d c e : Bool) (key : Int) (w w0 : World) (K : Act → World → Prop) (Q' : Exit → Act → World → Prop) (u0 u1 u2 u10 u11 u12 u13 u14 u15 u16 u17 u18 u19 u20 u21 u22 u23 u24 u25 u26 u27 u28 u29 u30 u31 u32 u33 u34 u35 u36 u38 u40 u41 u42 u43 u44 u45 u46 u47 u48 u49 u50 u51 u52 u53 u54 u55 u56 u57 u58 u59 u60 u61 u62 u63 u64 u65 u66 u67 u68 u69 u70 u71 u72 u73 u74 u75 u76 u77 u78 u79 u80 u81 u82 u83 u84 u85 u86 u87 u88 u89 u90 u91 u92 u93 u94 u95 u96 u97 u98 u99 u100 u101 u102 u103 u104 u105 u106 u107 u108 u109 u110 u111 u112 u113 u114 u115 u116 u117 u118 u119 u120 u121 u122 u123 u124 u125 u126 u127 u128 u129 u130 u131 u132 u133 u134 u135 u136 u137 u138 u139 u140 u141 u142 u143 u144 u145 u146 u147 u148 u149 u150 u151 u152 u153 u154 u155 u156 u157 u158 u159 u160 u161 u162 u163 u164 u165 u166 u167 u168 u169 u170 u171 u172 u173 u174 u175 u176 u177 u178 u179 u180 u181 u182 u183 u184 u185 u186 u187 u188 u189 u190 u191 u192 u193 u194 u195 u196 u197 u198 u199 u200 u201 u202 u203 u204 u205 u206 u207 u208 u209 u210 u211 u212 u213 u214 u215 u216 u217 u218 u219 u220 u221 u222 u223 u224 u225 u226 u227 u228 u229 u230 u231 u232 u233 u234 u235 u236 u237 u238 u239 u240 u241 u242 u243 u244 u245 u246 u247 u248 u249 u250 u251 u252 u253 u254 u255 u256 u257 u258 u259 u260 u261 u262 u263 u264 u265 u266 u267 u268 u269 u270 u271 u272 u273 u274 u275 u276 u277 u278 u279 u280 u281 u282 u283 u284 u285 u286 u287 u288 u289 u290 u291 u292 u293 u294 u295 u296 u297 u298 u299 u300 u301 u302 u303 u304 u305 u306 u307 u308 u309 u310 u311 u312 u313 u314 u315 u316 u317 u318 u319 u320 u321 u322 u323 u324 u325 u326 u327 u328 u329 u330 u331 u332 u333 u334 u335 u336 u337 u338 u339 u340 u341 u342 u343 u344 u345 u346 u347 u348 u349 u350 u351 u352 u353 u354 u355 : Value)
    (hL : LW w w0 g v pf n dl pr dn br po) (hM : Mod pr dn br po pf n) (hk : k < 1024) (hdl : dl ≤ k) (hab : (0 ≤ a ∧ a ≤ 255) ∧ 0 ≤ b ∧ b ≤ 255)
    (hix : ∀ W, (Instr.indexAt 22 (.slice ao len cap) (.int .i64 (k : Int))).run Ybad.prog W = .ok (.pointer (some ⟨ob, oo, none⟩)) W)
    (hop : ∀ j, j < 6 → w0.cell? ⟨ob, oo + j, none⟩ = some (opc a b d c e key j))
    (hK : ∀ (v2 v10 v11 v12 v13 v14 v15 v16 v17 v18 v19 v20 v21 v22 v23 v24 v25 v26 v27 v28 v29 v41 v42 v43 v44 v45 v46 v47 v48 v49 v50 v51 v52 v53 v54 v55 v56 v57 v58 v59 v60 v61 v62 v63 v64 v65 v66 v67 v68 v69 v70 v71 v72 v73 v74 v75 v76 v77 v78 v79 v80 v81 v82 v83 v84 v85 v86 v87 v88 v89 v90 v91 v92 v93 v94 v95 v96 v97 v98 v99 v100 v101 v102 v103 v104 v105 v106 v107 v108 v109 v110 v111 v112 v113 v114 v115 v116 v117 v118 v119 v120 v121 v122 v123 v124 v125 v126 v127 v128 v129 v130 v131 v132 v133 v134 v135 v136 v137 v138 v139 v140 v141 v142 v143 v144 v145 v146 v147 v148 v149 v150 v151 v152 v153 v154 v155 v156 v157 v158 v159 v160 v161 v162 v163 v164 v165 v166 v167 v168 v169 v170 v171 v172 v173 v174 v175 v176 v177 v178 v179 v180 v181 v182 v183 v184 v185 v186 v187 v188 v189 v190 v191 v192 v193 v194 v195 v196 v197 v198 v199 v200 v201 v202 v203 v204 v205 v206 v207 v208 v209 v210 v211 v212 v213 v214 v215 v216 v217 v218 v219 v220 v221 v222 v223 v224 v225 v226 v227 v228 v229 v230 v231 v232 v233 v234 v235 v236 v237 v238 v239 v240 v241 v242 v243 v244 v245 v246 v247 v248 v249 v250 v251 v252 v253 v254 v255 v256 v257 v258 v259 v260 v261 v262 v263 v264 v265 v266 v267 v268 v269 v270 v271 v272 v273 v274 v275 v276 v277 v278 v279 v280 v281 v282 v283 v284 v285 v286 v287 v288 v289 v290 v291 v292 v293 v294 v295 v296 v297 v298 v299 v300 v301 v302 v303 v304 v305 v306 v307 v308 v309 v310 v311 v312 v313 v314 v315 v316 v317 v318 v319 v320 v321 v322 v323 v324 v325 v326 v327 v328 v329 v330 v331 v332 v333 v334 v335 v336 v337 v338 v339 v340 v341 v342 v343 v344 v345 v346 v347 v348 v349 v350 v351 v352 v353 v354 : Value) (W' : World) (dl' : Nat), (∃ v' pf' n' pr' dn' br' po', LW w W' g v' pf' n' dl' pr' dn' br' po' ∧ Mod pr' dn' br' po' pf' n') → dl' ≤ dl + 1 → K ⟨List.toArray (u0 :: u1 :: v2 :: .pointer (some ⟨g + 4, 0, none⟩) :: .pointer (some ⟨g + 5, 0, none⟩) :: .pointer (some ⟨g + 6, 0, none⟩) :: .pointer (some ⟨g + 7, 0, none⟩) :: .pointer (some ⟨g + 8, 0, none⟩) :: .pointer (some ⟨g + 9, 0, none⟩) :: .int .i64 (dl' : Int) :: v10 :: v11 :: v12 :: v13 :: v14 :: v15 :: v16 :: v17 :: v18 :: v19 :: v20 :: v21 :: v22 :: v23 :: v24 :: v25 :: v26 :: v27 :: v28 :: v29 :: u30 :: u31 :: u32 :: u33 :: u34 :: u35 :: u36 :: .slice ao len cap :: u38 :: .int .i64 (k : Int) :: u40 :: v41 :: v42 :: v43 :: v44 :: v45 :: v46 :: v47 :: v48 :: v49 :: v50 :: v51 :: v52 :: v53 :: v54 :: v55 :: v56 :: v57 :: v58 :: v59 :: v60 :: v61 :: v62 :: v63 :: v64 :: v65 :: v66 :: v67 :: v68 :: v69 :: v70 :: v71 :: v72 :: v73 :: v74 :: v75 :: v76 :: v77 :: v78 :: v79 :: v80 :: v81 :: v82 :: v83 :: v84 :: v85 :: v86 :: v87 :: v88 :: v89 :: v90 :: v91 :: v92 :: v93 :: v94 :: v95 :: v96 :: v97 :: v98 :: v99 :: v100 :: v101 :: v102 :: v103 :: v104 :: v105 :: v106 :: v107 :: v108 :: v109 :: v110 :: v111 :: v112 :: v113 :: v114 :: v115 :: v116 :: v117 :: v118 :: v119 :: v120 :: v121 :: v122 :: v123 :: v124 :: v125 :: v126 :: v127 :: v128 :: v129 :: v130 :: v131 :: v132 :: v133 :: v134 :: v135 :: v136 :: v137 :: v138 :: v139 :: v140 :: v141 :: v142 :: v143 :: v144 :: v145 :: v146 :: v147 :: v148 :: v149 :: v150 :: v151 :: v152 :: v153 :: v154 :: v155 :: v156 :: v157 :: v158 :: v159 :: v160 :: v161 :: v162 :: v163 :: v164 :: v165 :: v166 :: v167 :: v168 :: v169 :: v170 :: v171 :: v172 :: v173 :: v174 :: v175 :: v176 :: v177 :: v178 :: v179 :: v180 :: v181 :: v182 :: v183 :: v184 :: v185 :: v186 :: v187 :: v188 :: v189 :: v190 :: v191 :: v192 :: v193 :: v194 :: v195 :: v196 :: v197 :: v198 :: v199 :: v200 :: v201 :: v202 :: v203 :: v204 :: v205 :: v206 :: v207 :: v208 :: v209 :: v210 :: v211 :: v212 :: v213 :: v214 :: v215 :: v216 :: v217 :: v218 :: v219 :: v220 :: v221 :: v222 :: v223 :: v224 :: v225 :: v226 :: v227 :: v228 :: v229 :: v230 :: v231 :: v232 :: v233 :: v234 :: v235 :: v236 :: v237 :: v238 :: v239 :: v240 :: v241 :: v242 :: v243 :: v244 :: v245 :: v246 :: v247 :: v248 :: v249 :: v250 :: v251 :: v252 :: v253 :: v254 :: v255 :: v256 :: v257 :: v258 :: v259 :: v260 :: v261 :: v262 :: v263 :: v264 :: v265 :: v266 :: v267 :: v268 :: v269 :: v270 :: v271 :: v272 :: v273 :: v274 :: v275 :: v276 :: v277 :: v278 :: v279 :: v280 :: v281 :: v282 :: v283 :: v284 :: v285 :: v286 :: v287 :: v288 :: v289 :: v290 :: v291 :: v292 :: v293 :: v294 :: v295 :: v296 :: v297 :: v298 :: v299 :: v300 :: v301 :: v302 :: v303 :: v304 :: v305 :: v306 :: v307 :: v308 :: v309 :: v310 :: v311 :: v312 :: v313 :: v314 :: v315 :: v316 :: v317 :: v318 :: v319 :: v320 :: v321 :: v322 :: v323 :: v324 :: v325 :: v326 :: v327 :: v328 :: v329 :: v330 :: v331 :: v332 :: v333 :: v334 :: v335 :: v336 :: v337 :: v338 :: v339 :: v340 :: v341 :: v342 :: v343 :: v344 :: v345 :: v346 :: v347 :: v348 :: v349 :: v350 :: v351 :: v352 :: v353 :: v354 :: u355 :: []), []⟩ W') :
    Code.wp Ybad.prog ((Ybad.f3.body.bind (findBlock 1)).getD .skip) (Exit.then K Q') ⟨List.toArray (u0 :: u1 :: u2 :: .pointer (some ⟨g + 4, 0, none⟩) :: .pointer (some ⟨g + 5, 0, none⟩) :: .pointer (some ⟨g + 6, 0, none⟩) :: .pointer (some ⟨g + 7, 0, none⟩) :: .pointer (some ⟨g + 8, 0, none⟩) :: .pointer (some ⟨g + 9, 0, none⟩) :: .int .i64 (dl : Int) :: u10 :: u11 :: u12 :: u13 :: u14 :: u15 :: u16 :: u17 :: u18 :: u19 :: u20 :: u21 :: u22 :: u23 :: u24 :: u25 :: u26 :: u27 :: u28 :: u29 :: u30 :: u31 :: u32 :: u33 :: u34 :: u35 :: u36 :: .slice ao len cap :: u38 :: .int .i64 (k : Int) :: u40 :: u41 :: u42 :: u43 :: u44 :: u45 :: u46 :: u47 :: u48 :: u49 :: u50 :: u51 :: u52 :: u53 :: u54 :: u55 :: u56 :: u57 :: u58 :: u59 :: u60 :: u61 :: u62 :: u63 :: u64 :: u65 :: u66 :: u67 :: u68 :: u69 :: u70 :: u71 :: u72 :: u73 :: u74 :: u75 :: u76 :: u77 :: u78 :: u79 :: u80 :: u81 :: u82 :: u83 :: u84 :: u85 :: u86 :: u87 :: u88 :: u89 :: u90 :: u91 :: u92 :: u93 :: u94 :: u95 :: u96 :: u97 :: u98 :: u99 :: u100 :: u101 :: u102 :: u103 :: u104 :: u105 :: u106 :: u107 :: u108 :: u109 :: u110 :: u111 :: u112 :: u113 :: u114 :: u115 :: u116 :: u117 :: u118 :: u119 :: u120 :: u121 :: u122 :: u123 :: u124 :: u125 :: u126 :: u127 :: u128 :: u129 :: u130 :: u131 :: u132 :: u133 :: u134 :: u135 :: u136 :: u137 :: u138 :: u139 :: u140 :: u141 :: u142 :: u143 :: u144 :: u145 :: u146 :: u147 :: u148 :: u149 :: u150 :: u151 :: u152 :: u153 :: u154 :: u155 :: u156 :: u157 :: u158 :: u159 :: u160 :: u161 :: u162 :: u163 :: u164 :: u165 :: u166 :: u167 :: u168 :: u169 :: u170 :: u171 :: u172 :: u173 :: u174 :: u175 :: u176 :: u177 :: u178 :: u179 :: u180 :: u181 :: u182 :: u183 :: u184 :: u185 :: u186 :: u187 :: u188 :: u189 :: u190 :: u191 :: u192 :: u193 :: u194 :: u195 :: u196 :: u197 :: u198 :: u199 :: u200 :: u201 :: u202 :: u203 :: u204 :: u205 :: u206 :: u207 :: u208 :: u209 :: u210 :: u211 :: u212 :: u213 :: u214 :: u215 :: u216 :: u217 :: u218 :: u219 :: u220 :: u221 :: u222 :: u223 :: u224 :: u225 :: u226 :: u227 :: u228 :: u229 :: u230 :: u231 :: u232 :: u233 :: u234 :: u235 :: u236 :: u237 :: u238 :: u239 :: u240 :: u241 :: u242 :: u243 :: u244 :: u245 :: u246 :: u247 :: u248 :: u249 :: u250 :: u251 :: u252 :: u253 :: u254 :: u255 :: u256 :: u257 :: u258 :: u259 :: u260 :: u261 :: u262 :: u263 :: u264 :: u265 :: u266 :: u267 :: u268 :: u269 :: u270 :: u271 :: u272 :: u273 :: u274 :: u275 :: u276 :: u277 :: u278 :: u279 :: u280 :: u281 :: u282 :: u283 :: u284 :: u285 :: u286 :: u287 :: u288 :: u289 :: u290 :: u291 :: u292 :: u293 :: u294 :: u295 :: u296 :: u297 :: u298 :: u299 :: u300 :: u301 :: u302 :: u303 :: u304 :: u305 :: u306 :: u307 :: u308 :: u309 :: u310 :: u311 :: u312 :: u313 :: u314 :: u315 :: u316 :: u317 :: u318 :: u319 :: u320 :: u321 :: u322 :: u323 :: u324 :: u325 :: u326 :: u327 :: u328 :: u329 :: u330 :: u331 :: u332 :: u333 :: u334 :: u335 :: u336 :: u337 :: u338 :: u339 :: u340 :: u341 :: u342 :: u343 :: u344 :: u345 :: u346 :: u347 :: u348 :: u349 :: u350 :: u351 :: u352 :: u353 :: u354 :: u355 :: []), []⟩ w0 := by
  have XH : Hid (LW w w0 g v pf n dl pr dn br po ∧ Mod pr dn br po pf n ∧ dl ≤ k) := ⟨hL, hM, hdl⟩
  have XR : Hid (w0.rangeAt ob oo [.int .u8 a, .int .u8 b, .bool d, .bool c, .bool e, .int .u64 key]) := fun j u hj => by
    have h6 : j < 6 := (List.getElem?_eq_some_iff.1 hj).1
    rw [hop j h6, ← hj]
    obtain rfl | rfl | rfl | rfl | rfl | rfl : j = 0 ∨ j = 1 ∨ j = 2 ∨ j = 3 ∨ j = 4 ∨ j = 5 := by omega
    all_goals rfl
  have XK : Hid _ := hK
  obtain ⟨id, hid⟩ : ∃ id : Nat, a % 4 = (id : Int) := ⟨(a % 4).toNat, by omega⟩
  obtain ⟨port, hport⟩ : ∃ port : Nat, b % 3 = (port : Int) := ⟨(b % 3).toNat, by omega⟩
  have hid4 : id < 4 := by omega
  have hport3 : port < 3 := by omega
  obtain ⟨⟨ha0, ha1⟩, hb0, hb1⟩ := hab
  obtain ⟨bx, hbx⟩ : ∃ bx, w0.heap.size = bx := ⟨_, rfl⟩
  clear hL hM hK hop hdl
  conv => arg 2; whnf
  go_upto_region 13 with (refine wpList_load_mid rfl 38 (.tmp 42) rfl ob oo rfl [.int .u8 a, .int .u8 b, .bool d, .bool c, .bool e, .int .u64 key] _ XR.out Ybad.underlying38 rfl (by kernel_rfl) ?_)
  refine wp_world ?_
  intro V1 hV1
  have X1 : Hid (LW w V1 g v pf n dl pr dn br po ∧ V1.rowIs bx 38 6 (opc a b d c e key) ∧ g + 9 < bx) := by
    have hT : Turn [] w0 V1 := by rw [hV1]; exact (Turn.refl [] w0).alloc _
    have r := row_new w0 #[.int .u8 a, .int .u8 b, .bool d, .bool c, .bool e, .int .u64 key] 38
    rw [hbx, ← hV1] at r
    exact ⟨XH.out.1.new hT, r.congr (fun j hj => by
      have hj : j < 6 := hj
      obtain rfl | rfl | rfl | rfl | rfl | rfl : j = 0 ∨ j = 1 ∨ j = 2 ∨ j = 3 ∨ j = 4 ∨ j = 5 := by omega
      all_goals rfl), by rw [← hbx]; exact XH.out.1.lt⟩
  have XM : Hid (Mod pr dn br po pf n ∧ dl ≤ k) := XH.out.2
  have XB : Hid (g + 9 < bx) := X1.out.2.2
  clear hV1 XR XH hix ha0 ha1 hb0 hb1 hid hport hbx
  have x2 := X1.out.2.1.cell (i := 2) (by omega)
  have x3 := X1.out.2.1.cell (i := 3) (by omega)
  have e2 : opc a b d c e key 2 = .bool d := rfl
  have e3 : opc a b d c e key 3 = .bool c := rfl
  rw [e2] at x2
  rw [e3] at x3
  go_cut [14] from 52 to 60 (fun x wc => LW w wc g v pf n dl pr dn br po ∧ wc.rowIs bx 38 6 (opc a b d c e key) ∧ ∃ ab, x = .pointer (some ⟨ab, 0, none⟩) ∧ g + 9 < ab ∧ ab ≠ bx ∧ wc.rowIs ab 54 83 (fun k => if k = 20 then .int .u8 0 else acell id port d c k))
  case first =>
    have X5 : Hid (∀ W, Turn [] V1 W → Calls Ybad.prog 5 #[.agg #[.int .u64 0, .int .u64 0, .pointer none], .int .u16 (port : Int)] W fun e' w' => e' = .returned (.agg #[.int .u64 0, .int .u64 0, .pointer none, .int .u16 (port : Int)]) ∧ Hid (Turn [] V1 w') ∧ w'.cell? ⟨bx, 2, none⟩ = some (.bool d) ∧ w'.cell? ⟨bx, 3, none⟩ = some (.bool c)) := fun W hW =>
      (addrPortFrom_any port W).mono fun e' w' ⟨h1, h2⟩ => ⟨h1, hW.trans h2, ((hW.trans h2).row X1.out.2.1 (by simp)).cell (by omega), ((hW.trans h2).row X1.out.2.1 (by simp)).cell (by omega)⟩
    go_region_held3 (fun w' => w'.cell? ⟨bx, 2, none⟩ = some (.bool d) ∧ w'.cell? ⟨bx, 3, none⟩ = some (.bool c)) (go_keep) (first | (go_at_call 5; refine (X5.out _ (by exact (Turn.refl [] V1).drew)).mono ?_; rintro e' w6 ⟨rfl, H6, d2, d3⟩))
    all_goals (go_wp2_with fail; go_meet)
    case rel =>
      have hT : ∀ o, Turn [] V1 (w6.alloc o) := fun o => H6.out.trans ((Turn.refl [] w6).alloc o)
      refine ⟨X1.out.1.new (hT _), (hT _).row X1.out.2.1 (by simp), _, rfl, ?_, ?_, ann_new w6 id port d c⟩
      · have := H6.out.size
        have := X1.out.1.lt
        omega
      · have := H6.out.size
        have := X1.out.2.1.lt
        omega
  case rest =>
  obtain ⟨V2, hV2⟩ : ∃ V2, V2 = wc := ⟨_, rfl⟩
  rw [← hV2] at hcut ⊢
  clear hV2 x2 x3 e2 e3 X1
  obtain ⟨hL, hB, ab, rfl, hab, habx, hA⟩ := hcut
  have a20 := hA.cell (i := 20) (by omega)
  have n20 := hA.frozen 20
  rw [if_pos rfl] at a20
  have X3 : Hid (∀ W, W = V2.setCell ⟨ab, 20, none⟩ (.int .u8 ((id : Int) + 1)) → LW w W g v pf n dl pr dn br po ∧ W.rowIs bx 38 6 (opc a b d c e key) ∧ W.rowIs ab 54 83 (acell id port d c) ∧ g + 9 < bx) := by
    rintro W rfl
    exact ⟨hL.far hA hab rfl, ((Turn.refl [ab] V2).setCell (p := ⟨ab, 20, none⟩) (.inl (by simp)) _).row hB (by simpa using Ne.symm habx), ann_done hA, XB.out⟩
  clear hL hB hA
  have X6 : Hid (∀ W, Calls Ybad.prog 6 #[.agg #[.int .u64 0, .int .i64 0, .pointer none], .int .i64 (k : Int)] W fun e' w' => e' = .returned (.agg #[.int .u64 (k : Int), .int .i64 0, .pointer none]) ∧ Hid (Turn [] W w')) := fun W =>
    (time_add k hk W).mono fun e' w' ⟨h1, h2⟩ => ⟨h1, h2⟩
  go_upto_block 2 with (go_at_call 6; refine (X6.out _).mono ?_; rintro e' w4 ⟨rfl, H4⟩)
  refine wp_world ?_
  intro V4 hV4
  obtain ⟨tx, htx⟩ : ∃ tx, w4.heap.size = tx := ⟨_, rfl⟩
  have X4 : Hid (LW w V4 g v pf n dl pr dn br po ∧ Rd V4 g ab bx tx id port k a b d c e key) := by
    obtain ⟨hL, hB, hA, hbx⟩ := X3.out _ rfl
    have hT : Turn [] w4 V4 := by rw [hV4]; exact (Turn.refl [] w4).alloc _
    have hTT := H4.out.trans hT
    have r := row_new w4 #[.int .u64 (k : Int), .int .i64 0, .pointer none] 57
    rw [← hV4, htx] at r
    refine ⟨hL.new hTT, hTT.row hA (by simp), hTT.row hB (by simp), r.congr (fun j hj => ?_), hab, hbx, ?_⟩
    · have hj : j < 3 := hj
      obtain rfl | rfl | rfl : j = 0 ∨ j = 1 ∨ j = 2 := by omega
      all_goals rfl
    · have := H4.out.size
      have := hL.lt
      omega
  simp only [htx]
  clear hV4 htx H4 X3 X6 a20 n20 XB
  go_cut [16] from 71 to 95 (fun _ wc => ∃ pr' dn' br', Evi 4 id port pr dn br po pr' dn' br' ∧ LW w wc g v pf n dl pr' dn' br' po ∧ Rd wc g ab bx tx id port k a b d c e key)
  case first =>
    go_wp2_with fail
    go_loopw [16] (fun m wl => ∃ j : Nat, j ≤ 4 ∧ m = .int .i64 (j : Int) ∧ ∃ pr' dn' br', Evi j id port pr dn br po pr' dn' br' ∧ LW w wl g v pf n dl pr' dn' br' po ∧ Rd wl g ab bx tx id port k a b d c e key) (fun m _ => 4 - (intOf m).toNat)
    case atStart => exact ⟨0, by omega, rfl, pr, dn, br, Evi.zero, X4.out.1, X4.out.2⟩
    case round =>
      obtain ⟨j, hj, rfl, pr', dn', br', hEv, hL, hR⟩ := hrel
      rcases Nat.lt_or_ge j 4 with h4 | h4
      · have x5 := hL.r5.cell h4
        have x6 := hL.r6.cell h4
        have x7 := hL.r7.cell h4
        have x8 := hL.r8.cell h4
        have n5 := hL.r5.frozen j
        have n6 := hL.r6.frozen j
        have n7 := hL.r7.frozen j
        obtain ⟨q, hq⟩ : ∃ q, pr' j = q := ⟨_, rfl⟩
        obtain ⟨x, hx⟩ : ∃ x, po j = x := ⟨_, rfl⟩
        rw [hq] at x5
        rw [hx] at x8
        have XW : Hid (Evi j id port pr dn br po pr' dn' br' ∧ LW w wr g v pf n dl pr' dn' br' po ∧ Rd wr g ab bx tx id port k a b d c e key ∧ pr' j = q ∧ po j = x) := ⟨hEv, hL, hR, hq, hx⟩
        obtain ⟨tb, htb⟩ : ∃ tb, tb = decide (j ≠ id ∧ q = true ∧ x = port) := ⟨_, rfl⟩
        have XT : Hid (tb = decide (j ≠ id ∧ q = true ∧ x = port)) := htb
        clear hEv hL hR hq hx htb
        go_upto_region 19 with fail
        go_cut [89] from 71 to 95 (fun y wc => wr = wc ∧ y = .bool tb)
        case first =>
          by_cases e1 : j = id
          · subst e1
            go_wp2_with fail
            go_meet
            case rel => exact ⟨rfl, by rw [XT.out]; simp⟩
          · have e1' : ¬ ((j : Int) = (id : Int)) := by omega
            cases q with
            | false =>
              go_wp2_with fail
              go_meet
              case rel => exact ⟨rfl, by rw [XT.out]; simp⟩
            | true =>
              go_wp2_with fail
              go_meet
              case rel =>
                refine ⟨rfl, ?_⟩
                have h1 : ((j : Int) != (id : Int)) = true := by simpa using e1'
                rw [XT.out, h1]
                by_cases e2 : x = port
                · subst e2
                  simp [e1]
                · have e2' : ¬ ((x : Int) = (port : Int)) := by omega
                  have h2 : ((x : Int) == (port : Int)) = false := by simpa using e2'
                  rw [h2]
                  simp [e2]
        case rest =>
          obtain ⟨rfl, rfl⟩ := hcut
          cases tb with
          | false =>
            go_wp2_with fail
            go_roundw
            case rel =>
              obtain ⟨h1, h2, h3, h5, h6⟩ := XW.out
              refine ⟨j + 1, by omega, by simp, pr', dn', br', h1.stay ?_, h2, h3⟩
              rw [h5, h6]
              have := XT.out
              simpa using this
            case measure => simp [intOf]; omega
          | true =>
            go_wp2_with fail
            go_roundw
            case rel =>
              obtain ⟨h1, h2, h3, h5, h6⟩ := XW.out
              have ht : j ≠ id ∧ q = true ∧ x = port := by
                have := XT.out
                simpa using this
              refine ⟨j + 1, by omega, by simp, _, _, _, h1.out ht.1 (h5.trans ht.2.1) (h6.trans ht.2.2), ((h2.set5 j false).set6 j false).set7 j false, ((h3.set (by omega) _).set (by omega) _).set (by omega) _⟩
            case measure => simp [intOf]; omega
      · obtain rfl : j = 4 := by omega
        go_wp2_with fail
        go_meet
        case rel => exact ⟨pr', dn', br', hEv, hL, hR⟩
  case rest =>
  obtain ⟨V5, hV5⟩ : ∃ V5, V5 = wc := ⟨_, rfl⟩
  rw [← hV5] at hcut ⊢
  clear hV5 X4
  obtain ⟨pr', dn', br', hEv, hL, hR⟩ := hcut
  have x5 := hL.r5.cell hid4
  have x6 := hL.r6.cell hid4
  have x7 := hL.r7.cell hid4
  have x8 := hL.r8.cell hid4
  have n5 := hL.r5.frozen id
  have n6 := hL.r6.frozen id
  have n7 := hL.r7.frozen id
  have n8 := hL.r8.frozen id
  obtain ⟨y2, y3, y4, y5⟩ := hR.cells
  have hf1 := hR.far.2.1
  obtain ⟨kn, hkn⟩ : ∃ kn, pr' id = kn := ⟨_, rfl⟩
  obtain ⟨od, hod⟩ : ∃ od, dn' id = od := ⟨_, rfl⟩
  rw [hkn] at x5
  rw [hod] at x6
  have X5 : Hid (Evi 4 id port pr dn br po pr' dn' br' ∧ LW w V5 g v pf n dl pr' dn' br' po ∧ Rd V5 g ab bx tx id port k a b d c e key ∧ pr' id = kn ∧ dn' id = od) := ⟨hEv, hL, hR, hkn, hod⟩
  have hdl2 : dl < 4096 := by have := XM.out.2; omega
  clear hEv hL hR hkn hod
  go_upto_if 100 with fail
  go_cut [99, 100] from 101 to 108 (fun _ _ wc => LW w wc g v pf n dl (updB pr' id true) (updB dn' id (if kn then od else false)) (updB br' id (if kn then br' id else e)) po ∧ Rd wc g ab bx tx id port k a b d c e key)
  case first =>
    cases kn with
    | true =>
      go_wp2_with fail
      go_meet
      case rel =>
        obtain ⟨h1, h2, h3, h4, h5⟩ := X5.out
        refine ⟨?_, h3⟩
        show LW w V5 g v pf n dl (updB pr' id true) (updB dn' id od) (updB br' id (br' id)) po
        rw [updB_id _ _ _ h4, updB_id _ _ _ h5, updB_id _ _ _ rfl]
        exact h2
    | false =>
      go_wp2_with fail
      go_meet
      case rel =>
        obtain ⟨h1, h2, h3, h4, h5⟩ := X5.out
        exact ⟨((h2.set5 id true).set7 id e).set6 id false, ((h3.set (by omega) _).set (by omega) _).set (by omega) _⟩
  case rest =>
  obtain ⟨V6, hV6⟩ : ∃ V6, V6 = wc := ⟨_, rfl⟩
  rw [← hV6] at hcut ⊢
  clear hV6 x5 x6 x7 x8 n5 n6 n7 n8 y2 y3 y4 y5
  obtain ⟨hL, hR⟩ := hcut
  have x6 := hL.r6.cell hid4
  rw [updB_at] at x6
  have x8 := hL.r8.cell hid4
  have n6 := hL.r6.frozen id
  have n8 := hL.r8.frozen id
  obtain ⟨y2, y3, y4, y5⟩ := hR.cells
  obtain ⟨o2, ho2⟩ : ∃ o2, (if kn then od else false) = o2 := ⟨_, rfl⟩
  rw [ho2] at x6
  have t0 : V6.cell? ⟨tx, 0, none⟩ = some (.int .u64 (k : Int)) := hR.tim.cell (by omega)
  have t1 : V6.cell? ⟨tx, 1, none⟩ = some (.int .i64 0) := hR.tim.cell (by omega)
  have t2 : V6.cell? ⟨tx, 2, none⟩ = some (.pointer none) := hR.tim.cell (by omega)
  have hf2 := hR.far.2.2
  have X6 : Hid (LW w V6 g v pf n dl (updB pr' id true) (updB dn' id (if kn then od else false)) (updB br' id (if kn then br' id else e)) po ∧ Rd V6 g ab bx tx id port k a b d c e key ∧ (if kn then od else false) = o2) := ⟨hL, hR, ho2⟩
  have XE : Hid (Evi 4 id port pr dn br po pr' dn' br' ∧ pr' id = kn ∧ dn' id = od) := ⟨X5.out.1, X5.out.2.2.2.1, X5.out.2.2.2.2⟩
  clear hL hR ho2 X5
  go_upto_region 28 with fail
  go_cut [123] from 109 to 123 (fun x wc => V6 = wc ∧ x = .bool (d && (!o2 && (kn || c))))
  case first =>
    cases d <;> cases o2 <;> cases kn <;> (go_wp2_with fail; go_meet; case rel => exact ⟨rfl, by simp⟩)
  case rest =>
  obtain ⟨rfl, rfl⟩ := hcut
  obtain ⟨tt, htt⟩ : ∃ tt, (d && (!o2 && (kn || c))) = tt := ⟨_, rfl⟩
  rw [htt]
  have XT : Hid ((d && (!o2 && (kn || c))) = tt) := htt
  clear htt
  go_upto_if 123 with fail
  go_cut [9, 123] from 124 to 125 (fun x _ wc => V6 = wc ∧ x = .int .i64 ((dl + if tt then 1 else 0 : Nat) : Int))
  case first =>
    cases tt <;> (go_wp2_with fail; go_meet; case rel => exact ⟨rfl, by simp⟩)
  case rest =>
  obtain ⟨rfl, rfl⟩ := hcut
  obtain ⟨dq, hdq⟩ : ∃ dq : Nat, (dl + if tt then 1 else 0) = dq := ⟨_, rfl⟩
  rw [hdq]
  have XDQ : Hid ((dl + if tt then 1 else 0) = dq) := hdq
  clear hdq
  have X7 : Hid (∀ W, W = (V6.setCell ⟨g + 7, id, none⟩ (.bool d)).setCell ⟨g + 9, id, none⟩ (.int .u16 (port : Int)) → Calls Ybad.prog 7 #[.pointer (some ⟨g + 4, 0, none⟩), .pointer (some ⟨g + 5, 0, none⟩), .pointer (some ⟨ab, 0, none⟩), .bool e, .int .u64 key, .agg #[.int .u64 (k : Int), .int .i64 0, .pointer none]] W fun e' w' =>
      ∃ (i n7 : Nat) (pf7 : Nat → Peer) (v7 : Value) (pr7 dn7 br7 : Nat → Bool) (po7 : Nat → Nat) (bb : Bool), e' = .returned (.int .i64 (i : Int)) ∧ Hid (LW w w' g v7 pf7 n7 dq pr7 dn7 br7 po7 ∧ Mod pr7 dn7 br7 po7 pf7 n7 ∧ Rd w' g ab bx tx id port k a b d c e key ∧ pf7 i = ⟨id, port, d, bb, k⟩) ∧ i < n7) := by
    rintro W rfl
    obtain ⟨hL, hR, ho⟩ := X6.out
    have hL7 := (hL.set6 id d).set8 id port
    have hR7 := (hR.set (k := id) (show g + 7 ≤ g + 9 by omega) (.bool d)).set (k := id) (show g + 9 ≤ g + 9 by omega) (.int .u16 (port : Int))
    refine (put_any g ab n dl id port k d c e key _ v pf _ hL7.st hR7.ann hid4 hport3 hk hdl2).mono ?_
    rintro e' w' ⟨i, n', dl', pf', v', rfl, hF, hS, hP⟩
    obtain ⟨hE, hpk, hdk⟩ := XE.out
    obtain ⟨hM, hdl'⟩ := XM.out.1.step hE hid4 (fun j hj => (hL7.st.ok j hj).1) hP
    obtain ⟨bb, hbb, _⟩ := hP.here
    rw [hpk] at hM
    have e1 : dl' = dq := by
      rw [← XDQ.out, hdl', ← XT.out, ← ho, hpk, hdk]
      cases kn <;> simp
    subst e1
    have hL8 := hL7.put hF hS
    rw [updB_updB] at hL8
    exact ⟨i, n', pf', v', _, _, _, _, bb, rfl, ⟨hL8, hM, hR7.fr hF, hbb⟩, hP.lt⟩
  go_upto_region 33 with (go_at_call 7; refine (X7.out _ rfl).mono ?_; rintro e' V7 ⟨i, n7, pf7, v7, pr7, dn7, br7, po7, bb, rfl, H7, hi7⟩)
  clear x6 x8 n6 n8 y2 y3 y4 y5 t0 t1 t2 X7 X6 XE
  obtain ⟨pb, cp, F7, S7, hv7, hcp⟩ := H7.out.1.st.slot (by omega)
  have c0 := H7.out.1.st.cells.1
  rw [hv7] at c0
  have hn7 := H7.out.1.st.cells.2.2.2.2.2
  have hi0 : ¬ ((i : Int) < 0) := by omega
  have hi1 : ¬ ((n7 : Int) ≤ (i : Int)) := by omega
  have XRg : Hid (V7.rangeAt pb (i * 61) (pcs ⟨id, port, d, bb, k⟩)) := by
    have := S7.range hi7
    rw [H7.out.2.2.2] at this
    exact this
  have XV7 : Hid (v7 = .slice (some ⟨pb, 0, none⟩) n7 cp) := hv7
  clear S7 hv7
  have XST : Hid ((storeVar 77 ⟨V7.heap.size, 0, none⟩ (.agg (pcs ⟨id, port, d, bb, k⟩).toArray)).run Ybad.prog (V7.alloc (.cells z77 77)) = .ok () ((V7.alloc (.cells z77 77)).setCells V7.heap.size 0 (pcs ⟨id, port, d, bb, k⟩))) :=
    run_storeVar_mid _ _ _ _ _ (by rw [psz]; exact there_new rfl) (by rw [psz]; exact size77) (pcs_one _)
  have XLD : Hid ((loadVar 77 ⟨pb, i * 61, none⟩).run Ybad.prog V7 = .ok (.agg (pcs ⟨id, port, d, bb, k⟩).toArray) V7) := run_loadVar_mid _ _ _ _ _ _ XRg.out Ybad.underlying77 rfl (by rw [pcs_length]; exact size77)
  go_upto_region 35 with fail
  go_step
  refine wpList_value 153 (w' := V7) (v := .pointer (some ⟨g + 4, 0, none⟩)) rfl rfl (BigFrame.run_move (.tmp 3) rfl _) ?_
  go_frame
  refine wpList_value 154 (w' := V7) (v := .pointer (some ⟨g + 4, 0, none⟩)) rfl rfl (by go_simp) ?_
  go_frame
  refine wpList_value 155 (w' := V7) (v := .pointer (some ⟨g + 4, 0, none⟩)) rfl rfl (by go_simp) ?_
  go_frame
  refine wpList_value 156 (w' := V7) (v := .slice (some ⟨pb, 0, none⟩) n7 cp) rfl rfl (by go_simp) ?_
  go_frame
  refine wpList_value 157 (w' := V7) (v := .int .i64 (i : Int)) rfl rfl (BigFrame.run_move (.tmp 18) rfl _) ?_
  go_frame
  refine wpList_value 158 (w' := V7) (v := .pointer (some ⟨pb, i * 61, none⟩)) rfl rfl (by go_simp) ?_
  go_frame
  refine wpList_value 159 (w' := V7) (v := .agg (pcs ⟨id, port, d, bb, k⟩).toArray) rfl rfl (exec_load rfl rfl XLD.out) ?_
  go_frame
  refine wpList_value 19 (w' := V7.alloc (.cells z77 77)) (v := .pointer (some ⟨V7.heap.size, 0, none⟩)) rfl rfl (by kernel_rfl) ?_
  go_frame
  refine wpList_void (w' := (V7.alloc (.cells z77 77)).setCells V7.heap.size 0 (pcs ⟨id, port, d, bb, k⟩)) rfl rfl (exec_store rfl rfl rfl XST.out) ?_
  go_upto_region 36 with fail
  refine wp_world ?_
  intro V8 hV8
  obtain ⟨hT8, rQ, hlt⟩ := box_peer rfl hV8
  obtain ⟨qx, hqx⟩ : ∃ qx, qx = V7.heap.size := ⟨_, rfl⟩
  rw [← hqx] at rQ hlt
  simp only [← hqx]
  have hL8 := H7.out.1.new hT8
  have hR8 := H7.out.2.2.1.turn hT8 (by simp)
  have q56 : V8.cell? ⟨qx, 56, none⟩ = some (.bool d) := rQ.cell (by omega)
  have y2 := hR8.cells.1
  have Z1 : Hid ((loadVar 50 ⟨qx, 0, none⟩).run Ybad.prog V8.drew = .ok (idV id) V8.drew) := loadv_id (p := ⟨id, port, d, bb, k⟩) (row_cells rQ.drew)
  have Z2 : Hid ((loadVar 48 ⟨qx, 52, none⟩).run Ybad.prog V8.drew = .ok (epV port) V8.drew) := by
    have := loadv_ep (p := ⟨id, port, d, bb, k⟩) (row_cells rQ.drew)
    rw [Nat.zero_add] at this
    exact this
  have Z3 : Hid ((loadVar 57 ⟨qx, 57, none⟩).run Ybad.prog V8.drew = .ok (.agg #[.int .u64 (k : Int), .int .i64 0, .pointer none]) V8.drew) := by
    refine run_loadVar_mid _ _ _ _ [.int .u64 (k : Int), .int .i64 0, .pointer none] _ (row_range rQ.drew 57 _ (by simp) (fun m hm => ?_)) Ybad.underlying57 rfl size57
    have hm : m < 3 := hm
    obtain rfl | rfl | rfl : m = 0 ∨ m = 1 ∨ m = 2 := by omega
    all_goals rfl
  have Z4 : Hid ((loadVar 57 ⟨tx, 0, none⟩).run Ybad.prog V8.drew = .ok (.agg #[.int .u64 (k : Int), .int .i64 0, .pointer none]) V8.drew) := tim_range hR8.tim.drew
  have Z5 : Hid ((loadVar 50 ⟨ab, 20, none⟩).run Ybad.prog V8.drew = .ok (idV id) V8.drew) := ann_id hR8.ann.drew
  have Z6 : Hid ((loadVar 48 ⟨ab, 40, none⟩).run Ybad.prog V8.drew = .ok (epV port) V8.drew) := ann_ep hR8.ann.drew
  have Z7 : Hid ((binOp .neq 50 (idV id) (idV id)).run Ybad.prog V8.drew = .ok (.bool false) V8.drew ∧ (binOp .neq 48 (epV port) (epV port)).run Ybad.prog V8.drew = .ok (.bool false) V8.drew) := by
    have h1 := neq50 id id hid4 hid4 V8.drew
    have h2 := neq48 port port hport3 hport3 V8.drew
    rw [show decide (id ≠ id) = false by simp] at h1
    rw [show decide (port ≠ port) = false by simp] at h2
    exact ⟨h1, h2⟩
  have X8 : Hid (LW w V8 g v7 pf7 n7 dq pr7 dn7 br7 po7 ∧ Mod pr7 dn7 br7 po7 pf7 n7) := ⟨hL8, H7.out.2.1⟩
  clear hV8 hT8 rQ hlt hqx hL8 hR8 XRg c0 H7 XST XLD
  refine wp_region_still_tail 27 mixed (by kernel_rfl) ?_
  simp only [List.take_succ_cons, List.take_zero, List.drop_succ_cons, List.drop_zero]
  refine still_of_quiet _ _ ?_
  iterate 1 (go_big_quiet_step (fail))
  refine wpQuiet_one 161 rfl (by kernel_rfl) (exec_load rfl rfl Z1.out) ?_
  go_frame
  iterate 3 (go_big_quiet_step (fail))
  refine wpQuiet_one 165 rfl (by kernel_rfl) (exec_load rfl rfl Z5.out) ?_
  go_frame
  refine wpQuiet_one 166 rfl (by kernel_rfl) (exec_neq rfl rfl rfl (guard50 _ _ _ _ _) Z7.out.1) ?_
  go_frame
  iterate 2 (go_big_quiet_step (fail))
  refine wpQuiet_one 169 rfl (by kernel_rfl) (exec_load rfl rfl Z2.out) ?_
  go_frame
  iterate 3 (go_big_quiet_step (fail))
  refine wpQuiet_one 173 rfl (by kernel_rfl) (exec_load rfl rfl Z6.out) ?_
  go_frame
  refine wpQuiet_one 174 rfl (by kernel_rfl) (exec_neq rfl rfl rfl (guard48 _ _ _ _ _) Z7.out.2) ?_
  go_frame
  iterate 10 (go_big_quiet_step (fail))
  refine wpQuiet_one 185 rfl (by kernel_rfl) (exec_load rfl rfl Z3.out) ?_
  go_frame
  refine wpQuiet_one 186 rfl (by kernel_rfl) (exec_load rfl rfl Z4.out) ?_
  go_frame
  refine wpQuiet_nil ?_
  have X8c : Hid (Calls Ybad.prog 8 #[.agg #[.int .u64 (k : Int), .int .i64 0, .pointer none], .agg #[.int .u64 (k : Int), .int .i64 0, .pointer none]] V8.drew fun e' w' => e' = .returned (.bool true) ∧ Hid (Turn [] V8 w')) :=
    (time_equal k hk V8.drew).mono fun e' w' ⟨h1, h2⟩ => ⟨h1, ((Turn.refl [] V8).drew).trans h2⟩
  go_upto_region 38 with (go_at_call 8; refine X8c.out.mono ?_; rintro e' V9 ⟨rfl, H9⟩)
  have X9 : Hid (LW w V9 g v7 pf7 n7 dq pr7 dn7 br7 po7 ∧ Mod pr7 dn7 br7 po7 pf7 n7) := ⟨X8.out.1.new H9.out, X8.out.2⟩
  clear X8 X8c H9 Z1 Z2 Z3 Z4 Z5 Z6 Z7 q56 y2
  go_upto_block 4 with fail
  go_cut [20, 21, 22, 23] from 190 to 208 (fun x y z _ wc => V9 = wc ∧ x = .int .i64 (n7 : Int) ∧ y = .int .i64 ((cnt Peer.done pf7 n7 : Nat) : Int) ∧ z = .int .i64 ((cnt Peer.br pf7 n7 : Nat) : Int))
  case first =>
    go_wp2_with fail
    go_loopw [20, 21, 22, 23] (fun x y z m wl => ∃ j : Nat, j ≤ 4 ∧ m = .int .i64 (j : Int) ∧ V9 = wl ∧ x = .int .i64 ((sum4 pr7 j : Nat) : Int) ∧ y = .int .i64 ((sum4 (fun k => pr7 k && dn7 k) j : Nat) : Int) ∧ z = .int .i64 ((sum4 (fun k => pr7 k && br7 k) j : Nat) : Int)) (fun _ _ _ m _ => 4 - (intOf m).toNat)
    case atStart => exact ⟨0, by omega, rfl, rfl, rfl, rfl, rfl⟩
    case round =>
      obtain ⟨j, hj, rfl, rfl, rfl, rfl, rfl⟩ := hrel
      rcases Nat.lt_or_ge j 4 with h4 | h4
      · have x5 := X9.out.1.r5.cell h4
        have x6 := X9.out.1.r6.cell h4
        have x7 := X9.out.1.r7.cell h4
        obtain ⟨p5, h5⟩ : ∃ p, pr7 j = p := ⟨_, rfl⟩
        obtain ⟨p6, h6⟩ : ∃ p, dn7 j = p := ⟨_, rfl⟩
        obtain ⟨p7, h7⟩ : ∃ p, br7 j = p := ⟨_, rfl⟩
        obtain ⟨s1, hs1⟩ : ∃ s, sum4 pr7 j = s := ⟨_, rfl⟩
        obtain ⟨s2, hs2⟩ : ∃ s, sum4 (fun k => pr7 k && dn7 k) j = s := ⟨_, rfl⟩
        obtain ⟨s3, hs3⟩ : ∃ s, sum4 (fun k => pr7 k && br7 k) j = s := ⟨_, rfl⟩
        have b1 : s1 ≤ 4 := by have := sum4_le pr7 j; omega
        have b2 : s2 ≤ 4 := by have := sum4_le (fun k => pr7 k && dn7 k) j; omega
        have b3 : s3 ≤ 4 := by have := sum4_le (fun k => pr7 k && br7 k) j; omega
        rw [h5] at x5
        rw [h6] at x6
        rw [h7] at x7
        rw [hs1, hs2, hs3]
        have XJ : Hid (pr7 j = p5 ∧ dn7 j = p6 ∧ br7 j = p7 ∧ sum4 pr7 j = s1 ∧ sum4 (fun k => pr7 k && dn7 k) j = s2 ∧ sum4 (fun k => pr7 k && br7 k) j = s3) := ⟨h5, h6, h7, hs1, hs2, hs3⟩
        clear h5 h6 h7 hs1 hs2 hs3
        cases p5 <;> cases p6 <;> cases p7
        all_goals
          go_wp2_with fail
          go_roundw
          case rel =>
            obtain ⟨h5, h6, h7, hs1, hs2, hs3⟩ := XJ.out
            exact ⟨j + 1, by omega, by simp, trivial, by rw [sum4_succ, hs1, h5]; simp, by rw [sum4_succ, hs2, h5, h6]; simp, by rw [sum4_succ, hs3, h5, h7]; simp⟩
          case measure => simp [intOf]; omega
      · obtain rfl : j = 4 := by omega
        go_wp2_with fail
        go_meet
        case rel =>
          obtain ⟨h1, h2, h3⟩ := X9.out.2.sums (fun j hj => (X9.out.1.st.ok j hj).1) X9.out.1.st.inj
          rw [h1, h2, h3]
          exact ⟨rfl, rfl, rfl, rfl⟩
  case rest =>
  obtain ⟨rfl, rfl, rfl, rfl⟩ := hcut
  have c0 := X9.out.1.st.cells.1
  rw [XV7.out] at c0
  have c16 := X9.out.1.st.cells.2.2.2.1
  have c10 := X9.out.1.st.c.cells.1
  have c11 := X9.out.1.st.c.cells.2.1
  have X9c : Hid (Calls Ybad.prog 9 #[.map (some g), .agg #[.int .u64 0, .int .u64 0, .pointer none]] V9 fun e' w' => e' = .returned (.int .i64 (n7 : Int)) ∧ Hid (Turn [] V9 w') ∧ w'.cell? ⟨g + 4, 12, none⟩ = some (.map (some (g + 3))) ∧ (Instr.lookup 73 (.map (some (g + 3))) (.int .u32 0) false).run Ybad.prog w' = .ok (.int .i64 ((cnt Peer.br pf7 n7 : Nat) : Int)) w' ∧
      w'.cell? ⟨g + 4, 8, none⟩ = some (.map (some (g + 1))) ∧ w'.cell? ⟨g + 4, 9, none⟩ = some (.map (some (g + 2))) ∧ (∀ ty, (Builtin.len_ #[71] ty #[.map (some (g + 1))]).run Ybad.prog w' = .ok (.int .i64 (n7 : Int)) w') ∧ (∀ ty, (Builtin.len_ #[72] ty #[.map (some (g + 2))]).run Ybad.prog w' = .ok (.int .i64 (n7 : Int)) w')) := by
    obtain ⟨tf, fi, fe, ht, T, hli, hle⟩ := X9.out.1.st
    refine (speers_any g n7 V9 T.z0 T.ms (by omega)).mono ?_
    rintro e' w' ⟨rfl, hT⟩
    have T' := T.new hT
    refine ⟨rfl, hT, by rw [T'.row.cell (by omega), T'.t12], ?_, by rw [T'.row.cell (by omega), T'.t8], by rw [T'.row.cell (by omega), T'.t9], len_map T'.mi Ybad.underlying71, len_map T'.me Ybad.underlying72⟩
    have l := (T'.mb.look as_ok Ybad.underlying73 (zero3 _) (i := 0) (by omega)).1
    refine Eq.trans l ?_
    by_cases e0 : cnt Peer.br pf7 n7 = 0 <;> simp [e0]
  go_upto_region 54 with (go_at_call 9; refine X9c.out.mono ?_; rintro e' V10 ⟨rfl, H10, c12, hlk, c8, c9, hl1, hl2⟩)
  have X10 : Hid (LW w V10 g v7 pf7 n7 dq pr7 dn7 br7 po7 ∧ Mod pr7 dn7 br7 po7 pf7 n7) := ⟨X9.out.1.new H10.out, X9.out.2⟩
  clear X9 X9c H10 c12 hlk c8 c9 hl1 hl2 c0 c10 c11 c16
  go_wp2_with fail
  go_loopw [24] (fun m wl => ∃ j : Nat, j ≤ n7 ∧ m = .int .i64 (j : Int) ∧ Turn [] V10 wl) (fun m _ => n7 - (intOf m).toNat)
  case atStart => exact ⟨0, by omega, rfl, Turn.refl _ _⟩
  case round =>
    obtain ⟨j, hj, rfl, hT⟩ := hrel
    have XT2 : Hid (Turn [] V10 wr) := hT
    have c0 := (X10.out.1.new hT).st.cells.1
    rw [XV7.out] at c0
    clear hT
    rcases Nat.lt_or_ge j n7 with hjn | hjn
    · have hjn' : (j : Int) < (n7 : Int) := by omega
      obtain ⟨p, hp⟩ : ∃ p, pf7 j = p := ⟨_, rfl⟩
      have hL := X10.out.1.new XT2.out
      have hSt := hL.st
      rw [XV7.out] at hSt
      obtain ⟨F, S⟩ := hSt.c.at (by omega)
      have XRg : Hid (wr.rangeAt pb (j * 61) (pcs p)) := by
        have := S.range hjn
        rw [hp] at this
        exact this
      have hok := hSt.ok j hjn
      have hms := X10.out.2.has j hjn
      rw [hp] at hok hms
      obtain ⟨pi, hpi⟩ : ∃ pi, p.id = pi := ⟨_, rfl⟩
      rw [hpi] at hok hms
      have hpi4 := hok.1
      have XP2 : Hid (pf7 j = p ∧ p.id = pi ∧ pr7 pi = true ∧ dn7 pi = p.done ∧ br7 pi = p.br ∧ po7 pi = p.port ∧ p.port < 3) := ⟨hp, hpi, hms.1, hms.2.1, hms.2.2.1, hms.2.2.2, hok.2.1⟩
      have hq0 : ¬ ((pi : Int) < 0) := by omega
      have hq1 : ¬ (3 < (pi : Int)) := by omega
      have hq2 : (pi : Int) < 4 := by omega
      have hq3 : (0 : Int) ≤ (pi : Int) := by omega
      clear hL hSt S hp hok hms hpi
      have XST : Hid ((storeVar 77 ⟨wr.heap.size, 0, none⟩ (.agg (pcs p).toArray)).run Ybad.prog (wr.alloc (.cells z77 77)) = .ok () ((wr.alloc (.cells z77 77)).setCells wr.heap.size 0 (pcs p))) :=
        run_storeVar_mid _ _ _ _ _ (by rw [psz]; exact there_new rfl) (by rw [psz]; exact size77) (pcs_one _)
      have XLD : Hid ((loadVar 77 ⟨pb, j * 61, none⟩).run Ybad.prog wr = .ok (.agg (pcs p).toArray) wr) := run_loadVar_mid _ _ _ _ _ _ XRg.out Ybad.underlying77 rfl (by rw [pcs_length]; exact size77)
      go_upto_region 57 with fail
      go_step
      refine wpList_value 274 (w' := wr) (v := .pointer (some ⟨g + 4, 0, none⟩)) rfl rfl (BigFrame.run_move (.tmp 3) rfl _) ?_
      go_frame
      refine wpList_value 275 (w' := wr) (v := .pointer (some ⟨g + 4, 0, none⟩)) rfl rfl (by go_simp) ?_
      go_frame
      refine wpList_value 276 (w' := wr) (v := .pointer (some ⟨g + 4, 0, none⟩)) rfl rfl (by go_simp) ?_
      go_frame
      refine wpList_value 277 (w' := wr) (v := .slice (some ⟨pb, 0, none⟩) n7 cp) rfl rfl (by go_simp) ?_
      go_frame
      refine wpList_value 278 (w' := wr) (v := .int .i64 (j : Int)) rfl rfl (BigFrame.run_move (.tmp 24) rfl _) ?_
      go_frame
      refine wpList_value 279 (w' := wr) (v := .pointer (some ⟨pb, j * 61, none⟩)) rfl rfl (by go_simp) ?_
      go_frame
      refine wpList_value 280 (w' := wr) (v := .agg (pcs p).toArray) rfl rfl (exec_load rfl rfl XLD.out) ?_
      go_frame
      refine wpList_value 25 (w' := wr.alloc (.cells z77 77)) (v := .pointer (some ⟨wr.heap.size, 0, none⟩)) rfl rfl (by kernel_rfl) ?_
      go_frame
      refine wpList_void (w' := (wr.alloc (.cells z77 77)).setCells wr.heap.size 0 (pcs p)) rfl rfl (exec_store rfl rfl rfl XST.out) ?_
      go_upto_region 58 with fail
      refine wp_world ?_
      intro V11 hV11
      obtain ⟨hT11, rQ, hlt⟩ := box_peer rfl hV11
      obtain ⟨qx, hqx⟩ : ∃ qx, qx = wr.heap.size := ⟨_, rfl⟩
      rw [← hqx] at rQ hlt
      simp only [← hqx]
      have X11 : Hid (Turn [] V10 V11 ∧ V11.rowIs qx 77 61 (pcell p)) := ⟨XT2.out.trans hT11, rQ⟩
      have q0 : V11.cell? ⟨qx, 0, none⟩ = some (.int .u8 ((pi : Int) + 1)) := by rw [rQ.cell (by omega), ← XP2.out.2.1]; rfl
      have x5 : V11.cell? ⟨g + 6, pi, none⟩ = some (.bool true) := by rw [(X10.out.1.new X11.out.1).r5.cell hpi4, XP2.out.2.2.1]
      clear hV11 hT11 rQ hlt hqx XST XLD XRg c0 XT2
      go_upto_region 61 with fail
      obtain ⟨pp, hpp⟩ : ∃ pp, p.port = pp := ⟨_, rfl⟩
      obtain ⟨pd, hpd⟩ : ∃ pd, p.done = pd := ⟨_, rfl⟩
      obtain ⟨pe, hpe⟩ : ∃ pe, p.br = pe := ⟨_, rfl⟩
      have XF : Hid (∀ W, Turn [] V11 W → W.cell? ⟨qx, 52, none⟩ = some (.int .u64 0) ∧ W.cell? ⟨qx, 53, none⟩ = some (.int .u64 0) ∧ W.cell? ⟨qx, 54, none⟩ = some (.pointer none) ∧ W.cell? ⟨qx, 55, none⟩ = some (.int .u16 (pp : Int)) ∧ W.cell? ⟨qx, 56, none⟩ = some (.bool pd) ∧ W.cell? ⟨qx, 60, none⟩ = some (.bool pe) ∧ W.cell? ⟨g + 7, pi, none⟩ = some (.bool pd) ∧ W.cell? ⟨g + 8, pi, none⟩ = some (.bool pe) ∧ W.cell? ⟨g + 9, pi, none⟩ = some (.int .u16 (pp : Int))) := fun W hW => by
        have hL := X10.out.1.new (X11.out.1.trans hW)
        have rQ := hW.row X11.out.2 (by simp)
        obtain ⟨_, _, _, h6, h7, h8, _⟩ := XP2.out
        exact ⟨rQ.cell (by omega), rQ.cell (by omega), rQ.cell (by omega), by rw [rQ.cell (by omega), ← hpp]; rfl, by rw [rQ.cell (by omega), ← hpd]; rfl, by rw [rQ.cell (by omega), ← hpe]; rfl, by rw [hL.r6.cell hpi4, h6, hpd], by rw [hL.r7.cell hpi4, h7, hpe], by rw [hL.r8.cell hpi4, h8, hpp]⟩
      obtain ⟨z1, z2, z3, z4, z5, z6, z7, z8, z9⟩ := XF.out V11 (Turn.refl _ _)
      have XPP : Hid (p.port = pp) := hpp
      clear hpp hpd hpe q0 x5
      go_cut [320] from 265 to 354 (fun y wc => y = .bool false ∧ Turn [] V11 wc)
      case first =>
        have Y10 : Hid (∀ W, Turn [] V11 W → Calls Ybad.prog 10 #[.agg #[.int .u64 0, .int .u64 0, .pointer none, .int .u16 (pp : Int)]] W fun e' w' => e' = .returned (.int .u16 (pp : Int)) ∧ Hid (Turn [] V11 w') ∧ (w'.cell? ⟨qx, 52, none⟩ = some (.int .u64 0) ∧ w'.cell? ⟨qx, 53, none⟩ = some (.int .u64 0) ∧ w'.cell? ⟨qx, 54, none⟩ = some (.pointer none) ∧ w'.cell? ⟨qx, 55, none⟩ = some (.int .u16 (pp : Int)) ∧ w'.cell? ⟨qx, 56, none⟩ = some (.bool pd) ∧ w'.cell? ⟨qx, 60, none⟩ = some (.bool pe) ∧ w'.cell? ⟨g + 7, pi, none⟩ = some (.bool pd) ∧ w'.cell? ⟨g + 8, pi, none⟩ = some (.bool pe) ∧ w'.cell? ⟨g + 9, pi, none⟩ = some (.int .u16 (pp : Int)))) := fun W hW =>
          (port_any pp W).mono fun e' w' ⟨h1, h2⟩ => ⟨h1, hW.trans h2, XF.out w' (hW.trans h2)⟩
        go_region_held3 (fun w' => w'.cell? ⟨qx, 52, none⟩ = some (.int .u64 0) ∧ w'.cell? ⟨qx, 53, none⟩ = some (.int .u64 0) ∧ w'.cell? ⟨qx, 54, none⟩ = some (.pointer none) ∧ w'.cell? ⟨qx, 55, none⟩ = some (.int .u16 (pp : Int)) ∧ w'.cell? ⟨qx, 56, none⟩ = some (.bool pd) ∧ w'.cell? ⟨qx, 60, none⟩ = some (.bool pe) ∧ w'.cell? ⟨g + 7, pi, none⟩ = some (.bool pd) ∧ w'.cell? ⟨g + 8, pi, none⟩ = some (.bool pe) ∧ w'.cell? ⟨g + 9, pi, none⟩ = some (.int .u16 (pp : Int))) (go_keep) (first | (go_at_call 10; refine (Y10.out _ (by exact (Turn.refl [] V11).drew)).mono ?_; rintro e' w6 ⟨rfl, H6, d1, d2, d3, d4, d5, d6, d7, d8, d9⟩))
        all_goals (go_wp2_with fail; go_meet)
        case rel => exact ⟨by simp, H6.out⟩
      case rest =>
      obtain ⟨rfl, hcut⟩ := hcut
      obtain ⟨V12, hV12⟩ : ∃ V12, V12 = wc := ⟨_, rfl⟩
      rw [← hV12] at hcut ⊢
      clear hV12 z1 z2 z3 z4 z5 z6 z7 z8 z9 XF
      have X12 : Hid (Turn [] V11 V12) := hcut
      clear hcut
      have c8 : V12.cell? ⟨g + 4, 8, none⟩ = some (.map (some (g + 1))) := (X10.out.1.new (X11.out.1.trans X12.out)).st.cells.2.1
      have Y1 : Hid (∀ m, (loadVar 50 ⟨qx, 0, none⟩).run Ybad.prog (V12.drewN m) = .ok (idV pi) (V12.drewN m)) := fun m => by
        have := loadv_id (row_cells (drewN_row (X12.out.row X11.out.2 (by simp)) m))
        rw [XP2.out.2.1] at this
        exact this
      have Y2 : Hid (∀ m, (Instr.lookup 71 (.map (some (g + 1))) (idV pi) true).run Ybad.prog (V12.drewN m) = .ok (.tuple #[.int .i64 (j : Int), .bool true]) (V12.drewN m)) := fun m => by
        have := (X10.out.1.new (X11.out.1.trans X12.out)).st.idAt hjn m
        rw [XP2.out.1, XP2.out.2.1] at this
        exact this
      go_upto_region 63 with fail
      refine wp_region_quiet_lit (by kernel_rfl) (by kernel_rfl) ?_
      iterate 5 (go_big_quiet_step (fail))
      refine wpQuiet_value 327 rfl (by kernel_rfl) (fun m => exec_load rfl rfl (Y1.out m)) ?_
      go_frame
      refine wpQuiet_value 328 rfl (by kernel_rfl) (fun m => exec_lookup rfl rfl rfl (Y2.out m)) ?_
      go_frame
      iterate 5 (go_big_quiet_step (fail))
      refine wpQuiet_nil ?_
      intro _ hw'
      obtain ⟨nq, hw''⟩ := hw'
      subst hw''
      refine q_world ?_
      intro V13 hV13
      have X13 : Hid (Turn [] V11 V13) := by rw [hV13]; exact X12.out.drewN nq
      clear hV13 c8 Y1 Y2 X12
      have c9 : V13.cell? ⟨g + 4, 9, none⟩ = some (.map (some (g + 2))) := (X10.out.1.new (X11.out.1.trans X13.out)).st.cells.2.2.1
      have Y1 : Hid (∀ m, (loadVar 48 ⟨qx, 52, none⟩).run Ybad.prog (V13.drewN m) = .ok (epV pp) (V13.drewN m)) := fun m => by
        have := loadv_ep (row_cells (drewN_row (X13.out.row X11.out.2 (by simp)) m))
        rw [XPP.out, Nat.zero_add] at this
        exact this
      have Y2 : Hid (∀ m, (Instr.lookup 72 (.map (some (g + 2))) (epV pp) true).run Ybad.prog (V13.drewN m) = .ok (.tuple #[.int .i64 (j : Int), .bool true]) (V13.drewN m)) := fun m => by
        have := (X10.out.1.new (X11.out.1.trans X13.out)).st.epAt hjn m
        rw [XP2.out.1, XPP.out] at this
        exact this
      go_upto_region 66 with fail
      refine wp_region_quiet_lit (by kernel_rfl) (by kernel_rfl) ?_
      iterate 5 (go_big_quiet_step (fail))
      refine wpQuiet_value 344 rfl (by kernel_rfl) (fun m => exec_load rfl rfl (Y1.out m)) ?_
      go_frame
      refine wpQuiet_value 345 rfl (by kernel_rfl) (fun m => exec_lookup rfl rfl rfl (Y2.out m)) ?_
      go_frame
      iterate 5 (go_big_quiet_step (fail))
      refine wpQuiet_nil ?_
      intro _ hw'
      obtain ⟨nq, hw''⟩ := hw'
      subst hw''
      go_wp2_with fail
      go_roundw
      case rel => exact ⟨j + 1, by omega, by simp, X11.out.1.trans (X13.out.drewN _)⟩
      case measure => simp [intOf]; omega
    · obtain rfl : j = n7 := by omega
      go_wp2_with fail
      refine XK.out _ _ _ _ _ _ _ _ _ _ _ _ _ _ _ _ _ _ _ _ _ _ _ _ _ _ _ _ _ _ _ _ _ _ _ _ _ _ _ _ _ _ _ _ _ _ _ _ _ _ _ _ _ _ _ _ _ _ _ _ _ _ _ _ _ _ _ _ _ _ _ _ _ _ _ _ _ _ _ _ _ _ _ _ _ _ _ _ _ _ _ _ _ _ _ _ _ _ _ _ _ _ _ _ _ _ _ _ _ _ _ _ _ _ _ _ _ _ _ _ _ _ _ _ _ _ _ _ _ _ _ _ _ _ _ _ _ _ _ _ _ _ _ _ _ _ _ _ _ _ _ _ _ _ _ _ _ _ _ _ _ _ _ _ _ _ _ _ _ _ _ _ _ _ _ _ _ _ _ _ _ _ _ _ _ _ _ _ _ _ _ _ _ _ _ _ _ _ _ _ _ _ _ _ _ _ _ _ _ _ _ _ _ _ _ _ _ _ _ _ _ _ _ _ _ _ _ _ _ _ _ _ _ _ _ _ _ _ _ _ _ _ _ _ _ _ _ _ _ _ _ _ _ _ _ _ _ _ _ _ _ _ _ _ _ _ _ _ _ _ _ _ _ _ _ _ _ _ _ _ _ _ _ _ _ _ _ _ _ _ _ _ _ _ _ _ _ _ _ _ _ _ _ _ _ _ _ _ _ _ _ _ _ _ _ _ _ _ _ _ _ _ _ _ _ _ _ _ _ _ _ _ _ _ _ _ dq ⟨v7, pf7, j, pr7, dn7, br7, po7, X10.out.1.new XT2.out, X10.out.2⟩ ?_
      have := XDQ.out
      split at this <;> omega
end Go.Proofs.YbulkbdskDoor
