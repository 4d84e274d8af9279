/-
  The walk of the library's SHA-1 block step: the state of a digest goes on by whole blocks. Condition: a whole number of blocks, and they are there.
-/
import Derived.Test.YtpkipinamlbdoaaGreatDoorIL2
import Derived.BigRegion
import Derived.Lib.Hide
namespace Go.Proofs.YtpkipinamlbdoaaGreatDoor
open Go Go.RowKit
attribute [local go_sem] I32_cvt I8_cvt I32_add I32_and I32_or I32_xor I8_xor I32_notm I32_shl8 I32_shl16 I32_shl24 I32_k1 I32_k2 I32_k3 I32_k4
theorem run_from (b o n cap a : Nat) (x : Int) (hx : x = a) (h : a ≤ n) (hc : n ≤ cap) :
    ∃ ad, (0 < n - a → ad = (⟨b, o + a, none⟩ : Addr)) ∧ ∀ w : World, (Instr.slice 22 (.slice (some ⟨b, o, none⟩) n cap) (some (.int .i64 x)) none none).run Tryz.prog w = .ok (.slice (some ad) (n - a) (cap - a)) w := by
  subst hx
  have h1 : (a : Int) ≤ n := by omega
  by_cases hne : cap = a
  · exact ⟨⟨b, o, none⟩, fun hp => by omega, fun w => by simp [go_sem, h1, hne]⟩
  · exact ⟨⟨b, o + a, none⟩, fun _ => rfl, fun w => by simp [go_sem, h1, hne]⟩
/-- So many blocks are left. -/
def bgLeft (v : Value) : Nat := match v with | .slice _ q _ => q | _ => 0
def bgOut (gb k : Nat) (p : List UInt8) (h0 : S5) (w0 : World) (gw : Nat) (v v5 v6 v7 v8 v9 : Value) (wr : World) : Prop :=
  ∃ (j r cap : Nat) (ad : Addr) (h : S5), v = .slice (some ad) r cap ∧ r ≤ cap ∧ cap ≤ 9223372036854775807 ∧ r % 64 = 0 ∧ r ≤ 1000200 ∧ Hid (j + r = p.length) ∧ (0 < r → ad = ⟨gb, k + j, none⟩) ∧
    v5 = vw h.a ∧ v6 = vw h.b ∧ v7 = vw h.c ∧ v8 = vw h.d ∧ v9 = vw h.e ∧ Hid (blocks (r / 64) h (p.drop j) = blocks (p.length / 64) h0 p) ∧ (∃ cur, Blk wr gw cur 182 ∧ cur.size = 16) ∧ Upd (fun k => k = gw) w0 wr
set_option maxRecDepth 1000000 in
set_option maxHeartbeats 8000000 in
theorem block_any (gd gb k n c : Nat) (T : TypeId) (dc : Array Value) (p : List UInt8) (h0 : S5) (w : World) (hb : Blk w gd dc T) (hs : 5 ≤ dc.size)
    (ha : dc[0]? = some (vw h0.a)) (hb1 : dc[1]? = some (vw h0.b)) (hc1 : dc[2]? = some (vw h0.c)) (hd1 : dc[3]? = some (vw h0.d)) (he1 : dc[4]? = some (vw h0.e))
    (hp : Bytes w gb k p) (hn : n = p.length) (hnc : n ≤ c) (hc : c ≤ maxLen) (h64 : n % 64 = 0) (hmax : n ≤ 1000200) :
    Calls Tryz.prog 116 #[.pointer (some ⟨gd, 0, none⟩), .slice (some ⟨gb, k, none⟩) n c] w fun e w' => e = .returned (.tuple #[]) ∧ ∃ s : S5, s = blocks (p.length / 64) h0 p ∧
      Blk w' gd (((((dc.setIfInBounds 0 (vw s.a)).setIfInBounds 1 (vw s.b)).setIfInBounds 2 (vw s.c)).setIfInBounds 3 (vw s.d)).setIfInBounds 4 (vw s.e)) T ∧ Upd (fun k => k = gd) w w' := by
  unfold maxLen at hc
  have HN : Hid (n = p.length) := hn
  have HP : Hid (Bytes w gb k p) := hp
  have HB : Hid (Blk w gd dc T) := hb
  have HS : Hid (5 ≤ dc.size) := hs
  have HBA : Hid (Blk (w.alloc (.cells (Zw 16) 182)) gd dc T) := hb.alloc _
  have c0 : (w.alloc (.cells (Zw 16) 182)).cell? ⟨gd, 0, none⟩ = some (vw h0.a) := by rw [HBA.out.cell]; exact ha
  have c1 : (w.alloc (.cells (Zw 16) 182)).cell? ⟨gd, 1, none⟩ = some (vw h0.b) := by rw [HBA.out.cell]; exact hb1
  have c2 : (w.alloc (.cells (Zw 16) 182)).cell? ⟨gd, 2, none⟩ = some (vw h0.c) := by rw [HBA.out.cell]; exact hc1
  have c3 : (w.alloc (.cells (Zw 16) 182)).cell? ⟨gd, 3, none⟩ = some (vw h0.d) := by rw [HBA.out.cell]; exact hd1
  have c4 : (w.alloc (.cells (Zw 16) 182)).cell? ⟨gd, 4, none⟩ = some (vw h0.e) := by rw [HBA.out.cell]; exact he1
  have HW : Hid (Blk (w.alloc (.cells (Zw 16) 182)) w.heap.size (Zw 16) 182) := Blk.new _ _ _
  have HU : Hid (Fresh w (w.alloc (.cells (Zw 16) 182))) := (Upd.refl _ _).alloc _
  have hgd : gd < w.heap.size := hb.lt
  clear hb hs ha hb1 hc1 hd1 he1 hp hn
  go_enter Tryz.func116, Tryz.ntmps116
  go_wp2_with (first | (refine wpList_alloc_of run_alloc182 rfl rfl ?_))
  generalize w.alloc (.cells (Zw 16) 182) = w1 at *
  go_quiet (fail)
  clear c0 c1 c2 c3 c4
  go_wp2
  have hwl : w.heap.size < (w1.drewN nq).heap.size := HW.out.lt
  have hgw : gb < w.heap.size ∨ p.length = 0 := by
    by_cases hp0 : 0 < p.length
    · left; exact World.block_lt_of_cell? _ _ (HP.out 0 hp0)
    · right; omega
  have HP1 : Hid (Bytes (w1.drewN nq) gb k p) := HP.out.upd (HU.out.drewN nq) (fun f => f)
  have HWN : Hid (Blk (w1.drewN nq) w.heap.size (Zw 16) 182) := HW.out
  have HBN : Hid (Blk (w1.drewN nq) gd dc T) := HBA.out
  have HUN : Hid (Fresh w (w1.drewN nq)) := HU.out.drewN nq
  clear HP HW HBA HU HB
  generalize w1.drewN nq = w0 at *
  generalize hgwe : w.heap.size = gw at *
  have HGW : Hid (w.heap.size = gw) := hgwe
  clear hgwe
  go_loopw [1, 5, 6, 7, 8, 9] (fun v v5 v6 v7 v8 v9 wr => bgOut gb k p h0 w0 gw v v5 v6 v7 v8 v9 wr) (fun v _ _ _ _ _ _ => bgLeft v)
  case atStart => exact ⟨0, n, c, ⟨gb, k, none⟩, h0, rfl, hnc, hc, h64, hmax, by have := HN.out; show _ = _; omega, fun _ => rfl, rfl, rfl, rfl, rfl, rfl, by show _ = _; rw [List.drop_zero, HN.out], ⟨_, HWN.out, Zw_size _⟩, Upd.refl _ _⟩
  case round =>
    obtain ⟨wo, rfl⟩ : ∃ wo : World, wo = wr := ⟨_, rfl⟩
    obtain ⟨j, r, cap, ad, h, rfl, hrc, hcm, hr64, hrb, HK, had, rfl, rfl, rfl, rfl, rfl, HBL, ⟨cur, hbw, hcs⟩, hu⟩ := hrel
    have HBW : Hid (Blk wo gw cur 182) := hbw
    have HCS : Hid (cur.size = 16) := hcs
    have HUW : Hid (Upd (fun k => k = gw) w0 wo) := hu
    clear hbw hcs hu HWN
    by_cases hr0 : 64 ≤ r
    · obtain rfl := had (by omega)
      have hgbw : gb ≠ gw := by
        rcases hgw with h | h
        · omega
        · have := HK.out; omega
      have HPo : Hid (Bytes wo gb (k + j) (p.drop j)) := (HP1.out.upd HUW.out hgbw).drop j
      clear had
      have HBL2 : Hid (blocks (r / 64) h (p.drop j) = blocks ((r - 64) / 64) (blk h (words (p.drop j))) (p.drop (j + 64))) := by
        show _ = _
        obtain ⟨z, hz⟩ : ∃ z, r / 64 = z + 1 := ⟨r / 64 - 1, by omega⟩
        rw [hz, blocks, List.drop_drop, show (r - 64) / 64 = z by omega]
      have HRL : Hid (r = (p.drop j).length) := by show _ = _; rw [List.length_drop]; have := HK.out; omega
      obtain ⟨ad2, had2, hsl⟩ := run_from gb (k + j) r cap 64 64 rfl hr0 hrc
      have HAD : Hid _ := had2
      clear had2
      have HSL := Lib.hid hsl
      clear hsl
      generalize p.drop j = q at *
      go_wp2
      refine bg_loop2 q gb (k + j) r cap gw wo cur _ _ _ _ _ _ _ _ _ _ _ _ _ _ _ _ _ _ _ _ _ _ _ _ _ _ _ _ _ _ _ _ _ _ _ _ _ _ _ _ _ _ _ _ _ _ _ _ _ _ _ _ _ _ _ _ _ _ _ _ _ _ _ _ _ _ _ _ _ _ _ _ _ _ _ _ _ _ _ _ _ _ _ _ _ _ _ _ _ _ _ _ _ _ _ _ _ _ _ _ _ _ _ _ _ _ _ _ _ _ _ _ _ _ _ _ _ _ _ _ _ _ _ _ _ _ _ _ _ _ _ _ _ _ _ _ _ _ _ _ _ _ _ _ _ _ _ _ _ _ _ _ _ _ _ _ _ _ _ _ _ _ _ _ _ _ _ _ _ _ _ _ _ _ _ _ _ _ _ _ _ _ _ _ _ _ _ _ _ _ _ _ _ _ _ _ _ _ _ _ _ _ _ _ _ _ _ _ _ _ _ _ _ _ _ _ _ _ _ _ _ _ _ _ _ _ _ _ _ _ _ _ _ _ _ _ _ _ _ _ _ _ _ _ _ _ _ _ _ _ _ _ _ _ _ _ _ _ _ _ _ _ _ _ _ _ _ _ _ _ _ _ _ _ _ _ _ _ _ _ _ _ _ _ _ _ _ _ _ _ _ _ _ _ _ _ _ _ _ _ _ _ _ _ _ _ _ _ _ _ _ _ _ _ _ _ _ _ _ _ _ _ _ _ _ _ _ _ _ _ _ _ _ _ _ _ _ _ _ _ _ _ _ _ _ _ _ _ _ _ _ _ _ _ _ _ _ _ _ _ _ _ _ _ _ _ _ _ _ _ _ _ _ _ _ _ _ _ _ _ _ _ _ _ _ _ _ _ _ _ _ _ _ _ _ HPo.out HRL.out hr0 hrb hgbw HBW.out HCS.out ?_
      clear HBW HCS HPo
      intro v11 v60 v61 v62 v63 v64 v65 v66 v67 v68 v69 v70 v71 v72 v73 v74 v75 v76 v77 v78 v79 v80 v81 v82 v83 v84 v85 v86 v87 v88 v89 v90 v91 v92 v93 v94 v95 v96 curb wb HBb HSb HWb HUb
      have HM : Hid ((words q).length = 16) := words_length _
      generalize words q = m at *
      go_wp2
      refine bg_loop3 m HM.out h h gw wo _ curb _ _ _ _ _ _ _ _ _ _ _ _ _ _ _ _ _ _ _ _ _ _ _ _ _ _ _ _ _ _ _ _ _ _ _ _ _ _ _ _ _ _ _ _ _ _ _ _ _ _ _ _ _ _ _ _ _ _ _ _ _ _ _ _ _ _ _ _ _ _ _ _ _ _ _ _ _ _ _ _ _ _ _ _ _ _ _ _ _ _ _ _ _ _ _ _ _ _ _ _ _ _ _ _ _ _ _ _ _ _ _ _ _ _ _ _ _ _ _ _ _ _ _ _ _ _ _ _ _ _ _ _ _ _ _ _ _ _ _ _ _ _ _ _ _ _ _ _ _ _ _ _ _ _ _ _ _ _ _ _ _ _ _ _ _ _ _ _ _ _ _ _ _ _ _ _ _ _ _ _ _ _ _ _ _ _ _ _ _ _ _ _ _ _ _ _ _ _ _ _ _ _ _ _ _ _ _ _ _ _ _ _ _ _ _ _ _ _ _ _ _ _ _ _ _ _ _ _ _ _ _ _ _ _ _ _ _ _ _ _ _ _ _ _ _ _ _ _ _ _ _ _ _ _ _ _ _ _ _ _ _ _ _ _ _ _ _ _ _ _ _ _ _ _ _ _ _ _ _ _ _ _ _ _ _ _ _ _ _ _ _ _ _ _ _ _ _ _ _ _ _ _ _ _ _ _ _ _ _ _ _ _ _ _ _ _ _ _ _ _ _ _ _ _ _ _ _ _ _ _ _ _ _ _ _ _ _ _ _ _ _ _ _ _ _ _ _ _ _ _ _ _ _ _ _ _ _ _ _ _ _ _ _ _ _ _ _ _ _ _ _ _ _ _ _ _ _ _ _ _ _ _ _ _ _ _ _ _ _ _ _ rfl HBb.out HSb.out HWb.out HUb.out ?_
      clear HBb HSb HWb HUb
      intro v18 v19 v102 v103 v104 v105 v106 v107 v108 v109 v110 v111 v112 v113 v114 v115 v116 v117 v118 v119 v120 v121 v122 v123 v124 v125 v126 v127 v128 v129 v130 v131 s3 cur3 w3 HSR3 HBb HSb HWb HUb
      go_wp2
      refine bg_loop4 m HM.out h s3 gw wo _ cur3 _ _ _ _ _ _ _ _ _ _ _ _ _ _ _ _ _ _ _ _ _ _ _ _ _ _ _ _ _ _ _ _ _ _ _ _ _ _ _ _ _ _ _ _ _ _ _ _ _ _ _ _ _ _ _ _ _ _ _ _ _ _ _ _ _ _ _ _ _ _ _ _ _ _ _ _ _ _ _ _ _ _ _ _ _ _ _ _ _ _ _ _ _ _ _ _ _ _ _ _ _ _ _ _ _ _ _ _ _ _ _ _ _ _ _ _ _ _ _ _ _ _ _ _ _ _ _ _ _ _ _ _ _ _ _ _ _ _ _ _ _ _ _ _ _ _ _ _ _ _ _ _ _ _ _ _ _ _ _ _ _ _ _ _ _ _ _ _ _ _ _ _ _ _ _ _ _ _ _ _ _ _ _ _ _ _ _ _ _ _ _ _ _ _ _ _ _ _ _ _ _ _ _ _ _ _ _ _ _ _ _ _ _ _ _ _ _ _ _ _ _ _ _ _ _ _ _ _ _ _ _ _ _ _ _ _ _ _ _ _ _ _ _ _ _ _ _ _ _ _ _ _ _ _ _ _ _ _ _ _ _ _ _ _ _ _ _ _ _ _ _ _ _ _ _ _ _ _ _ _ _ _ _ _ _ _ _ _ _ _ _ _ _ _ _ _ _ _ _ _ _ _ _ _ _ _ _ _ _ _ _ _ _ _ _ _ _ _ _ _ _ _ _ _ _ _ _ _ _ _ _ _ _ _ _ _ _ _ _ _ _ _ _ _ _ _ _ _ _ _ _ _ _ _ _ _ _ _ _ _ _ _ _ _ _ _ _ _ _ _ _ _ _ _ _ _ _ _ _ _ _ _ _ _ _ _ _ _ _ _ _ HSR3.out HBb.out HSb.out HWb.out HUb.out ?_
      clear HBb HSb HWb HUb HSR3
      intro v20 v21 v22 v132 v133 v134 v135 v136 v137 v138 v139 v140 v141 v142 v143 v144 v145 v146 v147 v148 v149 v150 v151 v152 v153 v154 v155 v156 v157 v158 v159 v160 v161 v162 v163 v164 v165 v166 v167 v168 v169 v170 v171 v172 v173 v174 v175 v176 v177 v178 v179 v180 v181 v182 v183 v184 v185 v186 v187 v188 s4 cur4 w4 HSR4 HBb HSb HWb HUb
      go_wp2
      refine bg_loop5 m HM.out h s4 gw wo _ cur4 _ _ _ _ _ _ _ _ _ _ _ _ _ _ _ _ _ _ _ _ _ _ _ _ _ _ _ _ _ _ _ _ _ _ _ _ _ _ _ _ _ _ _ _ _ _ _ _ _ _ _ _ _ _ _ _ _ _ _ _ _ _ _ _ _ _ _ _ _ _ _ _ _ _ _ _ _ _ _ _ _ _ _ _ _ _ _ _ _ _ _ _ _ _ _ _ _ _ _ _ _ _ _ _ _ _ _ _ _ _ _ _ _ _ _ _ _ _ _ _ _ _ _ _ _ _ _ _ _ _ _ _ _ _ _ _ _ _ _ _ _ _ _ _ _ _ _ _ _ _ _ _ _ _ _ _ _ _ _ _ _ _ _ _ _ _ _ _ _ _ _ _ _ _ _ _ _ _ _ _ _ _ _ _ _ _ _ _ _ _ _ _ _ _ _ _ _ _ _ _ _ _ _ _ _ _ _ _ _ _ _ _ _ _ _ _ _ _ _ _ _ _ _ _ _ _ _ _ _ _ _ _ _ _ _ _ _ _ _ _ _ _ _ _ _ _ _ _ _ _ _ _ _ _ _ _ _ _ _ _ _ _ _ _ _ _ _ _ _ _ _ _ _ _ _ _ _ _ _ _ _ _ _ _ _ _ _ _ _ _ _ _ _ _ _ _ _ _ _ _ _ _ _ _ _ _ _ _ _ _ _ _ _ _ _ _ _ _ _ _ _ _ _ _ _ _ _ _ _ _ _ _ _ _ _ _ _ _ _ _ _ _ _ _ _ _ _ _ _ _ _ _ _ _ _ _ _ _ _ _ _ _ _ _ _ _ _ _ _ _ _ _ _ _ _ _ _ _ _ _ _ _ _ _ _ _ _ _ _ _ _ HSR4.out HBb.out HSb.out HWb.out HUb.out ?_
      clear HBb HSb HWb HUb HSR4
      intro v23 v24 v25 v189 v190 v191 v192 v193 v194 v195 v196 v197 v198 v199 v200 v201 v202 v203 v204 v205 v206 v207 v208 v209 v210 v211 v212 v213 v214 v215 v216 v217 v218 v219 v220 v221 v222 v223 v224 v225 v226 v227 v228 v229 v230 v231 v232 v233 v234 v235 v236 v237 v238 v239 v240 v241 v242 s5 cur5 w5 HSR5 HBb HSb HWb HUb
      go_wp2
      refine bg_loop6 m HM.out h s5 gw wo _ cur5 _ _ _ _ _ _ _ _ _ _ _ _ _ _ _ _ _ _ _ _ _ _ _ _ _ _ _ _ _ _ _ _ _ _ _ _ _ _ _ _ _ _ _ _ _ _ _ _ _ _ _ _ _ _ _ _ _ _ _ _ _ _ _ _ _ _ _ _ _ _ _ _ _ _ _ _ _ _ _ _ _ _ _ _ _ _ _ _ _ _ _ _ _ _ _ _ _ _ _ _ _ _ _ _ _ _ _ _ _ _ _ _ _ _ _ _ _ _ _ _ _ _ _ _ _ _ _ _ _ _ _ _ _ _ _ _ _ _ _ _ _ _ _ _ _ _ _ _ _ _ _ _ _ _ _ _ _ _ _ _ _ _ _ _ _ _ _ _ _ _ _ _ _ _ _ _ _ _ _ _ _ _ _ _ _ _ _ _ _ _ _ _ _ _ _ _ _ _ _ _ _ _ _ _ _ _ _ _ _ _ _ _ _ _ _ _ _ _ _ _ _ _ _ _ _ _ _ _ _ _ _ _ _ _ _ _ _ _ _ _ _ _ _ _ _ _ _ _ _ _ _ _ _ _ _ _ _ _ _ _ _ _ _ _ _ _ _ _ _ _ _ _ _ _ _ _ _ _ _ _ _ _ _ _ _ _ _ _ _ _ _ _ _ _ _ _ _ _ _ _ _ _ _ _ _ _ _ _ _ _ _ _ _ _ _ _ _ _ _ _ _ _ _ _ _ _ _ _ _ _ _ _ _ _ _ _ _ _ _ _ _ _ _ _ _ _ _ _ _ _ _ _ _ _ _ _ _ _ _ _ _ _ _ _ _ _ _ _ _ _ _ _ _ _ _ _ _ _ _ _ _ _ _ _ _ _ _ _ _ _ _ HSR5.out HBb.out HSb.out HWb.out HUb.out ?_
      clear HBb HSb HWb HUb HSR5
      intro v26 v27 v28 v243 v244 v245 v246 v247 v248 v249 v250 v251 v252 v253 v254 v255 v256 v257 v258 v259 v260 v261 v262 v263 v264 v265 v266 v267 v268 v269 v270 v271 v272 v273 v274 v275 v276 v277 v278 v279 v280 v281 v282 v283 v284 v285 v286 v287 v288 v289 v290 v291 v292 v293 v294 v295 v296 v297 v298 v299 v300 s6 cur6 w6 HSR6 HBb HSb HWb HUb
      go_wp2
      refine bg_loop7 m HM.out h s6 gw wo _ cur6 _ _ _ _ _ _ _ _ _ _ _ _ _ _ _ _ _ _ _ _ _ _ _ _ _ _ _ _ _ _ _ _ _ _ _ _ _ _ _ _ _ _ _ _ _ _ _ _ _ _ _ _ _ _ _ _ _ _ _ _ _ _ _ _ _ _ _ _ _ _ _ _ _ _ _ _ _ _ _ _ _ _ _ _ _ _ _ _ _ _ _ _ _ _ _ _ _ _ _ _ _ _ _ _ _ _ _ _ _ _ _ _ _ _ _ _ _ _ _ _ _ _ _ _ _ _ _ _ _ _ _ _ _ _ _ _ _ _ _ _ _ _ _ _ _ _ _ _ _ _ _ _ _ _ _ _ _ _ _ _ _ _ _ _ _ _ _ _ _ _ _ _ _ _ _ _ _ _ _ _ _ _ _ _ _ _ _ _ _ _ _ _ _ _ _ _ _ _ _ _ _ _ _ _ _ _ _ _ _ _ _ _ _ _ _ _ _ _ _ _ _ _ _ _ _ _ _ _ _ _ _ _ _ _ _ _ _ _ _ _ _ _ _ _ _ _ _ _ _ _ _ _ _ _ _ _ _ _ _ _ _ _ _ _ _ _ _ _ _ _ _ _ _ _ _ _ _ _ _ _ _ _ _ _ _ _ _ _ _ _ _ _ _ _ _ _ _ _ _ _ _ _ _ _ _ _ _ _ _ _ _ _ _ _ _ _ _ _ _ _ _ _ _ _ _ _ _ _ _ _ _ _ _ _ _ _ _ _ _ _ _ _ _ _ _ _ _ _ _ _ _ _ _ _ _ _ _ _ _ _ _ _ _ _ _ _ _ _ _ _ _ _ _ _ _ _ _ _ _ _ _ _ _ _ _ _ _ _ _ _ _ HSR6.out HBb.out HSb.out HWb.out HUb.out ?_
      clear HBb HSb HWb HUb HSR6
      intro v29 v30 v31 v301 v302 v303 v304 v305 v306 v307 v308 v309 v310 v311 v312 v313 v314 v315 v316 v317 v318 v319 v320 v321 v322 v323 v324 v325 v326 v327 v328 v329 v330 v331 v332 v333 v334 v335 v336 v337 v338 v339 v340 v341 v342 v343 v344 v345 v346 v347 v348 v349 v350 v351 v352 v353 v354 s7 cur7 w7 HSR7 HBb HSb HWb HUb
      have hsl := HSL.out
      clear HSL
      go_wp2
      go_roundw
      case rel =>
        have e1 : blk h m = h.add s7 := by rw [HSR7.out]; rfl
        have e2 := HK.out
        refine ⟨j + 64, r - 64, cap - 64, ad2, h.add s7, rfl, by omega, by omega, by omega, by omega, by show _ = _; omega, fun hp => HAD.out hp, by first | rfl | (rw [I32_add]; rfl), by first | rfl | (rw [I32_add]; rfl), by first | rfl | (rw [I32_add]; rfl), by first | rfl | (rw [I32_add]; rfl), by first | rfl | (rw [I32_add]; rfl), ?_, ⟨_, HBb.out, HSb.out⟩, HUW.out.trans HUb.out⟩
        show _ = _
        rw [← e1, ← HBL2.out]; exact HBL.out
      case measure => simp [bgLeft]; omega
    · obtain rfl : r = 0 := by omega
      have HE : Hid (h = blocks (p.length / 64) h0 p) := by show _ = _; rw [← HBL.out]; rfl
      have HBo : Hid (Blk wo gd dc T) := HBN.out.upd HUW.out (by omega)
      obtain ⟨o0, g0⟩ := HBo.out.some (j := 0) (by have := HS.out; omega)
      obtain ⟨o1, g1⟩ := HBo.out.some (j := 1) (by have := HS.out; omega)
      obtain ⟨o2, g2⟩ := HBo.out.some (j := 2) (by have := HS.out; omega)
      obtain ⟨o3, g3⟩ := HBo.out.some (j := 3) (by have := HS.out; omega)
      obtain ⟨o4, g4⟩ := HBo.out.some (j := 4) (by have := HS.out; omega)
      have f0 := HBo.out.free 0
      have f1 := HBo.out.free 1
      have f2 := HBo.out.free 2
      have f3 := HBo.out.free 3
      have f4 := HBo.out.free 4
      go_wp2
      go_region
      go_end0
      refine ⟨rfl, h, HE.out, ((((HBo.out.set 0 (vw h.a)).set 1 (vw h.b)).set 2 (vw h.c)).set 3 (vw h.d)).set 4 (vw h.e), ?_⟩
      have hfo : Fresh w wo := HUN.out.newer HUW.out (fun k e => by have := HGW.out; omega)
      have hu0 : Upd (fun k => k = gd) w wo := hfo.mono (fun _ _ f => f.elim)
      exact (((((hu0.setCell (p := ⟨gd, 0, none⟩) (fun _ => rfl) _).setCell (p := ⟨gd, 1, none⟩) (fun _ => rfl) _).setCell (p := ⟨gd, 2, none⟩) (fun _ => rfl) _).setCell (p := ⟨gd, 3, none⟩) (fun _ => rfl) _).setCell (p := ⟨gd, 4, none⟩) (fun _ => rfl) _).drew
end Go.Proofs.YtpkipinamlbdoaaGreatDoor
