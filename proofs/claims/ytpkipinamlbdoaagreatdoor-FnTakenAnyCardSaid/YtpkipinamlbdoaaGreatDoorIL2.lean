/-
  The six inner loops of the block step. Conditions: as each part says.
  The first loop of the library's SHA-1 block step: sixteen words of a block. No condition.
  A loop of the library's SHA-1 block step (rounds 0 to 16). No condition.
  A loop of the library's SHA-1 block step (rounds 16 to 20). No condition.
  A loop of the library's SHA-1 block step (rounds 20 to 40). No condition.
  A loop of the library's SHA-1 block step (rounds 40 to 60). No condition.
  A loop of the library's SHA-1 block step (rounds 60 to 80). No condition.
-/
import Derived.Test.YtpkipinamlbdoaaGreatDoorIB
import Derived.Lib.Hide
import Derived.Deep.RegionHeld3
namespace Go.Proofs.YtpkipinamlbdoaaGreatDoor
open Go Go.RowKit
attribute [local go_sem] I32_cvt I8_cvt I32_add I32_and I32_or I32_xor I8_xor I32_notm I32_shl8 I32_shl16 I32_shl24 I32_k1 I32_k2 I32_k3 I32_k4
set_option maxRecDepth 1000000 in
set_option maxHeartbeats 8000000 in
theorem bg_loop2 (q : List UInt8) (gb k r cap gw : Nat) (wo : World) (cur : Array Value) (Q0 : Exit → Act → World → Prop) (u0 u2 u3 u5 u6 u7 u8 u9 u11 u12 u13 u14 u15 u16 u17 u18 u19 u20 u21 u22 u23 u24 u25 u26 u27 u28 u29 u30 u31 u32 u33 u34 u35 u36 u37 u38 u39 u40 u41 u42 u43 u44 u45 u46 u47 u48 u49 u50 u51 u52 u53 u54 u55 u56 u57 u58 u59 u60 u61 u62 u63 u64 u65 u66 u67 u68 u69 u70 u71 u72 u73 u74 u75 u76 u77 u78 u79 u80 u81 u82 u83 u84 u85 u86 u87 u88 u89 u90 u91 u92 u93 u94 u95 u96 u97 u98 u99 u100 u101 u102 u103 u104 u105 u106 u107 u108 u109 u110 u111 u112 u113 u114 u115 u116 u117 u118 u119 u120 u121 u122 u123 u124 u125 u126 u127 u128 u129 u130 u131 u132 u133 u134 u135 u136 u137 u138 u139 u140 u141 u142 u143 u144 u145 u146 u147 u148 u149 u150 u151 u152 u153 u154 u155 u156 u157 u158 u159 u160 u161 u162 u163 u164 u165 u166 u167 u168 u169 u170 u171 u172 u173 u174 u175 u176 u177 u178 u179 u180 u181 u182 u183 u184 u185 u186 u187 u188 u189 u190 u191 u192 u193 u194 u195 u196 u197 u198 u199 u200 u201 u202 u203 u204 u205 u206 u207 u208 u209 u210 u211 u212 u213 u214 u215 u216 u217 u218 u219 u220 u221 u222 u223 u224 u225 u226 u227 u228 u229 u230 u231 u232 u233 u234 u235 u236 u237 u238 u239 u240 u241 u242 u243 u244 u245 u246 u247 u248 u249 u250 u251 u252 u253 u254 u255 u256 u257 u258 u259 u260 u261 u262 u263 u264 u265 u266 u267 u268 u269 u270 u271 u272 u273 u274 u275 u276 u277 u278 u279 u280 u281 u282 u283 u284 u285 u286 u287 u288 u289 u290 u291 u292 u293 u294 u295 u296 u297 u298 u299 u300 u301 u302 u303 u304 u305 u306 u307 u308 u309 u310 u311 u312 u313 u314 u315 u316 u317 u318 u319 u320 u321 u322 u323 u324 u325 u326 u327 u328 u329 u330 u331 u332 u333 u334 u335 u336 u337 u338 u339 u340 u341 u342 u343 u344 u345 u346 u347 u348 u349 u350 u351 u352 u353 u354 u355 u356 u357 u358 u359 u360 u361 u362 u363 u364 u365 u366 u367 u368 u369 u370 u371 u372 u373 u374 u375 u376 u377 u378 u379 u380 u381 u382 u383 u384 u385 u386 u387 u388 u389 u390 u391 u392 u393 u394 u395 u396 : Value)
    (hy : Bytes wo gb k q) (hr : r = q.length) (h64 : 64 ≤ r) (hrm : r ≤ 1000200) (hne : gb ≠ gw) (hb : Blk wo gw cur 182) (hc : cur.size = 16)
    (hexit : ∀ (v11 v60 v61 v62 v63 v64 v65 v66 v67 v68 v69 v70 v71 v72 v73 v74 v75 v76 v77 v78 v79 v80 v81 v82 v83 v84 v85 v86 v87 v88 v89 v90 v91 v92 v93 v94 v95 v96 : Value) (cur' : Array Value) (w' : World), Hid (Blk w' gw cur' 182) → Hid (cur'.size = 16) → Hid (win (words q) 0 cur') → Hid (Upd (fun k => k = gw) wo w') → Q0 (.exit 2) ⟨(u0 :: (.slice (some ⟨gb, k, none⟩) r cap) :: u2 :: u3 :: (.pointer (some ⟨gw, 0, none⟩)) :: u5 :: u6 :: u7 :: u8 :: u9 :: (.int .i64 16) :: v11 :: u12 :: u13 :: u14 :: u15 :: u16 :: u17 :: u18 :: u19 :: u20 :: u21 :: u22 :: u23 :: u24 :: u25 :: u26 :: u27 :: u28 :: u29 :: u30 :: u31 :: u32 :: u33 :: u34 :: u35 :: u36 :: u37 :: u38 :: u39 :: u40 :: u41 :: u42 :: u43 :: u44 :: u45 :: u46 :: u47 :: u48 :: u49 :: u50 :: u51 :: u52 :: u53 :: u54 :: u55 :: u56 :: u57 :: u58 :: u59 :: v60 :: v61 :: v62 :: v63 :: v64 :: v65 :: v66 :: v67 :: v68 :: v69 :: v70 :: v71 :: v72 :: v73 :: v74 :: v75 :: v76 :: v77 :: v78 :: v79 :: v80 :: v81 :: v82 :: v83 :: v84 :: v85 :: v86 :: v87 :: v88 :: v89 :: v90 :: v91 :: v92 :: v93 :: v94 :: v95 :: v96 :: u97 :: u98 :: u99 :: u100 :: u101 :: u102 :: u103 :: u104 :: u105 :: u106 :: u107 :: u108 :: u109 :: u110 :: u111 :: u112 :: u113 :: u114 :: u115 :: u116 :: u117 :: u118 :: u119 :: u120 :: u121 :: u122 :: u123 :: u124 :: u125 :: u126 :: u127 :: u128 :: u129 :: u130 :: u131 :: u132 :: u133 :: u134 :: u135 :: u136 :: u137 :: u138 :: u139 :: u140 :: u141 :: u142 :: u143 :: u144 :: u145 :: u146 :: u147 :: u148 :: u149 :: u150 :: u151 :: u152 :: u153 :: u154 :: u155 :: u156 :: u157 :: u158 :: u159 :: u160 :: u161 :: u162 :: u163 :: u164 :: u165 :: u166 :: u167 :: u168 :: u169 :: u170 :: u171 :: u172 :: u173 :: u174 :: u175 :: u176 :: u177 :: u178 :: u179 :: u180 :: u181 :: u182 :: u183 :: u184 :: u185 :: u186 :: u187 :: u188 :: u189 :: u190 :: u191 :: u192 :: u193 :: u194 :: u195 :: u196 :: u197 :: u198 :: u199 :: u200 :: u201 :: u202 :: u203 :: u204 :: u205 :: u206 :: u207 :: u208 :: u209 :: u210 :: u211 :: u212 :: u213 :: u214 :: u215 :: u216 :: u217 :: u218 :: u219 :: u220 :: u221 :: u222 :: u223 :: u224 :: u225 :: u226 :: u227 :: u228 :: u229 :: u230 :: u231 :: u232 :: u233 :: u234 :: u235 :: u236 :: u237 :: u238 :: u239 :: u240 :: u241 :: u242 :: u243 :: u244 :: u245 :: u246 :: u247 :: u248 :: u249 :: u250 :: u251 :: u252 :: u253 :: u254 :: u255 :: u256 :: u257 :: u258 :: u259 :: u260 :: u261 :: u262 :: u263 :: u264 :: u265 :: u266 :: u267 :: u268 :: u269 :: u270 :: u271 :: u272 :: u273 :: u274 :: u275 :: u276 :: u277 :: u278 :: u279 :: u280 :: u281 :: u282 :: u283 :: u284 :: u285 :: u286 :: u287 :: u288 :: u289 :: u290 :: u291 :: u292 :: u293 :: u294 :: u295 :: u296 :: u297 :: u298 :: u299 :: u300 :: u301 :: u302 :: u303 :: u304 :: u305 :: u306 :: u307 :: u308 :: u309 :: u310 :: u311 :: u312 :: u313 :: u314 :: u315 :: u316 :: u317 :: u318 :: u319 :: u320 :: u321 :: u322 :: u323 :: u324 :: u325 :: u326 :: u327 :: u328 :: u329 :: u330 :: u331 :: u332 :: u333 :: u334 :: u335 :: u336 :: u337 :: u338 :: u339 :: u340 :: u341 :: u342 :: u343 :: u344 :: u345 :: u346 :: u347 :: u348 :: u349 :: u350 :: u351 :: u352 :: u353 :: u354 :: u355 :: u356 :: u357 :: u358 :: u359 :: u360 :: u361 :: u362 :: u363 :: u364 :: u365 :: u366 :: u367 :: u368 :: u369 :: u370 :: u371 :: u372 :: u373 :: u374 :: u375 :: u376 :: u377 :: u378 :: u379 :: u380 :: u381 :: u382 :: u383 :: u384 :: u385 :: u386 :: u387 :: u388 :: u389 :: u390 :: u391 :: u392 :: u393 :: u394 :: u395 :: u396 :: []).toArray, []⟩ w') :
    Code.wp Tryz.prog (.loop (bgBody 1)) Q0 ⟨(u0 :: (.slice (some ⟨gb, k, none⟩) r cap) :: u2 :: u3 :: (.pointer (some ⟨gw, 0, none⟩)) :: u5 :: u6 :: u7 :: u8 :: u9 :: (.int .i64 0) :: u11 :: u12 :: u13 :: u14 :: u15 :: u16 :: u17 :: u18 :: u19 :: u20 :: u21 :: u22 :: u23 :: u24 :: u25 :: u26 :: u27 :: u28 :: u29 :: u30 :: u31 :: u32 :: u33 :: u34 :: u35 :: u36 :: u37 :: u38 :: u39 :: u40 :: u41 :: u42 :: u43 :: u44 :: u45 :: u46 :: u47 :: u48 :: u49 :: u50 :: u51 :: u52 :: u53 :: u54 :: u55 :: u56 :: u57 :: u58 :: u59 :: u60 :: u61 :: u62 :: u63 :: u64 :: u65 :: u66 :: u67 :: u68 :: u69 :: u70 :: u71 :: u72 :: u73 :: u74 :: u75 :: u76 :: u77 :: u78 :: u79 :: u80 :: u81 :: u82 :: u83 :: u84 :: u85 :: u86 :: u87 :: u88 :: u89 :: u90 :: u91 :: u92 :: u93 :: u94 :: u95 :: u96 :: u97 :: u98 :: u99 :: u100 :: u101 :: u102 :: u103 :: u104 :: u105 :: u106 :: u107 :: u108 :: u109 :: u110 :: u111 :: u112 :: u113 :: u114 :: u115 :: u116 :: u117 :: u118 :: u119 :: u120 :: u121 :: u122 :: u123 :: u124 :: u125 :: u126 :: u127 :: u128 :: u129 :: u130 :: u131 :: u132 :: u133 :: u134 :: u135 :: u136 :: u137 :: u138 :: u139 :: u140 :: u141 :: u142 :: u143 :: u144 :: u145 :: u146 :: u147 :: u148 :: u149 :: u150 :: u151 :: u152 :: u153 :: u154 :: u155 :: u156 :: u157 :: u158 :: u159 :: u160 :: u161 :: u162 :: u163 :: u164 :: u165 :: u166 :: u167 :: u168 :: u169 :: u170 :: u171 :: u172 :: u173 :: u174 :: u175 :: u176 :: u177 :: u178 :: u179 :: u180 :: u181 :: u182 :: u183 :: u184 :: u185 :: u186 :: u187 :: u188 :: u189 :: u190 :: u191 :: u192 :: u193 :: u194 :: u195 :: u196 :: u197 :: u198 :: u199 :: u200 :: u201 :: u202 :: u203 :: u204 :: u205 :: u206 :: u207 :: u208 :: u209 :: u210 :: u211 :: u212 :: u213 :: u214 :: u215 :: u216 :: u217 :: u218 :: u219 :: u220 :: u221 :: u222 :: u223 :: u224 :: u225 :: u226 :: u227 :: u228 :: u229 :: u230 :: u231 :: u232 :: u233 :: u234 :: u235 :: u236 :: u237 :: u238 :: u239 :: u240 :: u241 :: u242 :: u243 :: u244 :: u245 :: u246 :: u247 :: u248 :: u249 :: u250 :: u251 :: u252 :: u253 :: u254 :: u255 :: u256 :: u257 :: u258 :: u259 :: u260 :: u261 :: u262 :: u263 :: u264 :: u265 :: u266 :: u267 :: u268 :: u269 :: u270 :: u271 :: u272 :: u273 :: u274 :: u275 :: u276 :: u277 :: u278 :: u279 :: u280 :: u281 :: u282 :: u283 :: u284 :: u285 :: u286 :: u287 :: u288 :: u289 :: u290 :: u291 :: u292 :: u293 :: u294 :: u295 :: u296 :: u297 :: u298 :: u299 :: u300 :: u301 :: u302 :: u303 :: u304 :: u305 :: u306 :: u307 :: u308 :: u309 :: u310 :: u311 :: u312 :: u313 :: u314 :: u315 :: u316 :: u317 :: u318 :: u319 :: u320 :: u321 :: u322 :: u323 :: u324 :: u325 :: u326 :: u327 :: u328 :: u329 :: u330 :: u331 :: u332 :: u333 :: u334 :: u335 :: u336 :: u337 :: u338 :: u339 :: u340 :: u341 :: u342 :: u343 :: u344 :: u345 :: u346 :: u347 :: u348 :: u349 :: u350 :: u351 :: u352 :: u353 :: u354 :: u355 :: u356 :: u357 :: u358 :: u359 :: u360 :: u361 :: u362 :: u363 :: u364 :: u365 :: u366 :: u367 :: u368 :: u369 :: u370 :: u371 :: u372 :: u373 :: u374 :: u375 :: u376 :: u377 :: u378 :: u379 :: u380 :: u381 :: u382 :: u383 :: u384 :: u385 :: u386 :: u387 :: u388 :: u389 :: u390 :: u391 :: u392 :: u393 :: u394 :: u395 :: u396 :: []).toArray, []⟩ wo := by
  have HPo : Hid (Bytes wo gb k q) := hy
  have HRL : Hid (r = q.length) := hr
  have HBW : Hid (Blk wo gw cur 182) := hb
  have HCS : Hid (cur.size = 16) := hc
  have HM : Hid ((words q).length = 16) := words_length _
  have HMg : Hid (∀ i, i < 16 → (words q).getD i 0 = word q i) := words_get _
  have HEX := Lib.hid hexit
  clear hexit hy hr hb hc
  generalize words q = m at *
  conv => arg 2; arg 1; whnf
  go_loopw [10] (fun i wr => ∃ t : Nat, t ≤ 16 ∧ i = .int .i64 t ∧ ∃ cur, Blk wr gw cur 182 ∧ cur.size = 16 ∧ (∀ u, u < t → cur[u]? = some (vw (Wt m u))) ∧ Upd (fun k => k = gw) wo wr) (fun i _ => 16 - (intOf i).toNat)
  case atStart => exact ⟨0, by omega, rfl, cur, HBW.out, HCS.out, fun u hu => by omega, Upd.refl _ _⟩
  case round =>
    obtain ⟨t, ht, rfl, cur2, hb, hs, hf, hu⟩ := hrel
    have HB2 : Hid (Blk wr gw cur2 182) := hb
    have HS2 : Hid (cur2.size = 16) := hs
    have HF2 : Hid (∀ u, u < t → cur2[u]? = some (vw (Wt m u))) := hf
    have HU2 : Hid (Upd (fun k => k = gw) wo wr) := hu
    clear hb hs hf hu HBW HCS
    by_cases hlt : t < 16
    · have HPr : Hid (Bytes wr gb k q) := HPo.out.upd HU2.out hne
      obtain ⟨a0, ha0⟩ : ∃ a0, Hid (a0 = 4 * t) := ⟨_, rfl⟩
      obtain ⟨a1, ha1⟩ : ∃ a1, Hid (a1 = 4 * t + 1) := ⟨_, rfl⟩
      obtain ⟨a2, ha2⟩ : ∃ a2, Hid (a2 = 4 * t + 2) := ⟨_, rfl⟩
      obtain ⟨a3, ha3⟩ : ∃ a3, Hid (a3 = 4 * t + 3) := ⟨_, rfl⟩
      have b0 : a0 < q.length := by have := ha0.out; have := HRL.out; omega
      have b1 : a1 < q.length := by have := ha1.out; have := HRL.out; omega
      have b2 : a2 < q.length := by have := ha2.out; have := HRL.out; omega
      have b3 : a3 < q.length := by have := ha3.out; have := HRL.out; omega
      have d0 := HPr.out a0 b0
      have d1 := HPr.out a1 b1
      have d2 := HPr.out a2 b2
      have d3 := HPr.out a3 b3
      have HWt : Hid (Wt m t = q[a0].toUInt32 <<< 24 ||| q[a1].toUInt32 <<< 16 ||| q[a2].toUInt32 <<< 8 ||| q[a3].toUInt32) := by
        show _ = _
        rw [Wt_low HM.out t hlt, HMg.out t hlt]
        unfold word be32
        rw [← ha3.out, ← ha2.out, ← ha1.out, ← ha0.out]
        simp only [List.getD_eq_getElem?_getD, List.getElem?_eq_getElem b0, List.getElem?_eq_getElem b1, List.getElem?_eq_getElem b2, List.getElem?_eq_getElem b3, Option.getD_some]
      have e0 : (t : Int) * 4 = (a0 : Int) := by have := ha0.out; omega
      have e0' : (4 : Int) * t = (a0 : Int) := by have := ha0.out; omega
      have w1 : IntKind.i64.wrap ((a0 : Int) + 1) = (a1 : Int) := by rw [IntKind.wrap_i64]; have := ha0.out; have := ha1.out; omega
      have w2 : IntKind.i64.wrap ((a0 : Int) + 2) = (a2 : Int) := by rw [IntKind.wrap_i64]; have := ha0.out; have := ha2.out; omega
      have w3 : IntKind.i64.wrap ((a0 : Int) + 3) = (a3 : Int) := by rw [IntKind.wrap_i64]; have := ha0.out; have := ha3.out; omega
      have b0' : (a0 : Int) < (r : Int) := by have := HRL.out; omega
      have b1' : (a1 : Int) < (r : Int) := by have := HRL.out; omega
      have b2' : (a2 : Int) < (r : Int) := by have := HRL.out; omega
      have b3' : (a3 : Int) < (r : Int) := by have := HRL.out; omega
      have bt : (t : Int) < 16 := by omega
      obtain ⟨old, hold⟩ := HB2.out.some (j := t) (by rw [HS2.out]; exact hlt)
      have hfr := HB2.out.free t
      have hgwb : gw ≠ gb := fun e => hne e.symm
      generalize q[a0] = x0 at *
      generalize q[a1] = x1 at *
      generalize q[a2] = x2 at *
      generalize q[a3] = x3 at *
      clear b0 b1 b2 b3
      have HV : Hid (bits BinOp.or IntKind.u32 (bits BinOp.or IntKind.u32 (bits BinOp.or IntKind.u32 (I8 x0 % 4294967296 * 16777216 % 4294967296) (I8 x1 % 4294967296 * 65536 % 4294967296)) (I8 x2 % 4294967296 * 256 % 4294967296)) (I8 x3 % 4294967296) = I32 (x0.toUInt32 <<< 24 ||| x1.toUInt32 <<< 16 ||| x2.toUInt32 <<< 8 ||| x3.toUInt32)) := by
        show _ = _
        rw [I32_cvt, I32_cvt, I32_cvt, I32_cvt, I32_shl24, I32_shl16, I32_shl8, I32_or, I32_or, I32_or]
      go_wp2_with fail
      go_region_held3 (fun w' => w'.cell? ⟨gb, k + a0, none⟩ = some (vb x0) ∧ w'.cell? ⟨gb, k + a1, none⟩ = some (vb x1) ∧ w'.cell? ⟨gb, k + a2, none⟩ = some (vb x2) ∧ w'.cell? ⟨gb, k + a3, none⟩ = some (vb x3)) (first | go_keep) (fail)
      all_goals go_wp2
      all_goals go_roundw
      case rel =>
        rw [HV.out]
        exact ⟨t + 1, by omega, int_succ t, cur2.setIfInBounds t (vw (x0.toUInt32 <<< 24 ||| x1.toUInt32 <<< 16 ||| x2.toUInt32 <<< 8 ||| x3.toUInt32)), HB2.out.set t (vw (x0.toUInt32 <<< 24 ||| x1.toUInt32 <<< 16 ||| x2.toUInt32 <<< 8 ||| x3.toUInt32)), by simp [HS2.out], filled_next HS2.out hlt HF2.out _ (by rw [HWt.out]), (HU2.out.setCell (p := ⟨gw, t, none⟩) (fun _ => rfl) (vw (x0.toUInt32 <<< 24 ||| x1.toUInt32 <<< 16 ||| x2.toUInt32 <<< 8 ||| x3.toUInt32))).drew⟩
      case measure => simp [intOf]; omega
    · obtain rfl : t = 16 := by omega
      have HW0 : Hid (win m 0 cur2) := by
        intro u hu _
        have h16 : u < 16 := by omega
        rw [Nat.mod_eq_of_lt h16]; exact HF2.out u h16
      have HEX2 := HEX.out
      clear HEX HF2
      go_wp2
      exact HEX2 _ _ _ _ _ _ _ _ _ _ _ _ _ _ _ _ _ _ _ _ _ _ _ _ _ _ _ _ _ _ _ _ _ _ _ _ _ _ _ _ HB2 HS2 HW0 HU2
end Go.Proofs.YtpkipinamlbdoaaGreatDoor
namespace Go.Proofs.YtpkipinamlbdoaaGreatDoor
open Go Go.RowKit
attribute [local go_sem] I32_cvt I8_cvt I32_add I32_and I32_or I32_xor I8_xor I32_notm I32_shl8 I32_shl16 I32_shl24 I32_k1 I32_k2 I32_k3 I32_k4
set_option maxRecDepth 1000000 in
set_option maxHeartbeats 8000000 in
theorem bg_loop3 (m : List UInt32) (hm : m.length = 16) (h s : S5) (gw : Nat) (wo w : World) (cur : Array Value) (Q0 : Exit → Act → World → Prop) (u0 u1 u2 u3 u5 u6 u7 u8 u9 u10 u11 u18 u19 u20 u21 u22 u23 u24 u25 u26 u27 u28 u29 u30 u31 u32 u33 u34 u35 u36 u37 u38 u39 u40 u41 u42 u43 u44 u45 u46 u47 u48 u49 u50 u51 u52 u53 u54 u55 u56 u57 u58 u59 u60 u61 u62 u63 u64 u65 u66 u67 u68 u69 u70 u71 u72 u73 u74 u75 u76 u77 u78 u79 u80 u81 u82 u83 u84 u85 u86 u87 u88 u89 u90 u91 u92 u93 u94 u95 u96 u97 u98 u99 u100 u101 u102 u103 u104 u105 u106 u107 u108 u109 u110 u111 u112 u113 u114 u115 u116 u117 u118 u119 u120 u121 u122 u123 u124 u125 u126 u127 u128 u129 u130 u131 u132 u133 u134 u135 u136 u137 u138 u139 u140 u141 u142 u143 u144 u145 u146 u147 u148 u149 u150 u151 u152 u153 u154 u155 u156 u157 u158 u159 u160 u161 u162 u163 u164 u165 u166 u167 u168 u169 u170 u171 u172 u173 u174 u175 u176 u177 u178 u179 u180 u181 u182 u183 u184 u185 u186 u187 u188 u189 u190 u191 u192 u193 u194 u195 u196 u197 u198 u199 u200 u201 u202 u203 u204 u205 u206 u207 u208 u209 u210 u211 u212 u213 u214 u215 u216 u217 u218 u219 u220 u221 u222 u223 u224 u225 u226 u227 u228 u229 u230 u231 u232 u233 u234 u235 u236 u237 u238 u239 u240 u241 u242 u243 u244 u245 u246 u247 u248 u249 u250 u251 u252 u253 u254 u255 u256 u257 u258 u259 u260 u261 u262 u263 u264 u265 u266 u267 u268 u269 u270 u271 u272 u273 u274 u275 u276 u277 u278 u279 u280 u281 u282 u283 u284 u285 u286 u287 u288 u289 u290 u291 u292 u293 u294 u295 u296 u297 u298 u299 u300 u301 u302 u303 u304 u305 u306 u307 u308 u309 u310 u311 u312 u313 u314 u315 u316 u317 u318 u319 u320 u321 u322 u323 u324 u325 u326 u327 u328 u329 u330 u331 u332 u333 u334 u335 u336 u337 u338 u339 u340 u341 u342 u343 u344 u345 u346 u347 u348 u349 u350 u351 u352 u353 u354 u355 u356 u357 u358 u359 u360 u361 u362 u363 u364 u365 u366 u367 u368 u369 u370 u371 u372 u373 u374 u375 u376 u377 u378 u379 u380 u381 u382 u383 u384 u385 u386 u387 u388 u389 u390 u391 u392 u393 u394 u395 u396 : Value)
    (hs : s = rounds m 0 h) (hb : Blk w gw cur 182) (hc : cur.size = 16) (hw : win m 0 cur) (hu : Upd (fun k => k = gw) wo w)
    (hexit : ∀ (v18 v19 v102 v103 v104 v105 v106 v107 v108 v109 v110 v111 v112 v113 v114 v115 v116 v117 v118 v119 v120 v121 v122 v123 v124 v125 v126 v127 v128 v129 v130 v131 : Value) (s' : S5) (cur' : Array Value) (w' : World), Hid (s' = rounds m 16 h) → Hid (Blk w' gw cur' 182) → Hid (cur'.size = 16) → Hid (win m 16 cur') → Hid (Upd (fun k => k = gw) wo w') → Q0 (.exit 4) ⟨(u0 :: u1 :: u2 :: u3 :: (.pointer (some ⟨gw, 0, none⟩)) :: u5 :: u6 :: u7 :: u8 :: u9 :: u10 :: u11 :: (vw s'.a) :: (vw s'.b) :: (vw s'.c) :: (vw s'.d) :: (vw s'.e) :: (.int .i64 16) :: v18 :: v19 :: u20 :: u21 :: u22 :: u23 :: u24 :: u25 :: u26 :: u27 :: u28 :: u29 :: u30 :: u31 :: u32 :: u33 :: u34 :: u35 :: u36 :: u37 :: u38 :: u39 :: u40 :: u41 :: u42 :: u43 :: u44 :: u45 :: u46 :: u47 :: u48 :: u49 :: u50 :: u51 :: u52 :: u53 :: u54 :: u55 :: u56 :: u57 :: u58 :: u59 :: u60 :: u61 :: u62 :: u63 :: u64 :: u65 :: u66 :: u67 :: u68 :: u69 :: u70 :: u71 :: u72 :: u73 :: u74 :: u75 :: u76 :: u77 :: u78 :: u79 :: u80 :: u81 :: u82 :: u83 :: u84 :: u85 :: u86 :: u87 :: u88 :: u89 :: u90 :: u91 :: u92 :: u93 :: u94 :: u95 :: u96 :: u97 :: u98 :: u99 :: u100 :: u101 :: v102 :: v103 :: v104 :: v105 :: v106 :: v107 :: v108 :: v109 :: v110 :: v111 :: v112 :: v113 :: v114 :: v115 :: v116 :: v117 :: v118 :: v119 :: v120 :: v121 :: v122 :: v123 :: v124 :: v125 :: v126 :: v127 :: v128 :: v129 :: v130 :: v131 :: u132 :: u133 :: u134 :: u135 :: u136 :: u137 :: u138 :: u139 :: u140 :: u141 :: u142 :: u143 :: u144 :: u145 :: u146 :: u147 :: u148 :: u149 :: u150 :: u151 :: u152 :: u153 :: u154 :: u155 :: u156 :: u157 :: u158 :: u159 :: u160 :: u161 :: u162 :: u163 :: u164 :: u165 :: u166 :: u167 :: u168 :: u169 :: u170 :: u171 :: u172 :: u173 :: u174 :: u175 :: u176 :: u177 :: u178 :: u179 :: u180 :: u181 :: u182 :: u183 :: u184 :: u185 :: u186 :: u187 :: u188 :: u189 :: u190 :: u191 :: u192 :: u193 :: u194 :: u195 :: u196 :: u197 :: u198 :: u199 :: u200 :: u201 :: u202 :: u203 :: u204 :: u205 :: u206 :: u207 :: u208 :: u209 :: u210 :: u211 :: u212 :: u213 :: u214 :: u215 :: u216 :: u217 :: u218 :: u219 :: u220 :: u221 :: u222 :: u223 :: u224 :: u225 :: u226 :: u227 :: u228 :: u229 :: u230 :: u231 :: u232 :: u233 :: u234 :: u235 :: u236 :: u237 :: u238 :: u239 :: u240 :: u241 :: u242 :: u243 :: u244 :: u245 :: u246 :: u247 :: u248 :: u249 :: u250 :: u251 :: u252 :: u253 :: u254 :: u255 :: u256 :: u257 :: u258 :: u259 :: u260 :: u261 :: u262 :: u263 :: u264 :: u265 :: u266 :: u267 :: u268 :: u269 :: u270 :: u271 :: u272 :: u273 :: u274 :: u275 :: u276 :: u277 :: u278 :: u279 :: u280 :: u281 :: u282 :: u283 :: u284 :: u285 :: u286 :: u287 :: u288 :: u289 :: u290 :: u291 :: u292 :: u293 :: u294 :: u295 :: u296 :: u297 :: u298 :: u299 :: u300 :: u301 :: u302 :: u303 :: u304 :: u305 :: u306 :: u307 :: u308 :: u309 :: u310 :: u311 :: u312 :: u313 :: u314 :: u315 :: u316 :: u317 :: u318 :: u319 :: u320 :: u321 :: u322 :: u323 :: u324 :: u325 :: u326 :: u327 :: u328 :: u329 :: u330 :: u331 :: u332 :: u333 :: u334 :: u335 :: u336 :: u337 :: u338 :: u339 :: u340 :: u341 :: u342 :: u343 :: u344 :: u345 :: u346 :: u347 :: u348 :: u349 :: u350 :: u351 :: u352 :: u353 :: u354 :: u355 :: u356 :: u357 :: u358 :: u359 :: u360 :: u361 :: u362 :: u363 :: u364 :: u365 :: u366 :: u367 :: u368 :: u369 :: u370 :: u371 :: u372 :: u373 :: u374 :: u375 :: u376 :: u377 :: u378 :: u379 :: u380 :: u381 :: u382 :: u383 :: u384 :: u385 :: u386 :: u387 :: u388 :: u389 :: u390 :: u391 :: u392 :: u393 :: u394 :: u395 :: u396 :: []).toArray, []⟩ w') :
    Code.wp Tryz.prog (.loop (bgBody 2)) Q0 ⟨(u0 :: u1 :: u2 :: u3 :: (.pointer (some ⟨gw, 0, none⟩)) :: u5 :: u6 :: u7 :: u8 :: u9 :: u10 :: u11 :: (vw s.a) :: (vw s.b) :: (vw s.c) :: (vw s.d) :: (vw s.e) :: (.int .i64 0) :: u18 :: u19 :: u20 :: u21 :: u22 :: u23 :: u24 :: u25 :: u26 :: u27 :: u28 :: u29 :: u30 :: u31 :: u32 :: u33 :: u34 :: u35 :: u36 :: u37 :: u38 :: u39 :: u40 :: u41 :: u42 :: u43 :: u44 :: u45 :: u46 :: u47 :: u48 :: u49 :: u50 :: u51 :: u52 :: u53 :: u54 :: u55 :: u56 :: u57 :: u58 :: u59 :: u60 :: u61 :: u62 :: u63 :: u64 :: u65 :: u66 :: u67 :: u68 :: u69 :: u70 :: u71 :: u72 :: u73 :: u74 :: u75 :: u76 :: u77 :: u78 :: u79 :: u80 :: u81 :: u82 :: u83 :: u84 :: u85 :: u86 :: u87 :: u88 :: u89 :: u90 :: u91 :: u92 :: u93 :: u94 :: u95 :: u96 :: u97 :: u98 :: u99 :: u100 :: u101 :: u102 :: u103 :: u104 :: u105 :: u106 :: u107 :: u108 :: u109 :: u110 :: u111 :: u112 :: u113 :: u114 :: u115 :: u116 :: u117 :: u118 :: u119 :: u120 :: u121 :: u122 :: u123 :: u124 :: u125 :: u126 :: u127 :: u128 :: u129 :: u130 :: u131 :: u132 :: u133 :: u134 :: u135 :: u136 :: u137 :: u138 :: u139 :: u140 :: u141 :: u142 :: u143 :: u144 :: u145 :: u146 :: u147 :: u148 :: u149 :: u150 :: u151 :: u152 :: u153 :: u154 :: u155 :: u156 :: u157 :: u158 :: u159 :: u160 :: u161 :: u162 :: u163 :: u164 :: u165 :: u166 :: u167 :: u168 :: u169 :: u170 :: u171 :: u172 :: u173 :: u174 :: u175 :: u176 :: u177 :: u178 :: u179 :: u180 :: u181 :: u182 :: u183 :: u184 :: u185 :: u186 :: u187 :: u188 :: u189 :: u190 :: u191 :: u192 :: u193 :: u194 :: u195 :: u196 :: u197 :: u198 :: u199 :: u200 :: u201 :: u202 :: u203 :: u204 :: u205 :: u206 :: u207 :: u208 :: u209 :: u210 :: u211 :: u212 :: u213 :: u214 :: u215 :: u216 :: u217 :: u218 :: u219 :: u220 :: u221 :: u222 :: u223 :: u224 :: u225 :: u226 :: u227 :: u228 :: u229 :: u230 :: u231 :: u232 :: u233 :: u234 :: u235 :: u236 :: u237 :: u238 :: u239 :: u240 :: u241 :: u242 :: u243 :: u244 :: u245 :: u246 :: u247 :: u248 :: u249 :: u250 :: u251 :: u252 :: u253 :: u254 :: u255 :: u256 :: u257 :: u258 :: u259 :: u260 :: u261 :: u262 :: u263 :: u264 :: u265 :: u266 :: u267 :: u268 :: u269 :: u270 :: u271 :: u272 :: u273 :: u274 :: u275 :: u276 :: u277 :: u278 :: u279 :: u280 :: u281 :: u282 :: u283 :: u284 :: u285 :: u286 :: u287 :: u288 :: u289 :: u290 :: u291 :: u292 :: u293 :: u294 :: u295 :: u296 :: u297 :: u298 :: u299 :: u300 :: u301 :: u302 :: u303 :: u304 :: u305 :: u306 :: u307 :: u308 :: u309 :: u310 :: u311 :: u312 :: u313 :: u314 :: u315 :: u316 :: u317 :: u318 :: u319 :: u320 :: u321 :: u322 :: u323 :: u324 :: u325 :: u326 :: u327 :: u328 :: u329 :: u330 :: u331 :: u332 :: u333 :: u334 :: u335 :: u336 :: u337 :: u338 :: u339 :: u340 :: u341 :: u342 :: u343 :: u344 :: u345 :: u346 :: u347 :: u348 :: u349 :: u350 :: u351 :: u352 :: u353 :: u354 :: u355 :: u356 :: u357 :: u358 :: u359 :: u360 :: u361 :: u362 :: u363 :: u364 :: u365 :: u366 :: u367 :: u368 :: u369 :: u370 :: u371 :: u372 :: u373 :: u374 :: u375 :: u376 :: u377 :: u378 :: u379 :: u380 :: u381 :: u382 :: u383 :: u384 :: u385 :: u386 :: u387 :: u388 :: u389 :: u390 :: u391 :: u392 :: u393 :: u394 :: u395 :: u396 :: []).toArray, []⟩ w := by
  have HM : Hid (m.length = 16) := hm
  have HS0 : Hid (bgInv m h gw wo 0 16 (vw s.a) (vw s.b) (vw s.c) (vw s.d) (vw s.e) (.int .i64 0) w) := bg_start (s := s) 0 16 (by omega) hs hb hc hw hu
  have HEX := Lib.hid hexit
  clear hexit hm hs hb hc hw hu
  conv => arg 2; arg 1; whnf
  go_loopw [12, 13, 14, 15, 16, 17] (fun a b c d e i wr => bgInv m h gw wo 0 16 a b c d e i wr) (fun _ _ _ _ _ i _ => 16 - (intOf i).toNat)
  case atStart => exact HS0.out
  case round =>
    clear HS0
    obtain ⟨t, s, cur3, hlo, hhi, rfl, rfl, rfl, rfl, rfl, rfl, HSR, hb, hs, hwn, hu⟩ := hrel
    have HB : Hid (Blk wr gw cur3 182) := hb
    have HS : Hid (cur3.size = 16) := hs
    have HWN : Hid (win m t cur3) := hwn
    have HU : Hid (Upd (fun k => k = gw) wo wr) := hu
    clear hb hs hwn hu
    by_cases hlt : t < 16
    · obtain ⟨ai, hai⟩ : ∃ ai, Hid (ai = t % 16) := ⟨_, rfl⟩
      have n15 : bits .and .i64 (t : Int) 15 = (ai : Int) := by rw [and15 t (by omega), hai.out]
      have hai16 : (ai : Int) < 16 := by have := hai.out; omega
      have cx : wr.cell? ⟨gw, ai, none⟩ = some (vw (Wt m t)) := by rw [HB.out.cell, hai.out]; exact HWN.out t (by omega) (by omega)
      generalize hxe : Wt m t = x at cx
      have HX : Hid (Wt m t = x) := hxe
      clear hxe
      go_wp2
      go_quiet ((go_at_call 117; exact Calls.quiet_of_same (rl5 _ _)))
      go_wp2_with (first | (go_at_call 117; refine (rl30 _ _).mono ?_; rintro e w' ⟨rfl, rfl⟩))
      go_roundw
      case rel => exact ⟨t + 1, ⟨rot5 s.a + (s.b &&& s.c ||| ~~~s.b &&& s.d) + s.e + x + 0x5a827999, s.a, rot30 s.b, s.c, s.d⟩, cur3, by omega, by omega, int_succ t, rfl, rfl, rfl, rfl, rfl, rounds_next HSR.out HX.out.symm (rnd_mk (ff1 (by omega) _ _ _) (kk1 (by omega))), HB.out, HS.out, HWN.out.low hlt, HU.out.drewN _⟩
      case measure => simp [intOf]; omega
    · obtain rfl : t = 16 := by omega
      have HEX2 := HEX.out
      clear HEX
      go_wp2
      exact HEX2 _ _ _ _ _ _ _ _ _ _ _ _ _ _ _ _ _ _ _ _ _ _ _ _ _ _ _ _ _ _ _ _ _ _ _ HSR HB HS HWN HU
end Go.Proofs.YtpkipinamlbdoaaGreatDoor
namespace Go.Proofs.YtpkipinamlbdoaaGreatDoor
open Go Go.RowKit
attribute [local go_sem] I32_cvt I8_cvt I32_add I32_and I32_or I32_xor I8_xor I32_notm I32_shl8 I32_shl16 I32_shl24 I32_k1 I32_k2 I32_k3 I32_k4
set_option maxRecDepth 1000000 in
set_option maxHeartbeats 8000000 in
theorem bg_loop4 (m : List UInt32) (hm : m.length = 16) (h s : S5) (gw : Nat) (wo w : World) (cur : Array Value) (Q0 : Exit → Act → World → Prop) (u0 u1 u2 u3 u5 u6 u7 u8 u9 u10 u11 u18 u19 u20 u21 u22 u23 u24 u25 u26 u27 u28 u29 u30 u31 u32 u33 u34 u35 u36 u37 u38 u39 u40 u41 u42 u43 u44 u45 u46 u47 u48 u49 u50 u51 u52 u53 u54 u55 u56 u57 u58 u59 u60 u61 u62 u63 u64 u65 u66 u67 u68 u69 u70 u71 u72 u73 u74 u75 u76 u77 u78 u79 u80 u81 u82 u83 u84 u85 u86 u87 u88 u89 u90 u91 u92 u93 u94 u95 u96 u97 u98 u99 u100 u101 u102 u103 u104 u105 u106 u107 u108 u109 u110 u111 u112 u113 u114 u115 u116 u117 u118 u119 u120 u121 u122 u123 u124 u125 u126 u127 u128 u129 u130 u131 u132 u133 u134 u135 u136 u137 u138 u139 u140 u141 u142 u143 u144 u145 u146 u147 u148 u149 u150 u151 u152 u153 u154 u155 u156 u157 u158 u159 u160 u161 u162 u163 u164 u165 u166 u167 u168 u169 u170 u171 u172 u173 u174 u175 u176 u177 u178 u179 u180 u181 u182 u183 u184 u185 u186 u187 u188 u189 u190 u191 u192 u193 u194 u195 u196 u197 u198 u199 u200 u201 u202 u203 u204 u205 u206 u207 u208 u209 u210 u211 u212 u213 u214 u215 u216 u217 u218 u219 u220 u221 u222 u223 u224 u225 u226 u227 u228 u229 u230 u231 u232 u233 u234 u235 u236 u237 u238 u239 u240 u241 u242 u243 u244 u245 u246 u247 u248 u249 u250 u251 u252 u253 u254 u255 u256 u257 u258 u259 u260 u261 u262 u263 u264 u265 u266 u267 u268 u269 u270 u271 u272 u273 u274 u275 u276 u277 u278 u279 u280 u281 u282 u283 u284 u285 u286 u287 u288 u289 u290 u291 u292 u293 u294 u295 u296 u297 u298 u299 u300 u301 u302 u303 u304 u305 u306 u307 u308 u309 u310 u311 u312 u313 u314 u315 u316 u317 u318 u319 u320 u321 u322 u323 u324 u325 u326 u327 u328 u329 u330 u331 u332 u333 u334 u335 u336 u337 u338 u339 u340 u341 u342 u343 u344 u345 u346 u347 u348 u349 u350 u351 u352 u353 u354 u355 u356 u357 u358 u359 u360 u361 u362 u363 u364 u365 u366 u367 u368 u369 u370 u371 u372 u373 u374 u375 u376 u377 u378 u379 u380 u381 u382 u383 u384 u385 u386 u387 u388 u389 u390 u391 u392 u393 u394 u395 u396 : Value)
    (hs : s = rounds m 16 h) (hb : Blk w gw cur 182) (hc : cur.size = 16) (hw : win m 16 cur) (hu : Upd (fun k => k = gw) wo w)
    (hexit : ∀ (v20 v21 v22 v132 v133 v134 v135 v136 v137 v138 v139 v140 v141 v142 v143 v144 v145 v146 v147 v148 v149 v150 v151 v152 v153 v154 v155 v156 v157 v158 v159 v160 v161 v162 v163 v164 v165 v166 v167 v168 v169 v170 v171 v172 v173 v174 v175 v176 v177 v178 v179 v180 v181 v182 v183 v184 v185 v186 v187 v188 : Value) (s' : S5) (cur' : Array Value) (w' : World), Hid (s' = rounds m 20 h) → Hid (Blk w' gw cur' 182) → Hid (cur'.size = 16) → Hid (win m 20 cur') → Hid (Upd (fun k => k = gw) wo w') → Q0 (.exit 6) ⟨(u0 :: u1 :: u2 :: u3 :: (.pointer (some ⟨gw, 0, none⟩)) :: u5 :: u6 :: u7 :: u8 :: u9 :: u10 :: u11 :: (vw s'.a) :: (vw s'.b) :: (vw s'.c) :: (vw s'.d) :: (vw s'.e) :: (.int .i64 20) :: u18 :: u19 :: v20 :: v21 :: v22 :: u23 :: u24 :: u25 :: u26 :: u27 :: u28 :: u29 :: u30 :: u31 :: u32 :: u33 :: u34 :: u35 :: u36 :: u37 :: u38 :: u39 :: u40 :: u41 :: u42 :: u43 :: u44 :: u45 :: u46 :: u47 :: u48 :: u49 :: u50 :: u51 :: u52 :: u53 :: u54 :: u55 :: u56 :: u57 :: u58 :: u59 :: u60 :: u61 :: u62 :: u63 :: u64 :: u65 :: u66 :: u67 :: u68 :: u69 :: u70 :: u71 :: u72 :: u73 :: u74 :: u75 :: u76 :: u77 :: u78 :: u79 :: u80 :: u81 :: u82 :: u83 :: u84 :: u85 :: u86 :: u87 :: u88 :: u89 :: u90 :: u91 :: u92 :: u93 :: u94 :: u95 :: u96 :: u97 :: u98 :: u99 :: u100 :: u101 :: u102 :: u103 :: u104 :: u105 :: u106 :: u107 :: u108 :: u109 :: u110 :: u111 :: u112 :: u113 :: u114 :: u115 :: u116 :: u117 :: u118 :: u119 :: u120 :: u121 :: u122 :: u123 :: u124 :: u125 :: u126 :: u127 :: u128 :: u129 :: u130 :: u131 :: v132 :: v133 :: v134 :: v135 :: v136 :: v137 :: v138 :: v139 :: v140 :: v141 :: v142 :: v143 :: v144 :: v145 :: v146 :: v147 :: v148 :: v149 :: v150 :: v151 :: v152 :: v153 :: v154 :: v155 :: v156 :: v157 :: v158 :: v159 :: v160 :: v161 :: v162 :: v163 :: v164 :: v165 :: v166 :: v167 :: v168 :: v169 :: v170 :: v171 :: v172 :: v173 :: v174 :: v175 :: v176 :: v177 :: v178 :: v179 :: v180 :: v181 :: v182 :: v183 :: v184 :: v185 :: v186 :: v187 :: v188 :: u189 :: u190 :: u191 :: u192 :: u193 :: u194 :: u195 :: u196 :: u197 :: u198 :: u199 :: u200 :: u201 :: u202 :: u203 :: u204 :: u205 :: u206 :: u207 :: u208 :: u209 :: u210 :: u211 :: u212 :: u213 :: u214 :: u215 :: u216 :: u217 :: u218 :: u219 :: u220 :: u221 :: u222 :: u223 :: u224 :: u225 :: u226 :: u227 :: u228 :: u229 :: u230 :: u231 :: u232 :: u233 :: u234 :: u235 :: u236 :: u237 :: u238 :: u239 :: u240 :: u241 :: u242 :: u243 :: u244 :: u245 :: u246 :: u247 :: u248 :: u249 :: u250 :: u251 :: u252 :: u253 :: u254 :: u255 :: u256 :: u257 :: u258 :: u259 :: u260 :: u261 :: u262 :: u263 :: u264 :: u265 :: u266 :: u267 :: u268 :: u269 :: u270 :: u271 :: u272 :: u273 :: u274 :: u275 :: u276 :: u277 :: u278 :: u279 :: u280 :: u281 :: u282 :: u283 :: u284 :: u285 :: u286 :: u287 :: u288 :: u289 :: u290 :: u291 :: u292 :: u293 :: u294 :: u295 :: u296 :: u297 :: u298 :: u299 :: u300 :: u301 :: u302 :: u303 :: u304 :: u305 :: u306 :: u307 :: u308 :: u309 :: u310 :: u311 :: u312 :: u313 :: u314 :: u315 :: u316 :: u317 :: u318 :: u319 :: u320 :: u321 :: u322 :: u323 :: u324 :: u325 :: u326 :: u327 :: u328 :: u329 :: u330 :: u331 :: u332 :: u333 :: u334 :: u335 :: u336 :: u337 :: u338 :: u339 :: u340 :: u341 :: u342 :: u343 :: u344 :: u345 :: u346 :: u347 :: u348 :: u349 :: u350 :: u351 :: u352 :: u353 :: u354 :: u355 :: u356 :: u357 :: u358 :: u359 :: u360 :: u361 :: u362 :: u363 :: u364 :: u365 :: u366 :: u367 :: u368 :: u369 :: u370 :: u371 :: u372 :: u373 :: u374 :: u375 :: u376 :: u377 :: u378 :: u379 :: u380 :: u381 :: u382 :: u383 :: u384 :: u385 :: u386 :: u387 :: u388 :: u389 :: u390 :: u391 :: u392 :: u393 :: u394 :: u395 :: u396 :: []).toArray, []⟩ w') :
    Code.wp Tryz.prog (.loop (bgBody 3)) Q0 ⟨(u0 :: u1 :: u2 :: u3 :: (.pointer (some ⟨gw, 0, none⟩)) :: u5 :: u6 :: u7 :: u8 :: u9 :: u10 :: u11 :: (vw s.a) :: (vw s.b) :: (vw s.c) :: (vw s.d) :: (vw s.e) :: (.int .i64 16) :: u18 :: u19 :: u20 :: u21 :: u22 :: u23 :: u24 :: u25 :: u26 :: u27 :: u28 :: u29 :: u30 :: u31 :: u32 :: u33 :: u34 :: u35 :: u36 :: u37 :: u38 :: u39 :: u40 :: u41 :: u42 :: u43 :: u44 :: u45 :: u46 :: u47 :: u48 :: u49 :: u50 :: u51 :: u52 :: u53 :: u54 :: u55 :: u56 :: u57 :: u58 :: u59 :: u60 :: u61 :: u62 :: u63 :: u64 :: u65 :: u66 :: u67 :: u68 :: u69 :: u70 :: u71 :: u72 :: u73 :: u74 :: u75 :: u76 :: u77 :: u78 :: u79 :: u80 :: u81 :: u82 :: u83 :: u84 :: u85 :: u86 :: u87 :: u88 :: u89 :: u90 :: u91 :: u92 :: u93 :: u94 :: u95 :: u96 :: u97 :: u98 :: u99 :: u100 :: u101 :: u102 :: u103 :: u104 :: u105 :: u106 :: u107 :: u108 :: u109 :: u110 :: u111 :: u112 :: u113 :: u114 :: u115 :: u116 :: u117 :: u118 :: u119 :: u120 :: u121 :: u122 :: u123 :: u124 :: u125 :: u126 :: u127 :: u128 :: u129 :: u130 :: u131 :: u132 :: u133 :: u134 :: u135 :: u136 :: u137 :: u138 :: u139 :: u140 :: u141 :: u142 :: u143 :: u144 :: u145 :: u146 :: u147 :: u148 :: u149 :: u150 :: u151 :: u152 :: u153 :: u154 :: u155 :: u156 :: u157 :: u158 :: u159 :: u160 :: u161 :: u162 :: u163 :: u164 :: u165 :: u166 :: u167 :: u168 :: u169 :: u170 :: u171 :: u172 :: u173 :: u174 :: u175 :: u176 :: u177 :: u178 :: u179 :: u180 :: u181 :: u182 :: u183 :: u184 :: u185 :: u186 :: u187 :: u188 :: u189 :: u190 :: u191 :: u192 :: u193 :: u194 :: u195 :: u196 :: u197 :: u198 :: u199 :: u200 :: u201 :: u202 :: u203 :: u204 :: u205 :: u206 :: u207 :: u208 :: u209 :: u210 :: u211 :: u212 :: u213 :: u214 :: u215 :: u216 :: u217 :: u218 :: u219 :: u220 :: u221 :: u222 :: u223 :: u224 :: u225 :: u226 :: u227 :: u228 :: u229 :: u230 :: u231 :: u232 :: u233 :: u234 :: u235 :: u236 :: u237 :: u238 :: u239 :: u240 :: u241 :: u242 :: u243 :: u244 :: u245 :: u246 :: u247 :: u248 :: u249 :: u250 :: u251 :: u252 :: u253 :: u254 :: u255 :: u256 :: u257 :: u258 :: u259 :: u260 :: u261 :: u262 :: u263 :: u264 :: u265 :: u266 :: u267 :: u268 :: u269 :: u270 :: u271 :: u272 :: u273 :: u274 :: u275 :: u276 :: u277 :: u278 :: u279 :: u280 :: u281 :: u282 :: u283 :: u284 :: u285 :: u286 :: u287 :: u288 :: u289 :: u290 :: u291 :: u292 :: u293 :: u294 :: u295 :: u296 :: u297 :: u298 :: u299 :: u300 :: u301 :: u302 :: u303 :: u304 :: u305 :: u306 :: u307 :: u308 :: u309 :: u310 :: u311 :: u312 :: u313 :: u314 :: u315 :: u316 :: u317 :: u318 :: u319 :: u320 :: u321 :: u322 :: u323 :: u324 :: u325 :: u326 :: u327 :: u328 :: u329 :: u330 :: u331 :: u332 :: u333 :: u334 :: u335 :: u336 :: u337 :: u338 :: u339 :: u340 :: u341 :: u342 :: u343 :: u344 :: u345 :: u346 :: u347 :: u348 :: u349 :: u350 :: u351 :: u352 :: u353 :: u354 :: u355 :: u356 :: u357 :: u358 :: u359 :: u360 :: u361 :: u362 :: u363 :: u364 :: u365 :: u366 :: u367 :: u368 :: u369 :: u370 :: u371 :: u372 :: u373 :: u374 :: u375 :: u376 :: u377 :: u378 :: u379 :: u380 :: u381 :: u382 :: u383 :: u384 :: u385 :: u386 :: u387 :: u388 :: u389 :: u390 :: u391 :: u392 :: u393 :: u394 :: u395 :: u396 :: []).toArray, []⟩ w := by
  have HM : Hid (m.length = 16) := hm
  have HS0 : Hid (bgInv m h gw wo 16 20 (vw s.a) (vw s.b) (vw s.c) (vw s.d) (vw s.e) (.int .i64 16) w) := bg_start (s := s) 16 20 (by omega) hs hb hc hw hu
  have HEX := Lib.hid hexit
  clear hexit hm hs hb hc hw hu
  conv => arg 2; arg 1; whnf
  go_loopw [12, 13, 14, 15, 16, 17] (fun a b c d e i wr => bgInv m h gw wo 16 20 a b c d e i wr) (fun _ _ _ _ _ i _ => 20 - (intOf i).toNat)
  case atStart => exact HS0.out
  case round =>
    clear HS0
    obtain ⟨t, s, cur3, hlo, hhi, rfl, rfl, rfl, rfl, rfl, rfl, HSR, hb, hs, hwn, hu⟩ := hrel
    have HB : Hid (Blk wr gw cur3 182) := hb
    have HS : Hid (cur3.size = 16) := hs
    have HWN : Hid (win m t cur3) := hwn
    have HU : Hid (Upd (fun k => k = gw) wo wr) := hu
    clear hb hs hwn hu
    by_cases hlt : t < 20
    · obtain ⟨u16, h16⟩ : ∃ u, Hid (t = u + 16) := ⟨t - 16, by show _ = _; omega⟩
      obtain ⟨u3, h3⟩ : ∃ u, Hid (u = u16 + 13) := ⟨_, rfl⟩
      obtain ⟨u8, h8⟩ : ∃ u, Hid (u = u16 + 8) := ⟨_, rfl⟩
      obtain ⟨u14, h14⟩ : ∃ u, Hid (u = u16 + 2) := ⟨_, rfl⟩
      obtain ⟨ai, hai⟩ : ∃ ai, Hid (ai = t % 16) := ⟨_, rfl⟩
      obtain ⟨i3, hi3⟩ : ∃ ai, Hid (ai = u3 % 16) := ⟨_, rfl⟩
      obtain ⟨i8, hi8⟩ : ∃ ai, Hid (ai = u8 % 16) := ⟨_, rfl⟩
      obtain ⟨i14, hi14⟩ : ∃ ai, Hid (ai = u14 % 16) := ⟨_, rfl⟩
      have HWt : Hid (Wt m t = rot1 (Wt m u3 ^^^ Wt m u8 ^^^ Wt m u14 ^^^ Wt m u16)) := by
        show _ = _; rw [h16.out, h3.out, h8.out, h14.out]; exact Wt_high HM.out u16
      have n15 : bits .and .i64 (t : Int) 15 = (ai : Int) := by rw [and15 t (by omega), hai.out]
      have v3 : bits .and .i64 (u3 : Int) 15 = (i3 : Int) := by rw [and15 u3 (by have := h3.out; have := h16.out; omega), hi3.out]
      have v8 : bits .and .i64 (u8 : Int) 15 = (i8 : Int) := by rw [and15 u8 (by have := h8.out; have := h16.out; omega), hi8.out]
      have v14 : bits .and .i64 (u14 : Int) 15 = (i14 : Int) := by rw [and15 u14 (by have := h14.out; have := h16.out; omega), hi14.out]
      have w3 : IntKind.i64.wrap ((t : Int) - 3) = (u3 : Int) := by rw [IntKind.wrap_i64]; have := h3.out; have := h16.out; omega
      have w8 : IntKind.i64.wrap ((t : Int) - 8) = (u8 : Int) := by rw [IntKind.wrap_i64]; have := h8.out; have := h16.out; omega
      have w14 : IntKind.i64.wrap ((t : Int) - 14) = (u14 : Int) := by rw [IntKind.wrap_i64]; have := h14.out; have := h16.out; omega
      have ba : (ai : Int) < 16 := by have := hai.out; omega
      have b3 : (i3 : Int) < 16 := by have := hi3.out; omega
      have b8 : (i8 : Int) < 16 := by have := hi8.out; omega
      have b14 : (i14 : Int) < 16 := by have := hi14.out; omega
      have cx : wr.cell? ⟨gw, ai, none⟩ = some (vw (Wt m u16)) := by rw [HB.out.cell, hai.out, show t % 16 = u16 % 16 by have := h16.out; omega]; exact HWN.out u16 (by have := h16.out; omega) (by have := h16.out; omega)
      have c3 : wr.cell? ⟨gw, i3, none⟩ = some (vw (Wt m u3)) := by rw [HB.out.cell, hi3.out]; exact HWN.out u3 (by have := h3.out; have := h16.out; omega) (by have := h3.out; have := h16.out; omega)
      have c8 : wr.cell? ⟨gw, i8, none⟩ = some (vw (Wt m u8)) := by rw [HB.out.cell, hi8.out]; exact HWN.out u8 (by have := h8.out; have := h16.out; omega) (by have := h8.out; have := h16.out; omega)
      have c14 : wr.cell? ⟨gw, i14, none⟩ = some (vw (Wt m u14)) := by rw [HB.out.cell, hi14.out]; exact HWN.out u14 (by have := h14.out; have := h16.out; omega) (by have := h14.out; have := h16.out; omega)
      have hfr := HB.out.free ai
      generalize Wt m u3 = x3 at *
      generalize Wt m u8 = x8 at *
      generalize Wt m u14 = x14 at *
      generalize Wt m u16 = x16 at *
      go_wp2
      go_quiet (fail)
      clear c3 c8 c14 v3 v8 v14 w3 w8 w14 b3 b8 b14
      go_wp2_with (first | (go_at_call 117; refine (rl1 _ _).mono ?_; rintro e w' ⟨rfl, rfl⟩))
      generalize rot1 (x3 ^^^ x8 ^^^ x14 ^^^ x16) = X at *
      go_quiet ((go_at_call 117; exact Calls.quiet_of_same (rl5 _ _)))
      go_wp2_with (first | (go_at_call 117; refine (rl30 _ _).mono ?_; rintro e w' ⟨rfl, rfl⟩))
      go_roundw
      case rel => exact ⟨t + 1, ⟨rot5 s.a + (s.b &&& s.c ||| ~~~s.b &&& s.d) + s.e + X + 0x5a827999, s.a, rot30 s.b, s.c, s.d⟩, cur3.setIfInBounds ai (vw X), by omega, by omega, int_succ t, rfl, rfl, rfl, rfl, rfl, rounds_next HSR.out HWt.out.symm (rnd_mk (ff1 (by omega) _ _ _) (kk1 (by omega))), HB.out.set ai _, by simp [HS.out], hai.out ▸ HWN.out.step (by omega) HS.out (by rw [HWt.out]), ((HU.out.drewN _).setCell (fun _ => rfl) _).drewN _⟩
      case measure => simp [intOf]; omega
    · obtain rfl : t = 20 := by omega
      have HEX2 := HEX.out
      clear HEX
      go_wp2
      exact HEX2 _ _ _ _ _ _ _ _ _ _ _ _ _ _ _ _ _ _ _ _ _ _ _ _ _ _ _ _ _ _ _ _ _ _ _ _ _ _ _ _ _ _ _ _ _ _ _ _ _ _ _ _ _ _ _ _ _ _ _ _ _ _ _ HSR HB HS HWN HU
end Go.Proofs.YtpkipinamlbdoaaGreatDoor
namespace Go.Proofs.YtpkipinamlbdoaaGreatDoor
open Go Go.RowKit
attribute [local go_sem] I32_cvt I8_cvt I32_add I32_and I32_or I32_xor I8_xor I32_notm I32_shl8 I32_shl16 I32_shl24 I32_k1 I32_k2 I32_k3 I32_k4
set_option maxRecDepth 1000000 in
set_option maxHeartbeats 8000000 in
theorem bg_loop5 (m : List UInt32) (hm : m.length = 16) (h s : S5) (gw : Nat) (wo w : World) (cur : Array Value) (Q0 : Exit → Act → World → Prop) (u0 u1 u2 u3 u5 u6 u7 u8 u9 u10 u11 u18 u19 u20 u21 u22 u23 u24 u25 u26 u27 u28 u29 u30 u31 u32 u33 u34 u35 u36 u37 u38 u39 u40 u41 u42 u43 u44 u45 u46 u47 u48 u49 u50 u51 u52 u53 u54 u55 u56 u57 u58 u59 u60 u61 u62 u63 u64 u65 u66 u67 u68 u69 u70 u71 u72 u73 u74 u75 u76 u77 u78 u79 u80 u81 u82 u83 u84 u85 u86 u87 u88 u89 u90 u91 u92 u93 u94 u95 u96 u97 u98 u99 u100 u101 u102 u103 u104 u105 u106 u107 u108 u109 u110 u111 u112 u113 u114 u115 u116 u117 u118 u119 u120 u121 u122 u123 u124 u125 u126 u127 u128 u129 u130 u131 u132 u133 u134 u135 u136 u137 u138 u139 u140 u141 u142 u143 u144 u145 u146 u147 u148 u149 u150 u151 u152 u153 u154 u155 u156 u157 u158 u159 u160 u161 u162 u163 u164 u165 u166 u167 u168 u169 u170 u171 u172 u173 u174 u175 u176 u177 u178 u179 u180 u181 u182 u183 u184 u185 u186 u187 u188 u189 u190 u191 u192 u193 u194 u195 u196 u197 u198 u199 u200 u201 u202 u203 u204 u205 u206 u207 u208 u209 u210 u211 u212 u213 u214 u215 u216 u217 u218 u219 u220 u221 u222 u223 u224 u225 u226 u227 u228 u229 u230 u231 u232 u233 u234 u235 u236 u237 u238 u239 u240 u241 u242 u243 u244 u245 u246 u247 u248 u249 u250 u251 u252 u253 u254 u255 u256 u257 u258 u259 u260 u261 u262 u263 u264 u265 u266 u267 u268 u269 u270 u271 u272 u273 u274 u275 u276 u277 u278 u279 u280 u281 u282 u283 u284 u285 u286 u287 u288 u289 u290 u291 u292 u293 u294 u295 u296 u297 u298 u299 u300 u301 u302 u303 u304 u305 u306 u307 u308 u309 u310 u311 u312 u313 u314 u315 u316 u317 u318 u319 u320 u321 u322 u323 u324 u325 u326 u327 u328 u329 u330 u331 u332 u333 u334 u335 u336 u337 u338 u339 u340 u341 u342 u343 u344 u345 u346 u347 u348 u349 u350 u351 u352 u353 u354 u355 u356 u357 u358 u359 u360 u361 u362 u363 u364 u365 u366 u367 u368 u369 u370 u371 u372 u373 u374 u375 u376 u377 u378 u379 u380 u381 u382 u383 u384 u385 u386 u387 u388 u389 u390 u391 u392 u393 u394 u395 u396 : Value)
    (hs : s = rounds m 20 h) (hb : Blk w gw cur 182) (hc : cur.size = 16) (hw : win m 20 cur) (hu : Upd (fun k => k = gw) wo w)
    (hexit : ∀ (v23 v24 v25 v189 v190 v191 v192 v193 v194 v195 v196 v197 v198 v199 v200 v201 v202 v203 v204 v205 v206 v207 v208 v209 v210 v211 v212 v213 v214 v215 v216 v217 v218 v219 v220 v221 v222 v223 v224 v225 v226 v227 v228 v229 v230 v231 v232 v233 v234 v235 v236 v237 v238 v239 v240 v241 v242 : Value) (s' : S5) (cur' : Array Value) (w' : World), Hid (s' = rounds m 40 h) → Hid (Blk w' gw cur' 182) → Hid (cur'.size = 16) → Hid (win m 40 cur') → Hid (Upd (fun k => k = gw) wo w') → Q0 (.exit 8) ⟨(u0 :: u1 :: u2 :: u3 :: (.pointer (some ⟨gw, 0, none⟩)) :: u5 :: u6 :: u7 :: u8 :: u9 :: u10 :: u11 :: (vw s'.a) :: (vw s'.b) :: (vw s'.c) :: (vw s'.d) :: (vw s'.e) :: (.int .i64 40) :: u18 :: u19 :: u20 :: u21 :: u22 :: v23 :: v24 :: v25 :: u26 :: u27 :: u28 :: u29 :: u30 :: u31 :: u32 :: u33 :: u34 :: u35 :: u36 :: u37 :: u38 :: u39 :: u40 :: u41 :: u42 :: u43 :: u44 :: u45 :: u46 :: u47 :: u48 :: u49 :: u50 :: u51 :: u52 :: u53 :: u54 :: u55 :: u56 :: u57 :: u58 :: u59 :: u60 :: u61 :: u62 :: u63 :: u64 :: u65 :: u66 :: u67 :: u68 :: u69 :: u70 :: u71 :: u72 :: u73 :: u74 :: u75 :: u76 :: u77 :: u78 :: u79 :: u80 :: u81 :: u82 :: u83 :: u84 :: u85 :: u86 :: u87 :: u88 :: u89 :: u90 :: u91 :: u92 :: u93 :: u94 :: u95 :: u96 :: u97 :: u98 :: u99 :: u100 :: u101 :: u102 :: u103 :: u104 :: u105 :: u106 :: u107 :: u108 :: u109 :: u110 :: u111 :: u112 :: u113 :: u114 :: u115 :: u116 :: u117 :: u118 :: u119 :: u120 :: u121 :: u122 :: u123 :: u124 :: u125 :: u126 :: u127 :: u128 :: u129 :: u130 :: u131 :: u132 :: u133 :: u134 :: u135 :: u136 :: u137 :: u138 :: u139 :: u140 :: u141 :: u142 :: u143 :: u144 :: u145 :: u146 :: u147 :: u148 :: u149 :: u150 :: u151 :: u152 :: u153 :: u154 :: u155 :: u156 :: u157 :: u158 :: u159 :: u160 :: u161 :: u162 :: u163 :: u164 :: u165 :: u166 :: u167 :: u168 :: u169 :: u170 :: u171 :: u172 :: u173 :: u174 :: u175 :: u176 :: u177 :: u178 :: u179 :: u180 :: u181 :: u182 :: u183 :: u184 :: u185 :: u186 :: u187 :: u188 :: v189 :: v190 :: v191 :: v192 :: v193 :: v194 :: v195 :: v196 :: v197 :: v198 :: v199 :: v200 :: v201 :: v202 :: v203 :: v204 :: v205 :: v206 :: v207 :: v208 :: v209 :: v210 :: v211 :: v212 :: v213 :: v214 :: v215 :: v216 :: v217 :: v218 :: v219 :: v220 :: v221 :: v222 :: v223 :: v224 :: v225 :: v226 :: v227 :: v228 :: v229 :: v230 :: v231 :: v232 :: v233 :: v234 :: v235 :: v236 :: v237 :: v238 :: v239 :: v240 :: v241 :: v242 :: u243 :: u244 :: u245 :: u246 :: u247 :: u248 :: u249 :: u250 :: u251 :: u252 :: u253 :: u254 :: u255 :: u256 :: u257 :: u258 :: u259 :: u260 :: u261 :: u262 :: u263 :: u264 :: u265 :: u266 :: u267 :: u268 :: u269 :: u270 :: u271 :: u272 :: u273 :: u274 :: u275 :: u276 :: u277 :: u278 :: u279 :: u280 :: u281 :: u282 :: u283 :: u284 :: u285 :: u286 :: u287 :: u288 :: u289 :: u290 :: u291 :: u292 :: u293 :: u294 :: u295 :: u296 :: u297 :: u298 :: u299 :: u300 :: u301 :: u302 :: u303 :: u304 :: u305 :: u306 :: u307 :: u308 :: u309 :: u310 :: u311 :: u312 :: u313 :: u314 :: u315 :: u316 :: u317 :: u318 :: u319 :: u320 :: u321 :: u322 :: u323 :: u324 :: u325 :: u326 :: u327 :: u328 :: u329 :: u330 :: u331 :: u332 :: u333 :: u334 :: u335 :: u336 :: u337 :: u338 :: u339 :: u340 :: u341 :: u342 :: u343 :: u344 :: u345 :: u346 :: u347 :: u348 :: u349 :: u350 :: u351 :: u352 :: u353 :: u354 :: u355 :: u356 :: u357 :: u358 :: u359 :: u360 :: u361 :: u362 :: u363 :: u364 :: u365 :: u366 :: u367 :: u368 :: u369 :: u370 :: u371 :: u372 :: u373 :: u374 :: u375 :: u376 :: u377 :: u378 :: u379 :: u380 :: u381 :: u382 :: u383 :: u384 :: u385 :: u386 :: u387 :: u388 :: u389 :: u390 :: u391 :: u392 :: u393 :: u394 :: u395 :: u396 :: []).toArray, []⟩ w') :
    Code.wp Tryz.prog (.loop (bgBody 4)) Q0 ⟨(u0 :: u1 :: u2 :: u3 :: (.pointer (some ⟨gw, 0, none⟩)) :: u5 :: u6 :: u7 :: u8 :: u9 :: u10 :: u11 :: (vw s.a) :: (vw s.b) :: (vw s.c) :: (vw s.d) :: (vw s.e) :: (.int .i64 20) :: u18 :: u19 :: u20 :: u21 :: u22 :: u23 :: u24 :: u25 :: u26 :: u27 :: u28 :: u29 :: u30 :: u31 :: u32 :: u33 :: u34 :: u35 :: u36 :: u37 :: u38 :: u39 :: u40 :: u41 :: u42 :: u43 :: u44 :: u45 :: u46 :: u47 :: u48 :: u49 :: u50 :: u51 :: u52 :: u53 :: u54 :: u55 :: u56 :: u57 :: u58 :: u59 :: u60 :: u61 :: u62 :: u63 :: u64 :: u65 :: u66 :: u67 :: u68 :: u69 :: u70 :: u71 :: u72 :: u73 :: u74 :: u75 :: u76 :: u77 :: u78 :: u79 :: u80 :: u81 :: u82 :: u83 :: u84 :: u85 :: u86 :: u87 :: u88 :: u89 :: u90 :: u91 :: u92 :: u93 :: u94 :: u95 :: u96 :: u97 :: u98 :: u99 :: u100 :: u101 :: u102 :: u103 :: u104 :: u105 :: u106 :: u107 :: u108 :: u109 :: u110 :: u111 :: u112 :: u113 :: u114 :: u115 :: u116 :: u117 :: u118 :: u119 :: u120 :: u121 :: u122 :: u123 :: u124 :: u125 :: u126 :: u127 :: u128 :: u129 :: u130 :: u131 :: u132 :: u133 :: u134 :: u135 :: u136 :: u137 :: u138 :: u139 :: u140 :: u141 :: u142 :: u143 :: u144 :: u145 :: u146 :: u147 :: u148 :: u149 :: u150 :: u151 :: u152 :: u153 :: u154 :: u155 :: u156 :: u157 :: u158 :: u159 :: u160 :: u161 :: u162 :: u163 :: u164 :: u165 :: u166 :: u167 :: u168 :: u169 :: u170 :: u171 :: u172 :: u173 :: u174 :: u175 :: u176 :: u177 :: u178 :: u179 :: u180 :: u181 :: u182 :: u183 :: u184 :: u185 :: u186 :: u187 :: u188 :: u189 :: u190 :: u191 :: u192 :: u193 :: u194 :: u195 :: u196 :: u197 :: u198 :: u199 :: u200 :: u201 :: u202 :: u203 :: u204 :: u205 :: u206 :: u207 :: u208 :: u209 :: u210 :: u211 :: u212 :: u213 :: u214 :: u215 :: u216 :: u217 :: u218 :: u219 :: u220 :: u221 :: u222 :: u223 :: u224 :: u225 :: u226 :: u227 :: u228 :: u229 :: u230 :: u231 :: u232 :: u233 :: u234 :: u235 :: u236 :: u237 :: u238 :: u239 :: u240 :: u241 :: u242 :: u243 :: u244 :: u245 :: u246 :: u247 :: u248 :: u249 :: u250 :: u251 :: u252 :: u253 :: u254 :: u255 :: u256 :: u257 :: u258 :: u259 :: u260 :: u261 :: u262 :: u263 :: u264 :: u265 :: u266 :: u267 :: u268 :: u269 :: u270 :: u271 :: u272 :: u273 :: u274 :: u275 :: u276 :: u277 :: u278 :: u279 :: u280 :: u281 :: u282 :: u283 :: u284 :: u285 :: u286 :: u287 :: u288 :: u289 :: u290 :: u291 :: u292 :: u293 :: u294 :: u295 :: u296 :: u297 :: u298 :: u299 :: u300 :: u301 :: u302 :: u303 :: u304 :: u305 :: u306 :: u307 :: u308 :: u309 :: u310 :: u311 :: u312 :: u313 :: u314 :: u315 :: u316 :: u317 :: u318 :: u319 :: u320 :: u321 :: u322 :: u323 :: u324 :: u325 :: u326 :: u327 :: u328 :: u329 :: u330 :: u331 :: u332 :: u333 :: u334 :: u335 :: u336 :: u337 :: u338 :: u339 :: u340 :: u341 :: u342 :: u343 :: u344 :: u345 :: u346 :: u347 :: u348 :: u349 :: u350 :: u351 :: u352 :: u353 :: u354 :: u355 :: u356 :: u357 :: u358 :: u359 :: u360 :: u361 :: u362 :: u363 :: u364 :: u365 :: u366 :: u367 :: u368 :: u369 :: u370 :: u371 :: u372 :: u373 :: u374 :: u375 :: u376 :: u377 :: u378 :: u379 :: u380 :: u381 :: u382 :: u383 :: u384 :: u385 :: u386 :: u387 :: u388 :: u389 :: u390 :: u391 :: u392 :: u393 :: u394 :: u395 :: u396 :: []).toArray, []⟩ w := by
  have HM : Hid (m.length = 16) := hm
  have HS0 : Hid (bgInv m h gw wo 20 40 (vw s.a) (vw s.b) (vw s.c) (vw s.d) (vw s.e) (.int .i64 20) w) := bg_start (s := s) 20 40 (by omega) hs hb hc hw hu
  have HEX := Lib.hid hexit
  clear hexit hm hs hb hc hw hu
  conv => arg 2; arg 1; whnf
  go_loopw [12, 13, 14, 15, 16, 17] (fun a b c d e i wr => bgInv m h gw wo 20 40 a b c d e i wr) (fun _ _ _ _ _ i _ => 40 - (intOf i).toNat)
  case atStart => exact HS0.out
  case round =>
    clear HS0
    obtain ⟨t, s, cur3, hlo, hhi, rfl, rfl, rfl, rfl, rfl, rfl, HSR, hb, hs, hwn, hu⟩ := hrel
    have HB : Hid (Blk wr gw cur3 182) := hb
    have HS : Hid (cur3.size = 16) := hs
    have HWN : Hid (win m t cur3) := hwn
    have HU : Hid (Upd (fun k => k = gw) wo wr) := hu
    clear hb hs hwn hu
    by_cases hlt : t < 40
    · obtain ⟨u16, h16⟩ : ∃ u, Hid (t = u + 16) := ⟨t - 16, by show _ = _; omega⟩
      obtain ⟨u3, h3⟩ : ∃ u, Hid (u = u16 + 13) := ⟨_, rfl⟩
      obtain ⟨u8, h8⟩ : ∃ u, Hid (u = u16 + 8) := ⟨_, rfl⟩
      obtain ⟨u14, h14⟩ : ∃ u, Hid (u = u16 + 2) := ⟨_, rfl⟩
      obtain ⟨ai, hai⟩ : ∃ ai, Hid (ai = t % 16) := ⟨_, rfl⟩
      obtain ⟨i3, hi3⟩ : ∃ ai, Hid (ai = u3 % 16) := ⟨_, rfl⟩
      obtain ⟨i8, hi8⟩ : ∃ ai, Hid (ai = u8 % 16) := ⟨_, rfl⟩
      obtain ⟨i14, hi14⟩ : ∃ ai, Hid (ai = u14 % 16) := ⟨_, rfl⟩
      have HWt : Hid (Wt m t = rot1 (Wt m u3 ^^^ Wt m u8 ^^^ Wt m u14 ^^^ Wt m u16)) := by
        show _ = _; rw [h16.out, h3.out, h8.out, h14.out]; exact Wt_high HM.out u16
      have n15 : bits .and .i64 (t : Int) 15 = (ai : Int) := by rw [and15 t (by omega), hai.out]
      have v3 : bits .and .i64 (u3 : Int) 15 = (i3 : Int) := by rw [and15 u3 (by have := h3.out; have := h16.out; omega), hi3.out]
      have v8 : bits .and .i64 (u8 : Int) 15 = (i8 : Int) := by rw [and15 u8 (by have := h8.out; have := h16.out; omega), hi8.out]
      have v14 : bits .and .i64 (u14 : Int) 15 = (i14 : Int) := by rw [and15 u14 (by have := h14.out; have := h16.out; omega), hi14.out]
      have w3 : IntKind.i64.wrap ((t : Int) - 3) = (u3 : Int) := by rw [IntKind.wrap_i64]; have := h3.out; have := h16.out; omega
      have w8 : IntKind.i64.wrap ((t : Int) - 8) = (u8 : Int) := by rw [IntKind.wrap_i64]; have := h8.out; have := h16.out; omega
      have w14 : IntKind.i64.wrap ((t : Int) - 14) = (u14 : Int) := by rw [IntKind.wrap_i64]; have := h14.out; have := h16.out; omega
      have ba : (ai : Int) < 16 := by have := hai.out; omega
      have b3 : (i3 : Int) < 16 := by have := hi3.out; omega
      have b8 : (i8 : Int) < 16 := by have := hi8.out; omega
      have b14 : (i14 : Int) < 16 := by have := hi14.out; omega
      have cx : wr.cell? ⟨gw, ai, none⟩ = some (vw (Wt m u16)) := by rw [HB.out.cell, hai.out, show t % 16 = u16 % 16 by have := h16.out; omega]; exact HWN.out u16 (by have := h16.out; omega) (by have := h16.out; omega)
      have c3 : wr.cell? ⟨gw, i3, none⟩ = some (vw (Wt m u3)) := by rw [HB.out.cell, hi3.out]; exact HWN.out u3 (by have := h3.out; have := h16.out; omega) (by have := h3.out; have := h16.out; omega)
      have c8 : wr.cell? ⟨gw, i8, none⟩ = some (vw (Wt m u8)) := by rw [HB.out.cell, hi8.out]; exact HWN.out u8 (by have := h8.out; have := h16.out; omega) (by have := h8.out; have := h16.out; omega)
      have c14 : wr.cell? ⟨gw, i14, none⟩ = some (vw (Wt m u14)) := by rw [HB.out.cell, hi14.out]; exact HWN.out u14 (by have := h14.out; have := h16.out; omega) (by have := h14.out; have := h16.out; omega)
      have hfr := HB.out.free ai
      generalize Wt m u3 = x3 at *
      generalize Wt m u8 = x8 at *
      generalize Wt m u14 = x14 at *
      generalize Wt m u16 = x16 at *
      go_wp2
      go_quiet (fail)
      clear c3 c8 c14 v3 v8 v14 w3 w8 w14 b3 b8 b14
      go_wp2_with (first | (go_at_call 117; refine (rl1 _ _).mono ?_; rintro e w' ⟨rfl, rfl⟩))
      generalize rot1 (x3 ^^^ x8 ^^^ x14 ^^^ x16) = X at *
      go_quiet ((go_at_call 117; exact Calls.quiet_of_same (rl5 _ _)))
      go_wp2_with (first | (go_at_call 117; refine (rl30 _ _).mono ?_; rintro e w' ⟨rfl, rfl⟩))
      go_roundw
      case rel => exact ⟨t + 1, ⟨rot5 s.a + (s.b ^^^ s.c ^^^ s.d) + s.e + X + 0x6ed9eba1, s.a, rot30 s.b, s.c, s.d⟩, cur3.setIfInBounds ai (vw X), by omega, by omega, int_succ t, rfl, rfl, rfl, rfl, rfl, rounds_next HSR.out HWt.out.symm (rnd_mk (ff2 (by omega) (by omega) _ _ _) (kk2 (by omega) (by omega))), HB.out.set ai _, by simp [HS.out], hai.out ▸ HWN.out.step (by omega) HS.out (by rw [HWt.out]), ((HU.out.drewN _).setCell (fun _ => rfl) _).drewN _⟩
      case measure => simp [intOf]; omega
    · obtain rfl : t = 40 := by omega
      have HEX2 := HEX.out
      clear HEX
      go_wp2
      exact HEX2 _ _ _ _ _ _ _ _ _ _ _ _ _ _ _ _ _ _ _ _ _ _ _ _ _ _ _ _ _ _ _ _ _ _ _ _ _ _ _ _ _ _ _ _ _ _ _ _ _ _ _ _ _ _ _ _ _ _ _ _ HSR HB HS HWN HU
end Go.Proofs.YtpkipinamlbdoaaGreatDoor
namespace Go.Proofs.YtpkipinamlbdoaaGreatDoor
open Go Go.RowKit
attribute [local go_sem] I32_cvt I8_cvt I32_add I32_and I32_or I32_xor I8_xor I32_notm I32_shl8 I32_shl16 I32_shl24 I32_k1 I32_k2 I32_k3 I32_k4
set_option maxRecDepth 1000000 in
set_option maxHeartbeats 8000000 in
theorem bg_loop6 (m : List UInt32) (hm : m.length = 16) (h s : S5) (gw : Nat) (wo w : World) (cur : Array Value) (Q0 : Exit → Act → World → Prop) (u0 u1 u2 u3 u5 u6 u7 u8 u9 u10 u11 u18 u19 u20 u21 u22 u23 u24 u25 u26 u27 u28 u29 u30 u31 u32 u33 u34 u35 u36 u37 u38 u39 u40 u41 u42 u43 u44 u45 u46 u47 u48 u49 u50 u51 u52 u53 u54 u55 u56 u57 u58 u59 u60 u61 u62 u63 u64 u65 u66 u67 u68 u69 u70 u71 u72 u73 u74 u75 u76 u77 u78 u79 u80 u81 u82 u83 u84 u85 u86 u87 u88 u89 u90 u91 u92 u93 u94 u95 u96 u97 u98 u99 u100 u101 u102 u103 u104 u105 u106 u107 u108 u109 u110 u111 u112 u113 u114 u115 u116 u117 u118 u119 u120 u121 u122 u123 u124 u125 u126 u127 u128 u129 u130 u131 u132 u133 u134 u135 u136 u137 u138 u139 u140 u141 u142 u143 u144 u145 u146 u147 u148 u149 u150 u151 u152 u153 u154 u155 u156 u157 u158 u159 u160 u161 u162 u163 u164 u165 u166 u167 u168 u169 u170 u171 u172 u173 u174 u175 u176 u177 u178 u179 u180 u181 u182 u183 u184 u185 u186 u187 u188 u189 u190 u191 u192 u193 u194 u195 u196 u197 u198 u199 u200 u201 u202 u203 u204 u205 u206 u207 u208 u209 u210 u211 u212 u213 u214 u215 u216 u217 u218 u219 u220 u221 u222 u223 u224 u225 u226 u227 u228 u229 u230 u231 u232 u233 u234 u235 u236 u237 u238 u239 u240 u241 u242 u243 u244 u245 u246 u247 u248 u249 u250 u251 u252 u253 u254 u255 u256 u257 u258 u259 u260 u261 u262 u263 u264 u265 u266 u267 u268 u269 u270 u271 u272 u273 u274 u275 u276 u277 u278 u279 u280 u281 u282 u283 u284 u285 u286 u287 u288 u289 u290 u291 u292 u293 u294 u295 u296 u297 u298 u299 u300 u301 u302 u303 u304 u305 u306 u307 u308 u309 u310 u311 u312 u313 u314 u315 u316 u317 u318 u319 u320 u321 u322 u323 u324 u325 u326 u327 u328 u329 u330 u331 u332 u333 u334 u335 u336 u337 u338 u339 u340 u341 u342 u343 u344 u345 u346 u347 u348 u349 u350 u351 u352 u353 u354 u355 u356 u357 u358 u359 u360 u361 u362 u363 u364 u365 u366 u367 u368 u369 u370 u371 u372 u373 u374 u375 u376 u377 u378 u379 u380 u381 u382 u383 u384 u385 u386 u387 u388 u389 u390 u391 u392 u393 u394 u395 u396 : Value)
    (hs : s = rounds m 40 h) (hb : Blk w gw cur 182) (hc : cur.size = 16) (hw : win m 40 cur) (hu : Upd (fun k => k = gw) wo w)
    (hexit : ∀ (v26 v27 v28 v243 v244 v245 v246 v247 v248 v249 v250 v251 v252 v253 v254 v255 v256 v257 v258 v259 v260 v261 v262 v263 v264 v265 v266 v267 v268 v269 v270 v271 v272 v273 v274 v275 v276 v277 v278 v279 v280 v281 v282 v283 v284 v285 v286 v287 v288 v289 v290 v291 v292 v293 v294 v295 v296 v297 v298 v299 v300 : Value) (s' : S5) (cur' : Array Value) (w' : World), Hid (s' = rounds m 60 h) → Hid (Blk w' gw cur' 182) → Hid (cur'.size = 16) → Hid (win m 60 cur') → Hid (Upd (fun k => k = gw) wo w') → Q0 (.exit 10) ⟨(u0 :: u1 :: u2 :: u3 :: (.pointer (some ⟨gw, 0, none⟩)) :: u5 :: u6 :: u7 :: u8 :: u9 :: u10 :: u11 :: (vw s'.a) :: (vw s'.b) :: (vw s'.c) :: (vw s'.d) :: (vw s'.e) :: (.int .i64 60) :: u18 :: u19 :: u20 :: u21 :: u22 :: u23 :: u24 :: u25 :: v26 :: v27 :: v28 :: u29 :: u30 :: u31 :: u32 :: u33 :: u34 :: u35 :: u36 :: u37 :: u38 :: u39 :: u40 :: u41 :: u42 :: u43 :: u44 :: u45 :: u46 :: u47 :: u48 :: u49 :: u50 :: u51 :: u52 :: u53 :: u54 :: u55 :: u56 :: u57 :: u58 :: u59 :: u60 :: u61 :: u62 :: u63 :: u64 :: u65 :: u66 :: u67 :: u68 :: u69 :: u70 :: u71 :: u72 :: u73 :: u74 :: u75 :: u76 :: u77 :: u78 :: u79 :: u80 :: u81 :: u82 :: u83 :: u84 :: u85 :: u86 :: u87 :: u88 :: u89 :: u90 :: u91 :: u92 :: u93 :: u94 :: u95 :: u96 :: u97 :: u98 :: u99 :: u100 :: u101 :: u102 :: u103 :: u104 :: u105 :: u106 :: u107 :: u108 :: u109 :: u110 :: u111 :: u112 :: u113 :: u114 :: u115 :: u116 :: u117 :: u118 :: u119 :: u120 :: u121 :: u122 :: u123 :: u124 :: u125 :: u126 :: u127 :: u128 :: u129 :: u130 :: u131 :: u132 :: u133 :: u134 :: u135 :: u136 :: u137 :: u138 :: u139 :: u140 :: u141 :: u142 :: u143 :: u144 :: u145 :: u146 :: u147 :: u148 :: u149 :: u150 :: u151 :: u152 :: u153 :: u154 :: u155 :: u156 :: u157 :: u158 :: u159 :: u160 :: u161 :: u162 :: u163 :: u164 :: u165 :: u166 :: u167 :: u168 :: u169 :: u170 :: u171 :: u172 :: u173 :: u174 :: u175 :: u176 :: u177 :: u178 :: u179 :: u180 :: u181 :: u182 :: u183 :: u184 :: u185 :: u186 :: u187 :: u188 :: u189 :: u190 :: u191 :: u192 :: u193 :: u194 :: u195 :: u196 :: u197 :: u198 :: u199 :: u200 :: u201 :: u202 :: u203 :: u204 :: u205 :: u206 :: u207 :: u208 :: u209 :: u210 :: u211 :: u212 :: u213 :: u214 :: u215 :: u216 :: u217 :: u218 :: u219 :: u220 :: u221 :: u222 :: u223 :: u224 :: u225 :: u226 :: u227 :: u228 :: u229 :: u230 :: u231 :: u232 :: u233 :: u234 :: u235 :: u236 :: u237 :: u238 :: u239 :: u240 :: u241 :: u242 :: v243 :: v244 :: v245 :: v246 :: v247 :: v248 :: v249 :: v250 :: v251 :: v252 :: v253 :: v254 :: v255 :: v256 :: v257 :: v258 :: v259 :: v260 :: v261 :: v262 :: v263 :: v264 :: v265 :: v266 :: v267 :: v268 :: v269 :: v270 :: v271 :: v272 :: v273 :: v274 :: v275 :: v276 :: v277 :: v278 :: v279 :: v280 :: v281 :: v282 :: v283 :: v284 :: v285 :: v286 :: v287 :: v288 :: v289 :: v290 :: v291 :: v292 :: v293 :: v294 :: v295 :: v296 :: v297 :: v298 :: v299 :: v300 :: u301 :: u302 :: u303 :: u304 :: u305 :: u306 :: u307 :: u308 :: u309 :: u310 :: u311 :: u312 :: u313 :: u314 :: u315 :: u316 :: u317 :: u318 :: u319 :: u320 :: u321 :: u322 :: u323 :: u324 :: u325 :: u326 :: u327 :: u328 :: u329 :: u330 :: u331 :: u332 :: u333 :: u334 :: u335 :: u336 :: u337 :: u338 :: u339 :: u340 :: u341 :: u342 :: u343 :: u344 :: u345 :: u346 :: u347 :: u348 :: u349 :: u350 :: u351 :: u352 :: u353 :: u354 :: u355 :: u356 :: u357 :: u358 :: u359 :: u360 :: u361 :: u362 :: u363 :: u364 :: u365 :: u366 :: u367 :: u368 :: u369 :: u370 :: u371 :: u372 :: u373 :: u374 :: u375 :: u376 :: u377 :: u378 :: u379 :: u380 :: u381 :: u382 :: u383 :: u384 :: u385 :: u386 :: u387 :: u388 :: u389 :: u390 :: u391 :: u392 :: u393 :: u394 :: u395 :: u396 :: []).toArray, []⟩ w') :
    Code.wp Tryz.prog (.loop (bgBody 5)) Q0 ⟨(u0 :: u1 :: u2 :: u3 :: (.pointer (some ⟨gw, 0, none⟩)) :: u5 :: u6 :: u7 :: u8 :: u9 :: u10 :: u11 :: (vw s.a) :: (vw s.b) :: (vw s.c) :: (vw s.d) :: (vw s.e) :: (.int .i64 40) :: u18 :: u19 :: u20 :: u21 :: u22 :: u23 :: u24 :: u25 :: u26 :: u27 :: u28 :: u29 :: u30 :: u31 :: u32 :: u33 :: u34 :: u35 :: u36 :: u37 :: u38 :: u39 :: u40 :: u41 :: u42 :: u43 :: u44 :: u45 :: u46 :: u47 :: u48 :: u49 :: u50 :: u51 :: u52 :: u53 :: u54 :: u55 :: u56 :: u57 :: u58 :: u59 :: u60 :: u61 :: u62 :: u63 :: u64 :: u65 :: u66 :: u67 :: u68 :: u69 :: u70 :: u71 :: u72 :: u73 :: u74 :: u75 :: u76 :: u77 :: u78 :: u79 :: u80 :: u81 :: u82 :: u83 :: u84 :: u85 :: u86 :: u87 :: u88 :: u89 :: u90 :: u91 :: u92 :: u93 :: u94 :: u95 :: u96 :: u97 :: u98 :: u99 :: u100 :: u101 :: u102 :: u103 :: u104 :: u105 :: u106 :: u107 :: u108 :: u109 :: u110 :: u111 :: u112 :: u113 :: u114 :: u115 :: u116 :: u117 :: u118 :: u119 :: u120 :: u121 :: u122 :: u123 :: u124 :: u125 :: u126 :: u127 :: u128 :: u129 :: u130 :: u131 :: u132 :: u133 :: u134 :: u135 :: u136 :: u137 :: u138 :: u139 :: u140 :: u141 :: u142 :: u143 :: u144 :: u145 :: u146 :: u147 :: u148 :: u149 :: u150 :: u151 :: u152 :: u153 :: u154 :: u155 :: u156 :: u157 :: u158 :: u159 :: u160 :: u161 :: u162 :: u163 :: u164 :: u165 :: u166 :: u167 :: u168 :: u169 :: u170 :: u171 :: u172 :: u173 :: u174 :: u175 :: u176 :: u177 :: u178 :: u179 :: u180 :: u181 :: u182 :: u183 :: u184 :: u185 :: u186 :: u187 :: u188 :: u189 :: u190 :: u191 :: u192 :: u193 :: u194 :: u195 :: u196 :: u197 :: u198 :: u199 :: u200 :: u201 :: u202 :: u203 :: u204 :: u205 :: u206 :: u207 :: u208 :: u209 :: u210 :: u211 :: u212 :: u213 :: u214 :: u215 :: u216 :: u217 :: u218 :: u219 :: u220 :: u221 :: u222 :: u223 :: u224 :: u225 :: u226 :: u227 :: u228 :: u229 :: u230 :: u231 :: u232 :: u233 :: u234 :: u235 :: u236 :: u237 :: u238 :: u239 :: u240 :: u241 :: u242 :: u243 :: u244 :: u245 :: u246 :: u247 :: u248 :: u249 :: u250 :: u251 :: u252 :: u253 :: u254 :: u255 :: u256 :: u257 :: u258 :: u259 :: u260 :: u261 :: u262 :: u263 :: u264 :: u265 :: u266 :: u267 :: u268 :: u269 :: u270 :: u271 :: u272 :: u273 :: u274 :: u275 :: u276 :: u277 :: u278 :: u279 :: u280 :: u281 :: u282 :: u283 :: u284 :: u285 :: u286 :: u287 :: u288 :: u289 :: u290 :: u291 :: u292 :: u293 :: u294 :: u295 :: u296 :: u297 :: u298 :: u299 :: u300 :: u301 :: u302 :: u303 :: u304 :: u305 :: u306 :: u307 :: u308 :: u309 :: u310 :: u311 :: u312 :: u313 :: u314 :: u315 :: u316 :: u317 :: u318 :: u319 :: u320 :: u321 :: u322 :: u323 :: u324 :: u325 :: u326 :: u327 :: u328 :: u329 :: u330 :: u331 :: u332 :: u333 :: u334 :: u335 :: u336 :: u337 :: u338 :: u339 :: u340 :: u341 :: u342 :: u343 :: u344 :: u345 :: u346 :: u347 :: u348 :: u349 :: u350 :: u351 :: u352 :: u353 :: u354 :: u355 :: u356 :: u357 :: u358 :: u359 :: u360 :: u361 :: u362 :: u363 :: u364 :: u365 :: u366 :: u367 :: u368 :: u369 :: u370 :: u371 :: u372 :: u373 :: u374 :: u375 :: u376 :: u377 :: u378 :: u379 :: u380 :: u381 :: u382 :: u383 :: u384 :: u385 :: u386 :: u387 :: u388 :: u389 :: u390 :: u391 :: u392 :: u393 :: u394 :: u395 :: u396 :: []).toArray, []⟩ w := by
  have HM : Hid (m.length = 16) := hm
  have HS0 : Hid (bgInv m h gw wo 40 60 (vw s.a) (vw s.b) (vw s.c) (vw s.d) (vw s.e) (.int .i64 40) w) := bg_start (s := s) 40 60 (by omega) hs hb hc hw hu
  have HEX := Lib.hid hexit
  clear hexit hm hs hb hc hw hu
  conv => arg 2; arg 1; whnf
  go_loopw [12, 13, 14, 15, 16, 17] (fun a b c d e i wr => bgInv m h gw wo 40 60 a b c d e i wr) (fun _ _ _ _ _ i _ => 60 - (intOf i).toNat)
  case atStart => exact HS0.out
  case round =>
    clear HS0
    obtain ⟨t, s, cur3, hlo, hhi, rfl, rfl, rfl, rfl, rfl, rfl, HSR, hb, hs, hwn, hu⟩ := hrel
    have HB : Hid (Blk wr gw cur3 182) := hb
    have HS : Hid (cur3.size = 16) := hs
    have HWN : Hid (win m t cur3) := hwn
    have HU : Hid (Upd (fun k => k = gw) wo wr) := hu
    clear hb hs hwn hu
    by_cases hlt : t < 60
    · obtain ⟨u16, h16⟩ : ∃ u, Hid (t = u + 16) := ⟨t - 16, by show _ = _; omega⟩
      obtain ⟨u3, h3⟩ : ∃ u, Hid (u = u16 + 13) := ⟨_, rfl⟩
      obtain ⟨u8, h8⟩ : ∃ u, Hid (u = u16 + 8) := ⟨_, rfl⟩
      obtain ⟨u14, h14⟩ : ∃ u, Hid (u = u16 + 2) := ⟨_, rfl⟩
      obtain ⟨ai, hai⟩ : ∃ ai, Hid (ai = t % 16) := ⟨_, rfl⟩
      obtain ⟨i3, hi3⟩ : ∃ ai, Hid (ai = u3 % 16) := ⟨_, rfl⟩
      obtain ⟨i8, hi8⟩ : ∃ ai, Hid (ai = u8 % 16) := ⟨_, rfl⟩
      obtain ⟨i14, hi14⟩ : ∃ ai, Hid (ai = u14 % 16) := ⟨_, rfl⟩
      have HWt : Hid (Wt m t = rot1 (Wt m u3 ^^^ Wt m u8 ^^^ Wt m u14 ^^^ Wt m u16)) := by
        show _ = _; rw [h16.out, h3.out, h8.out, h14.out]; exact Wt_high HM.out u16
      have n15 : bits .and .i64 (t : Int) 15 = (ai : Int) := by rw [and15 t (by omega), hai.out]
      have v3 : bits .and .i64 (u3 : Int) 15 = (i3 : Int) := by rw [and15 u3 (by have := h3.out; have := h16.out; omega), hi3.out]
      have v8 : bits .and .i64 (u8 : Int) 15 = (i8 : Int) := by rw [and15 u8 (by have := h8.out; have := h16.out; omega), hi8.out]
      have v14 : bits .and .i64 (u14 : Int) 15 = (i14 : Int) := by rw [and15 u14 (by have := h14.out; have := h16.out; omega), hi14.out]
      have w3 : IntKind.i64.wrap ((t : Int) - 3) = (u3 : Int) := by rw [IntKind.wrap_i64]; have := h3.out; have := h16.out; omega
      have w8 : IntKind.i64.wrap ((t : Int) - 8) = (u8 : Int) := by rw [IntKind.wrap_i64]; have := h8.out; have := h16.out; omega
      have w14 : IntKind.i64.wrap ((t : Int) - 14) = (u14 : Int) := by rw [IntKind.wrap_i64]; have := h14.out; have := h16.out; omega
      have ba : (ai : Int) < 16 := by have := hai.out; omega
      have b3 : (i3 : Int) < 16 := by have := hi3.out; omega
      have b8 : (i8 : Int) < 16 := by have := hi8.out; omega
      have b14 : (i14 : Int) < 16 := by have := hi14.out; omega
      have cx : wr.cell? ⟨gw, ai, none⟩ = some (vw (Wt m u16)) := by rw [HB.out.cell, hai.out, show t % 16 = u16 % 16 by have := h16.out; omega]; exact HWN.out u16 (by have := h16.out; omega) (by have := h16.out; omega)
      have c3 : wr.cell? ⟨gw, i3, none⟩ = some (vw (Wt m u3)) := by rw [HB.out.cell, hi3.out]; exact HWN.out u3 (by have := h3.out; have := h16.out; omega) (by have := h3.out; have := h16.out; omega)
      have c8 : wr.cell? ⟨gw, i8, none⟩ = some (vw (Wt m u8)) := by rw [HB.out.cell, hi8.out]; exact HWN.out u8 (by have := h8.out; have := h16.out; omega) (by have := h8.out; have := h16.out; omega)
      have c14 : wr.cell? ⟨gw, i14, none⟩ = some (vw (Wt m u14)) := by rw [HB.out.cell, hi14.out]; exact HWN.out u14 (by have := h14.out; have := h16.out; omega) (by have := h14.out; have := h16.out; omega)
      have hfr := HB.out.free ai
      generalize Wt m u3 = x3 at *
      generalize Wt m u8 = x8 at *
      generalize Wt m u14 = x14 at *
      generalize Wt m u16 = x16 at *
      go_wp2
      go_quiet (fail)
      clear c3 c8 c14 v3 v8 v14 w3 w8 w14 b3 b8 b14
      go_wp2_with (first | (go_at_call 117; refine (rl1 _ _).mono ?_; rintro e w' ⟨rfl, rfl⟩))
      generalize rot1 (x3 ^^^ x8 ^^^ x14 ^^^ x16) = X at *
      go_quiet ((go_at_call 117; exact Calls.quiet_of_same (rl5 _ _)))
      go_wp2_with (first | (go_at_call 117; refine (rl30 _ _).mono ?_; rintro e w' ⟨rfl, rfl⟩))
      go_roundw
      case rel => exact ⟨t + 1, ⟨rot5 s.a + ((s.b ||| s.c) &&& s.d ||| s.b &&& s.c) + s.e + X + 0x8f1bbcdc, s.a, rot30 s.b, s.c, s.d⟩, cur3.setIfInBounds ai (vw X), by omega, by omega, int_succ t, rfl, rfl, rfl, rfl, rfl, rounds_next HSR.out HWt.out.symm (rnd_mk (ff3 (by omega) (by omega) _ _ _) (kk3 (by omega) (by omega))), HB.out.set ai _, by simp [HS.out], hai.out ▸ HWN.out.step (by omega) HS.out (by rw [HWt.out]), ((HU.out.drewN _).setCell (fun _ => rfl) _).drewN _⟩
      case measure => simp [intOf]; omega
    · obtain rfl : t = 60 := by omega
      have HEX2 := HEX.out
      clear HEX
      go_wp2
      exact HEX2 _ _ _ _ _ _ _ _ _ _ _ _ _ _ _ _ _ _ _ _ _ _ _ _ _ _ _ _ _ _ _ _ _ _ _ _ _ _ _ _ _ _ _ _ _ _ _ _ _ _ _ _ _ _ _ _ _ _ _ _ _ _ _ _ HSR HB HS HWN HU
end Go.Proofs.YtpkipinamlbdoaaGreatDoor
namespace Go.Proofs.YtpkipinamlbdoaaGreatDoor
open Go Go.RowKit
attribute [local go_sem] I32_cvt I8_cvt I32_add I32_and I32_or I32_xor I8_xor I32_notm I32_shl8 I32_shl16 I32_shl24 I32_k1 I32_k2 I32_k3 I32_k4
set_option maxRecDepth 1000000 in
set_option maxHeartbeats 8000000 in
theorem bg_loop7 (m : List UInt32) (hm : m.length = 16) (h s : S5) (gw : Nat) (wo w : World) (cur : Array Value) (Q0 : Exit → Act → World → Prop) (u0 u1 u2 u3 u5 u6 u7 u8 u9 u10 u11 u18 u19 u20 u21 u22 u23 u24 u25 u26 u27 u28 u29 u30 u31 u32 u33 u34 u35 u36 u37 u38 u39 u40 u41 u42 u43 u44 u45 u46 u47 u48 u49 u50 u51 u52 u53 u54 u55 u56 u57 u58 u59 u60 u61 u62 u63 u64 u65 u66 u67 u68 u69 u70 u71 u72 u73 u74 u75 u76 u77 u78 u79 u80 u81 u82 u83 u84 u85 u86 u87 u88 u89 u90 u91 u92 u93 u94 u95 u96 u97 u98 u99 u100 u101 u102 u103 u104 u105 u106 u107 u108 u109 u110 u111 u112 u113 u114 u115 u116 u117 u118 u119 u120 u121 u122 u123 u124 u125 u126 u127 u128 u129 u130 u131 u132 u133 u134 u135 u136 u137 u138 u139 u140 u141 u142 u143 u144 u145 u146 u147 u148 u149 u150 u151 u152 u153 u154 u155 u156 u157 u158 u159 u160 u161 u162 u163 u164 u165 u166 u167 u168 u169 u170 u171 u172 u173 u174 u175 u176 u177 u178 u179 u180 u181 u182 u183 u184 u185 u186 u187 u188 u189 u190 u191 u192 u193 u194 u195 u196 u197 u198 u199 u200 u201 u202 u203 u204 u205 u206 u207 u208 u209 u210 u211 u212 u213 u214 u215 u216 u217 u218 u219 u220 u221 u222 u223 u224 u225 u226 u227 u228 u229 u230 u231 u232 u233 u234 u235 u236 u237 u238 u239 u240 u241 u242 u243 u244 u245 u246 u247 u248 u249 u250 u251 u252 u253 u254 u255 u256 u257 u258 u259 u260 u261 u262 u263 u264 u265 u266 u267 u268 u269 u270 u271 u272 u273 u274 u275 u276 u277 u278 u279 u280 u281 u282 u283 u284 u285 u286 u287 u288 u289 u290 u291 u292 u293 u294 u295 u296 u297 u298 u299 u300 u301 u302 u303 u304 u305 u306 u307 u308 u309 u310 u311 u312 u313 u314 u315 u316 u317 u318 u319 u320 u321 u322 u323 u324 u325 u326 u327 u328 u329 u330 u331 u332 u333 u334 u335 u336 u337 u338 u339 u340 u341 u342 u343 u344 u345 u346 u347 u348 u349 u350 u351 u352 u353 u354 u355 u356 u357 u358 u359 u360 u361 u362 u363 u364 u365 u366 u367 u368 u369 u370 u371 u372 u373 u374 u375 u376 u377 u378 u379 u380 u381 u382 u383 u384 u385 u386 u387 u388 u389 u390 u391 u392 u393 u394 u395 u396 : Value)
    (hs : s = rounds m 60 h) (hb : Blk w gw cur 182) (hc : cur.size = 16) (hw : win m 60 cur) (hu : Upd (fun k => k = gw) wo w)
    (hexit : ∀ (v29 v30 v31 v301 v302 v303 v304 v305 v306 v307 v308 v309 v310 v311 v312 v313 v314 v315 v316 v317 v318 v319 v320 v321 v322 v323 v324 v325 v326 v327 v328 v329 v330 v331 v332 v333 v334 v335 v336 v337 v338 v339 v340 v341 v342 v343 v344 v345 v346 v347 v348 v349 v350 v351 v352 v353 v354 : Value) (s' : S5) (cur' : Array Value) (w' : World), Hid (s' = rounds m 80 h) → Hid (Blk w' gw cur' 182) → Hid (cur'.size = 16) → Hid (win m 80 cur') → Hid (Upd (fun k => k = gw) wo w') → Q0 (.exit 12) ⟨(u0 :: u1 :: u2 :: u3 :: (.pointer (some ⟨gw, 0, none⟩)) :: u5 :: u6 :: u7 :: u8 :: u9 :: u10 :: u11 :: (vw s'.a) :: (vw s'.b) :: (vw s'.c) :: (vw s'.d) :: (vw s'.e) :: (.int .i64 80) :: u18 :: u19 :: u20 :: u21 :: u22 :: u23 :: u24 :: u25 :: u26 :: u27 :: u28 :: v29 :: v30 :: v31 :: u32 :: u33 :: u34 :: u35 :: u36 :: u37 :: u38 :: u39 :: u40 :: u41 :: u42 :: u43 :: u44 :: u45 :: u46 :: u47 :: u48 :: u49 :: u50 :: u51 :: u52 :: u53 :: u54 :: u55 :: u56 :: u57 :: u58 :: u59 :: u60 :: u61 :: u62 :: u63 :: u64 :: u65 :: u66 :: u67 :: u68 :: u69 :: u70 :: u71 :: u72 :: u73 :: u74 :: u75 :: u76 :: u77 :: u78 :: u79 :: u80 :: u81 :: u82 :: u83 :: u84 :: u85 :: u86 :: u87 :: u88 :: u89 :: u90 :: u91 :: u92 :: u93 :: u94 :: u95 :: u96 :: u97 :: u98 :: u99 :: u100 :: u101 :: u102 :: u103 :: u104 :: u105 :: u106 :: u107 :: u108 :: u109 :: u110 :: u111 :: u112 :: u113 :: u114 :: u115 :: u116 :: u117 :: u118 :: u119 :: u120 :: u121 :: u122 :: u123 :: u124 :: u125 :: u126 :: u127 :: u128 :: u129 :: u130 :: u131 :: u132 :: u133 :: u134 :: u135 :: u136 :: u137 :: u138 :: u139 :: u140 :: u141 :: u142 :: u143 :: u144 :: u145 :: u146 :: u147 :: u148 :: u149 :: u150 :: u151 :: u152 :: u153 :: u154 :: u155 :: u156 :: u157 :: u158 :: u159 :: u160 :: u161 :: u162 :: u163 :: u164 :: u165 :: u166 :: u167 :: u168 :: u169 :: u170 :: u171 :: u172 :: u173 :: u174 :: u175 :: u176 :: u177 :: u178 :: u179 :: u180 :: u181 :: u182 :: u183 :: u184 :: u185 :: u186 :: u187 :: u188 :: u189 :: u190 :: u191 :: u192 :: u193 :: u194 :: u195 :: u196 :: u197 :: u198 :: u199 :: u200 :: u201 :: u202 :: u203 :: u204 :: u205 :: u206 :: u207 :: u208 :: u209 :: u210 :: u211 :: u212 :: u213 :: u214 :: u215 :: u216 :: u217 :: u218 :: u219 :: u220 :: u221 :: u222 :: u223 :: u224 :: u225 :: u226 :: u227 :: u228 :: u229 :: u230 :: u231 :: u232 :: u233 :: u234 :: u235 :: u236 :: u237 :: u238 :: u239 :: u240 :: u241 :: u242 :: u243 :: u244 :: u245 :: u246 :: u247 :: u248 :: u249 :: u250 :: u251 :: u252 :: u253 :: u254 :: u255 :: u256 :: u257 :: u258 :: u259 :: u260 :: u261 :: u262 :: u263 :: u264 :: u265 :: u266 :: u267 :: u268 :: u269 :: u270 :: u271 :: u272 :: u273 :: u274 :: u275 :: u276 :: u277 :: u278 :: u279 :: u280 :: u281 :: u282 :: u283 :: u284 :: u285 :: u286 :: u287 :: u288 :: u289 :: u290 :: u291 :: u292 :: u293 :: u294 :: u295 :: u296 :: u297 :: u298 :: u299 :: u300 :: v301 :: v302 :: v303 :: v304 :: v305 :: v306 :: v307 :: v308 :: v309 :: v310 :: v311 :: v312 :: v313 :: v314 :: v315 :: v316 :: v317 :: v318 :: v319 :: v320 :: v321 :: v322 :: v323 :: v324 :: v325 :: v326 :: v327 :: v328 :: v329 :: v330 :: v331 :: v332 :: v333 :: v334 :: v335 :: v336 :: v337 :: v338 :: v339 :: v340 :: v341 :: v342 :: v343 :: v344 :: v345 :: v346 :: v347 :: v348 :: v349 :: v350 :: v351 :: v352 :: v353 :: v354 :: u355 :: u356 :: u357 :: u358 :: u359 :: u360 :: u361 :: u362 :: u363 :: u364 :: u365 :: u366 :: u367 :: u368 :: u369 :: u370 :: u371 :: u372 :: u373 :: u374 :: u375 :: u376 :: u377 :: u378 :: u379 :: u380 :: u381 :: u382 :: u383 :: u384 :: u385 :: u386 :: u387 :: u388 :: u389 :: u390 :: u391 :: u392 :: u393 :: u394 :: u395 :: u396 :: []).toArray, []⟩ w') :
    Code.wp Tryz.prog (.loop (bgBody 6)) Q0 ⟨(u0 :: u1 :: u2 :: u3 :: (.pointer (some ⟨gw, 0, none⟩)) :: u5 :: u6 :: u7 :: u8 :: u9 :: u10 :: u11 :: (vw s.a) :: (vw s.b) :: (vw s.c) :: (vw s.d) :: (vw s.e) :: (.int .i64 60) :: u18 :: u19 :: u20 :: u21 :: u22 :: u23 :: u24 :: u25 :: u26 :: u27 :: u28 :: u29 :: u30 :: u31 :: u32 :: u33 :: u34 :: u35 :: u36 :: u37 :: u38 :: u39 :: u40 :: u41 :: u42 :: u43 :: u44 :: u45 :: u46 :: u47 :: u48 :: u49 :: u50 :: u51 :: u52 :: u53 :: u54 :: u55 :: u56 :: u57 :: u58 :: u59 :: u60 :: u61 :: u62 :: u63 :: u64 :: u65 :: u66 :: u67 :: u68 :: u69 :: u70 :: u71 :: u72 :: u73 :: u74 :: u75 :: u76 :: u77 :: u78 :: u79 :: u80 :: u81 :: u82 :: u83 :: u84 :: u85 :: u86 :: u87 :: u88 :: u89 :: u90 :: u91 :: u92 :: u93 :: u94 :: u95 :: u96 :: u97 :: u98 :: u99 :: u100 :: u101 :: u102 :: u103 :: u104 :: u105 :: u106 :: u107 :: u108 :: u109 :: u110 :: u111 :: u112 :: u113 :: u114 :: u115 :: u116 :: u117 :: u118 :: u119 :: u120 :: u121 :: u122 :: u123 :: u124 :: u125 :: u126 :: u127 :: u128 :: u129 :: u130 :: u131 :: u132 :: u133 :: u134 :: u135 :: u136 :: u137 :: u138 :: u139 :: u140 :: u141 :: u142 :: u143 :: u144 :: u145 :: u146 :: u147 :: u148 :: u149 :: u150 :: u151 :: u152 :: u153 :: u154 :: u155 :: u156 :: u157 :: u158 :: u159 :: u160 :: u161 :: u162 :: u163 :: u164 :: u165 :: u166 :: u167 :: u168 :: u169 :: u170 :: u171 :: u172 :: u173 :: u174 :: u175 :: u176 :: u177 :: u178 :: u179 :: u180 :: u181 :: u182 :: u183 :: u184 :: u185 :: u186 :: u187 :: u188 :: u189 :: u190 :: u191 :: u192 :: u193 :: u194 :: u195 :: u196 :: u197 :: u198 :: u199 :: u200 :: u201 :: u202 :: u203 :: u204 :: u205 :: u206 :: u207 :: u208 :: u209 :: u210 :: u211 :: u212 :: u213 :: u214 :: u215 :: u216 :: u217 :: u218 :: u219 :: u220 :: u221 :: u222 :: u223 :: u224 :: u225 :: u226 :: u227 :: u228 :: u229 :: u230 :: u231 :: u232 :: u233 :: u234 :: u235 :: u236 :: u237 :: u238 :: u239 :: u240 :: u241 :: u242 :: u243 :: u244 :: u245 :: u246 :: u247 :: u248 :: u249 :: u250 :: u251 :: u252 :: u253 :: u254 :: u255 :: u256 :: u257 :: u258 :: u259 :: u260 :: u261 :: u262 :: u263 :: u264 :: u265 :: u266 :: u267 :: u268 :: u269 :: u270 :: u271 :: u272 :: u273 :: u274 :: u275 :: u276 :: u277 :: u278 :: u279 :: u280 :: u281 :: u282 :: u283 :: u284 :: u285 :: u286 :: u287 :: u288 :: u289 :: u290 :: u291 :: u292 :: u293 :: u294 :: u295 :: u296 :: u297 :: u298 :: u299 :: u300 :: u301 :: u302 :: u303 :: u304 :: u305 :: u306 :: u307 :: u308 :: u309 :: u310 :: u311 :: u312 :: u313 :: u314 :: u315 :: u316 :: u317 :: u318 :: u319 :: u320 :: u321 :: u322 :: u323 :: u324 :: u325 :: u326 :: u327 :: u328 :: u329 :: u330 :: u331 :: u332 :: u333 :: u334 :: u335 :: u336 :: u337 :: u338 :: u339 :: u340 :: u341 :: u342 :: u343 :: u344 :: u345 :: u346 :: u347 :: u348 :: u349 :: u350 :: u351 :: u352 :: u353 :: u354 :: u355 :: u356 :: u357 :: u358 :: u359 :: u360 :: u361 :: u362 :: u363 :: u364 :: u365 :: u366 :: u367 :: u368 :: u369 :: u370 :: u371 :: u372 :: u373 :: u374 :: u375 :: u376 :: u377 :: u378 :: u379 :: u380 :: u381 :: u382 :: u383 :: u384 :: u385 :: u386 :: u387 :: u388 :: u389 :: u390 :: u391 :: u392 :: u393 :: u394 :: u395 :: u396 :: []).toArray, []⟩ w := by
  have HM : Hid (m.length = 16) := hm
  have HS0 : Hid (bgInv m h gw wo 60 80 (vw s.a) (vw s.b) (vw s.c) (vw s.d) (vw s.e) (.int .i64 60) w) := bg_start (s := s) 60 80 (by omega) hs hb hc hw hu
  have HEX := Lib.hid hexit
  clear hexit hm hs hb hc hw hu
  conv => arg 2; arg 1; whnf
  go_loopw [12, 13, 14, 15, 16, 17] (fun a b c d e i wr => bgInv m h gw wo 60 80 a b c d e i wr) (fun _ _ _ _ _ i _ => 80 - (intOf i).toNat)
  case atStart => exact HS0.out
  case round =>
    clear HS0
    obtain ⟨t, s, cur3, hlo, hhi, rfl, rfl, rfl, rfl, rfl, rfl, HSR, hb, hs, hwn, hu⟩ := hrel
    have HB : Hid (Blk wr gw cur3 182) := hb
    have HS : Hid (cur3.size = 16) := hs
    have HWN : Hid (win m t cur3) := hwn
    have HU : Hid (Upd (fun k => k = gw) wo wr) := hu
    clear hb hs hwn hu
    by_cases hlt : t < 80
    · obtain ⟨u16, h16⟩ : ∃ u, Hid (t = u + 16) := ⟨t - 16, by show _ = _; omega⟩
      obtain ⟨u3, h3⟩ : ∃ u, Hid (u = u16 + 13) := ⟨_, rfl⟩
      obtain ⟨u8, h8⟩ : ∃ u, Hid (u = u16 + 8) := ⟨_, rfl⟩
      obtain ⟨u14, h14⟩ : ∃ u, Hid (u = u16 + 2) := ⟨_, rfl⟩
      obtain ⟨ai, hai⟩ : ∃ ai, Hid (ai = t % 16) := ⟨_, rfl⟩
      obtain ⟨i3, hi3⟩ : ∃ ai, Hid (ai = u3 % 16) := ⟨_, rfl⟩
      obtain ⟨i8, hi8⟩ : ∃ ai, Hid (ai = u8 % 16) := ⟨_, rfl⟩
      obtain ⟨i14, hi14⟩ : ∃ ai, Hid (ai = u14 % 16) := ⟨_, rfl⟩
      have HWt : Hid (Wt m t = rot1 (Wt m u3 ^^^ Wt m u8 ^^^ Wt m u14 ^^^ Wt m u16)) := by
        show _ = _; rw [h16.out, h3.out, h8.out, h14.out]; exact Wt_high HM.out u16
      have n15 : bits .and .i64 (t : Int) 15 = (ai : Int) := by rw [and15 t (by omega), hai.out]
      have v3 : bits .and .i64 (u3 : Int) 15 = (i3 : Int) := by rw [and15 u3 (by have := h3.out; have := h16.out; omega), hi3.out]
      have v8 : bits .and .i64 (u8 : Int) 15 = (i8 : Int) := by rw [and15 u8 (by have := h8.out; have := h16.out; omega), hi8.out]
      have v14 : bits .and .i64 (u14 : Int) 15 = (i14 : Int) := by rw [and15 u14 (by have := h14.out; have := h16.out; omega), hi14.out]
      have w3 : IntKind.i64.wrap ((t : Int) - 3) = (u3 : Int) := by rw [IntKind.wrap_i64]; have := h3.out; have := h16.out; omega
      have w8 : IntKind.i64.wrap ((t : Int) - 8) = (u8 : Int) := by rw [IntKind.wrap_i64]; have := h8.out; have := h16.out; omega
      have w14 : IntKind.i64.wrap ((t : Int) - 14) = (u14 : Int) := by rw [IntKind.wrap_i64]; have := h14.out; have := h16.out; omega
      have ba : (ai : Int) < 16 := by have := hai.out; omega
      have b3 : (i3 : Int) < 16 := by have := hi3.out; omega
      have b8 : (i8 : Int) < 16 := by have := hi8.out; omega
      have b14 : (i14 : Int) < 16 := by have := hi14.out; omega
      have cx : wr.cell? ⟨gw, ai, none⟩ = some (vw (Wt m u16)) := by rw [HB.out.cell, hai.out, show t % 16 = u16 % 16 by have := h16.out; omega]; exact HWN.out u16 (by have := h16.out; omega) (by have := h16.out; omega)
      have c3 : wr.cell? ⟨gw, i3, none⟩ = some (vw (Wt m u3)) := by rw [HB.out.cell, hi3.out]; exact HWN.out u3 (by have := h3.out; have := h16.out; omega) (by have := h3.out; have := h16.out; omega)
      have c8 : wr.cell? ⟨gw, i8, none⟩ = some (vw (Wt m u8)) := by rw [HB.out.cell, hi8.out]; exact HWN.out u8 (by have := h8.out; have := h16.out; omega) (by have := h8.out; have := h16.out; omega)
      have c14 : wr.cell? ⟨gw, i14, none⟩ = some (vw (Wt m u14)) := by rw [HB.out.cell, hi14.out]; exact HWN.out u14 (by have := h14.out; have := h16.out; omega) (by have := h14.out; have := h16.out; omega)
      have hfr := HB.out.free ai
      generalize Wt m u3 = x3 at *
      generalize Wt m u8 = x8 at *
      generalize Wt m u14 = x14 at *
      generalize Wt m u16 = x16 at *
      go_wp2
      go_quiet (fail)
      clear c3 c8 c14 v3 v8 v14 w3 w8 w14 b3 b8 b14
      go_wp2_with (first | (go_at_call 117; refine (rl1 _ _).mono ?_; rintro e w' ⟨rfl, rfl⟩))
      generalize rot1 (x3 ^^^ x8 ^^^ x14 ^^^ x16) = X at *
      go_quiet ((go_at_call 117; exact Calls.quiet_of_same (rl5 _ _)))
      go_wp2_with (first | (go_at_call 117; refine (rl30 _ _).mono ?_; rintro e w' ⟨rfl, rfl⟩))
      go_roundw
      case rel => exact ⟨t + 1, ⟨rot5 s.a + (s.b ^^^ s.c ^^^ s.d) + s.e + X + 0xca62c1d6, s.a, rot30 s.b, s.c, s.d⟩, cur3.setIfInBounds ai (vw X), by omega, by omega, int_succ t, rfl, rfl, rfl, rfl, rfl, rounds_next HSR.out HWt.out.symm (rnd_mk (ff4 (by omega) _ _ _) (kk4 (by omega))), HB.out.set ai _, by simp [HS.out], hai.out ▸ HWN.out.step (by omega) HS.out (by rw [HWt.out]), ((HU.out.drewN _).setCell (fun _ => rfl) _).drewN _⟩
      case measure => simp [intOf]; omega
    · obtain rfl : t = 80 := by omega
      have HEX2 := HEX.out
      clear HEX
      go_wp2
      exact HEX2 _ _ _ _ _ _ _ _ _ _ _ _ _ _ _ _ _ _ _ _ _ _ _ _ _ _ _ _ _ _ _ _ _ _ _ _ _ _ _ _ _ _ _ _ _ _ _ _ _ _ _ _ _ _ _ _ _ _ _ _ HSR HB HS HWN HU
end Go.Proofs.YtpkipinamlbdoaaGreatDoor
