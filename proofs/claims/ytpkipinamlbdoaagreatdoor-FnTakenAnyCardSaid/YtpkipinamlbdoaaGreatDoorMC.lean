/-
  A step of the library's Message.Decode: an attribute is appended. No condition but that it is there.
-/
import Derived.Test.YtpkipinamlbdoaaGreatDoorMB
import Derived.Test.YtpkipinamlbdoaaGreatDoorWO
import Derived.Deep.RegionLaw
import Derived.Deep.AppendLies
namespace Go.Proofs.YtpkipinamlbdoaaGreatDoor
open Go Go.RowKit
theorem info72v : ∃ i, Tryz.prog.info? 72 = some i ∧ i.zero = some (.agg #[.int .u16 0, .int .u16 0, .slice none 0 0]) ∧ i.size = 3 ∧ i.bytes = 32 := by
  have h : (Tryz.prog.info? 72).map (fun i => (i.zero, i.size, i.bytes)) = some (some (.agg #[.int .u16 0, .int .u16 0, .slice none 0 0]), 3, 32) := by kernel_rfl
  obtain ⟨i, hi, h2⟩ := Option.map_eq_some_iff.1 h
  simp only [Prod.mk.injEq] at h2
  exact ⟨i, hi, h2.1, h2.2.1, h2.2.2⟩
theorem app_done {wr w7 : World} {gm base n g7 c7 : Nat} {cur : Array Value} {T : TypeId} {s : Value} {ys : List Value} {ob : Obj} (hb : Blk wr gm cur T) (hgm : gm < base) (hn : some gm ≠ s.ownBlock)
    (hown7 : w7.ownsRow base 72 3 (.slice (some ⟨g7, 0, none⟩) (n + 1) c7) (n + 1) ys) (hgrow7 : (wr.drew.alloc ob).grownBy w7 s.ownBlock) :
    Hid (Blk (w7.setCell ⟨gm, 15, none⟩ (.slice (some ⟨g7, 0, none⟩) (n + 1) c7)) gm (cur.setIfInBounds 15 (.slice (some ⟨g7, 0, none⟩) (n + 1) c7)) T) ∧
      Hid ((w7.setCell ⟨gm, 15, none⟩ (.slice (some ⟨g7, 0, none⟩) (n + 1) c7)).ownsRow base 72 3 (.slice (some ⟨g7, 0, none⟩) (n + 1) c7) (n + 1) ys) ∧
      Hid (Upd (fun k => k = gm ∨ s.ownBlock = some k) wr (w7.setCell ⟨gm, 15, none⟩ (.slice (some ⟨g7, 0, none⟩) (n + 1) c7))) := by
  have hup : Upd (fun k => s.ownBlock = some k) wr w7 := (((Upd.refl _ wr).drew).alloc ob).grown hgrow7 (fun k e _ => e)
  have hset : Upd (fun k => k = gm) w7 (w7.setCell ⟨gm, 15, none⟩ (.slice (some ⟨g7, 0, none⟩) (n + 1) c7)) := Upd.setCell (S := fun k => k = gm) (Upd.refl _ w7) (p := ⟨gm, 15, none⟩) (fun _ => rfl) _
  refine ⟨(hb.upd hup (fun e => hn e.symm)).set 15 _, owns_upd hown7 hset (fun k hk e => by have := (hown7.lt _ hk).1; omega) (Nat.le_refl _), (hup.mono (fun _ _ h => .inr h)).trans (hset.mono (fun _ _ h => .inl h))⟩
set_option maxRecDepth 1000000 in
set_option maxHeartbeats 4000000 in
theorem md_reg40 (gm ga base n : Nat) (cur : Array Value) (T : TypeId) (s : Value) (xs : List Value) (A B : Int) (V : Value) (hV : V.oneCell' = true) (wr : World) (Q : Exit → Act → World → Prop) (u1 u2 u3 u4 u5 u6 u7 u8 u9 u10 u11 u13 u14 u15 u16 u17 u18 u19 u20 u21 u22 u23 u24 u25 u26 u27 u28 u29 u30 u31 u32 u33 u34 u35 u36 u37 u38 u39 u40 u41 u42 u43 u44 u45 u46 u47 u48 u49 u50 u51 u52 u53 u54 u55 u56 u57 u58 u59 u60 u61 u62 u63 u64 u65 u66 u67 u68 u69 u70 u71 u72 u73 u74 u75 u76 u77 u78 u79 u80 u81 u82 u83 u84 u85 u86 u87 u88 u89 u90 u91 u92 u93 u94 u95 u96 u97 u98 u99 u100 u101 u102 u103 u104 u105 u106 u107 u108 u109 u110 u111 u112 u113 u114 u115 u116 u117 u118 u119 u120 u121 u122 u123 u124 u125 u126 u127 u128 u129 u130 u131 u132 u133 u134 u135 u136 u137 u138 u139 u140 u141 u142 u143 u144 u145 u146 u147 u148 u149 u150 u151 u152 u153 u154 u155 u156 u157 u158 u159 u160 u161 u162 u163 u164 u165 u166 u167 u168 u169 u170 u171 u172 u173 u174 : Value)
    (hb : Blk wr gm cur T) (hs : cur.size = 18) (h15 : cur[15]? = some s) (ha : Blk wr ga #[.int .u16 A, .int .u16 B, V] 72) (hown : wr.ownsRow base 72 3 s n xs) (hn : n ≤ 100000) (hbase : base ≤ wr.heap.size) (hgm : gm < base)
    (hQ : ∀ (v163 v164 v165 v166 v167 v168 v169 v170 v171 v172 : Value) (s' : Value) (wx : World), Hid (Blk wx gm (cur.setIfInBounds 15 s') T) → Hid (wx.ownsRow base 72 3 s' (n + 1) (xs ++ [.int .u16 A, .int .u16 B, V])) → Hid (Upd (fun k => k = gm ∨ s.ownBlock = some k) wr wx) → Q .normal ⟨((.pointer (some ⟨gm, 0, none⟩)) :: u1 :: u2 :: u3 :: u4 :: u5 :: u6 :: u7 :: u8 :: u9 :: u10 :: u11 :: (.pointer (some ⟨ga, 0, none⟩)) :: u13 :: u14 :: u15 :: u16 :: u17 :: u18 :: u19 :: u20 :: u21 :: u22 :: u23 :: u24 :: u25 :: u26 :: u27 :: u28 :: u29 :: u30 :: u31 :: u32 :: u33 :: u34 :: u35 :: u36 :: u37 :: u38 :: u39 :: u40 :: u41 :: u42 :: u43 :: u44 :: u45 :: u46 :: u47 :: u48 :: u49 :: u50 :: u51 :: u52 :: u53 :: u54 :: u55 :: u56 :: u57 :: u58 :: u59 :: u60 :: u61 :: u62 :: u63 :: u64 :: u65 :: u66 :: u67 :: u68 :: u69 :: u70 :: u71 :: u72 :: u73 :: u74 :: u75 :: u76 :: u77 :: u78 :: u79 :: u80 :: u81 :: u82 :: u83 :: u84 :: u85 :: u86 :: u87 :: u88 :: u89 :: u90 :: u91 :: u92 :: u93 :: u94 :: u95 :: u96 :: u97 :: u98 :: u99 :: u100 :: u101 :: u102 :: u103 :: u104 :: u105 :: u106 :: u107 :: u108 :: u109 :: u110 :: u111 :: u112 :: u113 :: u114 :: u115 :: u116 :: u117 :: u118 :: u119 :: u120 :: u121 :: u122 :: u123 :: u124 :: u125 :: u126 :: u127 :: u128 :: u129 :: u130 :: u131 :: u132 :: u133 :: u134 :: u135 :: u136 :: u137 :: u138 :: u139 :: u140 :: u141 :: u142 :: u143 :: u144 :: u145 :: u146 :: u147 :: u148 :: u149 :: u150 :: u151 :: u152 :: u153 :: u154 :: u155 :: u156 :: u157 :: u158 :: u159 :: u160 :: u161 :: u162 :: v163 :: v164 :: v165 :: v166 :: v167 :: v168 :: v169 :: v170 :: v171 :: v172 :: u173 :: u174 :: []).toArray, []⟩ wx) :
    Code.wp Tryz.prog (mdReg 40) Q ⟨((.pointer (some ⟨gm, 0, none⟩)) :: u1 :: u2 :: u3 :: u4 :: u5 :: u6 :: u7 :: u8 :: u9 :: u10 :: u11 :: (.pointer (some ⟨ga, 0, none⟩)) :: u13 :: u14 :: u15 :: u16 :: u17 :: u18 :: u19 :: u20 :: u21 :: u22 :: u23 :: u24 :: u25 :: u26 :: u27 :: u28 :: u29 :: u30 :: u31 :: u32 :: u33 :: u34 :: u35 :: u36 :: u37 :: u38 :: u39 :: u40 :: u41 :: u42 :: u43 :: u44 :: u45 :: u46 :: u47 :: u48 :: u49 :: u50 :: u51 :: u52 :: u53 :: u54 :: u55 :: u56 :: u57 :: u58 :: u59 :: u60 :: u61 :: u62 :: u63 :: u64 :: u65 :: u66 :: u67 :: u68 :: u69 :: u70 :: u71 :: u72 :: u73 :: u74 :: u75 :: u76 :: u77 :: u78 :: u79 :: u80 :: u81 :: u82 :: u83 :: u84 :: u85 :: u86 :: u87 :: u88 :: u89 :: u90 :: u91 :: u92 :: u93 :: u94 :: u95 :: u96 :: u97 :: u98 :: u99 :: u100 :: u101 :: u102 :: u103 :: u104 :: u105 :: u106 :: u107 :: u108 :: u109 :: u110 :: u111 :: u112 :: u113 :: u114 :: u115 :: u116 :: u117 :: u118 :: u119 :: u120 :: u121 :: u122 :: u123 :: u124 :: u125 :: u126 :: u127 :: u128 :: u129 :: u130 :: u131 :: u132 :: u133 :: u134 :: u135 :: u136 :: u137 :: u138 :: u139 :: u140 :: u141 :: u142 :: u143 :: u144 :: u145 :: u146 :: u147 :: u148 :: u149 :: u150 :: u151 :: u152 :: u153 :: u154 :: u155 :: u156 :: u157 :: u158 :: u159 :: u160 :: u161 :: u162 :: u163 :: u164 :: u165 :: u166 :: u167 :: u168 :: u169 :: u170 :: u171 :: u172 :: u173 :: u174 :: []).toArray, []⟩ wr := by
  have HEX := Lib.hid hQ
  have HB := Lib.hid hb
  have c15 : wr.cell? ⟨gm, 15, none⟩ = some s := by rw [hb.cell]; exact h15
  have f15 := hb.free 15
  have a0 : wr.cell? ⟨ga, 0, none⟩ = some (.int .u16 A) := by rw [ha.cell]; rfl
  have a1 : wr.cell? ⟨ga, 1, none⟩ = some (.int .u16 B) := by rw [ha.cell]; rfl
  have a2 : wr.cell? ⟨ga, 2, none⟩ = some V := by rw [ha.cell]; rfl
  have HA := Lib.hid ha
  have d0 : Fresh wr wr.drew := (Upd.refl _ wr).drew
  have HOd : Hid (wr.drew.ownsRow base 72 3 s n xs) := owns_upd hown d0 (fun _ _ f => f) (Nat.le_refl _)
  have HO := Lib.hid hown
  have hne7 : some gm ≠ s.ownBlock := fun e => by have := (hown.lt _ e.symm).1; omega
  have HNE7 := Lib.hid hne7
  have hgml : gm < wr.heap.size := hb.lt
  have HZ : Hid (base ≤ wr.drew.heap.size) := hbase
  have c15a : ∀ ob : Obj, (wr.drew.alloc ob).cell? ⟨gm, 15, none⟩ = some s := fun ob => (d0.alloc ob).cell (fun f => f) c15
  have c15b : ∀ ob : Obj, (wr.alloc ob).cell? ⟨gm, 15, none⟩ = some s := fun ob => ((Upd.refl (fun _ => False) wr).alloc ob).cell (fun f => f) c15
  obtain ⟨i72, hi, hz, hsz, hby⟩ := info72v
  have hone : ∀ u ∈ [Value.int .u16 A, .int .u16 B, V], u.oneCell' = true := by
    intro u hu
    simp only [List.mem_cons, List.not_mem_nil, or_false] at hu
    rcases hu with rfl | rfl | rfl
    · rfl
    · rfl
    · exact hV
  have HONE := Lib.hid hone
  have hm63 : n + 1 ≤ maxLen := by unfold maxLen; omega
  have hby48 : (n + 1) * 32 ≤ 140737488355328 := by omega
  have HM63 := Lib.hid hm63
  have HSZ := Lib.hid hs
  have HGM := Lib.hid hgm
  clear hQ hb h15 ha hown hne7 hone hm63 hbase d0 hV hn hs
  conv => arg 2; whnf
  refine wp_region_noPanic ?_
  go_region_law (first
    | (refine step_append_lies _ rfl (.tmp 167) (.tmp 169) 63 rfl base 72 i72 (.agg #[.int .u16 0, .int .u16 0, .slice none 0 0]) 3 32 Tryz.underlying63 hi hz hsz hby rfl (by decide) s n xs rfl (HOd.out.alloc _) ⟨wr.drew.heap.size, 0, none⟩ 1 1 [.int .u16 A, .int .u16 B, V] rfl rfl (World.news_of_block (heap_alloc_new _ _)) HONE.out (by decide) HM63.out hby48 (Nat.le_trans HZ.out (by simp)) (wr.drew.heap.size + 1) (by simp) ?_; intro g7 c7 w7 hown7 hgrow7 hg7 hlt7; have hcell7 : w7.cell? ⟨gm, 15, none⟩ = some s := (hgrow7.cell_far _ (by simp; omega) HNE7.out).trans (c15a _); have hfz7 : w7.frozen? ⟨gm, 15, none⟩ = false := (hgrow7.frozen_far _ (by simp; omega) HNE7.out).trans ((Upd.frozen ((Upd.refl (fun _ => False) wr.drew).alloc _) (fun f => f) (show gm < wr.drew.heap.size from hgml)).trans f15)))
  all_goals have hfin := app_done HB.out HGM.out HNE7.out hown7 hgrow7
  all_goals have hex := HEX.out
  all_goals clear HEX
  all_goals exact NoPanic.normal (hex _ _ _ _ _ _ _ _ _ _ _ _ hfin.1 hfin.2.1 hfin.2.2)
end Go.Proofs.YtpkipinamlbdoaaGreatDoor
