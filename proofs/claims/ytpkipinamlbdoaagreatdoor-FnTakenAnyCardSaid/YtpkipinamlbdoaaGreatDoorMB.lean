/-
  A step of the library's Message.Decode: an attribute's type and length. No condition but that four bytes are there.
-/
import Derived.Test.YtpkipinamlbdoaaGreatDoorIA
import Derived.Test.YtpkipinamlbdoaaGreatDoorIC
import Derived.Deep.RegionHeld3
import Derived.Lib.Hide
namespace Go.Proofs.YtpkipinamlbdoaaGreatDoor
open Go Go.RowKit

theorem step_store_row {ops : Array Oper} {o : Oper} {a : Act} {w : World} {K : Act → World → Prop} {Q : Exit → Act → World → Prop} {E : Prop} (hgd : o.guard = none) (ty : TypeId) (x y : Operand) (ho : o.op = .store ty x y)
    (g : Nat) (cells : Array Value) (hx : a.eval x = .pointer (some ⟨g, 0, none⟩)) (hy : a.eval y = .agg cells)
    (t : TypeId) (old : Array Value) (hg : w.heap[g]? = some (.cells old t (0, 0))) (hi : (Tryz.prog.info? ty).map (·.size) = some cells.size)
    (hold : old.size = cells.size) (h1 : cells.all (·.oneCell') = true) (h : K (a.put o.dst undef) (w.setRow g cells)) :
    if Region.wanted o (yielded ops a.tmps) = true then Oper.wp Tryz.prog o a w K Q else E := by
  have hw : Region.wanted o (yielded ops a.tmps) = true := by simp [Region.wanted, hgd]
  rw [if_pos hw]
  exact wp_store_row ty x y ho g cells hx hy t old hg hi hold h1 h
theorem info72 : (Tryz.prog.info? 72).map (·.size) = some 3 := by kernel_rfl
abbrev ZA : Array Value := #[.int .u16 0, .int .u16 0, .slice none 0 0]
theorem attr_one (a b : Int) : (#[Value.int .u16 a, .int .u16 b, .slice none 0 0] : Array Value).all (·.oneCell') = true := by simp [Value.oneCell']
theorem new3 {wr w4 : World} {g : Nat} {a b c : Value} (h : Fresh wr w4) (hz : wr.heap.size ≤ g) : Fresh wr (((w4.setCell ⟨g, 0, none⟩ a).setCell ⟨g, 1, none⟩ b).setCell ⟨g, 2, none⟩ c) :=
  ((h.setCell (p := ⟨g, 0, none⟩) (fun hh => absurd hh (Nat.not_lt.2 hz)) a).setCell (p := ⟨g, 1, none⟩) (fun hh => absurd hh (Nat.not_lt.2 hz)) b).setCell (p := ⟨g, 2, none⟩) (fun hh => absurd hh (Nat.not_lt.2 hz)) c
def regionsOf : Code → List Code
  | .region i o b => [.region i o b]
  | .loop c => regionsOf c
  | .seq a b => regionsOf a ++ regionsOf b
  | .block _ c => regionsOf c
  | .scope c => regionsOf c
  | .cond _ a b => regionsOf a ++ regionsOf b
  | _ => []
def isRegion (k : Nat) : Code → Bool
  | .region i _ _ => i == k
  | _ => false
noncomputable def mdReg (k : Nat) : Code := ((((Tryz.f38.body.map regionsOf).getD []).find? (isRegion k)).getD .skip)
set_option maxRecDepth 1000000 in
set_option maxHeartbeats 4000000 in
theorem md_reg23 (x0 x1 x2 x3 : UInt8) (gr o nq cap : Nat) (wr : World) (Q : Exit → Act → World → Prop) (u0 u1 u2 u3 u4 u5 u6 u7 u8 u10 u11 u12 u13 u14 u15 u16 u17 u18 u19 u20 u21 u22 u23 u24 u25 u26 u27 u28 u29 u30 u31 u32 u33 u34 u35 u36 u37 u38 u39 u40 u41 u42 u43 u44 u45 u46 u47 u48 u49 u50 u51 u52 u53 u54 u55 u56 u57 u58 u59 u60 u61 u62 u63 u64 u65 u66 u67 u68 u69 u70 u71 u72 u73 u74 u75 u76 u77 u78 u79 u80 u81 u82 u83 u84 u85 u86 u87 u88 u89 u90 u91 u92 u93 u94 u95 u96 u97 u98 u99 u100 u101 u102 u103 u104 u105 u106 u107 u108 u109 u110 u111 u112 u113 u114 u115 u116 u117 u118 u119 u120 u121 u122 u123 u124 u125 u126 u127 u128 u129 u130 u131 u132 u133 u134 u135 u136 u137 u138 u139 u140 u141 u142 u143 u144 u145 u146 u147 u148 u149 u150 u151 u152 u153 u154 u155 u156 u157 u158 u159 u160 u161 u162 u163 u164 u165 u166 u167 u168 u169 u170 u171 u172 u173 u174 : Value)
    (h0 : wr.cell? ⟨gr, o, none⟩ = some (vb x0)) (h1 : wr.cell? ⟨gr, o + 1, none⟩ = some (vb x1)) (h2 : wr.cell? ⟨gr, o + 2, none⟩ = some (vb x2)) (h3 : wr.cell? ⟨gr, o + 2 + 1, none⟩ = some (vb x3)) (h4 : 4 ≤ cap) (hcap : cap ≤ 9223372036854775807)
    (hQ : ∀ (v90 v91 v92 v93 v94 v95 v96 v97 v98 v99 : Value) (ga : Nat) (wx : World), Hid (Blk wx ga #[.int .u16 (compat (beN [x0, x1]) : Nat), .int .u16 (beN [x2, x3] : Nat), .slice none 0 0] 72) → Hid (wr.heap.size ≤ ga) → Hid (Fresh wr wx) → Q .normal ⟨(u0 :: u1 :: u2 :: u3 :: u4 :: u5 :: u6 :: u7 :: u8 :: (.slice (some ⟨gr, o, none⟩) nq cap) :: u10 :: u11 :: (.pointer (some ⟨ga, 0, none⟩)) :: u13 :: u14 :: u15 :: u16 :: u17 :: u18 :: u19 :: u20 :: u21 :: u22 :: u23 :: u24 :: u25 :: u26 :: u27 :: u28 :: u29 :: u30 :: u31 :: u32 :: u33 :: u34 :: u35 :: u36 :: u37 :: u38 :: u39 :: u40 :: u41 :: u42 :: u43 :: u44 :: u45 :: u46 :: u47 :: u48 :: u49 :: u50 :: u51 :: u52 :: u53 :: u54 :: u55 :: u56 :: u57 :: u58 :: u59 :: u60 :: u61 :: u62 :: u63 :: u64 :: u65 :: u66 :: u67 :: u68 :: u69 :: u70 :: u71 :: u72 :: u73 :: u74 :: u75 :: u76 :: u77 :: u78 :: u79 :: u80 :: u81 :: u82 :: u83 :: u84 :: u85 :: u86 :: u87 :: u88 :: u89 :: v90 :: v91 :: v92 :: v93 :: v94 :: v95 :: v96 :: v97 :: v98 :: v99 :: u100 :: u101 :: u102 :: u103 :: u104 :: u105 :: u106 :: u107 :: u108 :: u109 :: u110 :: u111 :: u112 :: u113 :: u114 :: u115 :: u116 :: u117 :: u118 :: u119 :: u120 :: u121 :: u122 :: u123 :: u124 :: u125 :: u126 :: u127 :: u128 :: u129 :: u130 :: u131 :: u132 :: u133 :: u134 :: u135 :: u136 :: u137 :: u138 :: u139 :: u140 :: u141 :: u142 :: u143 :: u144 :: u145 :: u146 :: u147 :: u148 :: u149 :: u150 :: u151 :: u152 :: u153 :: u154 :: u155 :: u156 :: u157 :: u158 :: u159 :: u160 :: u161 :: u162 :: u163 :: u164 :: u165 :: u166 :: u167 :: u168 :: u169 :: u170 :: u171 :: u172 :: u173 :: u174 :: []).toArray, []⟩ wx) :
    Code.wp Tryz.prog (mdReg 23) Q ⟨(u0 :: u1 :: u2 :: u3 :: u4 :: u5 :: u6 :: u7 :: u8 :: (.slice (some ⟨gr, o, none⟩) nq cap) :: u10 :: u11 :: u12 :: u13 :: u14 :: u15 :: u16 :: u17 :: u18 :: u19 :: u20 :: u21 :: u22 :: u23 :: u24 :: u25 :: u26 :: u27 :: u28 :: u29 :: u30 :: u31 :: u32 :: u33 :: u34 :: u35 :: u36 :: u37 :: u38 :: u39 :: u40 :: u41 :: u42 :: u43 :: u44 :: u45 :: u46 :: u47 :: u48 :: u49 :: u50 :: u51 :: u52 :: u53 :: u54 :: u55 :: u56 :: u57 :: u58 :: u59 :: u60 :: u61 :: u62 :: u63 :: u64 :: u65 :: u66 :: u67 :: u68 :: u69 :: u70 :: u71 :: u72 :: u73 :: u74 :: u75 :: u76 :: u77 :: u78 :: u79 :: u80 :: u81 :: u82 :: u83 :: u84 :: u85 :: u86 :: u87 :: u88 :: u89 :: u90 :: u91 :: u92 :: u93 :: u94 :: u95 :: u96 :: u97 :: u98 :: u99 :: u100 :: u101 :: u102 :: u103 :: u104 :: u105 :: u106 :: u107 :: u108 :: u109 :: u110 :: u111 :: u112 :: u113 :: u114 :: u115 :: u116 :: u117 :: u118 :: u119 :: u120 :: u121 :: u122 :: u123 :: u124 :: u125 :: u126 :: u127 :: u128 :: u129 :: u130 :: u131 :: u132 :: u133 :: u134 :: u135 :: u136 :: u137 :: u138 :: u139 :: u140 :: u141 :: u142 :: u143 :: u144 :: u145 :: u146 :: u147 :: u148 :: u149 :: u150 :: u151 :: u152 :: u153 :: u154 :: u155 :: u156 :: u157 :: u158 :: u159 :: u160 :: u161 :: u162 :: u163 :: u164 :: u165 :: u166 :: u167 :: u168 :: u169 :: u170 :: u171 :: u172 :: u173 :: u174 :: []).toArray, []⟩ wr := by
  have j2 : (2 : Int) ≤ (cap : Int) := by omega
  have j4 : (4 : Int) ≤ (cap : Int) := by omega
  have k0 : ¬ cap = 0 := by omega
  have k2 : ¬ cap = 2 := by omega
  have hld := load77
  have d0 : Fresh wr wr.drew := (Upd.refl _ wr).drew
  have d1 : Fresh wr (wr.alloc (.cells ZA 72)).drew := ((Upd.refl _ wr).alloc _).drew
  have b1 : Blk (wr.alloc (.cells ZA 72)).drew wr.heap.size ZA 72 := Blk.new _ _ _
  have hA : ∀ w', Fresh wr w' → ∀ c', Calls Tryz.prog 51 #[.agg #[], .slice (some ⟨gr, o, none⟩) 2 c'] w' fun e w'' => e = .returned (.int .u16 (beN [x0, x1] : Nat)) ∧ Fresh w' w'' := fun w' hu c' => u16_any x0 x1 gr o 2 c' w' (Nat.le_refl _) (hu.cell (fun f => f) h0) (hu.cell (fun f => f) h1)
  have hB : ∀ w', Fresh wr w' → ∀ c', Calls Tryz.prog 51 #[.agg #[], .slice (some ⟨gr, o + 2, none⟩) 2 c'] w' fun e w'' => e = .returned (.int .u16 (beN [x2, x3] : Nat)) ∧ Fresh w' w'' := fun w' hu c' => u16_any x2 x3 gr (o + 2) 2 c' w' (Nat.le_refl _) (hu.cell (fun f => f) h2) (hu.cell (fun f => f) h3)
  have A0 := Lib.hid (hA _ d0)
  have A1 := Lib.hid (hA _ d1)
  have HBB := Lib.hid hB
  have D0 := Lib.hid d0
  have D1 := Lib.hid d1
  have B1 := Lib.hid b1
  have HEX := Lib.hid hQ
  clear hQ hA hB h0 h1 h2 h3 d0 d1 b1
  generalize beN [x0, x1] = ty at *
  generalize beN [x2, x3] = n2 at *
  conv => arg 2; whnf
  go_region_held3 (fun _ => True) (exact True.intro) (first
    | (go_at_call 55; (with_reducible refine (compat_any _ _).mono ?_); rintro e w2 ⟨rfl, rfl⟩)
    | (go_at_call 51; (with_reducible refine Calls.mono (A0.out _) ?_); rintro e w3 ⟨rfl, hu3⟩; have fA : Hid (Fresh wr w3) := D0.out.fresh hu3)
    | (go_at_call 51; (with_reducible refine Calls.mono (A1.out _) ?_); rintro e w3 ⟨rfl, hu3⟩; have fA : Hid (Fresh wr w3) := D1.out.fresh hu3; have kA : Hid (Blk w3 wr.heap.size ZA 72) := B1.out.upd hu3 (fun f => f))
    | (go_at_call 51; (with_reducible refine Calls.mono (HBB.out w3 fA.out _) ?_); rintro e w4 ⟨rfl, hu4⟩; have fB : Hid (Fresh wr w4) := fA.out.fresh hu4; have kB : Hid (Blk w4 wr.heap.size ZA 72) := Blk.upd kA.out hu4 (fun f => f); have zB : Hid (wr.heap.size ≤ wr.heap.size) := Nat.le_refl _; have p0 : w4.cell? ⟨wr.heap.size, 0, none⟩ = some (.int .u16 0) := (by rw [kB.out.cell]; rfl); have p1 : w4.cell? ⟨wr.heap.size, 1, none⟩ = some (.int .u16 0) := (by rw [kB.out.cell]; rfl); have p2 : w4.cell? ⟨wr.heap.size, 2, none⟩ = some (.slice none 0 0) := (by rw [kB.out.cell]; rfl); have q0 := kB.out.free 0; have q1 := kB.out.free 1; have q2 := kB.out.free 2)
    | (go_at_call 51; (with_reducible refine Calls.mono (HBB.out w3 fA.out _) ?_); rintro e w4 ⟨rfl, hu4⟩; have fB : Hid (Fresh wr w4) := fA.out.fresh hu4)
    | (go_at_call 51; (with_reducible refine Calls.mono (HBB.out (w3.alloc (.cells ZA 72)) (fA.out.alloc _) _) ?_); rintro e w4 ⟨rfl, hu4⟩; have fB : Hid (Fresh wr w4) := (fA.out.alloc _).fresh hu4; have kB : Hid (Blk w4 w3.heap.size ZA 72) := (Blk.new w3 ZA 72).upd hu4 (fun f => f); have zB : Hid (wr.heap.size ≤ w3.heap.size) := fA.out.size; have p0 : w4.cell? ⟨w3.heap.size, 0, none⟩ = some (.int .u16 0) := (by rw [kB.out.cell]; rfl); have p1 : w4.cell? ⟨w3.heap.size, 1, none⟩ = some (.int .u16 0) := (by rw [kB.out.cell]; rfl); have p2 : w4.cell? ⟨w3.heap.size, 2, none⟩ = some (.slice none 0 0) := (by rw [kB.out.cell]; rfl); have q0 := kB.out.free 0; have q1 := kB.out.free 1; have q2 := kB.out.free 2))
  all_goals have hex := HEX.out
  all_goals clear HEX
  · exact hex _ _ _ _ _ _ _ _ _ _ w4.heap.size _ (Blk.new w4 _ 72) fB.out.size (fB.out.alloc _)
  all_goals exact hex _ _ _ _ _ _ _ _ _ _ _ _ (((kB.out.set 0 (.int .u16 (compat ty : Nat))).set 1 (.int .u16 (n2 : Nat))).set 2 (.slice none 0 0)) zB.out (new3 fB.out zB.out)
end Go.Proofs.YtpkipinamlbdoaaGreatDoor
