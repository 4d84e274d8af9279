/-
  The walk of the reference's TypeOf and Decode: what it tells of the attributes: their types and their sizes. Condition: at most a million bytes.
-/
import Derived.Test.YtpkipinamlbdoaaGreatDoorWL
import Derived.Test.YtpkipinamlbdoaaGreatDoorP
import Derived.Test.YtpkipinamlbdoaaGreatDoorS
import Derived.Deep.RegionHeld3
import Derived.Deep.RegionLaw
import Derived.Deep.AppendLies
import Derived.Laws.ResultCell
namespace Go.Proofs.YtpkipinamlbdoaaGreatDoor
open Go Go.RowKit
attribute [local go_sem] I32_cvt I8_cvt
/-- The cells of a row of attributes: of the values only the size is told. -/
inductive ARow : List Value → List (Nat × List UInt8) → Prop
  | nil : ARow [] []
  | cons (ty : Nat) (x : List UInt8) (A : Option Addr) (c : Nat) (xs : List Value) (ats : List (Nat × List UInt8)) : ARow xs ats → ARow (.int .i64 ty :: .slice A x.length c :: xs) ((ty, x) :: ats)
theorem ARow.snoc {xs : List Value} {ats : List (Nat × List UInt8)} (h : ARow xs ats) (ty : Nat) (x : List UInt8) (A : Option Addr) (n c : Nat) (hn : n = x.length) : ARow (xs ++ [.int .i64 ty, .slice A n c]) (ats ++ [(ty, x)]) := by
  subst hn
  induction h with
  | nil => exact .cons ty x A c [] [] .nil
  | cons ty' x' A' c' xs' ats' _ ih => exact .cons ty' x' A' c' _ _ ih
theorem ARow.length {xs : List Value} {ats : List (Nat × List UInt8)} (h : ARow xs ats) : xs.length = ats.length * 2 := by
  induction h with
  | nil => rfl
  | cons ty' x' A' c' xs' ats' _ ih => simp [ih]; omega
theorem ARow.get {xs : List Value} {ats : List (Nat × List UInt8)} (h : ARow xs ats) : ∀ (i : Nat) (hi : i < ats.length), xs[2 * i]? = some (.int .i64 (ats[i].1 : Nat)) ∧ ∃ A c, xs[2 * i + 1]? = some (.slice A (ats[i].2).length c) := by
  induction h with
  | nil => intro i hi; simp at hi
  | cons ty' x' A' c' xs' ats' _ ih =>
    intro i hi
    cases i with
    | zero => exact ⟨rfl, A', c', rfl⟩
    | succ i =>
      have := ih i (by simpa using hi)
      rw [show 2 * (i + 1) = 2 * i + 1 + 1 by omega]
      simpa using this
theorem run_slice4 (w : World) (b o n cap m : Nat) (h : 4 + m ≤ cap) (hne : ¬ cap = 4) :
    (Instr.slice 22 (.slice (some ⟨b, o, none⟩) n cap) (some (.int .i64 4)) (some (.int .i64 (4 + (m : Int)))) none).run Tryz.prog w = .ok (.slice (some ⟨b, o + 4, none⟩) m (cap - 4)) w := by
  have h1 : ((4 : Int) + m).toNat = 4 + m := by omega
  have h2 : (4 : Int) + m ≤ (cap : Int) := by omega
  have h4 : (4 : Int) ≤ 4 + (m : Int) := by omega
  simp [go_sem, h1, h2, h4, hne]
theorem run_sliceV (b o n cap m : Nat) (h : 4 + m ≤ cap) :
    ∃ A c, ∀ w : World, (Instr.slice 22 (.slice (some ⟨b, o, none⟩) n cap) (some (.int .i64 4)) (some (.int .i64 (4 + (m : Int)))) none).run Tryz.prog w = .ok (.slice A m c) w := by
  by_cases hne : cap = 4
  · obtain rfl : m = 0 := by omega
    subst hne
    exact ⟨some ⟨b, o, none⟩, 0, fun w => by simp [go_sem]⟩
  · exact ⟨some ⟨b, o + 4, none⟩, cap - 4, fun w => run_slice4 w b o n cap m h hne⟩
/-- What stands behind so many bytes. -/
theorem run_sliceFrom (b o n cap a : Nat) (x : Int) (hx : x = a) (h : a ≤ n) (hc : n ≤ cap) :
    ∃ ad, (0 < n - a → ad = (⟨b, o + a, none⟩ : Addr)) ∧ ∀ w : World, (Instr.slice 22 (.slice (some ⟨b, o, none⟩) n cap) (some (.int .i64 x)) none none).run Tryz.prog w = .ok (.slice (some ad) (n - a) (cap - a)) w := by
  subst hx
  have h1 : (a : Int) ≤ n := by omega
  by_cases hne : cap = a
  · exact ⟨⟨b, o, none⟩, fun hp => by omega, fun w => by simp [go_sem, h1, hne]⟩
  · exact ⟨⟨b, o + a, none⟩, fun _ => rfl, fun w => by simp [go_sem, h1, hne]⟩
abbrev Ats (w : World) (base : Nat) (s : Value) (ats : List (Nat × List UInt8)) : Prop := ∃ xs, ARow xs ats ∧ w.ownsRow base 32 2 s ats.length xs
set_option maxHeartbeats 4000000 in
theorem typeOf_any (v : Int) (w : World) :
    Calls Tryz.prog 12 #[.int .i64 v] w fun e w' => ∃ x y : Int, e = .returned (.tuple #[.int .i64 x, .int .i64 y]) ∧ w = w' := by
  go_enter Tryz.func12, Tryz.ntmps12
  go_wp2
  go_ret2
  exact ⟨_, _, rfl, rfl⟩
theorem owns_upd {S : Nat → Prop} {w w' : World} {base base' : Nat} {e : TypeId} {size n : Nat} {v : Value} {xs : List Value} (h : w.ownsRow base e size v n xs) (hu : Upd S w w') (hs : ∀ k, v.ownBlock = some k → ¬ S k) (hb : base' ≤ base) : w'.ownsRow base' e size v n xs := by
  obtain ⟨h1, h2⟩ := h
  refine ⟨h1, ?_⟩
  rcases h2 with h2 | ⟨g, cap, cur, rfl, hg, hh, r⟩
  · exact .inl h2
  · exact .inr ⟨g, cap, cur, rfl, Nat.le_trans hb hg, hu.heap (hs g rfl) hh, r⟩
/-- What Decode answers. -/
def Decoded (l : List UInt8) (w : World) (e : Ending) (w' : World) : Prop :=
  ∃ (M : Array Value) (m0 : Int) (s : Value), e = .returned (.tuple #[.agg M, .bool (decodeL l).isSome]) ∧ M.size = 15 ∧ M[0]? = some (.int .i64 m0) ∧ M[14]? = some s ∧ M.all (·.oneCell') = true ∧ Ats w' w.heap.size s ((decodeL l).getD []) ∧ Fresh w w'
/-- What is left of the bytes. -/
def QS (b : Nat) (w : World) (v : Value) (q : List UInt8) : Prop :=
  ∃ (ad : Addr) (n cap : Nat), v = .slice (some ad) n cap ∧ n = q.length ∧ n ≤ cap ∧ cap ≤ 9223372036854775807 ∧ (0 < n → ∃ o, ad = ⟨b, o, none⟩ ∧ Bytes w b o q)
def ZM : Array Value := #[.int .i64 0, .int .i64 0, .int .u8 0, .int .u8 0, .int .u8 0, .int .u8 0, .int .u8 0, .int .u8 0, .int .u8 0, .int .u8 0, .int .u8 0, .int .u8 0, .int .u8 0, .int .u8 0, .slice none 0 0]
/-- The world while it reads. -/
def DW (w0 w : World) (s : Value) : Prop :=
  Blk w w0.heap.size ZM 27 ∧ (∃ (cur : Array Value) (m0 : Int), Blk w (w0.heap.size + 1) cur 27 ∧ cur.size = 15 ∧ cur[0]? = some (.int .i64 m0) ∧ cur[14]? = some s ∧ cur.all (·.oneCell') = true) ∧ Fresh w0 w
theorem DW.start (w : World) (ty0 ty1 : Int) (x0 x1 x2 x3 x4 x5 x6 x7 x8 x9 x10 x11 : UInt8) : DW w ((w.alloc (.cells ZM 27)).alloc (.cells #[.int .i64 ty0, .int .i64 ty1, .int .u8 (I8 x0), .int .u8 (I8 x1), .int .u8 (I8 x2), .int .u8 (I8 x3), .int .u8 (I8 x4), .int .u8 (I8 x5), .int .u8 (I8 x6), .int .u8 (I8 x7), .int .u8 (I8 x8), .int .u8 (I8 x9), .int .u8 (I8 x10), .int .u8 (I8 x11), .slice none 0 0] 27)) (.slice none 0 0) := by
  refine ⟨(Blk.new _ _ _).alloc _, ⟨#[.int .i64 ty0, .int .i64 ty1, .int .u8 (I8 x0), .int .u8 (I8 x1), .int .u8 (I8 x2), .int .u8 (I8 x3), .int .u8 (I8 x4), .int .u8 (I8 x5), .int .u8 (I8 x6), .int .u8 (I8 x7), .int .u8 (I8 x8), .int .u8 (I8 x9), .int .u8 (I8 x10), .int .u8 (I8 x11), .slice none 0 0], ty0, ?_, rfl, rfl, rfl, ?_⟩, ((Upd.refl _ _).alloc _).alloc _⟩
  · have := Blk.new (w.alloc (.cells ZM 27)) #[.int .i64 ty0, .int .i64 ty1, .int .u8 (I8 x0), .int .u8 (I8 x1), .int .u8 (I8 x2), .int .u8 (I8 x3), .int .u8 (I8 x4), .int .u8 (I8 x5), .int .u8 (I8 x6), .int .u8 (I8 x7), .int .u8 (I8 x8), .int .u8 (I8 x9), .int .u8 (I8 x10), .int .u8 (I8 x11), .slice none 0 0] 27
    rwa [World.size_alloc] at this
  · simp [Value.oneCell']
theorem DW.snoc {w wr w7 : World} {cur : Array Value} {m0 : Int} {s : Value} {xs : List Value} {done : List (Nat × List UInt8)} {ty : Nat} {x : List UInt8} {A : Option Addr} {n2 c2 g7 c7 : Nat} {ob : Obj}
    (hbr : Blk wr w.heap.size ZM 27) (hbm : Blk wr (w.heap.size + 1) cur 27) (hcs : cur.size = 15) (hc0 : cur[0]? = some (.int .i64 m0)) (hone : cur.all (·.oneCell') = true) (hu : Fresh w wr)
    (hown : wr.ownsRow (w.heap.size + 2) 32 2 s done.length xs) (hrow : ARow xs done)
    (hown7 : w7.ownsRow (w.heap.size + 2) 32 2 (.slice (some ⟨g7, 0, none⟩) (done.length + 1) c7) (done.length + 1) (xs ++ [.int .i64 ty, .slice A n2 c2])) (hgrow7 : (wr.drew.alloc ob).grownBy w7 s.ownBlock) (hx : n2 = x.length) :
    ∃ s', DW w (w7.setCell ⟨w.heap.size + 1, 14, none⟩ (.slice (some ⟨g7, 0, none⟩) (done.length + 1) c7)) s' ∧ Ats (w7.setCell ⟨w.heap.size + 1, 14, none⟩ (.slice (some ⟨g7, 0, none⟩) (done.length + 1) c7)) (w.heap.size + 2) s' (done ++ [(ty, x)]) := by
  have hlow : ∀ k, s.ownBlock = some k → w.heap.size + 2 ≤ k := fun k e => (hown.lt _ e).1
  have hup : Upd (fun k => s.ownBlock = some k) wr w7 := (((Upd.refl _ wr).drew).alloc ob).grown hgrow7 (fun k e _ => e)
  have hb7 : Blk w7 w.heap.size ZM 27 := hbr.upd hup (fun e => by have := hlow _ e; omega)
  have hm7 : Blk w7 (w.heap.size + 1) cur 27 := hbm.upd hup (fun e => by have := hlow _ e; omega)
  refine ⟨.slice (some ⟨g7, 0, none⟩) (done.length + 1) c7, ⟨hb7.set_other (by simp) _, ⟨_, m0, hm7.set 14 _, by simp [hcs], ?_, by simp [hcs], ?_⟩, ?_⟩, ⟨_, hrow.snoc ty x A n2 c2 hx, ?_⟩⟩
  · rw [Array.getElem?_setIfInBounds_ne (by omega)]; exact hc0
  · refine Array.all_eq_true_iff_forall_mem.2 fun v hv => ?_
    rcases Array.mem_or_eq_of_mem_setIfInBounds hv with hv | hv
    · exact Array.all_eq_true_iff_forall_mem.1 hone v hv
    · subst hv; rfl
  · exact (hu.newer hup (fun k e => by have := hlow _ e; omega)).setCell (fun h => absurd (show w.heap.size + 1 < w.heap.size from h) (by omega)) _
  · have hset : Upd (fun k => k = w.heap.size + 1) w7 (w7.setCell ⟨w.heap.size + 1, 14, none⟩ (.slice (some ⟨g7, 0, none⟩) (done.length + 1) c7)) := Upd.setCell (S := fun k => k = w.heap.size + 1) (Upd.refl _ w7) (p := ⟨w.heap.size + 1, 14, none⟩) (fun _ => rfl) _
    have := owns_upd hown7 hset (fun k hk e => by have := (hown7.lt _ hk).1; omega) (Nat.le_refl _)
    simpa using this
theorem ZM_one : ZM.all (·.oneCell') = true := by simp [ZM, Value.oneCell']
theorem Decoded.nope {l : List UInt8} {w w' : World} (h : decodeL l = none) (hu : Fresh w w') : Decoded l w (.returned (.tuple #[.agg ZM, .bool false])) w' := by
  refine ⟨ZM, 0, .slice none 0 0, by rw [h]; rfl, rfl, rfl, rfl, by simp [ZM, Value.oneCell'], ?_, hu⟩
  rw [h]
  exact ⟨[], .nil, rfl, .inl ⟨rfl, rfl⟩⟩
theorem list12 (l : List UInt8) (h : l.length = 12) : ∃ x0 x1 x2 x3 x4 x5 x6 x7 x8 x9 x10 x11, l = [x0, x1, x2, x3, x4, x5, x6, x7, x8, x9, x10, x11] := by
  match l, h with
  | [x0, x1, x2, x3, x4, x5, x6, x7, x8, x9, x10, x11], _ => exact ⟨x0, x1, x2, x3, x4, x5, x6, x7, x8, x9, x10, x11, rfl⟩
theorem Bytes.range {w : World} {b o : Nat} {l : List UInt8} (h : Bytes w b o l) : w.rangeAt b o (bv l) := by
  intro j v hj
  have := h.news j v hj
  rwa [Addr.add_lit] at this
theorem info27 : (Tryz.prog.info? 27).map (·.size) = some 15 := by kernel_rfl
theorem info32v : ∃ i, Tryz.prog.info? 32 = some i ∧ i.zero = some (.agg #[.int .i64 0, .slice none 0 0]) ∧ i.size = 2 ∧ i.bytes = 32 := by
  have h : (Tryz.prog.info? 32).map (fun i => (i.zero, i.size, i.bytes)) = some (some (.agg #[.int .i64 0, .slice none 0 0]), 2, 32) := by kernel_rfl
  obtain ⟨i, hi, h2⟩ := Option.map_eq_some_iff.1 h
  simp only [Prod.mk.injEq] at h2
  exact ⟨i, hi, h2.1, h2.2.1, h2.2.2⟩
theorem info24 : (Tryz.prog.info? 24).map (·.size) = some 12 := by kernel_rfl
theorem run_arrp (w : World) (ad : Addr) (c : Nat) : (Instr.arrayAt 24 (.slice (some ad) 12 c)).run Tryz.prog w = .ok (.pointer (some ad)) w := by kernel_rfl
set_option maxRecDepth 100000 in
set_option maxHeartbeats 4000000 in
theorem decode_any (A : Option Addr) (n c : Nat) (l : List UInt8) (w : World) (hd : Rd w (.slice A n c) l) (hlen : l.length ≤ 1000000) :
    Calls Tryz.prog 5 #[.slice A n c] w (Decoded l w) := by
  have HD : Hid (Rd w (.slice A n c) l) := hd
  obtain rfl := hd.len
  clear hd
  by_cases h20 : 20 ≤ l.length
  · obtain ⟨b, o, rfl, _, hlc, hcm, hby, hb⟩ := HD.out.addr (by omega)
    have HY : Hid (Bytes w b o l) := hby
    clear hby
    have hat44 : ∀ w', Fresh w w' → Calls Tryz.prog 11 #[.slice (some ⟨b, o, none⟩) l.length c, .int .i64 4, .int .i64 4] w' fun e w'' => e = .returned (.int .i64 (num l 4 4 : Nat)) ∧ w' = w'' :=
      fun w' hu => at_any l b o l.length c 4 4 w' rfl hlc hcm (HY.out.upd hu (fun f => f)) (by omega) (by omega) (by omega)
    have hat22 : ∀ w', Fresh w w' → Calls Tryz.prog 11 #[.slice (some ⟨b, o, none⟩) l.length c, .int .i64 2, .int .i64 2] w' fun e w'' => e = .returned (.int .i64 (num l 2 2 : Nat)) ∧ w' = w'' :=
      fun w' hu => at_any l b o l.length c 2 2 w' rfl hlc hcm (HY.out.upd hu (fun f => f)) (by omega) (by omega) (by omega)
    have hat02 : ∀ w', Fresh w w' → Calls Tryz.prog 11 #[.slice (some ⟨b, o, none⟩) l.length c, .int .i64 0, .int .i64 2] w' fun e w'' => e = .returned (.int .i64 (num l 0 2 : Nat)) ∧ w' = w'' :=
      fun w' hu => at_any l b o l.length c 0 2 w' rfl hlc hcm (HY.out.upd hu (fun f => f)) (by omega) (by omega) (by omega)
    have HDC : Hid (decodeL l = if l.length < 20 ∨ num l 4 4 ≠ 554869826 ∨ l.length < 20 + num l 2 2 then none else attrsL ((l.drop 20).take (num l 2 2))) := rfl
    have hn22 : num l 2 2 < 65536 := by
      have := beN_lt ((l.drop 2).take 2)
      have e : ((l.drop 2).take 2).length = 2 := by simp; omega
      rw [e] at this; exact this
    generalize num l 4 4 = N44 at *
    generalize num l 2 2 = N22 at *
    generalize num l 0 2 = N02 at *
    go_enter Tryz.func5, Tryz.ntmps5
    go_wp2_with fail
    refine (hat44 _ ((Upd.refl _ _).alloc _)).mono ?_
    rintro e w1 ⟨rfl, rfl⟩
    by_cases hck : N44 = 554869826
    · subst hck
      go_wp2_with fail
      refine (hat22 _ ((Upd.refl _ _).alloc _)).mono ?_
      rintro e w1 ⟨rfl, rfl⟩
      by_cases hsh : l.length < 20 + N22
      · go_wp2_with fail
        refine bodyPost_ret (v := .tuple #[.agg ZM, .bool false]) (by simp [results, Tryz.results5, go_sem, ZM]) rfl ?_
        exact Decoded.nope (by rw [HDC.out, if_pos (by omega)]) ((Upd.refl _ _).alloc _)
      · have harr := run_arrp
        have hc8 : ¬ c = 8 := by omega
        have hc20 : (20 : Int) ≤ (c : Int) := by omega
        obtain ⟨x0, x1, x2, x3, x4, x5, x6, x7, x8, x9, x10, x11, hx⟩ := list12 ((l.drop 8).take 12) (by simp; omega)
        have HX : Hid (Bytes w b (o + 8) [x0, x1, x2, x3, x4, x5, x6, x7, x8, x9, x10, x11]) := by
          show Bytes _ _ _ _
          rw [← hx]; exact (HY.out.drop 8).take 12
        clear hx
        have HX1 : Hid ((w.alloc (.cells ZM 27)).rangeAt b (o + 8) [.int .u8 (I8 x0), .int .u8 (I8 x1), .int .u8 (I8 x2), .int .u8 (I8 x3), .int .u8 (I8 x4), .int .u8 (I8 x5), .int .u8 (I8 x6), .int .u8 (I8 x7), .int .u8 (I8 x8), .int .u8 (I8 x9), .int .u8 (I8 x10), .int .u8 (I8 x11)]) :=
          (HX.out.upd ((Upd.refl (fun _ => False) w).alloc _) (fun f => f)).range
        go_wp2_with (first | (refine wpList_load_mid rfl 24 (.tmp 26) rfl b (o + 8) rfl [.int .u8 (I8 x0), .int .u8 (I8 x1), .int .u8 (I8 x2), .int .u8 (I8 x3), .int .u8 (I8 x4), .int .u8 (I8 x5), .int .u8 (I8 x6), .int .u8 (I8 x7), .int .u8 (I8 x8), .int .u8 (I8 x9), .int .u8 (I8 x10), .int .u8 (I8 x11)] _ HX1.out Tryz.underlying24 rfl info24 ?_))
        refine (hat02 _ (((Upd.refl _ _).alloc _).alloc _)).mono ?_
        rintro e w1 ⟨rfl, rfl⟩
        go_wp2_with fail
        refine (typeOf_any _ _).mono ?_
        rintro e w1 ⟨ty0, ty1, rfl, rfl⟩
        have hN22 : N22 + 20 ≤ l.length := by omega
        have hN22' : (20 : Int) + N22 ≤ (c : Int) := by omega
        have hc8x := hc20
        go_upto_region 5 with fail
        go_cut [0] (fun v wx => QS b w v ((l.drop 20).take N22) ∧ DW w wx (.slice none 0 0))
        case first =>
          go_wp2_with fail
          refine (hat22 _ (((Upd.refl _ _).alloc _).alloc _)).mono ?_
          rintro e w1 ⟨rfl, rfl⟩
          go_wp2_with fail
          · go_meet
            exact ⟨⟨_, N22, 0, rfl, by simp; omega, by omega, by omega, fun h => by omega⟩, DW.start w ty0 ty1 _ _ _ _ _ _ _ _ _ _ _ _⟩
          · go_meet
            exact ⟨⟨_, N22, c - 20, rfl, by simp; omega, by omega, by unfold maxLen at hcm; omega, fun _ => ⟨o + 20, rfl, (HY.out.drop 20).take N22⟩⟩, DW.start w ty0 ty1 _ _ _ _ _ _ _ _ _ _ _ _⟩
        case rest =>
        obtain ⟨hq, hdw⟩ := hcut
        have HQ : Hid (QS b w u0 ((l.drop 20).take N22)) := hq
        have HW : Hid (DW w wc (.slice none 0 0)) := hdw
        have HP : Hid (decodeL l = attrsL ((l.drop 20).take N22)) := by
          show _ = _; rw [HDC.out, if_neg (by omega)]
        have hpl : ((l.drop 20).take N22).length ≤ 65536 := by simp; omega
        clear hq hdw hat44 hat22 hat02 HX HX1 HDC harr
        generalize (l.drop 20).take N22 = p at *
        go_wp2
        go_loopw [0] (fun v wr => ∃ (q : List UInt8) (done : List (Nat × List UInt8)) (s : Value), QS b w v q ∧ DW w wr s ∧ Ats wr (w.heap.size + 2) s done ∧ Hid (Left p done q) ∧ q.length ≤ 65536 ∧ done.length * 4 + q.length ≤ 65536)
          (fun v _ => match v with | .slice _ n _ => n | _ => 0)
        case atStart => exact ⟨p, [], .slice none 0 0, HQ.out, HW.out, ⟨[], .nil, rfl, .inl ⟨rfl, rfl⟩⟩, Left.start p, hpl, by simp; exact hpl⟩
        case round =>
          obtain ⟨q, done, s, ⟨ad, nq, cap, rfl, hnq, hqc, hcap, hpos⟩, ⟨hbr, ⟨cur, m0, hbm, hcs, hc0, hc14, hone⟩, hu⟩, ⟨xs, hrow, hown⟩, HL, hq65, hdl'⟩ := hrel
          have HBR : Hid (Blk wr w.heap.size ZM 27) := hbr
          have HBM : Hid (Blk wr (w.heap.size + 1) cur 27) := hbm
          have HU : Hid (Fresh w wr) := hu
          have HO : Hid (wr.ownsRow (w.heap.size + 2) 32 2 s done.length xs) := hown
          have HAR : Hid (ARow xs done) := hrow
          have HCS : Hid (cur.size = 15) := hcs
          have HC0 : Hid (cur[0]? = some (.int .i64 m0)) := hc0
          have HC14 : Hid (cur[14]? = some s) := hc14
          have HC1 : Hid (cur.all (·.oneCell') = true) := hone
          have HPOS : Hid (0 < nq → ∃ o, ad = ⟨b, o, none⟩ ∧ Bytes w b o q) := hpos
          have HNQ : Hid (nq = q.length) := hnq
          have hnq65 : nq ≤ 65536 := by omega
          have hdl : done.length ≤ 100000 := by omega
          have hzsz := info27
          clear hbr hbm hu hown hrow hcs hc0 hc14 hone hpos hnq HQ HW hq65
          by_cases hq0 : 0 < nq
          · obtain ⟨o2, rfl, hby⟩ := HPOS.out hq0
            have HQY : Hid (Bytes w b o2 q) := hby
            clear hby HPOS
            by_cases h4 : nq < 4
            · have hdone : decodeL l = none := by rw [HP.out]; exact Left.short HL (by have := HNQ.out; omega) (by have := HNQ.out; omega)
              go_wp2_with (first
                | (refine wpList_store_row rfl 27 (.tmp 2) (.tmp 48) rfl w.heap.size ZM rfl rfl 27 ZM HBR.out info27 rfl ZM_one ?_))
              have hld : (loadVar 27 ⟨w.heap.size, 0, none⟩).run Tryz.prog (wr.setRow w.heap.size ZM) = .ok (.agg ZM) (wr.setRow w.heap.size ZM) :=
                run_loadVar_row _ _ 27 27 ZM (0, 0) _ (HBR.out.row ZM) Tryz.underlying27 rfl info27
              refine bodyPost_ret (v := .tuple #[.agg ZM, .bool false]) (by
                rw [results_cell_tmp rfl]
                have ha : ∀ w', (asAddr (.pointer (some ⟨w.heap.size, 0, none⟩))).run Tryz.prog w' = .ok ⟨w.heap.size, 0, none⟩ w' := fun _ => rfl
                simp [ha, hld]) rfl ?_
              exact Decoded.nope hdone (HU.out.newer (T := fun k => k = w.heap.size) ⟨rfl, rfl, rfl, by simp [World.setRow], fun k _ hk => setRow_other _ _ _ _ hk⟩ (fun k hk => by omega))
            · have hat : Calls Tryz.prog 11 #[.slice (some ⟨b, o2, none⟩) nq cap, .int .i64 2, .int .i64 2] wr fun e w'' => e = .returned (.int .i64 (num q 2 2 : Nat)) ∧ wr = w'' :=
                at_any q b o2 nq cap 2 2 wr HNQ.out hqc (by unfold maxLen; omega) (HQY.out.upd HU.out (fun f => f)) (by omega) (by omega) (by omega)
              have hn2 : num q 2 2 < 65536 := by
                have := beN_lt ((q.drop 2).take 2)
                have e : ((q.drop 2).take 2).length = 2 := by have := HNQ.out; simp; omega
                rw [e] at this; exact this
              have HALL : Hid (allOf (num q 2 2) = 4 + (num q 2 2 + 3) / 4 * 4) := rfl
              have HST : Hid (4 ≤ q.length → allOf (num q 2 2) ≤ q.length → Left p (done ++ [(num q 0 2, (q.drop 4).take (num q 2 2))]) (q.drop (allOf (num q 2 2)))) := Left.step HL
              have HWD : Hid (q.length < allOf (num q 2 2) → attrsL p = none) := fun h => Left.wide HL (by have := HNQ.out; omega) h
              generalize num q 2 2 = n2 at *
              go_wp2_with fail
              refine hat.mono ?_
              rintro e w1 ⟨rfl, rfl⟩
              by_cases hwide : nq < 4 + (n2 + 3) / 4 * 4
              · have hdone : decodeL l = none := by rw [HP.out]; exact HWD.out (by rw [HALL.out]; have := HNQ.out; omega)
                go_wp2_with (first
                  | (refine wpList_store_row rfl 27 (.tmp 2) (.tmp 60) rfl w.heap.size ZM rfl rfl 27 ZM HBR.out info27 rfl ZM_one ?_))
                have hld : (loadVar 27 ⟨w.heap.size, 0, none⟩).run Tryz.prog (wr.setRow w.heap.size ZM) = .ok (.agg ZM) (wr.setRow w.heap.size ZM) :=
                  run_loadVar_row _ _ 27 27 ZM (0, 0) _ (HBR.out.row ZM) Tryz.underlying27 rfl info27
                refine bodyPost_ret (v := .tuple #[.agg ZM, .bool false]) (by
                  rw [results_cell_tmp rfl]
                  have ha : ∀ w', (asAddr (.pointer (some ⟨w.heap.size, 0, none⟩))).run Tryz.prog w' = .ok ⟨w.heap.size, 0, none⟩ w' := fun _ => rfl
                  simp [ha, hld]) rfl ?_
                exact Decoded.nope hdone (HU.out.newer (T := fun k => k = w.heap.size) ⟨rfl, rfl, rfl, by simp [World.setRow], fun k _ hk => setRow_other _ _ _ _ hk⟩ (fun k hk => by omega))
              · have HDL : Hid (done.length * 4 + q.length ≤ 65536) := hdl'
                have HNX : Hid _ := HST.out (by have := HNQ.out; omega) (by rw [HALL.out]; have := HNQ.out; omega)
                clear hat HST HWD
                go_upto_region 13 with fail
                go_cut [] (fun wx => ∃ s', DW w wx s' ∧ Ats wx (w.heap.size + 2) s' (done ++ [(num q 0 2, (q.drop 4).take n2)]))
                case first =>
                  have hat0 : Calls Tryz.prog 11 #[.slice (some ⟨b, o2, none⟩) nq cap, .int .i64 0, .int .i64 2] wr.drew fun e w'' => e = .returned (.int .i64 (num q 0 2 : Nat)) ∧ wr.drew = w'' :=
                    at_any q b o2 nq cap 0 2 wr.drew HNQ.out hqc (by unfold maxLen; omega) (HQY.out.upd HU.out.drew (fun f => f)) (by omega) (by omega) (by omega)
                  have hc14 : wr.cell? ⟨w.heap.size + 1, 14, none⟩ = some s := by rw [HBM.out.cell]; exact HC14.out
                  have hfz := HBM.out.free 14
                  have hvl : ((q.drop 4).take n2).length = n2 := by have := HNQ.out; simp; omega
                  generalize num q 0 2 = ty at *
                  have hn2c : (4 : Int) + n2 ≤ (cap : Int) := by omega
                  have hn2d : (4 : Int) ≤ 4 + (n2 : Int) := by omega
                  have hn2e : ((4 : Int) + n2).toNat = 4 + n2 := by omega
                  have hwr : IntKind.i64.wrap (4 + (n2 : Int)) = 4 + (n2 : Int) := by rw [IntKind.wrap_i64]; omega
                  obtain ⟨i32, hi32, hz32, hs32, hb32⟩ := info32v
                  obtain ⟨A2, c2, hslc⟩ := run_sliceV b o2 nq cap n2 (by omega)
                  have HOd : Hid (wr.drew.ownsRow (w.heap.size + 2) 32 2 s done.length xs) := owns_upd HO.out ((Upd.refl (fun _ => False) wr).drew) (fun _ _ f => f) (Nat.le_refl _)
                  have hcd : wr.drew.cell? ⟨w.heap.size + 1, 14, none⟩ = some s := hc14
                  have HSZ : w.heap.size + 2 ≤ wr.drew.heap.size := HBM.out.lt
                  have hone2 : ∀ u ∈ [Value.int .i64 ty, .slice A2 n2 c2], u.oneCell' = true := by simp [Value.oneCell']
                  have hm63 : done.length + 1 ≤ maxLen := by unfold maxLen; omega
                  have hby48 : (done.length + 1) * 32 ≤ 140737488355328 := by omega
                  have HSZ2 : w.heap.size + 2 ≤ wr.heap.size := HBM.out.lt
                  have HSZ3 : w.heap.size + 1 < wr.heap.size := HBM.out.lt
                  have hc14a : ∀ ob : Obj, (wr.drew.alloc ob).cell? ⟨w.heap.size + 1, 14, none⟩ = some s := fun ob => ((Upd.refl (fun _ => False) wr.drew).alloc ob).cell (fun f => f) hcd
                  have hne7 : some (w.heap.size + 1) ≠ s.ownBlock := fun e => by have := (HO.out.lt _ e.symm).1; omega
                  clear hdl
                  go_region_law (first
                    | (go_simp; go_at_call 11; refine hat0.mono ?_; rintro e w5 ⟨rfl, rfl⟩)
                    | ((refine step_append_lies _ rfl (.tmp 62) (.tmp 70) 25 rfl (w.heap.size + 2) 32 i32 (.agg #[.int .i64 0, .slice none 0 0]) 2 32 Tryz.underlying25 hi32 hz32 hs32 hb32 rfl (by decide) s done.length xs rfl (HOd.out.alloc _) ⟨wr.drew.heap.size, 0, none⟩ 1 1 [.int .i64 ty, .slice A2 n2 c2] rfl rfl (World.news_of_block (heap_alloc_new _ _)) hone2 (by decide) hm63 hby48 (Nat.le_trans HSZ (by simp)) (wr.drew.heap.size + 1) (by simp) ?_); intro g7 c7 w7 hown7 hgrow7 hg7 hlt7; have hcell7 : w7.cell? ⟨w.heap.size + 1, 14, none⟩ = some s := (hgrow7.cell_far _ (by simp; omega) hne7).trans ((Upd.cell ((Upd.refl (fun _ => False) wr.drew).alloc _) (fun f => f) hcd)); have hfz7 : w7.frozen? ⟨w.heap.size + 1, 14, none⟩ = false := (hgrow7.frozen_far _ (by simp; omega) hne7).trans ((Upd.frozen ((Upd.refl (fun _ => False) wr.drew).alloc _) (fun f => f) (show w.heap.size + 1 < wr.drew.heap.size from HSZ)).trans hfz)))
                  all_goals go_wp2_with fail
                  all_goals go_meet
                  all_goals exact DW.snoc HBR.out HBM.out HCS.out HC0.out HC1.out HU.out HO.out HAR.out hown7 hgrow7 hvl.symm
                case rest =>
                  obtain ⟨wo, rfl⟩ : ∃ wo : World, wo = wr := ⟨_, rfl⟩
                  obtain ⟨s', hdw', hats'⟩ := hcut
                  have HW' : Hid (DW w wc s') := hdw'
                  have HA' : Hid (Ats wc (w.heap.size + 2) s' (done ++ [(num q 0 2, (q.drop 4).take n2)])) := hats'
                  clear hdw' hats'
                  have hall : (4 : Int) + (n2 + 3) / 4 * 4 = ((4 + (n2 + 3) / 4 * 4 : Nat) : Int) := by omega
                  obtain ⟨ad', had', hsl'⟩ := run_sliceFrom b o2 nq cap (4 + (n2 + 3) / 4 * 4) _ hall (by omega) hqc
                  have HAD : Hid _ := had'
                  clear had' hall
                  generalize hA4 : 4 + (n2 + 3) / 4 * 4 = A4 at *
                  have hA4n : A4 ≤ nq ∧ 4 ≤ A4 := by omega
                  clear hA4
                  go_wp2
                  go_roundw
                  case rel =>
                    have e1 : allOf n2 = A4 := HALL.out
                    have e2 := HNQ.out
                    have := HDL.out
                    refine ⟨q.drop A4, done ++ [(num q 0 2, (q.drop 4).take n2)], s', ⟨ad', nq - A4, cap - A4, rfl, by simp; omega, by omega, by omega, ?_⟩, HW'.out, HA'.out, e1 ▸ HNX.out, by simp; omega, by simp; omega⟩
                    intro hp
                    exact ⟨_, HAD.out hp, HQY.out.drop A4⟩
                  case measure => simp; omega
          · obtain rfl : nq = 0 := by omega
            have HE : Hid (q = []) := List.eq_nil_of_length_eq_zero HNQ.out.symm
            have HSZ : w.heap.size + 1 < wr.heap.size := HBM.out.lt
            go_wp2_with (first
              | (refine wpList_load_row rfl 27 (.tmp 4) rfl (w.heap.size + 1) rfl 27 cur (0, 0) _ HBM.out Tryz.underlying27 rfl (by rw [HCS.out]; exact info27) ?_)
              | (refine wpList_store_row rfl 27 (.tmp 2) (.tmp 76) rfl w.heap.size cur rfl rfl 27 ZM HBR.out (by rw [HCS.out]; exact info27) (by rw [HCS.out]; rfl) HC1.out ?_))
            have hld : (loadVar 27 ⟨w.heap.size, 0, none⟩).run Tryz.prog (wr.setRow w.heap.size cur) = .ok (.agg cur) (wr.setRow w.heap.size cur) :=
              run_loadVar_row _ _ 27 27 cur (0, 0) _ (HBR.out.row cur) Tryz.underlying27 rfl (by rw [HCS.out]; exact info27)
            refine bodyPost_ret (v := .tuple #[.agg cur, .bool true]) (by
              rw [results_cell_tmp rfl]
              have ha : ∀ w', (asAddr (.pointer (some ⟨w.heap.size, 0, none⟩))).run Tryz.prog w' = .ok ⟨w.heap.size, 0, none⟩ w' := fun _ => rfl
              simp [ha, hld]) rfl ?_
            have hdone : decodeL l = some done := by rw [HP.out]; exact Left.stop (HE.out ▸ HL)
            refine ⟨cur, m0, s, by rw [hdone]; rfl, HCS.out, HC0.out, HC14.out, HC1.out, ?_, ?_⟩
            · rw [hdone]
              refine ⟨xs, HAR.out, ?_⟩
              refine owns_upd HO.out (S := fun k => k = w.heap.size) ⟨rfl, rfl, rfl, by simp [World.setRow], fun k _ hk => setRow_other _ _ _ _ hk⟩ ?_ (by omega)
              intro k hk e
              have := HO.out.lt k hk
              omega
            · exact HU.out.newer (T := fun k => k = w.heap.size) ⟨rfl, rfl, rfl, by simp [World.setRow], fun k _ hk => setRow_other _ _ _ _ hk⟩ (fun k hk => by omega)
    · have hckb : ((N44 : Int) != 554869826) = true := by rw [bne_iff_ne]; omega
      go_wp2_with fail
      refine bodyPost_ret (v := .tuple #[.agg ZM, .bool false]) (by simp [results, Tryz.results5, go_sem, ZM]) rfl ?_
      exact Decoded.nope (by rw [HDC.out, if_pos (by omega)]) ((Upd.refl _ _).alloc _)
  · have hdn : decodeL l = none := by unfold decodeL; rw [if_pos (by omega)]
    go_enter Tryz.func5, Tryz.ntmps5
    go_wp2_with fail
    refine bodyPost_ret (v := .tuple #[.agg ZM, .bool false]) (by simp [results, Tryz.results5, go_sem, ZM]) rfl ?_
    exact Decoded.nope hdn ((Upd.refl _ _).alloc _)
end Go.Proofs.YtpkipinamlbdoaaGreatDoor
