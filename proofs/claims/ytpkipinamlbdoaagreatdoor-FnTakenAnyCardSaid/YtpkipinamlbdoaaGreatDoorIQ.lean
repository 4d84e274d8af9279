/-
  The walk of the reference's IsAsked: true is told of at most 4096 bytes. Condition: at most a million bytes.
-/
import Derived.Test.YtpkipinamlbdoaaGreatDoorWO
import Derived.Lib.Hide
import Derived.Deep.CutRange
import Derived.Deep.DeepCutAuto
import Derived.Handy
namespace Go.Proofs.YtpkipinamlbdoaaGreatDoor
open Go Go.RowKit
attribute [local go_sem] I8_cvt
theorem ownsRow_slice {w : World} {base : Nat} {e : TypeId} {size n : Nat} {v : Value} {xs : List Value} (h : w.ownsRow base e size v n xs) : ∃ A c, v = .slice A n c := by
  rcases h.2 with ⟨rfl, rfl⟩ | ⟨g, cap, cur, rfl, _⟩
  · exact ⟨none, 0, rfl⟩
  · exact ⟨_, cap, rfl⟩
theorem info27s : (Tryz.prog.info? 27).map (·.size) = some 15 := by kernel_rfl
theorem run_alloc27 (w : World) : (Instr.alloc 27 true (.tuple #[])).run Tryz.prog w = .ok (.pointer (some ⟨w.heap.size, 0, none⟩)) (w.alloc (.cells ZM 27)) := by kernel_rfl
def AskAns (l : List UInt8) (w : World) (e : Ending) (w' : World) : Prop := ∃ x : Bool, e = .returned (.bool x) ∧ (x = true → l.length ≤ 4096) ∧ Fresh w w'
set_option maxRecDepth 100000 in
set_option maxHeartbeats 4000000 in
theorem isAsked_gen (A : Option Addr) (n c : Nat) (l : List UInt8) (w : World) (hn : n = l.length) (hd : 4 ≤ l.length → Rd w (.slice A l.length c) l) (hdec : Calls Tryz.prog 5 #[.slice A l.length c] w (Decoded l w)) :
    Calls Tryz.prog 4 #[.slice A n c] w (AskAns l w) := by
  have HD := Lib.hid hd
  subst hn
  have HDC := Lib.hid hdec
  clear hd hdec
  by_cases hbig : 4096 < l.length
  · have hb1 : decide ((4096 : Int) < (l.length : Int)) = true := by simp; omega
    go_enter Tryz.func4, Tryz.ntmps4
    go_wp2_with fail
    go_ret
    exact ⟨false, rfl, by simp, Upd.refl _ _⟩
  · have HSM : Hid (l.length ≤ 4096) := by show _ ≤ _; omega
    go_enter Tryz.func4, Tryz.ntmps4
    go_upto_region 1 with fail
    go_cut [27] (fun s27 wx => (∃ b, s27 = .bool b) ∧ w = wx)
    case first =>
      by_cases h4 : 4 ≤ l.length
      · obtain ⟨b, o, rfl, _, hlc, hcm, hby, hb⟩ := (HD.out h4).addr (by omega)
        have c0 := hby 0 (by omega)
        have c3 := hby 3 (by omega)
        rw [Nat.add_zero] at c0
        generalize l[0]'(by omega) = x0 at *
        generalize l[3]'(by omega) = x3 at *
        have i3 : (3 : Int) < (l.length : Int) := by omega
        have i0 : (0 : Int) < (l.length : Int) := by omega
        clear hby
        by_cases hx : (63 : Int) < I8 x0
        · go_wp2_with fail
          all_goals (go_meet; exact ⟨⟨_, rfl⟩, rfl⟩)
        · go_wp2_with fail
          all_goals (go_meet; exact ⟨⟨_, rfl⟩, rfl⟩)
      · go_wp2_with fail
        all_goals (go_meet; exact ⟨⟨_, rfl⟩, rfl⟩)
    case rest =>
    obtain ⟨⟨b, rfl⟩, rfl⟩ := hcut
    cases b
    · go_wp2_with fail
      refine HDC.out.mono ?_
      rintro e w1 ⟨M, m0, s, rfl, hM, hM0, hM14, hone, ⟨xs, hrow, hown⟩, hu⟩
      have HM := Lib.hid hM
      have HM0 := Lib.hid hM0
      have HM14 := Lib.hid hM14
      have HONE := Lib.hid hone
      have HROW := Lib.hid hrow
      have HOWN := Lib.hid hown
      have HU := Lib.hid hu
      clear hM hM0 hM14 hone hrow hu
      generalize (decodeL l).getD [] = ats at *
      generalize (decodeL l).isSome = ok at *
      obtain ⟨A1, c1, rfl⟩ := ownsRow_slice hown
      clear hown
      go_upto_region 4 with (first
        | (refine wpList_alloc_of run_alloc27 rfl rfl ?_)
        | (refine wpList_store_row rfl 27 (.tmp 3) (.tmp 31) rfl w1.heap.size M rfl rfl 27 ZM (Blk.new _ _ _) (by rw [HM.out]; exact info27s) (by rw [HM.out]; rfl) HONE.out ?_))
      have HB2 : Hid (Blk ((w1.alloc (.cells ZM 27)).setRow w1.heap.size M) w1.heap.size M 27) := Blk.row (Blk.new _ _ _) _
      have HU2 : Hid (Fresh w1 ((w1.alloc (.cells ZM 27)).setRow w1.heap.size M)) := ((Upd.refl (fun _ => False) w1).alloc _).newer (T := fun k => k = w1.heap.size) ⟨rfl, rfl, rfl, by simp [World.setRow], fun k _ hk => setRow_other _ _ _ _ hk⟩ (fun k hk => by omega)
      generalize (w1.alloc (.cells ZM 27)).setRow w1.heap.size M = w2 at *
      have c14 : w2.cell? ⟨w1.heap.size, 14, none⟩ = some (.slice A1 ats.length c1) := by rw [HB2.out.cell]; exact HM14.out
      have HC0 : Hid (w2.cell? ⟨w1.heap.size, 0, none⟩ = some (.int .i64 m0)) := by show _ = _; rw [HB2.out.cell]; exact HM0.out
      have HOWN2 := Lib.hid (owns_upd HOWN.out HU2.out (fun _ _ f => f) (Nat.le_refl _))
      have HUW : Hid (Fresh w w2) := HU.out.fresh HU2.out
      clear HU HU2 HOWN HB2 HM HM0 HM14 HONE
      have hal : ats.length ≤ 9223372036854775807 := by
        by_cases h0 : ats.length = 0
        · omega
        · obtain ⟨g, cap, e, _, _⟩ := HOWN2.out.form (by omega)
          rcases HOWN2.out.2 with ⟨_, h⟩ | ⟨_, _, _, _, _, _, h1, h2, _⟩
          · omega
          · unfold maxLen at h2; omega
      go_wp2_with fail
      go_loopw [36] (fun i wr => ∃ k : Nat, k ≤ ats.length ∧ i = .int .i64 k ∧ Fresh w2 wr) (fun i _ => ats.length - (intOf i).toNat)
      case atStart => exact ⟨0, by omega, rfl, Upd.refl _ _⟩
      case round =>
        obtain ⟨k, hk, rfl, hu⟩ := hrel
        have HUR := Lib.hid hu
        clear hu c14
        by_cases hlt : k < ats.length
        · obtain ⟨e0, A2, c2, e1⟩ := HROW.out.get k hlt
          obtain ⟨g, cap, he, _, _⟩ := HOWN2.out.form (by omega)
          simp only [Value.slice.injEq] at he
          obtain ⟨rfl, _, rfl⟩ := he
          have hf : ∀ m v, xs[m]? = some v → wr.cell? ⟨g, m, none⟩ = some v := fun m v h => by
            have := HOWN2.out.cells (g := g) rfl m v h
            rw [Addr.add_lit, Nat.zero_add] at this
            exact HUR.out.cell (fun f => f) this
          have d0 : wr.cell? ⟨g, k * 2, none⟩ = some (.int .i64 ((ats[k]).1 : Nat)) := by rw [Nat.mul_comm]; exact hf _ _ e0
          have d1 : wr.cell? ⟨g, k * 2 + 1, none⟩ = some (.slice A2 (ats[k]).2.length c2) := by rw [Nat.mul_comm]; exact hf _ _ e1
          clear hf e0 e1
          generalize (ats[k]).1 = ty at *
          have hki : (k : Int) < (ats.length : Int) := by omega
          by_cases hty : ty = 32800
          · have ht : (((ty : Nat) : Int) == 32800) = true := by rw [beq_iff_eq]; omega
            clear hty
            go_wp2_with fail
            go_ret
            exact ⟨false, rfl, by simp, (HUW.out.fresh HUR.out).alloc _⟩
          · have ht : (((ty : Nat) : Int) == 32800) = false := by rw [beq_eq_false_iff_ne]; omega
            clear hty
            go_wp2_with fail
            go_roundw
            case rel => exact ⟨k + 1, by omega, by go_num, HUR.out.alloc _⟩
            case measure => simp [intOf]; omega
        · obtain rfl : k = ats.length := by omega
          have c0 : wr.cell? ⟨w1.heap.size, 0, none⟩ = some (.int .i64 m0) := HUR.out.cell (fun f => f) HC0.out
          cases ok
          · go_wp2_with fail
            go_ret
            exact ⟨_, rfl, fun _ => HSM.out, HUW.out.fresh HUR.out⟩
          · go_wp2_with fail
            go_ret
            exact ⟨_, rfl, fun _ => HSM.out, HUW.out.fresh HUR.out⟩
    · go_wp2_with fail
      go_ret
      exact ⟨false, rfl, by simp, Upd.refl _ _⟩
theorem isAsked_any (A : Option Addr) (n c : Nat) (l : List UInt8) (w : World) (hd : Rd w (.slice A n c) l) (hlen : l.length ≤ 1000000) :
    Calls Tryz.prog 4 #[.slice A n c] w (AskAns l w) := by
  obtain rfl := hd.len
  exact isAsked_gen A l.length c l w rfl (fun _ => hd) (decode_any A l.length c l w hd hlen)
set_option maxRecDepth 100000 in
set_option maxHeartbeats 4000000 in
/-- Decode of an empty slice, whatever its address. -/
theorem decode_empty (A : Option Addr) (w : World) : Calls Tryz.prog 5 #[.slice A 0 0] w (Decoded [] w) := by
  go_enter Tryz.func5, Tryz.ntmps5
  go_wp2_with fail
  refine bodyPost_ret (v := .tuple #[.agg ZM, .bool false]) (by simp [results, Tryz.results5, go_sem, ZM]) rfl ?_
  exact Decoded.nope rfl ((Upd.refl _ _).alloc _)
theorem isAsked_empty (A : Option Addr) (w : World) : Calls Tryz.prog 4 #[.slice A 0 0] w (AskAns [] w) :=
  isAsked_gen A 0 0 [] w rfl (fun h => absurd h (by simp)) (decode_empty A w)
end Go.Proofs.YtpkipinamlbdoaaGreatDoor
