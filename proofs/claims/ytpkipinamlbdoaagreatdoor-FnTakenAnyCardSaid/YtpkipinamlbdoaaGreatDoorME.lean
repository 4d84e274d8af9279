/-
  The walks of the library's Attributes.Get and Message.Get where there is such an attribute. Condition: it is there.
-/
import Derived.Test.YtpkipinamlbdoaaGreatDoorMD
namespace Go.Proofs.YtpkipinamlbdoaaGreatDoor
open Go Go.RowKit
theorem IRow.cell {gr : Nat} {xs : List Value} {ats : List (Nat × List UInt8)} : ∀ {o : Nat}, IRow gr o xs ats → ∀ (i : Nat) (hi : i < ats.length), ∃ A c, xs[i * 3]? = some (.int .u16 (compat (ats[i]).1 : Nat)) ∧ xs[i * 3 + 1]? = some (.int .u16 ((ats[i]).2.length : Nat)) ∧ xs[i * 3 + 2]? = some (.slice A (ats[i]).2.length c) ∧
    (0 < (ats[i]).2.length → A = some ⟨gr, o + reach (ats.take i) + 4, none⟩) ∧ (ats[i]).2.length ≤ c ∧ c ≤ maxLen := by
  intro o h
  induction h with
  | nil o => intro i hi; simp at hi
  | cons o ty x A c xs' ats' hA h1 h2 _ ih =>
    intro i hi
    cases i with
    | zero => exact ⟨A, c, by simp, by simp, by simp, by simpa [reach] using hA, by simpa using h1, h2⟩
    | succ i =>
      obtain ⟨A', c', e0, e1, e2, e3, e4, e5⟩ := ih i (by simpa using hi)
      refine ⟨A', c', ?_, ?_, ?_, ?_, by simpa using e4, e5⟩
      · rw [show (i + 1) * 3 = i * 3 + 1 + 1 + 1 by omega]; simpa using e0
      · rw [show (i + 1) * 3 + 1 = i * 3 + 1 + 1 + 1 + 1 by omega]; simpa using e1
      · rw [show (i + 1) * 3 + 2 = i * 3 + 2 + 1 + 1 + 1 by omega]; simpa using e2
      · intro hl
        rw [e3 (by simpa using hl)]; simp [reach, Nat.add_assoc]
/-- The first attribute of a type stands at place k. -/
def FirstAt (ats : List (Nat × List UInt8)) (T k : Nat) : Prop := (∃ h : k < ats.length, compat (ats[k]).1 = T) ∧ ∀ i (h : i < ats.length), i < k → compat (ats[i]).1 ≠ T
set_option maxRecDepth 100000 in
set_option maxHeartbeats 4000000 in
theorem aget_any (gr o base T k : Nat) (s : Value) (xs : List Value) (ats : List (Nat × List UInt8)) (w : World) (hrow : IRow gr o xs ats) (hown : w.ownsRow base 72 3 s ats.length xs) (hk : k < ats.length) (hT : compat (ats[k]).1 = T) (hfirst : ∀ i (h : i < ats.length), i < k → compat (ats[i]).1 ≠ T) (hlen : ats.length ≤ 100000) (_hT16 : T < 65536) :
    Calls Tryz.prog 40 #[s, .int .u16 T] w fun e w' => ∃ A c, e = .returned (.tuple #[.agg #[.int .u16 (T : Nat), .int .u16 ((ats[k]).2.length : Nat), .slice A (ats[k]).2.length c], .bool true]) ∧ (0 < (ats[k]).2.length → A = some ⟨gr, o + reach (ats.take k) + 4, none⟩) ∧ (ats[k]).2.length ≤ c ∧ c ≤ maxLen ∧ Fresh w w' := by
  obtain ⟨g, cap, rfl, hg, hgl⟩ := hown.form (by omega)
  have hcells := hown.cells (g := g) rfl
  have HC := Lib.hid hcells
  have HROW := Lib.hid hrow
  have HF := Lib.hid hfirst
  have HT := Lib.hid hT
  clear hcells hrow hfirst hT hown
  go_enter Tryz.func40, Tryz.ntmps40
  go_wp2_with fail
  go_loopw [10] (fun i wr => ∃ j : Nat, j ≤ k ∧ i = .int .i64 j ∧ Fresh (w.alloc (.cells ZA 72)) wr) (fun i _ => k - (intOf i).toNat + 1)
  case atStart => exact ⟨0, by omega, rfl, Upd.refl _ _⟩
  case round =>
    obtain ⟨j, hj, rfl, hu⟩ := hrel
    have HU := Lib.hid hu
    obtain ⟨A, c, e0, e1, e2, e3, e4, e5⟩ := HROW.out.cell j (by omega)
    have hf : ∀ m v, xs[m]? = some v → wr.cell? ⟨g, m, none⟩ = some v := fun m v h => by
      have := HC.out m v h
      rw [Addr.add_lit] at this; simp at this
      exact hu.cell (fun f => f) (((Upd.refl (fun _ => False) w).alloc _).cell (fun f => f) this)
    have c0 := hf _ _ e0
    have c1 := hf _ _ e1
    have c2 := hf _ _ e2
    clear hu hf e0 e1 e2
    have hjl : (j : Int) < (ats.length : Int) := by omega
    by_cases heq : j = k
    · subst heq
      have ht : ((compat (ats[j]).1 : Int) == (T : Int)) = true := by rw [beq_iff_eq, HT.out]
      have hcells : (#[.int .u16 (compat (ats[j]).1 : Nat), .int .u16 ((ats[j]).2.length : Nat), .slice A (ats[j]).2.length c] : Array Value).all (·.oneCell') = true := by simp [Value.oneCell']
      have HBR : Hid (Blk wr w.heap.size ZA 72) := (Blk.new w ZA 72).upd HU.out (fun f => f)
      have HTT := Lib.hid HT.out
      have E3 := Lib.hid e3
      generalize hcv : (#[.int .u16 (compat (ats[j]).1 : Nat), .int .u16 ((ats[j]).2.length : Nat), .slice A (ats[j]).2.length c] : Array Value) = cv at *
      have HCV := Lib.hid hcv
      have hcs : cv.size = 3 := by rw [← hcv]; rfl
      have HCS := Lib.hid hcs
      clear hcv hcs
      go_wp2_with (first | (refine wpList_store_row rfl 72 (.tmp 4) (.tmp 18) rfl w.heap.size cv rfl (by rw [← HCV.out]; rfl) 72 ZA (HBR.out.alloc _) (by rw [HCS.out]; exact info72) (by rw [HCS.out]; rfl) hcells ?_))
      have hld : ∀ W : World, Blk W w.heap.size ZA 72 → (loadVar 72 ⟨w.heap.size, 0, none⟩).run Tryz.prog (W.setRow w.heap.size cv) = .ok (.agg cv) (W.setRow w.heap.size cv) := fun W hb =>
        run_loadVar_row _ _ 72 72 cv (0, 0) _ (hb.row cv) Tryz.underlying72 rfl (by rw [HCS.out]; exact info72)
      refine bodyPost_ret (v := .tuple #[.agg cv, .bool true]) (by
        rw [results_cell_tmp rfl]
        have ha : ∀ w', (asAddr (.pointer (some ⟨w.heap.size, 0, none⟩))).run Tryz.prog w' = .ok ⟨w.heap.size, 0, none⟩ w' := fun _ => rfl
        simp [ha, hld _ (HBR.out.alloc _)]) rfl ?_
      refine ⟨A, c, by rw [← HCV.out, HTT.out], E3.out, e4, e5, ?_⟩
      exact ((((Upd.refl (fun _ => False) w).alloc _).fresh HU.out).alloc _).newer (T := fun k => k = w.heap.size) ⟨rfl, rfl, rfl, by simp [World.setRow], fun k _ hk => setRow_other _ _ _ _ hk⟩ (fun k hk => by omega)
    · have ht : ((compat (ats[j]).1 : Int) == (T : Int)) = false := by
        rw [beq_eq_false_iff_ne]; intro e; exact HF.out j (by omega) (by omega) (by omega)
      go_wp2_with fail
      go_roundw
      case rel => exact ⟨j + 1, by omega, by go_num, HU.out.alloc _⟩
      case measure => simp [intOf]; omega
set_option maxRecDepth 100000 in
set_option maxHeartbeats 4000000 in
theorem mget_any (gm gr o base T k : Nat) (s : Value) (xs : List Value) (ats : List (Nat × List UInt8)) (w : World) (h15 : w.cell? ⟨gm, 15, none⟩ = some s) (hrow : IRow gr o xs ats) (hown : w.ownsRow base 72 3 s ats.length xs) (hk : k < ats.length) (hT : compat (ats[k]).1 = T) (hfirst : ∀ i (h : i < ats.length), i < k → compat (ats[i]).1 ≠ T) (hlen : ats.length ≤ 100000) (_hT16 : T < 65536) :
    Calls Tryz.prog 25 #[.pointer (some ⟨gm, 0, none⟩), .int .u16 T] w fun e w' => ∃ A c, e = .returned (.tuple #[.slice A (ats[k]).2.length c, .nilIface]) ∧ (0 < (ats[k]).2.length → A = some ⟨gr, o + reach (ats.take k) + 4, none⟩) ∧ (ats[k]).2.length ≤ c ∧ c ≤ maxLen ∧ Fresh w w' := by
  have HC := Lib.hid (aget_any gr o base T k s xs ats w hrow hown hk hT hfirst hlen _hT16)
  clear hrow hown hT hfirst
  go_enter Tryz.func25, Tryz.ntmps25
  go_wp2_with fail
  refine Calls.mono HC.out ?_
  rintro e w1 ⟨A, c, rfl, hA, h1, h2, hu⟩
  have HA := Lib.hid hA
  have HU := Lib.hid hu
  clear hA hu HC
  go_wp2_with fail
  go_ret2
  exact ⟨A, c, rfl, HA.out, h1, h2, HU.out.alloc _⟩
end Go.Proofs.YtpkipinamlbdoaaGreatDoor
