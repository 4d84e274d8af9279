/-
  From the row's list to the three error variables, and from the arguments' data to bytes. No condition.
-/
import Derived.Test.YtpkipinamlbdoaaGreatDoorOF
import Derived.Test.YtpkipinamlbdoaaGreatDoorRows
import Derived.LaidLaws
import Derived.LaidMore
import Derived.MakeChecks
import Derived.ChangeSlices
namespace Go.Proofs.YtpkipinamlbdoaaGreatDoor
open Go Go.RowKit Go.ChangeShapes Go.WideShapes
theorem glob0 : Tryz.prog.globalNamed "loop.example/pub-g03083/pub/stun.ErrAttributeNotFound" = some 0 := by kernel_rfl
theorem glob1 : Tryz.prog.globalNamed "loop.example/pub-g03083/pub/stun.ErrIntegrityMismatch" = some 1 := by kernel_rfl
theorem glob2 : Tryz.prog.globalNamed "loop.example/pub-g03083/pub/stun.ErrFingerprintMismatch" = some 2 := by kernel_rfl
theorem globt0 : (Tryz.prog.globals[0]?).map (·.type) = some 47 := by kernel_rfl
theorem globt1 : (Tryz.prog.globals[1]?).map (·.type) = some 47 := by kernel_rfl
theorem globt2 : (Tryz.prog.globals[2]?).map (·.type) = some 47 := by kernel_rfl
theorem cells180 : Tryz.prog.cellsOf 180 = 1 := by kernel_rfl
theorem cells9 : Tryz.prog.cellsOf 9 = 1 := by kernel_rfl
theorem cells5 : Tryz.prog.cellsOf 5 = 1 := by kernel_rfl
theorem star : "*" ++ "errors.errorString" = "*errors.errorString" := by decide
theorem row146 (u : TypeId) (h : Tryz.prog.typeName? 3 u = some "*errors.errorString") : u = 146 :=
  typeName_ptr_named (nm := "errors.errorString") (by rw [star]; kernel_rfl) (by kernel_rfl) (by decide) u (by rw [star]; exact h)
set_option maxRecDepth 100000 in
theorem errs_of_laid {W : World} (h : laidMetH Tryz.prog Rows.fnTakenAnyRow.laid W) : ∃ a0 a1 a2, Errs a0 a1 a2 W := by
  rw [MakeChecks.laidMetH_plain _ _ _ (by kernel_rfl)] at h
  obtain ⟨ps, ⟨g0, t0, cs0, f0, p0, q0, hg0, ht0, hv0, hd0, ⟨g5, t5, cs5, f5, p5, q5, hg5, ht5, hv5, hd5, ⟨g2, t2, cs2, f2, p2, q2, hg2, ht2, hv2, hd2, ⟨g1, t1, cs1, f1, p1, q1, hg1, ht1, hv1, hd1, _, e1⟩, e2⟩, e5⟩, e0⟩, hnd, hrows⟩ := h
  obtain rfl := Option.some.inj (glob0.symm.trans hg0)
  obtain rfl := Option.some.inj (glob1.symm.trans hg1)
  obtain rfl := Option.some.inj (glob2.symm.trans hg2)
  obtain rfl := Option.some.inj (globt0.symm.trans ht0)
  obtain rfl := Option.some.inj (globt1.symm.trans ht1)
  obtain rfl := Option.some.inj (globt2.symm.trans ht2)
  subst e1
  subst e2
  subst e5
  subst e0
  obtain ⟨l0⟩ := cs0
  obtain ⟨l1⟩ := cs1
  obtain ⟨l2⟩ := cs2
  have ok0 : ∀ u v, l0 = [.iface u v] → Value.okWide Tryz.prog W .any 0 u v := fun u v e => by
    subst e
    exact (hrows 0 0 (by simp [MemPlace.row])).2 u v (by simpa using World.var?_cell hg0 hv0 0)
  have ok1 : ∀ u v, l1 = [.iface u v] → Value.okWide Tryz.prog W .any 0 u v := fun u v e => by
    subst e
    exact (hrows 1 0 (by simp [MemPlace.row])).2 u v (by simpa using World.var?_cell hg1 hv1 0)
  have ok2 : ∀ u v, l2 = [.iface u v] → Value.okWide Tryz.prog W .any 0 u v := fun u v e => by
    subst e
    exact (hrows 2 0 (by simp [MemPlace.row])).2 u v (by simpa using World.var?_cell hg2 hv2 0)
  obtain ⟨a0, s0, rfl, -, -, -, rfl⟩ := errorString_of_trod Tryz.underlying47 row146 Tryz.underlying146 Tryz.underlying180 rfl rfl Tryz.underlying9 cells180 cells9 hd0 ok0
  obtain ⟨a1, s1, rfl, -, -, -, rfl⟩ := errorString_of_trod Tryz.underlying47 row146 Tryz.underlying146 Tryz.underlying180 rfl rfl Tryz.underlying9 cells180 cells9 hd1 ok1
  obtain ⟨a2, s2, rfl, -, -, -, rfl⟩ := errorString_of_trod Tryz.underlying47 row146 Tryz.underlying146 Tryz.underlying180 rfl rfl Tryz.underlying9 cells180 cells9 hd2 ok2
  refine ⟨a0, a1, a2, by simpa using World.var?_cell glob0 hv0 0, by simpa using World.var?_cell glob1 hv1 0, by simpa using World.var?_cell glob2 hv2 0,
    (hrows a0.block a0.off (by simp [MemPlace.row])).1, (hrows a1.block a1.off (by simp [MemPlace.row])).1, (hrows a2.block a2.off (by simp [MemPlace.row])).1, ?_, ?_, ?_⟩
  · rintro rfl
    simp [MemPlace.row, List.nodup_append] at hnd
  · rintro rfl
    simp [MemPlace.row, List.nodup_append] at hnd
  · rintro rfl
    simp [MemPlace.row, List.nodup_append] at hnd
set_option maxRecDepth 100000 in
/-- An argument's data are bytes. -/
theorem rk_of_trod {H : Type} {enc : TypeId × Value → H} {W : World} {base : Nat} {v : Value} {d : DataW H} {p : List MemPlace} (hok : Value.okWide Tryz.prog W .any base 22 v) (h : DataW.Trod enc Tryz.prog W 0 (fun _ => true) true 22 v d p) :
    ∃ A n c l, v = .slice A n c ∧ Rk W (.slice A n c) l := by
  obtain ⟨A, n, c, rfl⟩ := okWide_slice Tryz.underlying22 hok
  obtain ⟨fuel, hf⟩ := h
  rcases open_ints Tryz.underlying22 Tryz.underlying5 cells5 hf with ⟨e, _⟩ | ⟨a, len, cap, zs, e, _, hlc, hcm, hz, _, hc, hwf⟩
  · obtain ⟨rfl, rfl, rfl⟩ : A = none ∧ n = 0 ∧ c = 0 := by simpa [Value.cells] using e
    exact ⟨none, 0, 0, [], rfl, .inl .nil⟩
  · obtain ⟨rfl, rfl, rfl⟩ : A = some a ∧ n = len ∧ c = cap := by simpa [Value.cells] using e
    have hz' : zs.length = c := by simpa using hz
    by_cases h0 : c = 0
    · subst h0
      obtain rfl : n = 0 := by omega
      exact ⟨_, 0, 0, [], rfl, .inr ⟨_, rfl, rfl⟩⟩
    · have g0 := hc 0 (by omega)
      have hsp : a.spot = none := by simpa [Addr.add] using World.cell?_spot g0
      obtain ⟨b, off, spot⟩ := a
      simp only at hsp
      subst hsp
      have hb : b < W.heap.size := by simpa [Addr.add] using World.block_lt_of_cell? _ _ g0
      refine ⟨some ⟨b, off, none⟩, n, c, (zs.take n).map (fun z => UInt8.ofNat z.toNat), rfl, .inl (.at_ b off n c _ (by simp; omega) hlc hcm (fun i hi => ?_) hb)⟩
      have hi' : i < n := by simp at hi; omega
      have hiz : i < zs.length := by omega
      have hg := hc i hiz
      rw [Addr.add_lit] at hg
      rw [hg]
      have hw := hwf (zs[i]) (List.getElem_mem hiz)
      have hrange : 0 ≤ zs[i] ∧ zs[i] ≤ 255 := by simpa [Lit.wf, IntKind.min, IntKind.max, IntKind.signed, IntKind.bits] using hw
      have e1 : zs.getD i 0 = zs[i] := by simp [List.getD, List.getElem?_eq_getElem hiz]
      rw [e1]
      congr 2
      rw [List.getElem_map, List.getElem_take, I8_def]
      simp only [UInt8.toNat_ofNat']
      omega
end Go.Proofs.YtpkipinamlbdoaaGreatDoor
