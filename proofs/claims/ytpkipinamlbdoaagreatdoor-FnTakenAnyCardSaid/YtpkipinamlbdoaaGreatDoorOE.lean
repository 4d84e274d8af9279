/-
  What the two checks say of bytes that end with an integrity and a fingerprint. Condition: the three error variables are laid.
-/
import Derived.Test.YtpkipinamlbdoaaGreatDoorOC
import Derived.Test.YtpkipinamlbdoaaGreatDoorOD
namespace Go.Proofs.YtpkipinamlbdoaaGreatDoor
open Go Go.RowKit
theorem compat_ne {n t : Nat} (h : n ≠ t) (ht : t ≠ 32) : compat n ≠ t := by
  unfold compat; split <;> omega
theorem right_ok (a0 a1 a2 : Addr) (w : World) (hE : Errs a0 a1 a2 w) : RightOk w := fun w' hu => right_any a0 a1 a2 w' (hE.fresh hu)
theorem checks_ok (a0 a1 a2 : Addr) (A B : Option Addr) (n c nk ck : Nat) (l key : List UInt8) (w : World) (hE : Errs a0 a1 a2 w) (hd : Rd w (.slice A n c) l) (hkey : Rk w (.slice B nk ck) key) :
    CheckOk l key (.slice A n c) (.slice B nk ck) w := by
  intro w' hu ats rest hdec hdr htail hno hN h52 h4096 hkl
  obtain ⟨hk2, ht1, hn1, ht2, hn2⟩ := htail
  obtain ⟨m, x0, x1, x2, x3, hm, hats, hl, hreach⟩ := ends h52 hN hdec hdr hk2 ht1 hn1 ht2 hn2
  have hE' := hE.fresh hu
  have hd' := hd.upd hu (fun _ _ f => f)
  have hk' := hkey.upd hu (fun _ _ f => f)
  have hra : reach ats = num l 2 2 := decodeL_reach hdec
  have hlt := num_lt l 2
  clear ht1 hn1 ht2 hn2
  subst hats
  have hlen : rest.length < (rest ++ [(8, m), (32808, [x0, x1, x2, x3])]).length := by simp
  have hlen1 : rest.length + 1 < (rest ++ [(8, m), (32808, [x0, x1, x2, x3])]).length := by simp
  have g0 : (rest ++ [(8, m), (32808, [x0, x1, x2, x3])])[rest.length] = (8, m) := by simp
  have g1 : (rest ++ [(8, m), (32808, [x0, x1, x2, x3])])[rest.length + 1] = (32808, [x0, x1, x2, x3]) := by
    rw [List.getElem_append_right (by omega)]; simp
  have gi : ∀ i (h : i < rest.length), (rest ++ [(8, m), (32808, [x0, x1, x2, x3])])[i]'(by simp; omega) = rest[i] := fun i h => List.getElem_append_left h
  have tk0 : (rest ++ [(8, m), (32808, [x0, x1, x2, x3])]).take rest.length = rest := by simp
  have tk1 : reach ((rest ++ [(8, m), (32808, [x0, x1, x2, x3])]).take (rest.length + 1)) = l.length - 28 := by
    rw [reach_take_succ _ _ hlen, tk0, hreach, g0]
    show _ + allOf m.length = _
    rw [hm, allOf_20]; omega
  have hpl : (l.take (l.length - 32)).length = l.length - 32 := by simp
  have v0 : (l.drop (20 + (l.length - 52) + 4)).take 20 = m := by
    have e : 20 + (l.length - 52) + 4 = (l.take (l.length - 32)).length + 4 := by omega
    rw [e]
    generalize l.take (l.length - 32) = p at *
    have h1 := congrArg (fun x => (x.drop (p.length + 4)).take 20) hl
    simp only [List.append_assoc] at h1
    refine h1.trans ?_
    simp [List.drop_append, List.take_append, hm]
  have v1 : (l.drop (20 + (l.length - 28) + 4)).take 4 = [x0, x1, x2, x3] := by
    have e : 20 + (l.length - 28) + 4 = (l.take (l.length - 32)).length + 28 := by omega
    rw [e]
    generalize l.take (l.length - 32) = p at *
    have h1 := congrArg (fun x => (x.drop (p.length + 28)).take 4) hl
    simp only [List.append_assoc] at h1
    refine h1.trans ?_
    have a1 : p.drop (p.length + 28) = [] := List.drop_of_length_le (by omega)
    have a2 : m.drop 24 = [] := List.drop_of_length_le (by omega)
    simp [List.drop_append, hm, a1, a2]
  have hM : (lenSet (l.length - 52 + 24) l).take (20 + (l.length - 52)) = lenSet (l.length - 28) (l.take (l.length - 32)) := by
    rw [lenSet_take]; congr 1
    · omega
    · congr 1; omega
  have hS := signed_key a0 a1 a2 A B n c nk ck rest.length l key _ w' hE' hd' hk' (by omega) (by omega) hdec hlen (by rw [g0]; exact (by decide : compat 8 = 8)) (fun i h hi => by rw [gi i hi]; exact compat_ne (hno i hi).1 (by decide)) (by rw [g0]; exact hm) (by rw [tk0, hreach]; omega) (by rw [tk0, hreach, g0]; exact v0) (by rw [hra]; omega) hlt
  rw [tk0, hreach, g0, hM] at hS
  refine ⟨decide (m = macOf key (lenSet (l.length - 28) (l.take (l.length - 32)))), decide (be32 x0 x1 x2 x3 = fpOf (l.take (l.length - 8))), ?_, fun w'' hu2 => ?_, ?_⟩
  · simpa only [decide_eq_true_eq] using hS
  · have hM2 := marked_any a0 a1 a2 A n c (rest.length + 1) l _ x0 x1 x2 x3 w'' (hE'.fresh hu2) (hd'.upd hu2 (fun _ _ f => f)) (by omega) (by omega) hdec hlen1 (by rw [g1]; exact (by decide : compat 32808 = 32808)) (fun i h hi => by
      by_cases e : i = rest.length
      · subst e; rw [g0]; exact (by decide : compat 8 ≠ 32808)
      · rw [gi i (by omega)]; exact compat_ne (hno i (by omega)).2 (by decide)) (by rw [g1]) (by rw [tk1, g1]; exact v1) (by rw [hra]; omega)
    simpa only [decide_eq_true_eq] using hM2
  · rw [← Bool.decide_and]
    exact decide_eq_decide.2 (taken_iff h52 hN hm hl)
theorem taken_any (a0 a1 a2 : Addr) (A B : Option Addr) (n c nk ck : Nat) (l key : List UInt8) (w : World) (hE : Errs a0 a1 a2 w) (hd : Rk w (.slice A n c) l) (hkey : Rk w (.slice B nk ck) key) :
    Calls Tryz.prog 3 #[.slice A n c, .slice B nk ck] w (Yes w) := by
  rcases hd with hd | ⟨A', e, rfl⟩
  · exact law_any A B n c nk ck l key w hd hkey (checks_ok a0 a1 a2 A B n c nk ck l key w hE hd hkey) (right_ok a0 a1 a2 w hE)
  · cases e
    exact law_empty A B nk ck w
end Go.Proofs.YtpkipinamlbdoaaGreatDoor
