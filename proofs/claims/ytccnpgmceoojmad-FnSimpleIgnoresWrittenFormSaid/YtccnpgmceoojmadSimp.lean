/-
  What simple answers, told by which features a parameter expansion has; and what the law's own builder leaves.
-/
import Derived.Test.YtccnpgmceoojmadSimp0
import Derived.Test.YtccnpgmceoojmadSimp1
import Derived.Test.YtccnpgmceoojmadSimp2
import Derived.Test.YtccnpgmceoojmadSimp3
import Derived.Deep.DeepCutAuto
import Derived.Laws.BitsAllLaws
namespace Go.Proofs.Ytccnpgmceoojmad.simp
open Go.RowKit
open Go.Proofs.Ytccnpgmceoojmad

def FtP (b : Bool) (v : Value) : Prop := (b = false ∧ v = .pointer none) ∨ (b = true ∧ ∃ q, v = .pointer (some q))
def FtI (b : Bool) (v : Value) : Prop := (b = false ∧ v = .nilIface) ∨ (b = true ∧ ∃ T q, v = .iface T (.pointer q))
def FtS (b : Bool) (v : Value) : Prop := (b = false ∧ v = .slice none 0 0) ∨ (b = true ∧ ∃ q, v = .slice (some q) 1 1)
/-- The features, told by the cells. -/
def Fts (b0 b1 b2 b3 b4 b5 b6 b7 b8 b9 b10 b11 : Bool) (V : Nat → Value) : Prop := FtP b0 (V 13) ∧ FtP b1 (V 5) ∧ V 6 = .bool b2 ∧ V 7 = .bool b3 ∧ V 8 = .bool b4 ∧ V 9 = .bool b5 ∧ FtI b6 (V 14) ∧ FtI b7 (V 15) ∧ FtS b8 (V 16) ∧ FtP b9 (V 17) ∧ FtP b10 (V 18) ∧ FtP b11 (V 20)
/-- What simple answers. -/
def simB (b0 b1 b2 b3 b4 b5 b6 b7 b8 b9 b10 b11 : Bool) (sp gl rc nm : Int) : Bool := b0 && !b1 && !b2 && !b3 && !b4 && !b5 && (sp == 0) && (gl == 0) && (rc == 0) && !b6 && !b7 && !b8 && !b9 && !b10 && (nm == 0) && !b11
theorem simple (b0 b1 b2 b3 b4 b5 b6 b7 b8 b9 b10 b11 : Bool) (sp gl rc nm : Int) (p : Nat) (V : Nat → Value) (w : World) (hF : Fts b0 b1 b2 b3 b4 b5 b6 b7 b8 b9 b10 b11 V) (h10 : V 10 = .int .u8 sp) (h11 : V 11 = .int .u8 gl) (h12 : V 12 = .int .u8 rc) (h19 : V 19 = .int .u32 nm) (hc : ∀ i, i < 21 → w.cell? ⟨p, i, none⟩ = some (V i)) :
    Calls Try.prog 23 #[.pointer (some ⟨p, 0, none⟩)] w fun e w' => e = .returned (.bool (simB b0 b1 b2 b3 b4 b5 b6 b7 b8 b9 b10 b11 sp gl rc nm)) ∧ w = w' := by
  obtain ⟨f13, f5, f6, f7, f8, f9, f14, f15, f16, f17, f18, f20⟩ := hF
  have c0 := hc 13 (by omega)
  have c1 := hc 5 (by omega)
  have c2 := hc 6 (by omega)
  have c3 := hc 7 (by omega)
  have c4 := hc 8 (by omega)
  have c5 := hc 9 (by omega)
  have c6 := hc 10 (by omega)
  have c7 := hc 11 (by omega)
  have c8 := hc 12 (by omega)
  have c9 := hc 14 (by omega)
  have c10 := hc 15 (by omega)
  have c11 := hc 16 (by omega)
  have c12 := hc 17 (by omega)
  have c13 := hc 18 (by omega)
  have c14 := hc 19 (by omega)
  have c15 := hc 20 (by omega)
  clear hc
  unfold simB
  rcases f13 with ⟨rfl, e0⟩ | ⟨rfl, _, e0⟩
  · rw [e0] at c0
    refine (s0 p w c0).mono fun e w' h => ⟨h.1.trans (by simp [*]), h.2⟩
  rw [e0] at c0
  clear e0
  rcases f5 with ⟨rfl, e1⟩ | ⟨rfl, _, e1⟩
  rotate_left
  · rw [e1] at c1
    refine (s1 p _ _ w c0 c1).mono fun e w' h => ⟨h.1.trans (by simp [*]), h.2⟩
  rw [e1] at c1
  clear e1
  rw [f6] at c2
  clear f6
  cases b2
  rotate_left
  · refine (s2 p _ w c0 c1 c2).mono fun e w' h => ⟨h.1.trans (by simp [*]), h.2⟩
  rw [f7] at c3
  clear f7
  cases b3
  rotate_left
  · refine (s3 p _ w c0 c1 c2 c3).mono fun e w' h => ⟨h.1.trans (by simp [*]), h.2⟩
  rw [f8] at c4
  clear f8
  cases b4
  rotate_left
  · refine (s4 p _ w c0 c1 c2 c3 c4).mono fun e w' h => ⟨h.1.trans (by simp [*]), h.2⟩
  rw [f9] at c5
  clear f9
  cases b5
  rotate_left
  · refine (s5 p _ w c0 c1 c2 c3 c4 c5).mono fun e w' h => ⟨h.1.trans (by simp [*]), h.2⟩
  rw [h10] at c6
  clear h10
  by_cases hz0 : sp = 0
  rotate_left
  · have hz : (sp == 0) = false := by simp [hz0]
    refine (s6 p _ _ w c0 c1 c2 c3 c4 c5 c6 hz).mono fun e w' h => ⟨h.1.trans (by simp [*]), h.2⟩
  subst hz0
  rw [h11] at c7
  clear h11
  by_cases hz0 : gl = 0
  rotate_left
  · have hz : (gl == 0) = false := by simp [hz0]
    refine (s7 p _ _ w c0 c1 c2 c3 c4 c5 c6 c7 hz).mono fun e w' h => ⟨h.1.trans (by simp [*]), h.2⟩
  subst hz0
  rw [h12] at c8
  clear h12
  by_cases hz0 : rc = 0
  rotate_left
  · have hz : (rc == 0) = false := by simp [hz0]
    refine (s8 p _ _ w c0 c1 c2 c3 c4 c5 c6 c7 c8 hz).mono fun e w' h => ⟨h.1.trans (by simp [*]), h.2⟩
  subst hz0
  rcases f14 with ⟨rfl, e9⟩ | ⟨rfl, _, _, e9⟩
  rotate_left
  · rw [e9] at c9
    refine (s9 p _ _ _ w c0 c1 c2 c3 c4 c5 c6 c7 c8 c9).mono fun e w' h => ⟨h.1.trans (by simp [*]), h.2⟩
  rw [e9] at c9
  clear e9
  rcases f15 with ⟨rfl, e10⟩ | ⟨rfl, _, _, e10⟩
  rotate_left
  · rw [e10] at c10
    refine (s10 p _ _ _ w c0 c1 c2 c3 c4 c5 c6 c7 c8 c9 c10).mono fun e w' h => ⟨h.1.trans (by simp [*]), h.2⟩
  rw [e10] at c10
  clear e10
  rcases f16 with ⟨rfl, e11⟩ | ⟨rfl, _, e11⟩
  rotate_left
  · rw [e11] at c11
    refine (s11 p _ _ w c0 c1 c2 c3 c4 c5 c6 c7 c8 c9 c10 c11).mono fun e w' h => ⟨h.1.trans (by simp [*]), h.2⟩
  rw [e11] at c11
  clear e11
  rcases f17 with ⟨rfl, e12⟩ | ⟨rfl, _, e12⟩
  rotate_left
  · rw [e12] at c12
    refine (s12 p _ _ w c0 c1 c2 c3 c4 c5 c6 c7 c8 c9 c10 c11 c12).mono fun e w' h => ⟨h.1.trans (by simp [*]), h.2⟩
  rw [e12] at c12
  clear e12
  rcases f18 with ⟨rfl, e13⟩ | ⟨rfl, _, e13⟩
  rotate_left
  · rw [e13] at c13
    refine (s13 p _ _ w c0 c1 c2 c3 c4 c5 c6 c7 c8 c9 c10 c11 c12 c13).mono fun e w' h => ⟨h.1.trans (by simp [*]), h.2⟩
  rw [e13] at c13
  clear e13
  rw [h19] at c14
  clear h19
  by_cases hz0 : nm = 0
  rotate_left
  · have hz : (nm == 0) = false := by simp [hz0]
    refine (s14 p _ _ w c0 c1 c2 c3 c4 c5 c6 c7 c8 c9 c10 c11 c12 c13 c14 hz).mono fun e w' h => ⟨h.1.trans (by simp [*]), h.2⟩
  subst hz0
  rcases f20 with ⟨rfl, e15⟩ | ⟨rfl, _, e15⟩
  rotate_left
  · rw [e15] at c15
    refine (s15 p _ _ w c0 c1 c2 c3 c4 c5 c6 c7 c8 c9 c10 c11 c12 c13 c14 c15).mono fun e w' h => ⟨h.1.trans (by simp [*]), h.2⟩
  rw [e15] at c15
  clear e15
  refine (s16 p _ w c0 c1 c2 c3 c4 c5 c6 c7 c8 c9 c10 c11 c12 c13 c14 c15).mono fun e w' h => ⟨h.1.trans (by simp [*]), h.2⟩
end Go.Proofs.Ytccnpgmceoojmad.simp
