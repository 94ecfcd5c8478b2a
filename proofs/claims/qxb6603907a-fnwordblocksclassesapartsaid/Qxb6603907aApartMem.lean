import Derived.Test.Qxb6603907aOwners
namespace Go.Proofs.Qxb6603907a
open Go.RowKit RowsKit Blocks

section
variable {w w' : World} {base B c c2 M n1 n2 cap1 cap2 : Nat} {ao1 ao2 : Option Addr} {os fs : Nat → Int} {a b a' b' a2 b2 : D}

/-- a step on another class -/
theorem K2.beside (h : K2 w base B c2 M n1 n2 cap1 cap2 ao1 ao2 os fs a2 b2) (hst : CStep base B c a b a' b' w w') (hne : c ≠ c2) (hap : ∀ x, (a2.bl x ∨ b2.bl x) → ¬ (a.bl x ∨ b.bl x)) (p1 : Off ao1 a b) (p2 : Off ao2 a b) :
    K2 w' base B c2 M n1 n2 cap1 cap2 ao1 ao2 os fs a2 b2 :=
  ⟨Cl.beside h.cl hst hne hap, own_step h.r1 h.cl.box (show (30 : TypeId) ≠ 51 by decide) p1 hst, own_step h.r2 h.cl.box (show (31 : TypeId) ≠ 51 by decide) p2 hst, h.o1, h.o2⟩
end

theorem OpsIn.setB {w : World} {B n j1 j2 : Nat} {ao : Option Addr} {pu : Nat → Bool} {ar : Nat → Nat} {fi : Nat → Int} {v1 v2 : Value} (h : OpsIn w ao n pu ar fi) (hB : Box w B) : OpsIn ((w.setCell ⟨B, j1, none⟩ v1).setCell ⟨B, j2, none⟩ v2) ao n pu ar fi := by
  intro h0
  obtain ⟨g, cur, e1, e2, e3⟩ := h h0
  have hgB : g ≠ B := by
    rintro rfl
    obtain ⟨cs, q1, _⟩ := hB
    rw [show w.heap[g]? = some (.cells cur 33 (0, 0)) from e2] at q1
    simp at q1
  exact ⟨g, cur, e1, (e2.set hgB).set hgB, e3⟩

/-- the second class is set up: the first stays -/
theorem second_class {w : World} {base B c1 c2 s1 s2 t1 : Nat} (h : Cl w base B c1 0 (D0 s1) (D0 s2)) (hne : c1 ≠ c2) (z0 : w.cell? ⟨B, c2 * 6, none⟩ = some (.int .u8 0)) (z1 : w.cell? ⟨B, c2 * 6 + 1, none⟩ = some (.slice none 0 0)) (z2 : w.cell? ⟨B, c2 * 6 + 2, none⟩ = some (.int .i64 0))
    (z3 : w.cell? ⟨B, c2 * 6 + 3, none⟩ = some (.int .u8 0)) (z4 : w.cell? ⟨B, c2 * 6 + 4, none⟩ = some (.slice none 0 0)) (z5 : w.cell? ⟨B, c2 * 6 + 5, none⟩ = some (.int .i64 0)) (hs1 : t1 ≤ 20) (hs2 : s2 ≤ 20) (hc : c2 ≤ t1) :
    Cl ((w.setCell ⟨B, c2 * 6, none⟩ (.int .u8 t1)).setCell ⟨B, c2 * 6 + 3, none⟩ (.int .u8 s2)) base B c1 0 (D0 s1) (D0 s2) ∧ Cl ((w.setCell ⟨B, c2 * 6, none⟩ (.int .u8 t1)).setCell ⟨B, c2 * 6 + 3, none⟩ (.int .u8 s2)) base B c2 0 (D0 t1) (D0 s2) ∧
    Below base w ((w.setCell ⟨B, c2 * 6, none⟩ (.int .u8 t1)).setCell ⟨B, c2 * 6 + 3, none⟩ (.int .u8 s2)) := by
  refine ⟨h.kept ((h.box.set _ _).set _ _) ?_ ?_, cl0 ((h.box.set _ _).set _ _) h.hb ?_ ?_ ?_ ?_ ?_ ?_ hs1 hs2 hc, (below_set _ _ _ h.hb).trans (below_set _ _ _ h.hb)⟩
  · intro o q1 q2
    rw [World.cell?_setCell_other _ _ _ _ (ne_off (by omega)), World.cell?_setCell_other _ _ _ _ (ne_off (by omega))]
  · intro x hx
    rcases hx with hx | hx <;> exact absurd hx (d0_bl _ _)
  · rw [World.cell?_setCell_other _ _ _ _ (ne_off (by omega))]
    exact World.cell?_setCell_same _ _ _ z0
  · rw [World.cell?_setCell_other _ _ _ _ (ne_off (by omega)), World.cell?_setCell_other _ _ _ _ (ne_off (by omega))]; exact z1
  · rw [World.cell?_setCell_other _ _ _ _ (ne_off (by omega)), World.cell?_setCell_other _ _ _ _ (ne_off (by omega))]; exact z2
  · exact World.cell?_setCell_same _ _ _ (by rw [World.cell?_setCell_other _ _ _ _ (ne_off (by omega))]; exact z3)
  · rw [World.cell?_setCell_other _ _ _ _ (ne_off (by omega)), World.cell?_setCell_other _ _ _ _ (ne_off (by omega))]; exact z4
  · rw [World.cell?_setCell_other _ _ _ _ (ne_off (by omega)), World.cell?_setCell_other _ _ _ _ (ne_off (by omega))]; exact z5

/-- two classes: the script runs on the first, the second is looked at in the end -/
structure A2 (w : World) (base B c1 c2 N n1 cp : Nat) (ao ao2 : Option Addr) (os : Nat → Int) (a1 b1 a2 b2 : D) : Prop where
  cl : Cl w base B c1 N a1 b1
  k : K2 w base B c2 n1 n1 n1 n1 cp ao ao2 os bf a2 b2
  ap : ∀ x, (a2.bl x ∨ b2.bl x) → ¬ (a1.bl x ∨ b1.bl x)
  o1 : Off ao a1 b1
  o2 : Off ao2 a1 b1

theorem A2.step {w w' : World} {base B c1 c2 N N' n1 cp : Nat} {ao ao2 : Option Addr} {os : Nat → Int} {a1 b1 a2 b2 a' b' : D} (h : A2 w base B c1 c2 N n1 cp ao ao2 os a1 b1 a2 b2) (hst : CStep base B c1 a1 b1 a' b' w w') (hcl : Cl w' base B c1 N' a' b') (hne : c1 ≠ c2) : A2 w' base B c1 c2 N' n1 cp ao ao2 os a' b' a2 b2 :=
  ⟨hcl, h.k.beside hst hne h.ap h.o1 h.o2, Cl.beside_apart h.k.cl hst h.ap, Off.step h.o1 h.k.r1 hst, Off.step h.o2 h.k.r2 hst⟩
theorem A2.ext {w w' : World} {base B c1 c2 N n1 cp : Nat} {ao ao2 : Option Addr} {os : Nat → Int} {a1 b1 a2 b2 : D} (h : A2 w base B c1 c2 N n1 cp ao ao2 os a1 b1 a2 b2) (hb : Below w.heap.size w w') : A2 w' base B c1 c2 N n1 cp ao ao2 os a1 b1 a2 b2 :=
  ⟨h.cl.keepGrown none (fun x hx _ => hb.block x hx) (fun e => by cases e) (fun x e => by cases e), h.k.ext hb, h.ap, h.o1, h.o2⟩

/-- the cells of one class of a fresh box -/
theorem zeroed_at {w : World} {B c : Nat} (hZ : Zeroed w B) (hc : c ≤ 20) : w.cell? ⟨B, c * 6, none⟩ = some (.int .u8 0) ∧ w.cell? ⟨B, c * 6 + 1, none⟩ = some (.slice none 0 0) ∧ w.cell? ⟨B, c * 6 + 2, none⟩ = some (.int .i64 0) ∧ w.cell? ⟨B, c * 6 + 3, none⟩ = some (.int .u8 0) ∧ w.cell? ⟨B, c * 6 + 4, none⟩ = some (.slice none 0 0) ∧ w.cell? ⟨B, c * 6 + 5, none⟩ = some (.int .i64 0) := by
  have z1 := hZ (c * 2) (by omega)
  have z2 := hZ (c * 2 + 1) (by omega)
  rw [show c * 2 * 3 = c * 6 by omega] at z1
  rw [show (c * 2 + 1) * 3 = c * 6 + 3 by omega] at z2
  exact ⟨z1.1, z1.2.1, z1.2.2, z2.1, z2.2.1, z2.2.2⟩
end Go.Proofs.Qxb6603907a
