/- The slice of grants that came in, opened: what the two walks ask of it. -/
import Derived.Test.Qxb6618594aLaw7
import Derived.OpenShut
import Derived.Deep.Slices
import Derived.Deep.Strs
import Derived.SizedLaws
import Derived.ChangeOld
namespace Go.Proofs.Qxb6618594a
open Go.ChangeShapes Go.WideShapes Go.ChangeAt Go.RowKit Go.Deep

theorem own : ownKnob Try.prog.godebug = none := by kernel_rfl
theorem laidOut : laidOutB Try.prog = true := by kernel_rfl
theorem cells54 : Try.prog.cellsOf 54 = 3 := by kernel_rfl
theorem cells50 : Try.prog.cellsOf 50 = 1 := by kernel_rfl
theorem cells5 : Try.prog.cellsOf 5 = 1 := by kernel_rfl
theorem cells3 : Try.prog.cellsOf 3 = 1 := by kernel_rfl
theorem bytes54 : Try.prog.bytesOf 54 = 16 := by kernel_rfl

set_option maxRecDepth 100000 in
theorem opened_grants {H : Type} {enc : TypeId × Value → H} {W : World} {v : Value} {d : DataW H} {p : List MemPlace} {base : Nat}
    (hv : Value.okWide Try.prog W .any base 49 v) (h : DataW.Trod enc Try.prog W 0 (fun _ => true) true 49 v d p) (hs : ∀ elems spare, d = .slice elems spare → elems.length + spare.length ≤ 140737488351232) :
    ∃ ao len cap tx md rn, v = .slice ao len cap ∧ len ≤ 140737488351232 ∧ Grants W ao len tx md rn ∧ ∀ j, j < len → tx j < 65536 := by
  obtain ⟨ao, len, cap, rfl⟩ := okWide_slice Try.underlying49 hv
  obtain ⟨fuel, hf⟩ := h
  rcases open_slice Try.underlying49 hf with ⟨hcs, _⟩ | ⟨a, l, c, m, k, D, Pl, hcs, _, hl, hm, hmm, hx, he⟩
  · simp [Value.cells] at hcs
    obtain ⟨rfl, rfl, rfl⟩ := hcs
    exact ⟨none, 0, 0, fun _ => 0, fun _ => 0, fun _ => 0, rfl, by omega, fun h0 => absurd h0 (by omega), fun j hj => absurd hj (by omega)⟩
  · simp [Value.cells] at hcs
    obtain ⟨rfl, rfl, rfl⟩ := hcs
    simp only [Prod.mk.injEq] at hx
    have hmc : m = cap := by simpa using hmm
    have hb := hs _ _ hx.1
    simp only [List.length_map, List.length_range] at hb
    have each : ∀ i, i < len → ∃ q : Int × Int × Int, W.cell? (a.add (i * 3)) = some (.int .u16 q.1) ∧ W.cell? (a.add (i * 3 + 1)) = some (.int .u8 q.2.1) ∧ W.cell? (a.add (i * 3 + 2)) = some (.int .i64 q.2.2) ∧ 0 ≤ q.1 ∧ q.1 ≤ 65535 := by
      intro i hi
      obtain ⟨cs', h1, h2⟩ := he i (by omega)
      rw [cells54] at h1
      obtain ⟨_, hlen, hcell⟩ := World.cells?_some h1
      obtain ⟨y0, y1, y2, f, _, _, g0, g1, g2⟩ := trod_struct3 Try.underlying54 h2
      match cs', hlen with
      | [v0, v1, v2], _ =>
        obtain ⟨z0, e0, _, w0⟩ := DataW.trod_int Try.underlying50 g0
        obtain ⟨z1, e1, _, _⟩ := DataW.trod_int Try.underlying5 g1
        obtain ⟨z2, e2, _, _⟩ := DataW.trod_int Try.underlying3 g2
        simp only [cells50, cells5, cells3] at e0 e1 e2
        simp at e0 e1 e2
        subst e0 e1 e2
        obtain ⟨b0, b1⟩ := bounds_u16 w0
        have q0 := hcell 0 (by omega)
        have q1 := hcell 1 (by omega)
        have q2 := hcell 2 (by omega)
        rw [add_add] at q0 q1 q2
        exact ⟨(z0, z1, z2), by simpa using q0, by simpa using q1, by simpa using q2, b0, b1⟩
    obtain ⟨q, hq⟩ := choose_lt each
    refine ⟨some a, len, cap, fun j => (q j).1.toNat, fun j => (q j).2.1, fun j => (q j).2.2, rfl, by omega, fun h0 => ?_, fun j hj => by have := hq j hj; show (q j).1.toNat < 65536; omega⟩
    have hspot : a.spot = none := by
      have := World.cell?_spot (hq 0 h0).1
      simpa [Addr.add] using this
    obtain ⟨b, off, spot⟩ := a
    simp only at hspot
    subst hspot
    refine ⟨b, off, rfl, fun j hj => ?_⟩
    obtain ⟨r0, r1, r2, b0, b1⟩ := hq j hj
    rw [Lib.addr_add] at r0 r1 r2
    refine ⟨?_, by rw [Nat.add_assoc]; exact r1, by rw [Nat.add_assoc]; exact r2⟩
    rw [r0, Int.toNat_of_nonneg b0]
end Go.Proofs.Qxb6618594a
