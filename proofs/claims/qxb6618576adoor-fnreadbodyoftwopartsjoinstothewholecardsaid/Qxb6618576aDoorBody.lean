/- ReadBody, ZZReadBody, zzBytesEq and the two bounds: the project's own functions on the road. -/
import Derived.Test.Qxb6618576aDoorFrom
import Derived.WalkLawsBesides
namespace Go.Proofs.Qxb6618576aDoor
open Go.RowKit

/-- What is asked of a slice of bytes that is read: the cells 'cs', below block H. -/
def Holds8 (w : World) (H : Nat) (ao : Option Addr) (n cp : Nat) (cs : List Value) : Prop :=
  cs.length = n ∧ n ≤ cp ∧ cp ≤ 140737488351232 ∧ n ≤ 1048576 ∧ (∀ v ∈ cs, v.oneCell' = true) ∧
    (0 < n → ∃ d off, ao = some ⟨d, off, none⟩ ∧ d < H ∧ ∀ j v, cs[j]? = some v → w.cell? ⟨d, off + j, none⟩ = some v)

theorem Holds8.on {w w' : World} {H R : Nat} {ao : Option Addr} {n cp : Nat} {cs : List Value} (h : Holds8 w H ao n cp cs) (hb : Below R w w') (hHR : H ≤ R) : Holds8 w' H ao n cp cs := by
  obtain ⟨a, b, c, d, e, f⟩ := h
  refine ⟨a, b, c, d, e, fun hn => ?_⟩
  obtain ⟨dd, off, h1, h2, h3⟩ := f hn
  exact ⟨dd, off, h1, h2, fun j v hj => (hb.cell (p := ⟨dd, off + j, none⟩) (Nat.lt_of_lt_of_le h2 hHR)).trans (h3 j v hj)⟩
theorem grow_int (b : Nat) (x : Int) (w : World) (h : Lib.IsBuffer 38 5 b b [] w) (h0 : 1 ≤ x) (h1 : x ≤ 1000000) :
    Calls Tryd.prog 11 #[.pointer (some ⟨b, 0, none⟩), .int .i64 x] w fun e w' => e = .returned (.tuple #[]) ∧ Lib.IsBuffer 38 5 b b [] w' ∧ Below b w w' := by
  obtain ⟨n, rfl⟩ := Int.eq_ofNat_of_zero_le (show 0 ≤ x by omega)
  exact grow_empty b b n w h (by omega) (Nat.le_of_lt h.lt) (by omega)

set_option maxHeartbeats 1000000 in
theorem readBody_any (R n cp : Nat) (ao : Option Addr) (pr len room : Int) (cs : List Value) (ep : Addr) (w : World)
    (hR : w.heap[R]? = some (.cells #[.slice ao n cp, .int .i64 0, .int .i64 pr] 44 (0, 0))) (hd : Holds8 w R ao n cp cs)
    (hr0 : 0 ≤ room) (hr1 : room ≤ 65536)
    (hev : w.cell? ⟨1, 0, none⟩ = some (.iface 53 (.pointer (some ep)))) (h1R : 1 < R) :
    Calls Tryd.prog 9 #[.iface 31 (.pointer (some ⟨R, 0, none⟩)), .int .i64 len, .int .i64 room] w fun e w' => ∃ v, e = .returned (.tuple #[v, .nilIface]) ∧ w'.ownsRow (w.heap.size) 5 1 v n cs ∧ Below R w w' := by
  have hRb := Lib.lt_of_heap hR
  have hI1 := Lib.fresh_isBuffer 38 5 w
  have hBa : Below w.heap.size w (w.alloc (.cells #[.slice none 0 0, .int .i64 0, .int .i8 0] 38)) := (Below.refl _ w).alloc (Nat.le_refl _) _
  have hG := grow_int w.heap.size (min (max len 0) room + 512) _ hI1 (by omega) (by omega)
  have HR : Hid (w.heap[R]? = some (.cells #[.slice ao n cp, .int .i64 0, .int .i64 pr] 44 (0, 0))) := hR
  have HD : Hid (Holds8 w R ao n cp cs) := hd
  have HBA : Hid (Below w.heap.size w (w.alloc (.cells #[.slice none 0 0, .int .i64 0, .int .i8 0] 38))) := hBa
  clear hR hd hI1 hBa
  go_enter Tryd.func9, Tryd.ntmps9
  go_wp2_with fail
  refine hG.mono ?_
  clear hG
  rintro e w2 ⟨rfl, hI2, hB2⟩
  have hB02 := HBA.out.trans hB2
  have hR2 := (hB02.block R hRb).trans HR.out
  obtain ⟨d1, d2, d3, d4, d5, d6⟩ := HD.out.on hB02 (Nat.le_of_lt hRb)
  have hev2 := (hB02.cell (p := ⟨1, 0, none⟩) (by show 1 < w.heap.size; omega)).trans hev
  have hF := readFrom_any R w.heap.size n cp ao pr cs ep w2 hI2 hR2 hRb d1 d2 d3 d4 d5 d6 hev2 h1R
  have HB02 : Hid (Below w.heap.size w w2) := hB02
  have HL : Hid (cs.length = n) := d1
  clear hI2 hB2 hB02 hR2 d1 d2 d3 d4 d5 d6 hev2 hev
  go_wp2_with fail
  refine hF.mono ?_
  clear hF
  rintro e w3 ⟨rfl, hI3, hB3⟩
  have hY := Tryd.Buffer_Bytes w.heap.size w.heap.size cs w3 hI3
  have HB3 : Hid (Below R w2 w3) := hB3
  clear hI3 hB3
  go_wp2_with fail
  refine hY.mono ?_
  clear hY
  rintro e w4 ⟨v, rfl, hown, q, rfl⟩
  have HO : Hid ((w3.drewN q).ownsRow w.heap.size 5 1 v cs.length cs) := hown
  clear hown
  go_wp2
  go_ret2
  have hf := ((HB02.out.mono (Nat.le_of_lt hRb)).trans HB3.out)
  exact ⟨v, rfl, by have := HO.out; rw [HL.out] at this; exact this, ⟨hf.os, hf.tape, hf.output, hf.size, hf.block⟩⟩

/-- ZZReadBody: whatever the hints: the bytes, in a row of the call's own; no error. -/
theorem zzReadBody_any (n cp : Nat) (ao : Option Addr) (len room : Int) (cs : List Value) (ep : Addr) (w : World)
    (hd : Holds8 w w.heap.size ao n cp cs) (hr0 : 0 ≤ room) (hr1 : room ≤ 65536)
    (hev : w.cell? ⟨1, 0, none⟩ = some (.iface 53 (.pointer (some ep)))) (h1R : 1 < w.heap.size) :
    Calls Tryd.prog 6 #[.slice ao n cp, .int .i64 len, .int .i64 room] w fun e w' => ∃ v, e = .returned (.tuple #[v, .nilIface]) ∧ w'.ownsRow (w.heap.size + 1) 5 1 v n cs ∧ Below w.heap.size w w' := by
  have hBa : Below w.heap.size w (w.alloc (.cells #[.slice ao n cp, .int .i64 0, .int .i64 (-1)] 44)) := (Below.refl _ w).alloc (Nat.le_refl _) _
  have hB := readBody_any w.heap.size n cp ao (-1) len room cs ep (w.alloc (.cells #[.slice ao n cp, .int .i64 0, .int .i64 (-1)] 44)) (heap_alloc_new w _) (hd.on hBa (Nat.le_refl _)) hr0 hr1 ((hBa.cell (p := ⟨1, 0, none⟩) h1R).trans hev) h1R
  have HBA : Hid (Below w.heap.size w (w.alloc (.cells #[.slice ao n cp, .int .i64 0, .int .i64 (-1)] 44))) := hBa
  have hsz : (w.alloc (.cells #[.slice ao n cp, .int .i64 0, .int .i64 (-1)] 44)).heap.size = w.heap.size + 1 := by simp
  rw [hsz] at hB
  clear hBa hd hev hsz
  go_enter Tryd.func6, Tryd.ntmps6
  go_wp2_with (go_at_call 10; go_in)
  refine hB.mono ?_
  clear hB
  rintro e w4 ⟨v, rfl, hown, hB4⟩
  have HO : Hid (w4.ownsRow (w.heap.size + 1) 5 1 v n cs) := hown
  have HB4 : Hid (Below w.heap.size (w.alloc (.cells #[.slice ao n cp, .int .i64 0, .int .i64 (-1)] 44)) w4) := hB4
  clear hown hB4
  go_wp2
  go_ret2
  exact ⟨v, rfl, HO.out, HBA.out.trans HB4.out⟩

/-- A slice's bytes: the numbers zs. -/
def Bytes (w : World) (ao : Option Addr) (zs : List Int) : Prop :=
  0 < zs.length → ∃ d off, ao = some ⟨d, off, none⟩ ∧ ∀ j, j < zs.length → w.cell? ⟨d, off + j, none⟩ = some (.int .u8 (zs.getD j 0))

set_option maxHeartbeats 1000000 in
/-- zzBytesEq at two slices of the same bytes. -/
theorem bytesEq_any (ao bo : Option Addr) (n ca cb : Nat) (zs : List Int) (w : World) (hl : zs.length = n) (hn : n ≤ 1048576) (ha : Bytes w ao zs) (hb : Bytes w bo zs) :
    Calls Tryd.prog 7 #[.slice ao n ca, .slice bo n cb] w fun e w' => e = .returned (.bool true) ∧ ∃ q, w' = w.drewN q := by
  have HA : Hid (Bytes w ao zs) := ha
  have HB : Hid (Bytes w bo zs) := hb
  have HL : Hid (zs.length = n) := hl
  clear ha hb hl
  go_enter Tryd.func7, Tryd.ntmps7
  go_wp2
  go_loopw [5] (fun t wr => ∃ k : Nat, k ≤ n ∧ t = .int .i64 (k : Int) ∧ ∃ q, wr = w.drewN q) (fun t _ => n - (intOf t).toNat)
  case atStart => exact ⟨0, Nat.zero_le _, rfl, 0, rfl⟩
  case round =>
    obtain ⟨k, hk, rfl, q, rfl⟩ := hrel
    by_cases hkn : k < n
    · obtain ⟨d, off, rfl, h1⟩ := HA.out (by rw [HL.out]; omega)
      obtain ⟨d2, off2, rfl, h2⟩ := HB.out (by rw [HL.out]; omega)
      have c1 := h1 k (by rw [HL.out]; omega)
      have c2 := h2 k (by rw [HL.out]; omega)
      generalize zs.getD k 0 = z at *
      clear h1 h2
      have i1 : (0 : Int) ≤ (k : Int) := by omega
      have i2 : (k : Int) < (n : Int) := by omega
      go_wp2
      go_quiet (fail)
      go_wp2
      go_roundw
      case rel => exact ⟨k + 1, by omega, by go_num, _, rfl⟩
      case measure => simp [intOf]; omega
    · go_wp2
      go_ret
      exact ⟨rfl, _, rfl⟩
end Go.Proofs.Qxb6618576aDoor
