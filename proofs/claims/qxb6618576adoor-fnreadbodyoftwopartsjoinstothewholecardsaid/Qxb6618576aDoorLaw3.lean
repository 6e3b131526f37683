/- The walk of the law FnReadBodyGivesTheBytesWhateverTheHints. -/
import Derived.Test.Qxb6618576aDoorBody
import Derived.Lib.Hide
namespace Go.Proofs.Qxb6618576aDoor
open Go.RowKit

/-- zzBytes_FnReadBodyGivesTheBytesWhateverTheHints: is the length within the bound? -/
theorem bound3 (ao : Option Addr) (len cap : Nat) (a b c d : Int) (w : World) (hl : len ≤ 140737488351232) :
    Calls Tryd.prog 5 #[.slice ao len cap, .int .i64 a, .int .i64 b, .int .i64 c, .int .i64 d] w fun e w' => e = .returned (.bool (decide (len ≤ 1048576))) ∧ w = w' := by
  have h0 : (len : Int) ≤ 140737488351232 := by omega
  by_cases h : (1048576 : Int) < (len : Int)
  · have hd : decide (len ≤ 1048576) = false := by simp; omega
    rw [hd]
    go_enter Tryd.func5, Tryd.ntmps5
    go_wp2
    go_ret
    exact ⟨rfl, rfl⟩
  · have hd : decide (len ≤ 1048576) = true := by simp; omega
    rw [hd]
    go_enter Tryd.func5, Tryd.ntmps5
    go_wp2
    go_ret
    exact ⟨rfl, rfl⟩

theorem cellsInts_one (zs : List Int) : ∀ v ∈ zs.map (Value.int .u8), v.oneCell' = true := by
  intro v hv
  obtain ⟨z, _, rfl⟩ := List.mem_map.1 hv
  rfl
theorem cells_at {zs : List Int} {j : Nat} {v : Value} (h : (zs.map (Value.int .u8))[j]? = some v) : j < zs.length ∧ v = .int .u8 (zs.getD j 0) := by
  rw [List.getElem?_map] at h
  obtain ⟨z, hz, rfl⟩ := Option.map_eq_some_iff.1 h
  obtain ⟨hj, rfl⟩ := List.getElem?_eq_some_iff.1 hz
  exact ⟨hj, by rw [List.getD_eq_getElem?_getD, List.getElem?_eq_getElem hj]; rfl⟩
/-- What ZZReadBody hands back, as a slice of bytes, in this world and every later one. -/
theorem own_bytes {w : World} {base n : Nat} {v : Value} {zs : List Int} (h : w.ownsRow base 5 1 v n (zs.map (Value.int .u8))) :
    ∃ ao c, v = .slice ao n c ∧ ∀ w', Below w.heap.size w w' → Bytes w' ao zs := by
  obtain ⟨hl, h⟩ := h
  rw [List.length_map, Nat.mul_one] at hl
  rcases h with ⟨rfl, rfl⟩ | ⟨g, cap, cur, rfl, _, hg, _, _, _, htk⟩
  · exact ⟨none, 0, rfl, fun w' _ h0 => by omega⟩
  · refine ⟨_, _, rfl, fun w' hb _ => ⟨g, 0, rfl, fun j hj => ?_⟩⟩
    refine (hb.cell (p := ⟨g, 0 + j, none⟩) (Lib.lt_of_heap hg)).trans ?_
    rw [Nat.zero_add, Lib.cell_of_heap hg]
    have h1 : (cur.toList.take (n * 1))[j]? = some (.int .u8 (zs.getD j 0)) := by
      rw [htk, List.getElem?_map, List.getD_eq_getElem?_getD, List.getElem?_eq_getElem hj]; rfl
    rw [List.getElem?_take] at h1
    split at h1
    · simpa using h1
    · cases h1
theorem Bytes.holds {w : World} {ao : Option Addr} {n cp H : Nat} {zs : List Int} (h : Bytes w ao zs) (hl : zs.length = n) (h1 : n ≤ cp) (h2 : cp ≤ 140737488351232) (h3 : n ≤ 1048576) (h4 : ∀ a, ao = some a → a.block < H) :
    Holds8 w H ao n cp (zs.map (Value.int .u8)) := by
  refine ⟨by rw [List.length_map, hl], h1, h2, h3, cellsInts_one zs, fun hn => ?_⟩
  obtain ⟨d, off, rfl, hc⟩ := h (by omega)
  refine ⟨d, off, rfl, h4 _ rfl, fun j v hj => ?_⟩
  obtain ⟨hj2, rfl⟩ := cells_at hj
  exact hc j hj2

theorem info5 : (Tryd.prog.info? 5).map (fun i => (i.zero, i.size, i.bytes)) = some (some (.int .u8 0), 1, 1) := by kernel_rfl

set_option maxHeartbeats 2000000 in
/-- The law at a nil slice. -/
theorem law3_nil (l1 r1 l2 r2 : Int) (ep : Addr) (w : World) (hr1 : 0 ≤ r1) (hr1' : r1 ≤ 65536) (hr2 : 0 ≤ r2) (hr2' : r2 ≤ 65536)
    (hev : w.cell? ⟨1, 0, none⟩ = some (.iface 53 (.pointer (some ep)))) (h1R : 1 < w.heap.size) :
    Calls Tryd.prog 3 #[.slice none 0 0, .int .i64 l1, .int .i64 r1, .int .i64 l2, .int .i64 r2] w fun e w' => e = .returned (.bool true) ∧ Below w.heap.size w w' := by
  have hby : ∀ w', Below w.heap.size w w' → Bytes w' none [] := fun w' _ h => absurd h (by simp)
  have hlt : ∀ a : Addr, (none : Option Addr) = some a → a.block < w.heap.size := fun a h => by cases h
  have hb3 := bound3 none 0 0 l1 r1 l2 r2 w (by omega)
  go_enter Tryd.func3, Tryd.ntmps3
  go_wp2_with (go_at_call 5; refine hb3.mono ?_; rintro e w' ⟨rfl, rfl⟩)
  have hd1 := (hby w (Below.refl _ _)).holds (n := 0) (cp := 0) (H := w.heap.size) rfl (by omega) (by omega) (by omega) hlt
  have hz1 := zzReadBody_any 0 0 none l1 r1 _ ep w hd1 hr1 hr1' hev h1R
  clear hd1
  refine hz1.mono ?_
  clear hz1
  rintro e w1 ⟨v1, rfl, hown1, hB1⟩
  have hd2 := (hby w1 hB1).holds (n := 0) (cp := 0) (H := w1.heap.size) rfl (by omega) (by omega) (by omega) (fun a ha => Nat.lt_of_lt_of_le (hlt a ha) hB1.size)
  have hz2 := zzReadBody_any 0 0 none l2 r2 _ ep w1 hd2 hr2 hr2' ((hB1.cell (p := ⟨1, 0, none⟩) h1R).trans hev) (Nat.lt_of_lt_of_le h1R hB1.size)
  obtain ⟨a1, c1, rfl, hby1⟩ := own_bytes hown1
  have HY1 : Hid (∀ w', Below w1.heap.size w1 w' → Bytes w' a1 []) := hby1
  have HB1 : Hid (Below w.heap.size w w1) := hB1
  clear hown1 hby1 hB1 hd2
  go_wp2_with fail
  refine hz2.mono ?_
  clear hz2
  rintro e w2 ⟨v2, rfl, hown2, hB2⟩
  obtain ⟨a2, c2, rfl, hby2⟩ := own_bytes hown2
  have hB12 := HB1.out.trans (hB2.mono HB1.out.size)
  have hq1 := bytesEq_any a1 none 0 c1 0 [] w2 rfl (by omega) (HY1.out w2 hB2) (hby w2 hB12)
  have hq2 := fun q => bytesEq_any a2 none 0 c2 0 [] (w2.drewN q) rfl (by omega) (hby2 (w2.drewN q) ⟨rfl, rfl, rfl, Nat.le_refl _, fun _ _ => rfl⟩) (hby (w2.drewN q) ⟨hB12.os, hB12.tape, hB12.output, hB12.size, hB12.block⟩)
  have HF : Hid (Below w.heap.size w w2) := (Below.refl w.heap.size w).trans (hB12.mono (Below.refl w.heap.size w).size)
  clear hown2 hby2 hB2 hB12 HB1 HY1
  go_wp2_with fail
  refine hq1.mono ?_
  clear hq1
  rintro e w3 ⟨rfl, q3, rfl⟩
  go_wp2_with fail
  refine (hq2 q3).mono ?_
  clear hq2
  rintro e w4 ⟨rfl, q4, rfl⟩
  go_wp2
  go_ret
  have hf := HF.out
  exact ⟨rfl, ⟨hf.os, hf.tape, hf.output, hf.size, hf.block⟩⟩
/-- The row that 'make' lays. -/
theorem made_row {wm : World} {D base len : Nat} {L : List Value} (h : wm.ownsRow base 5 1 (.slice (some ⟨D, 0, none⟩) len len) len L) : ∃ cur : List Value, wm.heap[D]? = some (.cells cur.toArray 5 (0, 0)) ∧ cur.length = len := by
  rcases h.2 with ⟨h, _⟩ | ⟨g, cap, cur, he, _, hg, _, _, hcs, _⟩
  · cases h
  · injection he with h1 h2 h3
    injection h1 with h1
    injection h1 with h1
    subst h1; subst h3
    exact ⟨cur.toList, by simpa using hg, by simpa using hcs⟩
theorem addr_add_block (a : Addr) (j : Nat) : (a.add j).block = a.block := by
  unfold Addr.add; split <;> rfl
theorem below_made {w wm : World} (h : w.grownBy wm none) : Below w.heap.size w wm := ⟨h.os, h.tape, h.output, h.size, fun k hk => h.block k hk (by simp)⟩
/-- The copied bytes. -/
theorem copied {w2 : World} {D : Nat} {cur : List Value} {zs : List Int} (hc : cur.length = zs.length) (h : w2.heap[D]? = some (.cells (splice cur 0 (zs.map (Value.int .u8))).toArray 5 (0, 0))) :
    ∀ w', Below w2.heap.size w2 w' → Bytes w' (some ⟨D, 0, none⟩) zs := by
  intro w' hb _
  refine ⟨D, 0, rfl, fun j hj => ?_⟩
  refine (hb.cell (p := ⟨D, 0 + j, none⟩) (Lib.lt_of_heap h)).trans ?_
  rw [Nat.zero_add, Lib.cell_of_heap h]
  have e : splice cur 0 (zs.map (Value.int .u8)) = zs.map (Value.int .u8) := by
    unfold splice
    rw [List.take_zero, List.nil_append, List.drop_eq_nil_of_le (by rw [List.length_map]; omega), List.append_nil]
  rw [e]
  simp [List.getD_eq_getElem?_getD, List.getElem?_eq_getElem hj]

set_option maxHeartbeats 2000000 in
/-- The law at a slice that is not nil. -/
theorem law3_some (a : Addr) (len cap : Nat) (zs : List Int) (l1 r1 l2 r2 : Int) (ep : Addr) (w : World) (hl : zs.length = len) (hn : len ≤ 1048576) (hb : Bytes w (some a) zs)
    (hr1 : 0 ≤ r1) (hr1' : r1 ≤ 65536) (hr2 : 0 ≤ r2) (hr2' : r2 ≤ 65536)
    (hev : w.cell? ⟨1, 0, none⟩ = some (.iface 53 (.pointer (some ep)))) (h1R : 1 < w.heap.size) :
    Calls Tryd.prog 3 #[.slice (some a) len cap, .int .i64 l1, .int .i64 r1, .int .i64 l2, .int .i64 r2] w fun e w' => e = .returned (.bool true) ∧ Below w.heap.size w w' := by
  obtain ⟨i0, hi, hz0, hz1, hz2⟩ := info_parts info5
  have hb3 := bound3 (some a) len cap l1 r1 l2 r2 w (by omega)
  have hd : decide (len ≤ 1048576) = true := by simp [hn]
  rw [hd] at hb3
  have hni : (len : Int) ≤ 1048576 := by omega
  have hby2 : i0.bytes * len ≤ 281474976710656 := by rw [hz2]; omega
  have hml : len ≤ maxLen := by unfold maxLen; omega
  have HSRC : Hid (0 < (zs.map (Value.int .u8)).length → ∀ j v, (zs.map (Value.int .u8))[j]? = some v → w.cell? (a.add j) = some v) := by
    intro h0 j v hj
    obtain ⟨hj2, rfl⟩ := cells_at hj
    obtain ⟨d, off, ha, hc⟩ := hb (by omega)
    cases ha
    rw [Lib.addr_add]; exact hc j hj2
  have hab : 0 < zs.length → a.block < w.heap.size := fun h0 => by
    obtain ⟨d, off, ha, hc⟩ := hb h0
    cases ha
    exact block_lt_of_cell (hc 0 h0)
  have HL : Hid (zs.length = len) := hl
  have HEV : Hid (w.cell? ⟨1, 0, none⟩ = some (.iface 53 (.pointer (some ep)))) := hev
  clear hd hl hb hev hz2
  go_enter Tryd.func3, Tryd.ntmps3
  go_wp2_with (first | (go_at_call 5; refine hb3.mono ?_; rintro e w' ⟨rfl, rfl⟩) | (at_make; refine wpList_make_full _ rfl (.tmp 41) (.tmp 41) 22 rfl w.heap.size 5 i0 (.int .u8 0) 1 Tryd.underlying22 hi hz0 hz1 .i64 .i64 _ _ len rfl rfl rfl rfl hby2 hml (Nat.le_refl _) ?_; intro wm hom hgm; refine Hid.out ?_))
  obtain ⟨cur, hgD, hcl⟩ := made_row hom
  have hBm := below_made hgm
  obtain ⟨ms, hms⟩ : ∃ ms, ms = zs.map (Value.int .u8) := ⟨_, rfl⟩
  have k1 : ms.length = Nat.min len len := by rw [hms, List.length_map, HL.out]; exact (Nat.min_self len).symm
  have k2 : 0 < ms.length → ∀ j v, ms[j]? = some v → wm.cell? (a.add j) = some v := by
    intro h0 j v hj
    rw [hms] at hj h0
    exact (hBm.cell (p := a.add j) (by rw [addr_add_block]; exact hab (by simpa using h0))).trans (HSRC.out h0 j v hj)
  have k3 : 0 + ms.length ≤ cur.length := by rw [k1, hcl, Nat.zero_add]; exact Nat.min_le_left _ _
  have k4 : ∀ v ∈ ms, v.oneCell' = true := by rw [hms]; exact cellsInts_one zs
  have HMS : Hid (ms = zs.map (Value.int .u8)) := hms
  have HCL : Hid (cur.length = len) := hcl
  have HK1 : Hid (ms.length = Nat.min len len) := k1
  have HK2 := Lib.hid k2
  have HK4 := Lib.hid k4
  have HGD := Lib.hid hgD
  have HBM := Lib.hid hBm
  clear hom hgm hms k1 k2 k4 hgD hBm hcl HSRC
  refine Lib.hid ?_
  go_wp2_with (refine wpList_copy_splice rfl (.tmp 43) (.tmp 44) 22 22 rfl 5 Tryd.underlying22 size5 (some ⟨w.heap.size, 0, none⟩) (some a) len len len cap rfl rfl w.heap.size 0 cur 5 HGD.out ms HK1.out (fun h0 => ⟨rfl, a, rfl, HK2.out h0⟩) k3 HK4.out w.heap.size w HBM.out (Nat.le_refl _) ?_; intro w5 hg5 hB5; refine Hid.out ?_)
  have hg6 := hg5.out
  rw [HMS.out] at hg6
  have hW := hB5
  have hby := copied (zs := zs) (by rw [HCL.out, HL.out]) hg6
  have hlt : ∀ b : Addr, some (⟨w.heap.size, 0, none⟩ : Addr) = some b → b.block < w5.heap.size := fun b hb => by
    cases hb; exact Lib.lt_of_heap hg6
  have hev5 : w5.cell? ⟨1, 0, none⟩ = some (.iface 53 (.pointer (some ep))) := (hW.cell (p := ⟨1, 0, none⟩) h1R).trans HEV.out
  have h15 : 1 < w5.heap.size := Nat.lt_of_lt_of_le h1R hW.size
  have hlz := HL.out
  have HW := Lib.hid hW
  have HBY := Lib.hid hby
  have HEV5 := Lib.hid hev5
  clear hg5 hg6 hB5 hW hby hev5 HGD HBM HK1 HK2 HK4 HMS HCL HEV hlz k3
  refine Lib.hid ?_
  go_wp2_with fail
  have hd1 := (HBY.out w5 (Below.refl _ _)).holds (n := len) (cp := len) (H := w5.heap.size) HL.out (Nat.le_refl _) (by omega) hn hlt
  have hz1 := zzReadBody_any len len (some ⟨w.heap.size, 0, none⟩) l1 r1 _ ep w5 hd1 hr1 hr1' HEV5.out h15
  clear hd1
  refine hz1.mono ?_
  clear hz1
  rintro e w1 ⟨v1, rfl, hown1, hB1⟩
  have hd2 := (HBY.out w1 hB1).holds (n := len) (cp := len) (H := w1.heap.size) HL.out (Nat.le_refl _) (by omega) hn (fun a ha => Nat.lt_of_lt_of_le (hlt a ha) hB1.size)
  have hz2 := zzReadBody_any len len (some ⟨w.heap.size, 0, none⟩) l2 r2 _ ep w1 hd2 hr2 hr2' ((hB1.cell (p := ⟨1, 0, none⟩) h15).trans HEV5.out) (Nat.lt_of_lt_of_le h15 hB1.size)
  obtain ⟨a1, c1, rfl, hby1⟩ := own_bytes hown1
  have HY1 : Hid (∀ w', Below w1.heap.size w1 w' → Bytes w' a1 zs) := hby1
  have HB1 : Hid (Below w5.heap.size w5 w1) := hB1
  clear hown1 hby1 hB1 hd2
  go_wp2_with fail
  refine hz2.mono ?_
  clear hz2
  rintro e w2 ⟨v2, rfl, hown2, hB2⟩
  obtain ⟨a2, c2, rfl, hby2⟩ := own_bytes hown2
  have hB12 := HB1.out.trans (hB2.mono HB1.out.size)
  have hq1 := bytesEq_any a1 (some ⟨w.heap.size, 0, none⟩) len c1 len zs w2 HL.out hn (HY1.out w2 hB2) (HBY.out w2 hB12)
  have hq2 := fun q => bytesEq_any a2 (some ⟨w.heap.size, 0, none⟩) len c2 len zs (w2.drewN q) HL.out hn (hby2 (w2.drewN q) ⟨rfl, rfl, rfl, Nat.le_refl _, fun _ _ => rfl⟩) (HBY.out (w2.drewN q) ⟨hB12.os, hB12.tape, hB12.output, hB12.size, hB12.block⟩)
  have HF : Hid (Below w.heap.size w w2) := HW.out.trans (hB12.mono HW.out.size)
  clear hown2 hby2 hB2 hB12 HB1 HY1
  go_wp2_with fail
  refine hq1.mono ?_
  clear hq1
  rintro e w3 ⟨rfl, q3, rfl⟩
  go_wp2_with fail
  refine (hq2 q3).mono ?_
  clear hq2
  rintro e w4 ⟨rfl, q4, rfl⟩
  go_wp2
  go_ret
  have hf := HF.out
  exact ⟨rfl, ⟨hf.os, hf.tape, hf.output, hf.size, hf.block⟩⟩

set_option maxHeartbeats 1000000 in
/-- The law outside its own bounds: true at once. -/
theorem law3_out (ao : Option Addr) (len cap : Nat) (l1 r1 l2 r2 : Int) (w : World) (hl : len ≤ 140737488351232) (h : ¬ (len ≤ 1048576 ∧ (0 ≤ r1 ∧ r1 ≤ 65536) ∧ (0 ≤ r2 ∧ r2 ≤ 65536))) :
    Calls Tryd.prog 3 #[.slice ao len cap, .int .i64 l1, .int .i64 r1, .int .i64 l2, .int .i64 r2] w fun e w' => e = .returned (.bool true) ∧ Below w.heap.size w w' := by
  have hb3 := bound3 ao len cap l1 r1 l2 r2 w hl
  by_cases c1 : len ≤ 1048576
  · have hd : decide (len ≤ 1048576) = true := by simp [c1]
    rw [hd] at hb3
    have hni : (len : Int) ≤ 1048576 := by omega
    rcases (show r1 < 0 ∨ (0 ≤ r1 ∧ 65536 < r1) ∨ ((0 ≤ r1 ∧ r1 ≤ 65536) ∧ r2 < 0) ∨ ((0 ≤ r1 ∧ r1 ≤ 65536) ∧ 0 ≤ r2 ∧ 65536 < r2) by omega) with g | ⟨g, g'⟩ | ⟨⟨g, g'⟩, g2⟩ | ⟨⟨g, g'⟩, g2, g2'⟩
    all_goals
      clear h c1 hd
      go_enter Tryd.func3, Tryd.ntmps3
      go_wp2_with (go_at_call 5; refine hb3.mono ?_; rintro e w' ⟨rfl, rfl⟩)
      go_ret
      exact ⟨rfl, Below.refl _ _⟩
  · have hd : decide (len ≤ 1048576) = false := by simp [c1]
    rw [hd] at hb3
    clear h c1 hd
    go_enter Tryd.func3, Tryd.ntmps3
    go_wp2_with (go_at_call 5; refine hb3.mono ?_; rintro e w' ⟨rfl, rfl⟩)
    go_ret
    exact ⟨rfl, Below.refl _ _⟩

/-- The law at every input. -/
theorem law3 (ao : Option Addr) (len cap : Nat) (zs : List Int) (l1 r1 l2 r2 : Int) (ep : Addr) (w : World) (hnil : ao = none → len = 0 ∧ cap = 0) (hl : zs.length = len) (hlen : len ≤ 140737488351232) (hb : Bytes w ao zs)
    (hev : w.cell? ⟨1, 0, none⟩ = some (.iface 53 (.pointer (some ep)))) (h1R : 1 < w.heap.size) :
    Calls Tryd.prog 3 #[.slice ao len cap, .int .i64 l1, .int .i64 r1, .int .i64 l2, .int .i64 r2] w fun e w' => e = .returned (.bool true) ∧ Below w.heap.size w w' := by
  by_cases h : len ≤ 1048576 ∧ (0 ≤ r1 ∧ r1 ≤ 65536) ∧ (0 ≤ r2 ∧ r2 ≤ 65536)
  · obtain ⟨hn, ⟨g1, g1'⟩, ⟨g2, g2'⟩⟩ := h
    cases ao with
    | none =>
      obtain ⟨rfl, rfl⟩ := hnil rfl
      exact law3_nil l1 r1 l2 r2 ep w g1 g1' g2 g2' hev h1R
    | some a => exact law3_some a len cap zs l1 r1 l2 r2 ep w hl hn hb g1 g1' g2 g2' hev h1R
  · exact law3_out ao len cap l1 r1 l2 r2 w hlen h
end Go.Proofs.Qxb6618576aDoor
