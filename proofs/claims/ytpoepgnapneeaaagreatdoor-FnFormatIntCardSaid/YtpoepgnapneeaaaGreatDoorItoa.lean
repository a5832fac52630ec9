/-
  The walks of (nat).itoa at one word that is not 0, in the bases 2, 8 and 16, with and without a sign: the numeral's bytes in a new row. Condition: the cell of the library's table that TrailingZeros reads.
-/
import Derived.Test.YtpoepgnapneeaaaGreatDoorBits
import Derived.Test.YtpoepgnapneeaaaGreatDoorLaw
import Derived.Deep.OwnRows
namespace Go.Proofs.YtpoepgnapneeaaaGreatDoor
open Go.RowKit
set_option linter.unusedVariables false
set_option maxHeartbeats 400000

/-- A byte as a cell. -/
def B8 (c : UInt8) : Value := .int .u8 c.toNat
/-- Block sb is a row of n bytes; from j on it holds acc; nothing that lay in w has turned. -/
def BufAt (sb n j : Nat) (acc : List UInt8) (w wr : World) : Prop :=
  (∃ cur : Array Value, wr.heap[sb]? = some (.cells cur 5 (0, 0)) ∧ cur.size = n ∧ cur.toList.drop j = acc.map B8) ∧ Keeps (fun _ => False) w wr

theorem and_mask (k v : Nat) (hk : k < 64) (hv : v < 18446744073709551616) : bits .and .u64 (v : Int) ((2 ^ k - 1 : Nat) : Int) = ((v % 2 ^ k : Nat) : Int) := by
  have h2 : 2 ^ k ≤ 2 ^ 63 := Nat.pow_le_pow_right (by omega) (by omega)
  rw [bits_and_u64_nat v _ hv (by omega), Nat.and_two_pow_sub_one_eq_mod]

theorem row8 : (Tryz.prog.info? 5).map (fun i => (i.zero, i.size, i.bytes)) = some (some (.int .u8 0), 1, 1) := by kernel_rfl
theorem make_bytes (n : Nat) (hn : n ≤ 100) (w : World) :
    (Instr.makeSlice 88 (.int .i64 (n : Int)) (.int .i64 (n : Int))).run Tryz.prog w = .ok (.slice (some ⟨w.heap.size, 0, none⟩) n n) (w.alloc (.cells (madeCells #[.int .u8 0] n) 5)) :=
  run_make_row' 88 5 (.int .u8 0) 1 Tryz.underlying88 row8 rfl .i64 .i64 n (by omega) (by omega) w

theorem digits_get (d : Nat) (hd : d < 16) (h : d < (⟨#[48, 49, 50, 51, 52, 53, 54, 55, 56, 57, 97, 98, 99, 100, 101, 102, 103, 104, 105, 106, 107, 108, 109, 110, 111, 112, 113, 114, 115, 116, 117, 118, 119, 120, 121, 122, 65, 66, 67, 68, 69, 70, 71, 72, 73, 74, 75, 76, 77, 78, 79, 80, 81, 82, 83, 84, 85, 86, 87, 88, 89, 90]⟩ : ByteArray).size) : (Value.int .u8 ((((⟨#[48, 49, 50, 51, 52, 53, 54, 55, 56, 57, 97, 98, 99, 100, 101, 102, 103, 104, 105, 106, 107, 108, 109, 110, 111, 112, 113, 114, 115, 116, 117, 118, 119, 120, 121, 122, 65, 66, 67, 68, 69, 70, 71, 72, 73, 74, 75, 76, 77, 78, 79, 80, 81, 82, 83, 84, 85, 86, 87, 88, 89, 90]⟩ : ByteArray)[d]'h).toNat : Nat) : Int)) = B8 (chd d) := by
  match d, hd, h with
  | 0, _, _ => rfl
  | 1, _, _ => rfl
  | 2, _, _ => rfl
  | 3, _, _ => rfl
  | 4, _, _ => rfl
  | 5, _, _ => rfl
  | 6, _, _ => rfl
  | 7, _, _ => rfl
  | 8, _, _ => rfl
  | 9, _, _ => rfl
  | 10, _, _ => rfl
  | 11, _, _ => rfl
  | 12, _, _ => rfl
  | 13, _, _ => rfl
  | 14, _, _ => rfl
  | 15, _, _ => rfl
  | n + 16, h, _ => omega
theorem BufAt.push {sb n j : Nat} {acc : List UInt8} {w wr : World} (h : BufAt sb n (j + 1) acc w wr) (hj : j < n) (hsb : w.heap.size ≤ sb) (c : UInt8) :
    BufAt sb n j (c :: acc) w (wr.setCell ⟨sb, j, none⟩ (B8 c)) := by
  obtain ⟨⟨cur, hb, hn, hd⟩, k⟩ := h
  refine ⟨⟨_, heap_setCell_same hb (B8 c), by simpa using hn, ?_⟩, k.setNew _ hsb⟩
  have hlen : j < (cur.setIfInBounds j (B8 c)).toList.length := by simp; omega
  rw [List.drop_eq_getElem_cons hlen]
  simp only [Array.toList_setIfInBounds, List.map_cons]
  rw [List.getElem_set_self, List.drop_set_of_lt (by omega), hd]
theorem BufAt.cell {sb n j : Nat} {acc : List UInt8} {w wr : World} (h : BufAt sb n (j + 1) acc w wr) (hj : j < n) : (∃ u, wr.cell? ⟨sb, j, none⟩ = some u) ∧ wr.frozen? ⟨sb, j, none⟩ = false := by
  obtain ⟨⟨cur, hb, hn, hd⟩, k⟩ := h
  exact ⟨⟨cur[j]'(by omega), by rw [cell_of_heap hb, Array.getElem?_eq_getElem (by omega)]⟩, free_of_heap hb j⟩

/-- v is a slice that reads as the bytes out. -/
def SlIs (out : List UInt8) (v : Value) (w : World) : Prop :=
  ∃ (a : Addr) (cap : Nat), v = .slice (some a) out.length cap ∧ ∀ j (hj : j < out.length), w.cell? (a.add j) = some (.int .u8 (out[j].toNat : Int))
theorem BufAt.len {sb n j : Nat} {acc : List UInt8} {w wr : World} (h : BufAt sb n j acc w wr) : n - j = acc.length := by
  obtain ⟨⟨cur, hb, hn, hd⟩, k⟩ := h
  have := congrArg List.length hd
  simp only [List.length_drop, List.length_map, Array.length_toList] at this
  omega
theorem BufAt.slice {sb n j : Nat} {acc : List UInt8} {w wr : World} (h : BufAt sb n j acc w wr) (c : Nat) : SlIs acc (.slice (some ⟨sb, j, none⟩) (n - j) c) wr := by
  refine ⟨⟨sb, j, none⟩, c, by rw [h.len], ?_⟩
  obtain ⟨⟨cur, hb, hn, hd⟩, k⟩ := h
  intro i hi
  have : (⟨sb, j, none⟩ : Addr).add i = ⟨sb, j + i, none⟩ := by simp [Addr.add]
  rw [this, cell_of_heap hb]
  have h2 : (cur.toList.drop j)[i]? = (acc.map B8)[i]? := by rw [hd]
  rw [List.getElem?_drop, List.getElem?_map, List.getElem?_eq_getElem hi] at h2
  simpa [B8] using h2
/-- What itoa leaves: a slice that reads as out. -/
def ItoaRes (out : List UInt8) (w : World) (e : Ending) (w' : World) : Prop := ∃ v, e = .returned v ∧ SlIs out v w' ∧ Keeps (fun _ => False) w w'

theorem toF2 : floatOfInt .f64 2 = 4611686018427387904 := by decide +kernel
theorem fdiv2 : ∀ L : Fin 65, ((floatBits .quo .f64 (floatOfInt .f64 (L.val : Int)) 4607182418800017408).bind fun r => floatToIntVal .f64 r .i64) = some ((L.val / 1 : Nat) : Int) := by decide +kernel
theorem toF8 : floatOfInt .f64 8 = 4620693217682128896 := by decide +kernel
theorem fdiv8 : ∀ L : Fin 65, ((floatBits .quo .f64 (floatOfInt .f64 (L.val : Int)) 4613937818241073152).bind fun r => floatToIntVal .f64 r .i64) = some ((L.val / 3 : Nat) : Int) := by decide +kernel
theorem toF16 : floatOfInt .f64 16 = 4625196817309499392 := by decide +kernel
theorem fdiv16 : ∀ L : Fin 65, ((floatBits .quo .f64 (floatOfInt .f64 (L.val : Int)) 4616189618054758400).bind fun r => floatToIntVal .f64 r .i64) = some ((L.val / 4 : Nat) : Int) := by decide +kernel

set_option maxRecDepth 100000 in
theorem itoa_2_pos (nb m : Nat) (w : World) (hc : w.cell? ⟨nb, 0, none⟩ = some (.int .u64 m)) (h0 : 0 < m) (hm : m < 18446744073709551616) (ht : w.cell? ⟨7, 1, none⟩ = some (.int .u8 1)) :
    Calls Tryz.prog 43 #[.slice (some ⟨nb, 0, none⟩) 1 1, .bool false, .int .i64 2] w (ItoaRes (sdig 2 m) w) := by
  have hF := toF2
  have hN := and_neg_2
  have H0 := Lib.hid h0
  have HM := Lib.hid hm
  clear h0 hm
  go_enter Tryz.func43, Tryz.ntmps43
  go_wp2_with fail
  refine (bitLen_one nb m w hc H0.out HM.out).mono ?_
  rintro e w1 ⟨⟨L, rfl, hL1, hL2, hL3⟩, rfl⟩
  have HL := Lib.hid hL3
  clear hL3
  go_wp2_with fail
  refine (log2_b2 w).mono ?_
  rintro e w1 ⟨rfl, rfl⟩
  obtain ⟨r, hr1, hr2⟩ := Option.bind_eq_some_iff.1 (fdiv2 ⟨L, by omega⟩)
  have hquo := fun w => run_float_arith (P := Tryz.prog) w .quo 128 .f64 _ _ r hr1
  obtain ⟨q, hq⟩ : ∃ q, q = L / 1 := ⟨_, rfl⟩
  have hcv := fun w => run_convert_float_int (P := Tryz.prog) w 128 3 .f64 .i64 r _ (by kernel_rfl) Tryz.underlying3 hr2
  simp only [← hq] at hcv
  have hmk := make_bytes (q + 1) (by omega)
  rw [show ((q + 1 : Nat) : Int) = (q : Int) + 1 from rfl] at hmk
  have hq21 : q ≤ 64 := by omega
  have HQ := Lib.hid hq
  clear hr1 hr2 hq
  go_wp2_with fail
  refine (tz_2 _ ?_).mono ?_
  · exact ((Keeps.refl (fun _ => False) w).alloc _).cell ht (fun h => h)
  rintro e w1 ⟨rfl, rfl⟩
  clear hmk hcv hquo
  have k1 := (Keeps.refl (fun _ => False) w).alloc (.cells (madeCells #[.int .u8 0] (q + 1)) 5)
  have b1 := heap_alloc_new w (.cells (madeCells #[.int .u8 0] (q + 1)) 5)
  generalize w.alloc (.cells (madeCells #[.int .u8 0] (q + 1)) 5) = w1 at *
  have hc1 : w1.cell? ⟨nb, 0, none⟩ = some (.int .u64 m) := k1.cell hc (fun h => h)
  have B1 := Lib.hid b1
  clear b1 hc ht
  have hsb : w.heap.size ≤ w.heap.size := Nat.le_refl _
  generalize hsbE : w.heap.size = sb at hsb B1 ⊢
  have hsb : w.heap.size ≤ sb := Nat.le_of_eq hsbE
  have HSB := Lib.hid hsbE
  clear hsbE
  go_wp2_with fail
  refine wp_loop_rounds 1 ?_
  rw [rounds_succ]
  go_wp2_with fail
  go_loopw [7, 12] (fun i v wr => ∃ (j v' : Nat) (acc : List UInt8), j ≤ q + 1 ∧ v' < 18446744073709551616 ∧ (rest 2 v').length ≤ j ∧ rest 2 v' ++ acc = rest 2 m ∧ i = .int .i64 j ∧ v = .int .u64 v' ∧ BufAt sb (q + 1) j acc w wr) (fun i _ _ => (intOf i).toNat)
  case atStart =>
    have hq := HQ.out
    have hfit : (rest 2 m).length ≤ q + 1 := by rw [hq]; exact rest_fits (s := 1) (by omega) HL.out
    refine ⟨q + 1, m, [], Nat.le_refl _, HM.out, by omega, List.append_nil _, rfl, rfl, ⟨⟨_, B1.out, size_madeCells _ _, ?_⟩, k1⟩⟩
    rw [List.drop_eq_nil_of_le (by simp [size_madeCells])]; rfl
  case round =>
    obtain ⟨j, v, acc, hj, hv, hlen, happ, rfl, rfl, hbuf⟩ := hrel
    by_cases hv0 : v = 0
    · subst hv0
      have hacc : acc = sdig 2 m := by
        rw [← show rest 2 m = sdig 2 m from if_neg (by have := H0.out; omega), ← happ]; rfl
      have hl := hbuf.len
      have hlt : j < q + 1 := by
        have : 1 ≤ acc.length := by rw [hacc, sdig]; split <;> simp
        omega
      have HA := Lib.hid hacc
      clear hacc happ hlen hl
      go_wp2_with fail
      go_ret
      exact ⟨_, rfl, HA.out ▸ hbuf.slice _, hbuf.2⟩
    · have hstep := rest_step (b := 2) (by omega) hv0
      rw [hstep, List.length_append, List.length_singleton] at hlen
      obtain ⟨j, rfl⟩ : ∃ j', j = j' + 1 := ⟨j - 1, by omega⟩
      have hand := and_mask 1 v (by omega) hv
      rw [show ((2 ^ 1 - 1 : Nat) : Int) = 1 from rfl, show 2 ^ 1 = 2 from rfl] at hand
      obtain ⟨⟨u, hcell⟩, hfree⟩ := hbuf.cell (by omega)
      have hlt8 : v % 2 < 62 := by omega
      have hvz : ((v : Int) == 0) = false := beq_eq_false_iff_ne.2 (by omega)
      have hvn : ((v : Int) != 0) = true := by rw [bne_iff_ne]; omega
      have HS := Lib.hid (And.intro hstep (And.intro happ hlen))
      clear hstep happ hlen
      go_wp2_with fail
      go_roundw
      case rel =>
        obtain ⟨h1, h2, h3⟩ := HS.out
        rw [digits_get (v % 2) (by omega)]
        refine ⟨j, v / 2, chd (v % 2) :: acc, by omega, by omega, by omega, ?_, by go_num, by go_num, hbuf.push (by omega) hsb _⟩
        rw [← h2, h1, List.append_assoc]; rfl
      case measure => simp [intOf]

set_option maxRecDepth 100000 in
theorem itoa_2_neg (nb m : Nat) (w : World) (hc : w.cell? ⟨nb, 0, none⟩ = some (.int .u64 m)) (h0 : 0 < m) (hm : m < 18446744073709551616) (ht : w.cell? ⟨7, 1, none⟩ = some (.int .u8 1)) :
    Calls Tryz.prog 43 #[.slice (some ⟨nb, 0, none⟩) 1 1, .bool true, .int .i64 2] w (ItoaRes (45 :: sdig 2 m) w) := by
  have hF := toF2
  have hN := and_neg_2
  have H0 := Lib.hid h0
  have HM := Lib.hid hm
  clear h0 hm
  go_enter Tryz.func43, Tryz.ntmps43
  go_wp2_with fail
  refine (bitLen_one nb m w hc H0.out HM.out).mono ?_
  rintro e w1 ⟨⟨L, rfl, hL1, hL2, hL3⟩, rfl⟩
  have HL := Lib.hid hL3
  clear hL3
  go_wp2_with fail
  refine (log2_b2 w).mono ?_
  rintro e w1 ⟨rfl, rfl⟩
  obtain ⟨r, hr1, hr2⟩ := Option.bind_eq_some_iff.1 (fdiv2 ⟨L, by omega⟩)
  have hquo := fun w => run_float_arith (P := Tryz.prog) w .quo 128 .f64 _ _ r hr1
  obtain ⟨q, hq⟩ : ∃ q, q = L / 1 := ⟨_, rfl⟩
  have hcv := fun w => run_convert_float_int (P := Tryz.prog) w 128 3 .f64 .i64 r _ (by kernel_rfl) Tryz.underlying3 hr2
  simp only [← hq] at hcv
  have hmk := make_bytes (q + 1 + 1) (by omega)
  rw [show ((q + 1 + 1 : Nat) : Int) = (q : Int) + 1 + 1 from rfl] at hmk
  have hq21 : q ≤ 64 := by omega
  have HQ := Lib.hid hq
  clear hr1 hr2 hq
  go_wp2_with fail
  refine (tz_2 _ ?_).mono ?_
  · exact ((Keeps.refl (fun _ => False) w).alloc _).cell ht (fun h => h)
  rintro e w1 ⟨rfl, rfl⟩
  clear hmk hcv hquo
  have k1 := (Keeps.refl (fun _ => False) w).alloc (.cells (madeCells #[.int .u8 0] (q + 1 + 1)) 5)
  have b1 := heap_alloc_new w (.cells (madeCells #[.int .u8 0] (q + 1 + 1)) 5)
  generalize w.alloc (.cells (madeCells #[.int .u8 0] (q + 1 + 1)) 5) = w1 at *
  have hc1 : w1.cell? ⟨nb, 0, none⟩ = some (.int .u64 m) := k1.cell hc (fun h => h)
  have B1 := Lib.hid b1
  clear b1 hc ht
  have hsb : w.heap.size ≤ w.heap.size := Nat.le_refl _
  generalize hsbE : w.heap.size = sb at hsb B1 ⊢
  have hsb : w.heap.size ≤ sb := Nat.le_of_eq hsbE
  have HSB := Lib.hid hsbE
  clear hsbE
  go_wp2_with fail
  refine wp_loop_rounds 1 ?_
  rw [rounds_succ]
  go_wp2_with fail
  go_loopw [7, 12] (fun i v wr => ∃ (j v' : Nat) (acc : List UInt8), j ≤ q + 1 + 1 ∧ v' < 18446744073709551616 ∧ (rest 2 v').length ≤ j ∧ rest 2 v' ++ acc = rest 2 m ∧ i = .int .i64 j ∧ v = .int .u64 v' ∧ BufAt sb (q + 1 + 1) j acc w wr) (fun i _ _ => (intOf i).toNat)
  case atStart =>
    have hq := HQ.out
    have hfit : (rest 2 m).length ≤ q + 1 := by rw [hq]; exact rest_fits (s := 1) (by omega) HL.out
    refine ⟨q + 1 + 1, m, [], Nat.le_refl _, HM.out, by omega, List.append_nil _, rfl, rfl, ⟨⟨_, B1.out, size_madeCells _ _, ?_⟩, k1⟩⟩
    rw [List.drop_eq_nil_of_le (by simp [size_madeCells])]; rfl
  case round =>
    obtain ⟨j, v, acc, hj, hv, hlen, happ, rfl, rfl, hbuf⟩ := hrel
    by_cases hv0 : v = 0
    · subst hv0
      have hacc : acc = sdig 2 m := by
        rw [← show rest 2 m = sdig 2 m from if_neg (by have := H0.out; omega), ← happ]; rfl
      have hl := hbuf.len
      have hlt : j < q + 1 + 1 ∧ 1 ≤ j := by
        have h1 : 1 ≤ acc.length := by rw [hacc, sdig]; split <;> simp
        have h2 : acc.length ≤ q + 1 := by
          rw [hacc, ← show rest 2 m = sdig 2 m from if_neg (by have := H0.out; omega), HQ.out]
          exact rest_fits (s := 1) (by omega) HL.out
        omega
      obtain ⟨hlt, hj1⟩ := hlt
      have HA := Lib.hid hacc
      clear hacc happ hlen hl
      obtain ⟨j, rfl⟩ : ∃ j', j = j' + 1 := ⟨j - 1, by omega⟩
      obtain ⟨⟨u, hcell⟩, hfree⟩ := hbuf.cell (by omega)
      have hb2 := hbuf.push (by omega) hsb 45
      have hlt2 : j < q + 1 + 1 := by omega
      go_wp2_with fail
      go_ret
      exact ⟨_, rfl, HA.out ▸ hb2.slice _, hb2.2⟩
    · have hstep := rest_step (b := 2) (by omega) hv0
      rw [hstep, List.length_append, List.length_singleton] at hlen
      obtain ⟨j, rfl⟩ : ∃ j', j = j' + 1 := ⟨j - 1, by omega⟩
      have hand := and_mask 1 v (by omega) hv
      rw [show ((2 ^ 1 - 1 : Nat) : Int) = 1 from rfl, show 2 ^ 1 = 2 from rfl] at hand
      obtain ⟨⟨u, hcell⟩, hfree⟩ := hbuf.cell (by omega)
      have hlt8 : v % 2 < 62 := by omega
      have hvz : ((v : Int) == 0) = false := beq_eq_false_iff_ne.2 (by omega)
      have hvn : ((v : Int) != 0) = true := by rw [bne_iff_ne]; omega
      have HS := Lib.hid (And.intro hstep (And.intro happ hlen))
      clear hstep happ hlen
      go_wp2_with fail
      go_roundw
      case rel =>
        obtain ⟨h1, h2, h3⟩ := HS.out
        rw [digits_get (v % 2) (by omega)]
        refine ⟨j, v / 2, chd (v % 2) :: acc, by omega, by omega, by omega, ?_, by go_num, by go_num, hbuf.push (by omega) hsb _⟩
        rw [← h2, h1, List.append_assoc]; rfl
      case measure => simp [intOf]

set_option maxRecDepth 100000 in
theorem itoa_8_pos (nb m : Nat) (w : World) (hc : w.cell? ⟨nb, 0, none⟩ = some (.int .u64 m)) (h0 : 0 < m) (hm : m < 18446744073709551616) (ht : w.cell? ⟨7, 7, none⟩ = some (.int .u8 3)) :
    Calls Tryz.prog 43 #[.slice (some ⟨nb, 0, none⟩) 1 1, .bool false, .int .i64 8] w (ItoaRes (sdig 8 m) w) := by
  have hF := toF8
  have hN := and_neg_8
  have H0 := Lib.hid h0
  have HM := Lib.hid hm
  clear h0 hm
  go_enter Tryz.func43, Tryz.ntmps43
  go_wp2_with fail
  refine (bitLen_one nb m w hc H0.out HM.out).mono ?_
  rintro e w1 ⟨⟨L, rfl, hL1, hL2, hL3⟩, rfl⟩
  have HL := Lib.hid hL3
  clear hL3
  go_wp2_with fail
  refine (log2_b8 w).mono ?_
  rintro e w1 ⟨rfl, rfl⟩
  obtain ⟨r, hr1, hr2⟩ := Option.bind_eq_some_iff.1 (fdiv8 ⟨L, by omega⟩)
  have hquo := fun w => run_float_arith (P := Tryz.prog) w .quo 128 .f64 _ _ r hr1
  obtain ⟨q, hq⟩ : ∃ q, q = L / 3 := ⟨_, rfl⟩
  have hcv := fun w => run_convert_float_int (P := Tryz.prog) w 128 3 .f64 .i64 r _ (by kernel_rfl) Tryz.underlying3 hr2
  simp only [← hq] at hcv
  have hmk := make_bytes (q + 1) (by omega)
  rw [show ((q + 1 : Nat) : Int) = (q : Int) + 1 from rfl] at hmk
  have hq21 : q ≤ 64 := by omega
  have HQ := Lib.hid hq
  clear hr1 hr2 hq
  go_wp2_with fail
  refine (tz_8 _ ?_).mono ?_
  · exact ((Keeps.refl (fun _ => False) w).alloc _).cell ht (fun h => h)
  rintro e w1 ⟨rfl, rfl⟩
  clear hmk hcv hquo
  have k1 := (Keeps.refl (fun _ => False) w).alloc (.cells (madeCells #[.int .u8 0] (q + 1)) 5)
  have b1 := heap_alloc_new w (.cells (madeCells #[.int .u8 0] (q + 1)) 5)
  generalize w.alloc (.cells (madeCells #[.int .u8 0] (q + 1)) 5) = w1 at *
  have hc1 : w1.cell? ⟨nb, 0, none⟩ = some (.int .u64 m) := k1.cell hc (fun h => h)
  have B1 := Lib.hid b1
  clear b1 hc ht
  have hsb : w.heap.size ≤ w.heap.size := Nat.le_refl _
  generalize hsbE : w.heap.size = sb at hsb B1 ⊢
  have hsb : w.heap.size ≤ sb := Nat.le_of_eq hsbE
  have HSB := Lib.hid hsbE
  clear hsbE
  go_wp2_with fail
  refine wp_loop_rounds 1 ?_
  rw [rounds_succ]
  go_wp2_with fail
  go_loopw [7, 12] (fun i v wr => ∃ (j v' : Nat) (acc : List UInt8), j ≤ q + 1 ∧ v' < 18446744073709551616 ∧ (rest 8 v').length ≤ j ∧ rest 8 v' ++ acc = rest 8 m ∧ i = .int .i64 j ∧ v = .int .u64 v' ∧ BufAt sb (q + 1) j acc w wr) (fun i _ _ => (intOf i).toNat)
  case atStart =>
    have hq := HQ.out
    have hfit : (rest 8 m).length ≤ q + 1 := by rw [hq]; exact rest_fits (s := 3) (by omega) HL.out
    refine ⟨q + 1, m, [], Nat.le_refl _, HM.out, by omega, List.append_nil _, rfl, rfl, ⟨⟨_, B1.out, size_madeCells _ _, ?_⟩, k1⟩⟩
    rw [List.drop_eq_nil_of_le (by simp [size_madeCells])]; rfl
  case round =>
    obtain ⟨j, v, acc, hj, hv, hlen, happ, rfl, rfl, hbuf⟩ := hrel
    by_cases hv0 : v = 0
    · subst hv0
      have hacc : acc = sdig 8 m := by
        rw [← show rest 8 m = sdig 8 m from if_neg (by have := H0.out; omega), ← happ]; rfl
      have hl := hbuf.len
      have hlt : j < q + 1 := by
        have : 1 ≤ acc.length := by rw [hacc, sdig]; split <;> simp
        omega
      have HA := Lib.hid hacc
      clear hacc happ hlen hl
      go_wp2_with fail
      go_ret
      exact ⟨_, rfl, HA.out ▸ hbuf.slice _, hbuf.2⟩
    · have hstep := rest_step (b := 8) (by omega) hv0
      rw [hstep, List.length_append, List.length_singleton] at hlen
      obtain ⟨j, rfl⟩ : ∃ j', j = j' + 1 := ⟨j - 1, by omega⟩
      have hand := and_mask 3 v (by omega) hv
      rw [show ((2 ^ 3 - 1 : Nat) : Int) = 7 from rfl, show 2 ^ 3 = 8 from rfl] at hand
      obtain ⟨⟨u, hcell⟩, hfree⟩ := hbuf.cell (by omega)
      have hlt8 : v % 8 < 62 := by omega
      have hvz : ((v : Int) == 0) = false := beq_eq_false_iff_ne.2 (by omega)
      have hvn : ((v : Int) != 0) = true := by rw [bne_iff_ne]; omega
      have HS := Lib.hid (And.intro hstep (And.intro happ hlen))
      clear hstep happ hlen
      go_wp2_with fail
      go_roundw
      case rel =>
        obtain ⟨h1, h2, h3⟩ := HS.out
        rw [digits_get (v % 8) (by omega)]
        refine ⟨j, v / 8, chd (v % 8) :: acc, by omega, by omega, by omega, ?_, by go_num, by go_num, hbuf.push (by omega) hsb _⟩
        rw [← h2, h1, List.append_assoc]; rfl
      case measure => simp [intOf]

set_option maxRecDepth 100000 in
theorem itoa_8_neg (nb m : Nat) (w : World) (hc : w.cell? ⟨nb, 0, none⟩ = some (.int .u64 m)) (h0 : 0 < m) (hm : m < 18446744073709551616) (ht : w.cell? ⟨7, 7, none⟩ = some (.int .u8 3)) :
    Calls Tryz.prog 43 #[.slice (some ⟨nb, 0, none⟩) 1 1, .bool true, .int .i64 8] w (ItoaRes (45 :: sdig 8 m) w) := by
  have hF := toF8
  have hN := and_neg_8
  have H0 := Lib.hid h0
  have HM := Lib.hid hm
  clear h0 hm
  go_enter Tryz.func43, Tryz.ntmps43
  go_wp2_with fail
  refine (bitLen_one nb m w hc H0.out HM.out).mono ?_
  rintro e w1 ⟨⟨L, rfl, hL1, hL2, hL3⟩, rfl⟩
  have HL := Lib.hid hL3
  clear hL3
  go_wp2_with fail
  refine (log2_b8 w).mono ?_
  rintro e w1 ⟨rfl, rfl⟩
  obtain ⟨r, hr1, hr2⟩ := Option.bind_eq_some_iff.1 (fdiv8 ⟨L, by omega⟩)
  have hquo := fun w => run_float_arith (P := Tryz.prog) w .quo 128 .f64 _ _ r hr1
  obtain ⟨q, hq⟩ : ∃ q, q = L / 3 := ⟨_, rfl⟩
  have hcv := fun w => run_convert_float_int (P := Tryz.prog) w 128 3 .f64 .i64 r _ (by kernel_rfl) Tryz.underlying3 hr2
  simp only [← hq] at hcv
  have hmk := make_bytes (q + 1 + 1) (by omega)
  rw [show ((q + 1 + 1 : Nat) : Int) = (q : Int) + 1 + 1 from rfl] at hmk
  have hq21 : q ≤ 64 := by omega
  have HQ := Lib.hid hq
  clear hr1 hr2 hq
  go_wp2_with fail
  refine (tz_8 _ ?_).mono ?_
  · exact ((Keeps.refl (fun _ => False) w).alloc _).cell ht (fun h => h)
  rintro e w1 ⟨rfl, rfl⟩
  clear hmk hcv hquo
  have k1 := (Keeps.refl (fun _ => False) w).alloc (.cells (madeCells #[.int .u8 0] (q + 1 + 1)) 5)
  have b1 := heap_alloc_new w (.cells (madeCells #[.int .u8 0] (q + 1 + 1)) 5)
  generalize w.alloc (.cells (madeCells #[.int .u8 0] (q + 1 + 1)) 5) = w1 at *
  have hc1 : w1.cell? ⟨nb, 0, none⟩ = some (.int .u64 m) := k1.cell hc (fun h => h)
  have B1 := Lib.hid b1
  clear b1 hc ht
  have hsb : w.heap.size ≤ w.heap.size := Nat.le_refl _
  generalize hsbE : w.heap.size = sb at hsb B1 ⊢
  have hsb : w.heap.size ≤ sb := Nat.le_of_eq hsbE
  have HSB := Lib.hid hsbE
  clear hsbE
  go_wp2_with fail
  refine wp_loop_rounds 1 ?_
  rw [rounds_succ]
  go_wp2_with fail
  go_loopw [7, 12] (fun i v wr => ∃ (j v' : Nat) (acc : List UInt8), j ≤ q + 1 + 1 ∧ v' < 18446744073709551616 ∧ (rest 8 v').length ≤ j ∧ rest 8 v' ++ acc = rest 8 m ∧ i = .int .i64 j ∧ v = .int .u64 v' ∧ BufAt sb (q + 1 + 1) j acc w wr) (fun i _ _ => (intOf i).toNat)
  case atStart =>
    have hq := HQ.out
    have hfit : (rest 8 m).length ≤ q + 1 := by rw [hq]; exact rest_fits (s := 3) (by omega) HL.out
    refine ⟨q + 1 + 1, m, [], Nat.le_refl _, HM.out, by omega, List.append_nil _, rfl, rfl, ⟨⟨_, B1.out, size_madeCells _ _, ?_⟩, k1⟩⟩
    rw [List.drop_eq_nil_of_le (by simp [size_madeCells])]; rfl
  case round =>
    obtain ⟨j, v, acc, hj, hv, hlen, happ, rfl, rfl, hbuf⟩ := hrel
    by_cases hv0 : v = 0
    · subst hv0
      have hacc : acc = sdig 8 m := by
        rw [← show rest 8 m = sdig 8 m from if_neg (by have := H0.out; omega), ← happ]; rfl
      have hl := hbuf.len
      have hlt : j < q + 1 + 1 ∧ 1 ≤ j := by
        have h1 : 1 ≤ acc.length := by rw [hacc, sdig]; split <;> simp
        have h2 : acc.length ≤ q + 1 := by
          rw [hacc, ← show rest 8 m = sdig 8 m from if_neg (by have := H0.out; omega), HQ.out]
          exact rest_fits (s := 3) (by omega) HL.out
        omega
      obtain ⟨hlt, hj1⟩ := hlt
      have HA := Lib.hid hacc
      clear hacc happ hlen hl
      obtain ⟨j, rfl⟩ : ∃ j', j = j' + 1 := ⟨j - 1, by omega⟩
      obtain ⟨⟨u, hcell⟩, hfree⟩ := hbuf.cell (by omega)
      have hb2 := hbuf.push (by omega) hsb 45
      have hlt2 : j < q + 1 + 1 := by omega
      go_wp2_with fail
      go_ret
      exact ⟨_, rfl, HA.out ▸ hb2.slice _, hb2.2⟩
    · have hstep := rest_step (b := 8) (by omega) hv0
      rw [hstep, List.length_append, List.length_singleton] at hlen
      obtain ⟨j, rfl⟩ : ∃ j', j = j' + 1 := ⟨j - 1, by omega⟩
      have hand := and_mask 3 v (by omega) hv
      rw [show ((2 ^ 3 - 1 : Nat) : Int) = 7 from rfl, show 2 ^ 3 = 8 from rfl] at hand
      obtain ⟨⟨u, hcell⟩, hfree⟩ := hbuf.cell (by omega)
      have hlt8 : v % 8 < 62 := by omega
      have hvz : ((v : Int) == 0) = false := beq_eq_false_iff_ne.2 (by omega)
      have hvn : ((v : Int) != 0) = true := by rw [bne_iff_ne]; omega
      have HS := Lib.hid (And.intro hstep (And.intro happ hlen))
      clear hstep happ hlen
      go_wp2_with fail
      go_roundw
      case rel =>
        obtain ⟨h1, h2, h3⟩ := HS.out
        rw [digits_get (v % 8) (by omega)]
        refine ⟨j, v / 8, chd (v % 8) :: acc, by omega, by omega, by omega, ?_, by go_num, by go_num, hbuf.push (by omega) hsb _⟩
        rw [← h2, h1, List.append_assoc]; rfl
      case measure => simp [intOf]

set_option maxRecDepth 100000 in
theorem itoa_16_pos (nb m : Nat) (w : World) (hc : w.cell? ⟨nb, 0, none⟩ = some (.int .u64 m)) (h0 : 0 < m) (hm : m < 18446744073709551616) (ht : w.cell? ⟨7, 15, none⟩ = some (.int .u8 4)) :
    Calls Tryz.prog 43 #[.slice (some ⟨nb, 0, none⟩) 1 1, .bool false, .int .i64 16] w (ItoaRes (sdig 16 m) w) := by
  have hF := toF16
  have hN := and_neg_16
  have H0 := Lib.hid h0
  have HM := Lib.hid hm
  clear h0 hm
  go_enter Tryz.func43, Tryz.ntmps43
  go_wp2_with fail
  refine (bitLen_one nb m w hc H0.out HM.out).mono ?_
  rintro e w1 ⟨⟨L, rfl, hL1, hL2, hL3⟩, rfl⟩
  have HL := Lib.hid hL3
  clear hL3
  go_wp2_with fail
  refine (log2_b16 w).mono ?_
  rintro e w1 ⟨rfl, rfl⟩
  obtain ⟨r, hr1, hr2⟩ := Option.bind_eq_some_iff.1 (fdiv16 ⟨L, by omega⟩)
  have hquo := fun w => run_float_arith (P := Tryz.prog) w .quo 128 .f64 _ _ r hr1
  obtain ⟨q, hq⟩ : ∃ q, q = L / 4 := ⟨_, rfl⟩
  have hcv := fun w => run_convert_float_int (P := Tryz.prog) w 128 3 .f64 .i64 r _ (by kernel_rfl) Tryz.underlying3 hr2
  simp only [← hq] at hcv
  have hmk := make_bytes (q + 1) (by omega)
  rw [show ((q + 1 : Nat) : Int) = (q : Int) + 1 from rfl] at hmk
  have hq21 : q ≤ 64 := by omega
  have HQ := Lib.hid hq
  clear hr1 hr2 hq
  go_wp2_with fail
  refine (tz_16 _ ?_).mono ?_
  · exact ((Keeps.refl (fun _ => False) w).alloc _).cell ht (fun h => h)
  rintro e w1 ⟨rfl, rfl⟩
  clear hmk hcv hquo
  have k1 := (Keeps.refl (fun _ => False) w).alloc (.cells (madeCells #[.int .u8 0] (q + 1)) 5)
  have b1 := heap_alloc_new w (.cells (madeCells #[.int .u8 0] (q + 1)) 5)
  generalize w.alloc (.cells (madeCells #[.int .u8 0] (q + 1)) 5) = w1 at *
  have hc1 : w1.cell? ⟨nb, 0, none⟩ = some (.int .u64 m) := k1.cell hc (fun h => h)
  have B1 := Lib.hid b1
  clear b1 hc ht
  have hsb : w.heap.size ≤ w.heap.size := Nat.le_refl _
  generalize hsbE : w.heap.size = sb at hsb B1 ⊢
  have hsb : w.heap.size ≤ sb := Nat.le_of_eq hsbE
  have HSB := Lib.hid hsbE
  clear hsbE
  go_wp2_with fail
  refine wp_loop_rounds 1 ?_
  rw [rounds_succ]
  go_wp2_with fail
  go_loopw [7, 12] (fun i v wr => ∃ (j v' : Nat) (acc : List UInt8), j ≤ q + 1 ∧ v' < 18446744073709551616 ∧ (rest 16 v').length ≤ j ∧ rest 16 v' ++ acc = rest 16 m ∧ i = .int .i64 j ∧ v = .int .u64 v' ∧ BufAt sb (q + 1) j acc w wr) (fun i _ _ => (intOf i).toNat)
  case atStart =>
    have hq := HQ.out
    have hfit : (rest 16 m).length ≤ q + 1 := by rw [hq]; exact rest_fits (s := 4) (by omega) HL.out
    refine ⟨q + 1, m, [], Nat.le_refl _, HM.out, by omega, List.append_nil _, rfl, rfl, ⟨⟨_, B1.out, size_madeCells _ _, ?_⟩, k1⟩⟩
    rw [List.drop_eq_nil_of_le (by simp [size_madeCells])]; rfl
  case round =>
    obtain ⟨j, v, acc, hj, hv, hlen, happ, rfl, rfl, hbuf⟩ := hrel
    by_cases hv0 : v = 0
    · subst hv0
      have hacc : acc = sdig 16 m := by
        rw [← show rest 16 m = sdig 16 m from if_neg (by have := H0.out; omega), ← happ]; rfl
      have hl := hbuf.len
      have hlt : j < q + 1 := by
        have : 1 ≤ acc.length := by rw [hacc, sdig]; split <;> simp
        omega
      have HA := Lib.hid hacc
      clear hacc happ hlen hl
      go_wp2_with fail
      go_ret
      exact ⟨_, rfl, HA.out ▸ hbuf.slice _, hbuf.2⟩
    · have hstep := rest_step (b := 16) (by omega) hv0
      rw [hstep, List.length_append, List.length_singleton] at hlen
      obtain ⟨j, rfl⟩ : ∃ j', j = j' + 1 := ⟨j - 1, by omega⟩
      have hand := and_mask 4 v (by omega) hv
      rw [show ((2 ^ 4 - 1 : Nat) : Int) = 15 from rfl, show 2 ^ 4 = 16 from rfl] at hand
      obtain ⟨⟨u, hcell⟩, hfree⟩ := hbuf.cell (by omega)
      have hlt8 : v % 16 < 62 := by omega
      have hvz : ((v : Int) == 0) = false := beq_eq_false_iff_ne.2 (by omega)
      have hvn : ((v : Int) != 0) = true := by rw [bne_iff_ne]; omega
      have HS := Lib.hid (And.intro hstep (And.intro happ hlen))
      clear hstep happ hlen
      go_wp2_with fail
      go_roundw
      case rel =>
        obtain ⟨h1, h2, h3⟩ := HS.out
        rw [digits_get (v % 16) (by omega)]
        refine ⟨j, v / 16, chd (v % 16) :: acc, by omega, by omega, by omega, ?_, by go_num, by go_num, hbuf.push (by omega) hsb _⟩
        rw [← h2, h1, List.append_assoc]; rfl
      case measure => simp [intOf]

set_option maxRecDepth 100000 in
theorem itoa_16_neg (nb m : Nat) (w : World) (hc : w.cell? ⟨nb, 0, none⟩ = some (.int .u64 m)) (h0 : 0 < m) (hm : m < 18446744073709551616) (ht : w.cell? ⟨7, 15, none⟩ = some (.int .u8 4)) :
    Calls Tryz.prog 43 #[.slice (some ⟨nb, 0, none⟩) 1 1, .bool true, .int .i64 16] w (ItoaRes (45 :: sdig 16 m) w) := by
  have hF := toF16
  have hN := and_neg_16
  have H0 := Lib.hid h0
  have HM := Lib.hid hm
  clear h0 hm
  go_enter Tryz.func43, Tryz.ntmps43
  go_wp2_with fail
  refine (bitLen_one nb m w hc H0.out HM.out).mono ?_
  rintro e w1 ⟨⟨L, rfl, hL1, hL2, hL3⟩, rfl⟩
  have HL := Lib.hid hL3
  clear hL3
  go_wp2_with fail
  refine (log2_b16 w).mono ?_
  rintro e w1 ⟨rfl, rfl⟩
  obtain ⟨r, hr1, hr2⟩ := Option.bind_eq_some_iff.1 (fdiv16 ⟨L, by omega⟩)
  have hquo := fun w => run_float_arith (P := Tryz.prog) w .quo 128 .f64 _ _ r hr1
  obtain ⟨q, hq⟩ : ∃ q, q = L / 4 := ⟨_, rfl⟩
  have hcv := fun w => run_convert_float_int (P := Tryz.prog) w 128 3 .f64 .i64 r _ (by kernel_rfl) Tryz.underlying3 hr2
  simp only [← hq] at hcv
  have hmk := make_bytes (q + 1 + 1) (by omega)
  rw [show ((q + 1 + 1 : Nat) : Int) = (q : Int) + 1 + 1 from rfl] at hmk
  have hq21 : q ≤ 64 := by omega
  have HQ := Lib.hid hq
  clear hr1 hr2 hq
  go_wp2_with fail
  refine (tz_16 _ ?_).mono ?_
  · exact ((Keeps.refl (fun _ => False) w).alloc _).cell ht (fun h => h)
  rintro e w1 ⟨rfl, rfl⟩
  clear hmk hcv hquo
  have k1 := (Keeps.refl (fun _ => False) w).alloc (.cells (madeCells #[.int .u8 0] (q + 1 + 1)) 5)
  have b1 := heap_alloc_new w (.cells (madeCells #[.int .u8 0] (q + 1 + 1)) 5)
  generalize w.alloc (.cells (madeCells #[.int .u8 0] (q + 1 + 1)) 5) = w1 at *
  have hc1 : w1.cell? ⟨nb, 0, none⟩ = some (.int .u64 m) := k1.cell hc (fun h => h)
  have B1 := Lib.hid b1
  clear b1 hc ht
  have hsb : w.heap.size ≤ w.heap.size := Nat.le_refl _
  generalize hsbE : w.heap.size = sb at hsb B1 ⊢
  have hsb : w.heap.size ≤ sb := Nat.le_of_eq hsbE
  have HSB := Lib.hid hsbE
  clear hsbE
  go_wp2_with fail
  refine wp_loop_rounds 1 ?_
  rw [rounds_succ]
  go_wp2_with fail
  go_loopw [7, 12] (fun i v wr => ∃ (j v' : Nat) (acc : List UInt8), j ≤ q + 1 + 1 ∧ v' < 18446744073709551616 ∧ (rest 16 v').length ≤ j ∧ rest 16 v' ++ acc = rest 16 m ∧ i = .int .i64 j ∧ v = .int .u64 v' ∧ BufAt sb (q + 1 + 1) j acc w wr) (fun i _ _ => (intOf i).toNat)
  case atStart =>
    have hq := HQ.out
    have hfit : (rest 16 m).length ≤ q + 1 := by rw [hq]; exact rest_fits (s := 4) (by omega) HL.out
    refine ⟨q + 1 + 1, m, [], Nat.le_refl _, HM.out, by omega, List.append_nil _, rfl, rfl, ⟨⟨_, B1.out, size_madeCells _ _, ?_⟩, k1⟩⟩
    rw [List.drop_eq_nil_of_le (by simp [size_madeCells])]; rfl
  case round =>
    obtain ⟨j, v, acc, hj, hv, hlen, happ, rfl, rfl, hbuf⟩ := hrel
    by_cases hv0 : v = 0
    · subst hv0
      have hacc : acc = sdig 16 m := by
        rw [← show rest 16 m = sdig 16 m from if_neg (by have := H0.out; omega), ← happ]; rfl
      have hl := hbuf.len
      have hlt : j < q + 1 + 1 ∧ 1 ≤ j := by
        have h1 : 1 ≤ acc.length := by rw [hacc, sdig]; split <;> simp
        have h2 : acc.length ≤ q + 1 := by
          rw [hacc, ← show rest 16 m = sdig 16 m from if_neg (by have := H0.out; omega), HQ.out]
          exact rest_fits (s := 4) (by omega) HL.out
        omega
      obtain ⟨hlt, hj1⟩ := hlt
      have HA := Lib.hid hacc
      clear hacc happ hlen hl
      obtain ⟨j, rfl⟩ : ∃ j', j = j' + 1 := ⟨j - 1, by omega⟩
      obtain ⟨⟨u, hcell⟩, hfree⟩ := hbuf.cell (by omega)
      have hb2 := hbuf.push (by omega) hsb 45
      have hlt2 : j < q + 1 + 1 := by omega
      go_wp2_with fail
      go_ret
      exact ⟨_, rfl, HA.out ▸ hb2.slice _, hb2.2⟩
    · have hstep := rest_step (b := 16) (by omega) hv0
      rw [hstep, List.length_append, List.length_singleton] at hlen
      obtain ⟨j, rfl⟩ : ∃ j', j = j' + 1 := ⟨j - 1, by omega⟩
      have hand := and_mask 4 v (by omega) hv
      rw [show ((2 ^ 4 - 1 : Nat) : Int) = 15 from rfl, show 2 ^ 4 = 16 from rfl] at hand
      obtain ⟨⟨u, hcell⟩, hfree⟩ := hbuf.cell (by omega)
      have hlt8 : v % 16 < 62 := by omega
      have hvz : ((v : Int) == 0) = false := beq_eq_false_iff_ne.2 (by omega)
      have hvn : ((v : Int) != 0) = true := by rw [bne_iff_ne]; omega
      have HS := Lib.hid (And.intro hstep (And.intro happ hlen))
      clear hstep happ hlen
      go_wp2_with fail
      go_roundw
      case rel =>
        obtain ⟨h1, h2, h3⟩ := HS.out
        rw [digits_get (v % 16) (by omega)]
        refine ⟨j, v / 16, chd (v % 16) :: acc, by omega, by omega, by omega, ?_, by go_num, by go_num, hbuf.push (by omega) hsb _⟩
        rw [← h2, h1, List.append_assoc]; rfl
      case measure => simp [intOf]
end Go.Proofs.YtpoepgnapneeaaaGreatDoor
