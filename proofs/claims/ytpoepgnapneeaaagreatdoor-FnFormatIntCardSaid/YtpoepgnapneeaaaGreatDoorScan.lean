/-
  The walk of (nat).scan over a text of decimal digits, base 10, by a strings.Reader: it reads the number. Conditions: 1 to 18 digits, a nil receiver.
-/
import Derived.Test.YtpoepgnapneeaaaGreatDoorNum
namespace Go.Proofs.YtpoepgnapneeaaaGreatDoor
open Go.RowKit
set_option linter.unusedVariables false
set_option maxHeartbeats 400000

/-- The number that a list of decimal digits writes. -/
def dnumFrom : Nat → List Nat → Nat
  | a, [] => a
  | a, d :: l => dnumFrom (a * 10 + d) l
def dnum (ds : List Nat) : Nat := dnumFrom 0 ds
theorem dnumFrom_snoc (l : List Nat) (d : Nat) : ∀ a, dnumFrom a (l ++ [d]) = dnumFrom a l * 10 + d := by
  induction l with
  | nil => intro a; rfl
  | cons x l ih => intro a; exact ih _
theorem dnumFrom_lt (l : List Nat) : ∀ a b : Nat, a < b → (∀ d ∈ l, d < 10) → dnumFrom a l < b * 10 ^ l.length := by
  induction l with
  | nil => intro a b h _; simpa [dnumFrom] using h
  | cons x l ih =>
    intro a b h hl
    have hx := hl x (by simp)
    have := ih (a * 10 + x) (b * 10) (by omega) fun d hd => hl d (by simp [hd])
    rw [List.length_cons, Nat.pow_succ]
    show dnumFrom (a * 10 + x) l < _
    rw [Nat.mul_comm (10 ^ l.length) 10, ← Nat.mul_assoc]
    exact this
theorem dnum_lt (ds : List Nat) (h : ∀ d ∈ ds, d < 10) : dnum ds < 10 ^ ds.length := by
  have := dnumFrom_lt ds 0 1 (by omega) h
  rwa [Nat.one_mul] at this
theorem dnum_take (ds : List Nat) (k : Nat) (hk : k < ds.length) : dnum (ds.take (k + 1)) = dnum (ds.take k) * 10 + ds[k] := by
  rw [List.take_succ_eq_append_getElem hk]; exact dnumFrom_snoc _ _ 0
theorem dnum_take_le (ds : List Nat) (k : Nat) (hk : k ≤ 18) (h : ∀ d ∈ ds, d < 10) : dnum (ds.take k) < 1000000000000000000 := by
  have h1 := dnum_lt (ds.take k) fun d hd => h d (List.mem_of_mem_take hd)
  have h2 : 10 ^ (ds.take k).length ≤ 10 ^ 18 := Nat.pow_le_pow_right (by omega) (by have := List.length_take_le k ds; omega)
  exact Nat.lt_of_lt_of_le h1 h2

/-- From p on the text s writes the digits ds, and nothing else. -/
structure DigAt (s : ByteArray) (p : Nat) (ds : List Nat) : Prop where
  len : s.size = p + ds.length
  dig : ∀ k (hk : k < ds.length) (h : p + k < s.size), s[p + k].toNat = 48 + ds[k]
  low : ∀ d ∈ ds, d < 10
  short : ds.length ≤ 18
  pos : 1 ≤ ds.length

theorem readDigit (rb p k d : Nat) (s : ByteArray) (ds : List Nat) (w : World) (h : RdAt rb s ((p + k : Nat) : Int) w) (hs : s.size ≤ 1000) (hd : DigAt s p ds) (hk : ds[k]? = some d) :
    Calls Tryz.prog 133 #[.pointer (some ⟨rb, 0, none⟩)] w fun e w' => e = .returned (.tuple #[.int .u8 (48 + (d : Int)), .nilIface]) ∧ RdAt rb s ((p + (k + 1) : Nat) : Int) w' ∧ Keeps (· = rb) w w' := by
  obtain ⟨hk', rfl⟩ := List.getElem?_eq_some_iff.1 hk
  have hlt : p + k < s.size := by have := hd.len; omega
  have := readByte_yes rb s (p + k) w h hlt hs
  rw [hd.dig k hk' hlt] at this
  exact this

def eofV (ea : Addr) : Value := .iface 261 (.pointer (some ea))
/-- io.EOF lies in its variable. -/
def EofIs (ea : Addr) (w : World) : Prop := w.cell? ⟨0, 0, none⟩ = some (.iface 261 (.pointer (some ea)))

theorem comp261 : (Tryz.prog.info? 261).map (·.comparable) = some true := by kernel_rfl
theorem size263 : (Tryz.prog.info? 263).map (·.size) = some 1 := by kernel_rfl
theorem eof_eql (ea : Addr) (w : World) : (binOp .eql 32 (.iface 261 (.pointer (some ea))) (.iface 261 (.pointer (some ea)))).run Tryz.prog w = .ok (.bool true) w := by
  obtain ⟨i, hi, hc⟩ := Option.map_eq_some_iff.1 comp261
  obtain ⟨j, hj, _⟩ := Option.map_eq_some_iff.1 size263
  exact run_eql_iface_ptr_same w ea Tryz.underlying32 Tryz.underlying261 hi hc hj
theorem eof_neq (ea : Addr) (w : World) : (binOp .neq 32 (.iface 261 (.pointer (some ea))) (.iface 261 (.pointer (some ea)))).run Tryz.prog w = .ok (.bool false) w := by
  obtain ⟨i, hi, hc⟩ := Option.map_eq_some_iff.1 comp261
  obtain ⟨j, hj, _⟩ := Option.map_eq_some_iff.1 size263
  simp only [binOp]
  simp [Op.equal, Op.maxDepth, run_equalIn_iface_ptr_same w 9998 ea Tryz.underlying32 Tryz.underlying261 hi hc hj]

/-- z is the natural number m: no words, or one word in a block from B on. -/
def NatIs (B m : Nat) (z : Value) (w : World) : Prop :=
  (m = 0 ∧ z = .slice none 0 0) ∨ (0 < m ∧ ∃ zb, B ≤ zb ∧ z = .slice (some ⟨zb, 0, none⟩) 1 1 ∧ w.heap[zb]? = some (.cells #[.int .u64 m] 131 (0, 0)))

theorem NatIs.mono {B B' m : Nat} {z : Value} {w : World} (h : NatIs B m z w) (hB : B' ≤ B) : NatIs B' m z w :=
  h.imp_right fun ⟨h0, zb, h1, h2⟩ => ⟨h0, zb, Nat.le_trans hB h1, h2⟩
theorem NatIs.keep {B m : Nat} {z : Value} {w w' : World} {S : Nat → Prop} (h : NatIs B m z w) (k : Keeps S w w') (hS : ∀ b, B ≤ b → ¬ S b) : NatIs B m z w' :=
  h.imp_right fun ⟨h0, zb, h1, h2, h3⟩ => ⟨h0, zb, h1, h2, k.heap h3 (hS _ h1)⟩

theorem mulAddWW_any (y : Int) (m : Nat) (w : World) :
    Calls Tryz.prog 116 #[.slice none 0 0, .slice none 0 0, .int .u64 y, .int .u64 m] w fun e w' => ∃ z, e = .returned z ∧ NatIs w.heap.size m z w' ∧ Keeps (fun _ => False) w w' := by
  by_cases hm : m = 0
  · subst hm
    exact (mulAddWW_zero y w).mono fun e w' ⟨he, hw⟩ => ⟨_, he, .inl ⟨rfl, rfl⟩, hw ▸ Keeps.refl _ _⟩
  · refine (mulAddWW_pos y m w (beq_eq_false_iff_ne.2 (by omega))).mono fun e w' ⟨he, hw⟩ => ⟨_, he, .inr ⟨by omega, _, Nat.le_refl _, rfl, ?_⟩, ?_⟩
    · rw [hw]; exact heap_alloc_new w _
    · rw [hw]; exact (Keeps.refl _ _).alloc _

/-- What scan leaves: the number, all of the text read. -/
def ScanRes (rb : Nat) (s : ByteArray) (m : Nat) (n : Nat) (w : World) (e : Ending) (w' : World) : Prop :=
  ∃ z, e = .returned (.tuple #[z, .int .i64 10, .int .i64 n, .nilIface]) ∧ NatIs w.heap.size m z w' ∧ RdAt rb s s.size w' ∧ Keeps (· = rb) w w'

/-- What the loop of scan knows at its head. -/
def ScanAt (rb p : Nat) (s : ByteArray) (ds : List Nat) (ea : Addr) (w : World) (v0 v3 v10 v11 v13 v14 v15 v20 v21 v22 : Value) (wr : World) (k : Nat) : Prop :=
  v0 = .slice none 0 0 ∧ v3 = .bool false ∧ v10 = .int .i64 k ∧ (∃ q : Int, v13 = .int .i32 q ∧ (q = 46 ∨ q = 48)) ∧ v14 = .bool false ∧ v20 = .int .u64 (dnum (ds.take k)) ∧ v21 = .int .i64 k ∧ v22 = .int .i64 (-1) ∧ Keeps (· = rb) w wr ∧
  ((∃ d, ds[k]? = some d ∧ v11 = .nilIface ∧ v15 = .int .u8 (48 + (d : Int)) ∧ RdAt rb s ((p + (k + 1) : Nat) : Int) wr) ∨
   (k = ds.length ∧ v11 = .iface 261 (.pointer (some ea)) ∧ v15 = .int .u8 0 ∧ RdAt rb s s.size wr))

set_option maxRecDepth 100000 in
theorem natScan_any (rb p : Nat) (s : ByteArray) (ds : List Nat) (ea : Addr) (w : World) (h : RdAt rb s p w) (hs : s.size ≤ 1000) (hd : DigAt s p ds)
    (hE : EofIs ea w) (hrb : 0 < rb) :
    Calls Tryz.prog 90 #[.slice none 0 0, .iface 84 (.pointer (some ⟨rb, 0, none⟩)), .int .i64 10, .bool false] w (ScanRes rb s (dnum ds) ds.length w) := by
  have m1 := method_readByte
  obtain ⟨d0, hd0⟩ : ∃ d0, ds[0]? = some d0 := ⟨_, List.getElem?_eq_getElem hd.pos⟩
  have HD0 := Lib.hid hd0
  clear hd0
  go_enter Tryz.func90, Tryz.ntmps90
  go_wp2_with fail
  refine (readDigit rb p 0 d0 s ds w h hs hd HD0.out).mono ?_
  rintro e w1 ⟨rfl, r1, k1⟩
  go_wp2_with fail
  refine (maxPow_ten w1).mono ?_
  rintro e w2 ⟨rfl, rfl⟩
  go_wp2_with fail
  have HE := Lib.hid hE
  have HP := Lib.hid hd
  clear hE hd
  go_loopw [0, 3, 10, 11, 13, 14, 15, 20, 21, 22] (fun v0 v3 v10 v11 v13 v14 v15 v20 v21 v22 wr => ∃ k, ScanAt rb p s ds ea w v0 v3 v10 v11 v13 v14 v15 v20 v21 v22 wr k) (fun _ _ v10 _ _ _ _ _ _ _ _ => ds.length - (intOf v10).toNat)
  case atStart =>
    exact ⟨0, rfl, rfl, rfl, ⟨46, rfl, .inl rfl⟩, rfl, rfl, rfl, rfl, k1, .inl ⟨d0, HD0.out, rfl, rfl, r1⟩⟩
  case round =>
    obtain ⟨k, rfl, rfl, rfl, ⟨q, rfl, hq⟩, rfl, rfl, rfl, rfl, kr, ⟨d, hk, rfl, rfl, rd⟩ | ⟨rfl, rfl, rfl, rd⟩⟩ := hrel
    · obtain ⟨hk', hkd⟩ := List.getElem?_eq_some_iff.1 hk
      have hdk : d < 10 := by rw [← hkd]; exact HP.out.low _ (List.getElem_mem hk')
      have hsh := HP.out.short
      have hm := dnum_take_le ds k (by omega) HP.out.low
      have hst := Lib.hid (dnum_take ds k hk')
      rw [hkd] at hst
      have HK := Lib.hid hk
      clear hk hkd
      generalize dnum (ds.take k) = m at *
      have c46 : ((48 + (d : Int)) == 46) = false := by simp; omega
      have c95 : ((48 + (d : Int)) == 95) = false := by simp; omega
      have c19 : (((k : Int) + 1) == 19) = false := by simp; omega
      go_wp2_with fail
      by_cases hk1 : k + 1 < ds.length
      · obtain ⟨d1, hd1⟩ : ∃ d1, ds[k + 1]? = some d1 := ⟨_, List.getElem?_eq_getElem hk1⟩
        have HD1 := Lib.hid hd1
        clear hd1
        refine (readDigit rb p (k + 1) d1 s ds wr rd hs HP.out HD1.out).mono ?_
        rintro e w2 ⟨rfl, r2, k2⟩
        go_wp2_with fail
        go_roundw
        case rel =>
          refine ⟨k + 1, rfl, rfl, by go_num, ⟨48, rfl, .inr rfl⟩, rfl, ?_, by go_num, rfl, kr.trans k2 (fun _ _ h => h), .inl ⟨d1, HD1.out, rfl, rfl, r2⟩⟩
          rw [hst.out]; go_num
        case measure => simp [intOf]; omega
      · refine (readByte_end rb s s.size wr _ ?_ (Nat.le_refl _) hs (kr.cell HE.out (by simp; omega)) hrb).mono ?_
        · have := HP.out.len
          rw [show ((s.size : Nat) : Int) = ((p + (k + 1) : Nat) : Int) by omega]
          exact rd
        rintro e w2 ⟨rfl, r2, k2⟩
        go_wp2_with fail
        go_roundw
        case rel =>
          refine ⟨k + 1, rfl, rfl, by go_num, ⟨48, rfl, .inr rfl⟩, rfl, ?_, by go_num, rfl, kr.trans k2 (fun _ _ h => h), .inr ⟨by omega, rfl, rfl, r2⟩⟩
          rw [hst.out]; go_num
        case measure => simp [intOf]; omega
    · have h46 : ((q == 95) : Bool) = false := by rcases hq with rfl | rfl <;> rfl
      have hE' : wr.cell? ⟨0, 0, none⟩ = some (.iface 261 (.pointer (some ea))) := kr.cell HE.out (by simp; omega)
      have heq := eof_eql ea
      have hl1 := HP.out.pos
      have hl2 := HP.out.short
      have hl0 : (((ds.length : Nat) : Int) == 0) = false := beq_eq_false_iff_ne.2 (by omega)
      rw [List.take_length]
      generalize ds.length = D at *
      go_wp2_with fail
      refine (pow_any 10 D wr (by omega) (by omega)).mono ?_
      rintro e w2 ⟨⟨v, rfl⟩, rfl⟩
      go_wp2_with fail
      refine (mulAddWW_any v (dnum ds) wr).mono ?_
      rintro e w3 ⟨z, rfl, hz, k3⟩
      go_wp2_with fail
      refine bodyPost_ret (v := .tuple #[z, .int .i64 10, .int .i64 D, .nilIface]) (by simp [results, Tryz.results90, go_sem]) rfl ?_
      exact ⟨z, rfl, hz.mono kr.size, rd.keep k3 (fun h => h), kr.trans k3 (fun _ _ h => h.elim)⟩
end Go.Proofs.YtpoepgnapneeaaaGreatDoor
