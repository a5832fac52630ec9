/-
  The walk of the built-in function format_int on two terms that hold decimal texts, in the bases 2, 8, 10 and 16: the numeral. Conditions: fewer than 19 digits; io.EOF and two tables of the library as their initialisers lay them.
-/
import Derived.Test.YtpoepgnapneeaaaGreatDoorText
import Derived.Test.YtpoepgnapneeaaaGreatDoorDec
namespace Go.Proofs.YtpoepgnapneeaaaGreatDoor
open Go.RowKit
set_option linter.unusedVariables false
set_option maxHeartbeats 400000

theorem dec2 : dec 2 = ⟨#[50]⟩ := by unfold dec; rw [show (2 : Int) = ((2 : Nat) : Int) from rfl, Lib.itoa_nonneg, Lib.decDigits_one (by omega)]; rfl
theorem dec8 : dec 8 = ⟨#[56]⟩ := by unfold dec; rw [show (8 : Int) = ((8 : Nat) : Int) from rfl, Lib.itoa_nonneg, Lib.decDigits_one (by omega)]; rfl
theorem dec10 : dec 10 = ⟨#[49, 48]⟩ := by unfold dec; rw [show (10 : Int) = ((10 : Nat) : Int) from rfl, Lib.itoa_nonneg, Lib.decDigits_two (by omega) (by omega)]; rfl
theorem dec16 : dec 16 = ⟨#[49, 54]⟩ := by unfold dec; rw [show (16 : Int) = ((16 : Nat) : Int) from rfl, Lib.itoa_nonneg, Lib.decDigits_two (by omega) (by omega)]; rfl

/-- What the calls read of the package-level variables. -/
structure Env (ea : Addr) (w : World) : Prop where
  eof : EofIs ea w
  deb : DeB w
  pow : PowTab w

theorem powTab_keep {w w' : World} {S : Nat → Prop} (h : PowTab w) (k : Keeps S w w') (hS : ¬ S 13) : PowTab w' := by
  have hg : Tryz.prog.globalNamed "internal/strconv.uint64pow10" = some 13 := by kernel_rfl
  unfold PowTab Lib.TabIs World.var? at h ⊢
  rw [hg] at h ⊢
  simp only [Option.bind_some] at h ⊢
  have h13 : 13 < w.heap.size := by
    rcases Nat.lt_or_ge 13 w.heap.size with h' | h'
    · exact h'
    · rw [Array.getElem?_eq_none h'] at h; cases h
  rw [k.block 13 h13 hS]
  exact h
theorem powTab_size {w : World} (h : PowTab w) : 13 < w.heap.size := by
  have hg : Tryz.prog.globalNamed "internal/strconv.uint64pow10" = some 13 := by kernel_rfl
  unfold PowTab Lib.TabIs World.var? at h
  rw [hg] at h
  simp only [Option.bind_some] at h
  rcases Nat.lt_or_ge 13 w.heap.size with h' | h'
  · exact h'
  · rw [Array.getElem?_eq_none h'] at h; cases h
theorem Env.keep {ea : Addr} {w w' : World} {S : Nat → Prop} (h : Env ea w) (k : Keeps S w w') (hS : ∀ j, j < 14 → ¬ S j) : Env ea w' :=
  ⟨k.cell h.eof (hS 0 (by omega)), ⟨k.cell h.deb.c1 (hS 7 (by omega)), k.cell h.deb.c7 (hS 7 (by omega)), k.cell h.deb.c15 (hS 7 (by omega))⟩, powTab_keep h.pow k (hS 13 (by omega))⟩

/-- The operands of a call: two terms that hold numbers. -/
structure OpsAre (ob tb1 tb2 : Nat) (s t : ByteArray) (w : World) : Prop where
  o0 : w.cell? ⟨ob, 0, none⟩ = some (.pointer (some ⟨tb1, 0, none⟩))
  o1 : w.cell? ⟨ob, 1, none⟩ = some (.pointer (some ⟨tb2, 0, none⟩))
  t1 : w.cell? ⟨tb1, 0, none⟩ = some (.iface 51 (.string s))
  t2 : w.cell? ⟨tb2, 0, none⟩ = some (.iface 51 (.string t))
theorem OpsAre.keep {ob tb1 tb2 : Nat} {s t : ByteArray} {w w' : World} {S : Nat → Prop} (h : OpsAre ob tb1 tb2 s t w) (k : Keeps S w w') (h0 : ¬ S ob) (h1 : ¬ S tb1) (h2 : ¬ S tb2) : OpsAre ob tb1 tb2 s t w' :=
  ⟨k.cell h.o0 h0, k.cell h.o1 h0, k.cell h.t1 h1, k.cell h.t2 h2⟩

/-- What a built-in function leaves: in the caller's variable R a term that holds the string out. -/
def BuiltRes (R : Nat) (out : ByteArray) (w : World) (e : Ending) (w' : World) : Prop :=
  e = .returned .nilIface ∧ ∃ tb, w'.heap[R]? = some (.cells #[.pointer (some ⟨tb, 0, none⟩)] 30 (0, 0)) ∧ TermIs tb (.iface 37 (.string out)) w' ∧ Keeps (· = R) w w'

theorem setString_dec (zb : Nat) (n : Int) (ea : Addr) (w : World) (h0 : -1000000000000000000 < n) (h1 : n < 1000000000000000000)
    (hz : w.heap[zb]? = some (.cells #[.bool false, .slice none 0 0] 63 (0, 0))) (hE : EofIs ea w) (hzb : 0 < zb) :
    Calls Tryz.prog 25 #[.pointer (some ⟨zb, 0, none⟩), .string (dec n), .int .i64 10] w fun e w' =>
      e = .returned (.tuple #[.pointer (some ⟨zb, 0, none⟩), .bool true]) ∧ IntIs w.heap.size zb (decide (0 < n.natAbs) && decide (n < 0)) n.natAbs w' ∧ Keeps (fun k => k = zb) w w' := by
  by_cases hn : 0 ≤ n
  · obtain ⟨m, rfl⟩ := Int.eq_ofNat_of_zero_le hn
    have := setString_any zb 0 (dec (m : Int)) false (dl m) ea w (numText_pos m (by omega)) hz hE hzb
    rw [dnum_dl] at this
    have e1 : decide ((m : Int) < 0) = false := decide_eq_false (by omega)
    rw [e1, Int.natAbs_natCast]
    exact this
  · obtain ⟨m, rfl, hm⟩ : ∃ m : Nat, n = -(m : Int) ∧ 1 ≤ m := ⟨n.natAbs, by omega, by omega⟩
    have := setString_any zb 1 (dec (-(m : Int))) true (dl m) ea w (numText_neg m hm (by omega)) hz hE hzb
    rw [dnum_dl] at this
    have e1 : decide (-(m : Int) < 0) = true := decide_eq_true (by omega)
    rw [e1, Int.natAbs_neg, Int.natAbs_natCast]
    exact this

theorem built_close {R : Nat} {out : ByteArray} {w w3 w4 : World} {u : Value} (hR : w3.heap[R]? = some (.cells #[u] 30 (0, 0))) (k : Keeps (fun _ => False) w w3)
    (hw : w4 = (w3.alloc (.cells #[.iface 37 (.string out), .pointer none] 43)).setCell ⟨R, 0, none⟩ (.pointer (some ⟨w3.heap.size, 0, none⟩))) : BuiltRes R out w (.returned .nilIface) w4 := by
  subst hw
  have k4 : Keeps (fun _ => False) w3 (w3.alloc (.cells #[.iface 37 (.string out), .pointer none] 43)) := (Keeps.refl _ w3).alloc _
  have hlt := lt_of_block hR
  refine ⟨rfl, w3.heap.size, ?_, ?_, ?_⟩
  · exact heap_setCell_same (cs := #[u]) (k4.heap hR (fun h => h)) _
  · have k5 : Keeps (· = R) (w3.alloc (.cells #[.iface 37 (.string out), .pointer none] 43)) ((w3.alloc (.cells #[.iface 37 (.string out), .pointer none] 43)).setCell ⟨R, 0, none⟩ (.pointer (some ⟨w3.heap.size, 0, none⟩))) :=
      Keeps.setAt (S := (· = R)) (Keeps.refl _ _) _ rfl
    exact k5.heap (heap_alloc_new w3 _) (by show ¬ (w3.heap.size = R); omega)
  · exact Keeps.setAt (S := (· = R)) ((k.trans k4 (fun _ _ h => h)).mono fun _ _ h => h.elim) _ rfl

set_option maxRecDepth 100000 in
theorem fmt_2 (ob tb1 tb2 R : Nat) (n : Int) (ea : Addr) (w : World) (h0 : -1000000000000000000 < n) (h1 : n < 1000000000000000000) (ho : OpsAre ob tb1 tb2 (dec n) ⟨#[50]⟩ w)
    (hR : w.heap[R]? = some (.cells #[.pointer none] 30 (0, 0))) (hE : Env ea w) :
    Calls Tryz.prog 15 #[.agg #[.nilIface], .slice (some ⟨ob, 0, none⟩) 2 2, .func (.func 19) #[] #[.pointer (some ⟨R, 0, none⟩)]] w (BuiltRes R ⟨(numeral 2 n.natAbs (decide (n < 0))).toArray⟩ w) := by
  have hbox : Keeps (fun _ => False) w (w.alloc (.cells #[.nilIface] 49)) := (Keeps.refl _ w).alloc _
  have ho1 := ho.keep hbox (fun h => h) (fun h => h) (fun h => h)
  obtain ⟨o0, o1, t1, t2⟩ := ho1
  go_enter Tryz.func15, Tryz.ntmps15
  go_wp2_with fail
  refine (numberOperand_any (dec n) 1 _).mono ?_
  rintro e w1 ⟨rfl, rfl⟩
  go_wp2_with fail
  refine (numberOperand_any ⟨#[50]⟩ 2 _).mono ?_
  rintro e w1 ⟨rfl, rfl⟩
  go_wp2_with fail
  clear o0 o1 t1 t2
  have hnew : Keeps (fun _ => False) w ((w.alloc (.cells #[.nilIface] 49)).alloc (.cells #[.bool false, .slice none 0 0] 63)) := hbox.alloc _
  have hz : ((w.alloc (.cells #[.nilIface] 49)).alloc (.cells #[.bool false, .slice none 0 0] 63)).heap[w.heap.size + 1]? = some (.cells #[.bool false, .slice none 0 0] 63 (0, 0)) := by
    have := heap_alloc_new (w.alloc (.cells #[.nilIface] 49)) (.cells #[.bool false, .slice none 0 0] 63)
    rwa [World.size_alloc] at this
  have hzl := lt_of_block hz
  generalize (w.alloc (.cells #[.nilIface] 49)).alloc (.cells #[.bool false, .slice none 0 0] 63) = w2 at *
  have hE2 := hE.keep hnew (fun _ _ h => h)
  refine (setString_dec (w.heap.size + 1) n ea w2 h0 h1 hz hE2.eof (by omega)).mono ?_
  rintro e w3 ⟨rfl, i3, k3⟩
  have hlt14 := powTab_size hE.pow
  have hE3 := hE2.keep k3 (fun j hj h => by omega)
  have hk3 : Keeps (fun _ => False) w w3 := hnew.trans k3 (fun k hk h => by omega)
  have ht := text_int _ _ _ 2 _ w3 i3 (by omega) (by omega) hE3.deb
  rw [show ((2 : Nat) : Int) = 2 from rfl] at ht
  have HT := Lib.hid ht
  clear ht
  go_wp2_with fail
  refine HT.out.mono ?_
  rintro e w4 ⟨rfl, k4⟩
  have hk4 := hk3.trans k4 (fun _ _ h => h)
  go_wp2_with fail
  refine (internedStr_any _ w4).mono ?_
  rintro e w5 ⟨rfl, rfl⟩
  have hR4 := hk4.heap hR (fun h => h)
  have k5 : Keeps (fun _ => False) w4 (w4.alloc (.cells #[.iface 37 (.string ⟨(numeral 2 n.natAbs (decide (n < 0))).toArray⟩), .pointer none] 43)) := (Keeps.refl _ w4).alloc _
  have hR5 := k5.heap hR4 (fun h => h)
  go_wp2_with fail
  refine (call1_any _ R _ _ (cell_of_heap hR5 0) (free_of_heap hR5 0)).mono ?_
  rintro e w6 ⟨rfl, hw6⟩
  have HW := Lib.hid hw6
  clear hw6
  go_wp2_with fail
  go_ret
  exact built_close hR4 hk4 HW.out

set_option maxRecDepth 100000 in
theorem fmt_8 (ob tb1 tb2 R : Nat) (n : Int) (ea : Addr) (w : World) (h0 : -1000000000000000000 < n) (h1 : n < 1000000000000000000) (ho : OpsAre ob tb1 tb2 (dec n) ⟨#[56]⟩ w)
    (hR : w.heap[R]? = some (.cells #[.pointer none] 30 (0, 0))) (hE : Env ea w) :
    Calls Tryz.prog 15 #[.agg #[.nilIface], .slice (some ⟨ob, 0, none⟩) 2 2, .func (.func 19) #[] #[.pointer (some ⟨R, 0, none⟩)]] w (BuiltRes R ⟨(numeral 8 n.natAbs (decide (n < 0))).toArray⟩ w) := by
  have hbox : Keeps (fun _ => False) w (w.alloc (.cells #[.nilIface] 49)) := (Keeps.refl _ w).alloc _
  have ho1 := ho.keep hbox (fun h => h) (fun h => h) (fun h => h)
  obtain ⟨o0, o1, t1, t2⟩ := ho1
  go_enter Tryz.func15, Tryz.ntmps15
  go_wp2_with fail
  refine (numberOperand_any (dec n) 1 _).mono ?_
  rintro e w1 ⟨rfl, rfl⟩
  go_wp2_with fail
  refine (numberOperand_any ⟨#[56]⟩ 2 _).mono ?_
  rintro e w1 ⟨rfl, rfl⟩
  go_wp2_with fail
  clear o0 o1 t1 t2
  have hnew : Keeps (fun _ => False) w ((w.alloc (.cells #[.nilIface] 49)).alloc (.cells #[.bool false, .slice none 0 0] 63)) := hbox.alloc _
  have hz : ((w.alloc (.cells #[.nilIface] 49)).alloc (.cells #[.bool false, .slice none 0 0] 63)).heap[w.heap.size + 1]? = some (.cells #[.bool false, .slice none 0 0] 63 (0, 0)) := by
    have := heap_alloc_new (w.alloc (.cells #[.nilIface] 49)) (.cells #[.bool false, .slice none 0 0] 63)
    rwa [World.size_alloc] at this
  have hzl := lt_of_block hz
  generalize (w.alloc (.cells #[.nilIface] 49)).alloc (.cells #[.bool false, .slice none 0 0] 63) = w2 at *
  have hE2 := hE.keep hnew (fun _ _ h => h)
  refine (setString_dec (w.heap.size + 1) n ea w2 h0 h1 hz hE2.eof (by omega)).mono ?_
  rintro e w3 ⟨rfl, i3, k3⟩
  have hlt14 := powTab_size hE.pow
  have hE3 := hE2.keep k3 (fun j hj h => by omega)
  have hk3 : Keeps (fun _ => False) w w3 := hnew.trans k3 (fun k hk h => by omega)
  have ht := text_int _ _ _ 8 _ w3 i3 (by omega) (by omega) hE3.deb
  rw [show ((8 : Nat) : Int) = 8 from rfl] at ht
  have HT := Lib.hid ht
  clear ht
  go_wp2_with fail
  refine HT.out.mono ?_
  rintro e w4 ⟨rfl, k4⟩
  have hk4 := hk3.trans k4 (fun _ _ h => h)
  go_wp2_with fail
  refine (internedStr_any _ w4).mono ?_
  rintro e w5 ⟨rfl, rfl⟩
  have hR4 := hk4.heap hR (fun h => h)
  have k5 : Keeps (fun _ => False) w4 (w4.alloc (.cells #[.iface 37 (.string ⟨(numeral 8 n.natAbs (decide (n < 0))).toArray⟩), .pointer none] 43)) := (Keeps.refl _ w4).alloc _
  have hR5 := k5.heap hR4 (fun h => h)
  go_wp2_with fail
  refine (call1_any _ R _ _ (cell_of_heap hR5 0) (free_of_heap hR5 0)).mono ?_
  rintro e w6 ⟨rfl, hw6⟩
  have HW := Lib.hid hw6
  clear hw6
  go_wp2_with fail
  go_ret
  exact built_close hR4 hk4 HW.out

set_option maxRecDepth 100000 in
theorem fmt_16 (ob tb1 tb2 R : Nat) (n : Int) (ea : Addr) (w : World) (h0 : -1000000000000000000 < n) (h1 : n < 1000000000000000000) (ho : OpsAre ob tb1 tb2 (dec n) ⟨#[49, 54]⟩ w)
    (hR : w.heap[R]? = some (.cells #[.pointer none] 30 (0, 0))) (hE : Env ea w) :
    Calls Tryz.prog 15 #[.agg #[.nilIface], .slice (some ⟨ob, 0, none⟩) 2 2, .func (.func 19) #[] #[.pointer (some ⟨R, 0, none⟩)]] w (BuiltRes R ⟨(numeral 16 n.natAbs (decide (n < 0))).toArray⟩ w) := by
  have hbox : Keeps (fun _ => False) w (w.alloc (.cells #[.nilIface] 49)) := (Keeps.refl _ w).alloc _
  have ho1 := ho.keep hbox (fun h => h) (fun h => h) (fun h => h)
  obtain ⟨o0, o1, t1, t2⟩ := ho1
  go_enter Tryz.func15, Tryz.ntmps15
  go_wp2_with fail
  refine (numberOperand_any (dec n) 1 _).mono ?_
  rintro e w1 ⟨rfl, rfl⟩
  go_wp2_with fail
  refine (numberOperand_any ⟨#[49, 54]⟩ 2 _).mono ?_
  rintro e w1 ⟨rfl, rfl⟩
  go_wp2_with fail
  clear o0 o1 t1 t2
  have hnew : Keeps (fun _ => False) w ((w.alloc (.cells #[.nilIface] 49)).alloc (.cells #[.bool false, .slice none 0 0] 63)) := hbox.alloc _
  have hz : ((w.alloc (.cells #[.nilIface] 49)).alloc (.cells #[.bool false, .slice none 0 0] 63)).heap[w.heap.size + 1]? = some (.cells #[.bool false, .slice none 0 0] 63 (0, 0)) := by
    have := heap_alloc_new (w.alloc (.cells #[.nilIface] 49)) (.cells #[.bool false, .slice none 0 0] 63)
    rwa [World.size_alloc] at this
  have hzl := lt_of_block hz
  generalize (w.alloc (.cells #[.nilIface] 49)).alloc (.cells #[.bool false, .slice none 0 0] 63) = w2 at *
  have hE2 := hE.keep hnew (fun _ _ h => h)
  refine (setString_dec (w.heap.size + 1) n ea w2 h0 h1 hz hE2.eof (by omega)).mono ?_
  rintro e w3 ⟨rfl, i3, k3⟩
  have hlt14 := powTab_size hE.pow
  have hE3 := hE2.keep k3 (fun j hj h => by omega)
  have hk3 : Keeps (fun _ => False) w w3 := hnew.trans k3 (fun k hk h => by omega)
  have ht := text_int _ _ _ 16 _ w3 i3 (by omega) (by omega) hE3.deb
  rw [show ((16 : Nat) : Int) = 16 from rfl] at ht
  have HT := Lib.hid ht
  clear ht
  go_wp2_with fail
  refine HT.out.mono ?_
  rintro e w4 ⟨rfl, k4⟩
  have hk4 := hk3.trans k4 (fun _ _ h => h)
  go_wp2_with fail
  refine (internedStr_any _ w4).mono ?_
  rintro e w5 ⟨rfl, rfl⟩
  have hR4 := hk4.heap hR (fun h => h)
  have k5 : Keeps (fun _ => False) w4 (w4.alloc (.cells #[.iface 37 (.string ⟨(numeral 16 n.natAbs (decide (n < 0))).toArray⟩), .pointer none] 43)) := (Keeps.refl _ w4).alloc _
  have hR5 := k5.heap hR4 (fun h => h)
  go_wp2_with fail
  refine (call1_any _ R _ _ (cell_of_heap hR5 0) (free_of_heap hR5 0)).mono ?_
  rintro e w6 ⟨rfl, hw6⟩
  have HW := Lib.hid hw6
  clear hw6
  go_wp2_with fail
  go_ret
  exact built_close hR4 hk4 HW.out

theorem noInterned_any (s : ByteArray) (w : World) : Calls Tryz.prog 21 #[.string s] w fun e w' => e = .returned (.pointer none) ∧ w = w' := by
  go_enter Tryz.func21, Tryz.ntmps21
  go_wp2
  go_ret
  exact ⟨rfl, rfl⟩

set_option maxRecDepth 100000 in
theorem fmt_10 (ob tb1 tb2 R : Nat) (n : Int) (ea : Addr) (w : World) (h0 : -1000000000000000000 < n) (h1 : n < 1000000000000000000) (ho : OpsAre ob tb1 tb2 (dec n) ⟨#[49, 48]⟩ w)
    (hR : w.heap[R]? = some (.cells #[.pointer none] 30 (0, 0))) (hE : Env ea w) :
    Calls Tryz.prog 15 #[.agg #[.nilIface], .slice (some ⟨ob, 0, none⟩) 2 2, .func (.func 19) #[] #[.pointer (some ⟨R, 0, none⟩)]] w (BuiltRes R (dec n) w) := by
  have hbox : Keeps (fun _ => False) w (w.alloc (.cells #[.nilIface] 49)) := (Keeps.refl _ w).alloc _
  have ho1 := ho.keep hbox (fun h => h) (fun h => h) (fun h => h)
  obtain ⟨o0, o1, t1, t2⟩ := ho1
  go_enter Tryz.func15, Tryz.ntmps15
  go_wp2_with fail
  refine (numberOperand_any (dec n) 1 _).mono ?_
  rintro e w1 ⟨rfl, rfl⟩
  go_wp2_with fail
  refine (numberOperand_any ⟨#[49, 48]⟩ 2 _).mono ?_
  rintro e w1 ⟨rfl, rfl⟩
  go_wp2_with fail
  clear o0 o1 t1 t2
  generalize w.alloc (.cells #[.nilIface] 49) = w2 at *
  refine (noInterned_any (dec n) w2).mono ?_
  rintro e w1 ⟨rfl, rfl⟩
  go_wp2_with fail
  refine (numInt_dec n h0 h1 w2).mono ?_
  rintro e w3 ⟨rfl, k3⟩
  have hk3 := hbox.trans k3 (fun _ _ h => h)
  go_wp2_with fail
  refine (internedIntString_any n (by omega) (by omega) w3 (hE.keep hk3 (fun _ _ h => h)).pow).mono ?_
  rintro e w4 ⟨tb, rfl, htb, hterm, k4⟩
  have hk4 := hk3.trans k4 (fun _ _ h => h)
  have hR4 := hk4.heap hR (fun h => h)
  go_wp2_with fail
  refine (call1_any _ R _ _ (cell_of_heap hR4 0) (free_of_heap hR4 0)).mono ?_
  rintro e w5 ⟨rfl, hw5⟩
  have HW := Lib.hid hw5
  clear hw5
  go_wp2_with fail
  go_ret
  have hw := HW.out
  subst hw
  have hlt := lt_of_block hR
  have hs := hk3.size
  refine ⟨rfl, tb, heap_setCell_same (cs := #[.pointer none]) hR4 _, ?_, Keeps.setAt (S := (· = R)) (hk4.mono fun _ _ h => h.elim) _ rfl⟩
  have k5 : Keeps (· = R) w4 (w4.setCell ⟨R, 0, none⟩ (.pointer (some ⟨tb, 0, none⟩))) := Keeps.setAt (S := (· = R)) (Keeps.refl _ _) _ rfl
  exact hterm.keep k5 (by show ¬ (tb = R); omega)
end Go.Proofs.YtpoepgnapneeaaaGreatDoor
