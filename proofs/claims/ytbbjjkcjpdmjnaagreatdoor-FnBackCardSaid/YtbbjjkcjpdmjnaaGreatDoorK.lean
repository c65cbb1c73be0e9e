/- Walks of the law FnBack: the exact road of reading a float. -/
import Derived.Test.YtbbjjkcjpdmjnaaGreatDoorJ
import Derived.Test.YtbbjjkcjpdmjnaaGreatDoorG
import Derived.Laws.FloatArith
namespace Go.Proofs.YtbbjjkcjpdmjnaaGreatDoor
open Go.RowKit

/-- The powers of ten as floats. -/
def p64 : List Nat := [4607182418800017408, 4621819117588971520, 4636737291354636288, 4652007308841189376, 4666723172467343360, 4681608360884174848, 4696837146684686336, 4711630319722168320, 4726483295884279808, 4741671816366391296, 4756540486875873280, 4771362005757984768, 4786511204640096256, 4801453603149578240, 4816244402031689728, 4831355200913801216, 4846369599423283200, 4861130398305394688, 4876203697187506176, 4891288408196988160, 4906019910204099648, 4921056587992461136, 4936209963552724370]
def p32 : List Nat := [1065353216, 1092616192, 1120403456, 1148846080, 1176256512, 1203982336, 1232348160, 1259902592, 1287568416, 1315859240, 1343554297]

def tenOk (f : Ieee.Format) (l : List Nat) (i : Nat) : Bool :=
  match f.read (l.getD i 0) with
  | .number false T q => T * 2 ^ q.toNat == 10 ^ i * 2 ^ (-q).toNat && Nat.ble 1 T
  | _ => false
theorem ten64_all : ((List.range 23).all (tenOk Ieee.double p64)) = true := by kernel_rfl
theorem ten32_all : ((List.range 11).all (tenOk Ieee.single p32)) = true := by kernel_rfl

theorem ten_of {f : Ieee.Format} {l : List Nat} {i : Nat} (h : tenOk f l i = true) : ∃ T q, f.read (l.getD i 0) = .number false T q ∧ T * 2 ^ q.toNat = 10 ^ i * 2 ^ (-q).toNat ∧ 0 < T := by
  unfold tenOk at h
  split at h
  · rename_i T q hr
    simp only [Bool.and_eq_true, beq_iff_eq, Nat.ble_eq] at h
    exact ⟨T, q, hr, h.1, h.2⟩
  · cases h

/-- A whole number divided by a small power of ten. -/
theorem quo64 {D r i : Nat} (neg : Bool) (hD1 : 1 ≤ D) (hD : D < 9007199254740992) (hi : i ≤ 22) (hr : r < 9218868437227405312) (hN : Fl.Near 4503599627370496 r (D * 2 ^ 1074) (10 ^ i)) :
    ∃ rD, FloatKind.f64.nearest (D : Int) = Ieee.double.word false rD ∧ rD < 9223372036854775808 ∧ floatBits .quo .f64 (Ieee.double.word neg rD) (p64.getD i 0) = some (Ieee.double.word neg r) ∧ (i = 0 → rD = r) := by
  obtain ⟨M, j, ex, hj, h1, h2, he, h3, hn, hrd⟩ := Fl.int_word Fl.fmt64 (by decide) (by decide) (by decide) D hD1 hD
  obtain ⟨T, q, ht, h10, hT⟩ := ten_of (List.all_eq_true.1 ten64_all i (List.mem_range.2 (by omega)))
  refine ⟨ex * 2 ^ 52 + M, ?_, Nat.lt_of_lt_of_le h3 (by decide), ?_, ?_⟩
  · have h0 : ¬ ((D : Int) < 0) := by omega
    unfold FloatKind.nearest FloatKind.encode
    show Ieee.double.nearest (decide ((D : Int) < 0)) (D : Int).natAbs 0 = _
    rw [decide_eq_false h0, Int.natAbs_natCast]
    exact hn false
  · exact Fl.div_rung (fb := 52) (E0 := 1074) neg Fl.fmt64 hr hj h1 hT h10 hN _ _ (hrd neg) ht h2
  · intro h
    subst h
    exact Fl.near_int (by decide) hj h1 h2 he hN
/-- A whole number divided by a small power of ten. -/
theorem quo32 {D r i : Nat} (neg : Bool) (hD1 : 1 ≤ D) (hD : D < 16777216) (hi : i ≤ 10) (hr : r < 2139095040) (hN : Fl.Near 8388608 r (D * 2 ^ 149) (10 ^ i)) :
    ∃ rD, FloatKind.f32.nearest (D : Int) = Ieee.single.word false rD ∧ rD < 2147483648 ∧ floatBits .quo .f32 (Ieee.single.word neg rD) (p32.getD i 0) = some (Ieee.single.word neg r) ∧ (i = 0 → rD = r) := by
  obtain ⟨M, j, ex, hj, h1, h2, he, h3, hn, hrd⟩ := Fl.int_word Fl.fmt32 (by decide) (by decide) (by decide) D hD1 hD
  obtain ⟨T, q, ht, h10, hT⟩ := ten_of (List.all_eq_true.1 ten32_all i (List.mem_range.2 (by omega)))
  refine ⟨ex * 2 ^ 23 + M, ?_, Nat.lt_of_lt_of_le h3 (by decide), ?_, ?_⟩
  · have h0 : ¬ ((D : Int) < 0) := by omega
    unfold FloatKind.nearest FloatKind.encode
    show Ieee.single.nearest (decide ((D : Int) < 0)) (D : Int).natAbs 0 = _
    rw [decide_eq_false h0, Int.natAbs_natCast]
    exact hn false
  · exact Fl.div_rung (fb := 23) (E0 := 149) neg Fl.fmt32 hr hj h1 hT h10 hN _ _ (hrd neg) ht h2
  · intro h
    subst h
    exact Fl.near_int (by decide) hj h1 h2 he hN
end Go.Proofs.YtbbjjkcjpdmjnaaGreatDoor

/- Walks of the law FnBack: the exact road of reading a float, walked. -/
namespace Go.Proofs.YtbbjjkcjpdmjnaaGreatDoor
open Go.RowKit

@[go_sem] theorem un_neg (P : Program) (k : FloatKind) (b : Nat) (w : World) : (Op.unary .neg (.float k b)).run P w = .ok (.float k (Op.negFloat k b)) w := rfl

/-- The floats' table lies where the program looks. -/
def TabF (w : World) : Prop := w.cell? ⟨8, 0, none⟩ = some (.int .u64 52) ∧ ∃ a c, w.cell? ⟨13, 0, none⟩ = some (.slice (some a) 23 c) ∧ ∀ i : Nat, i < 23 → w.cell? (a.add i) = some (.float .f64 (p64.getD i 0))

theorem exact64_no (D : Nat) (P : Int) (neg : Bool) (hD : 4503599627370496 ≤ D) (hD2 : D < 18446744073709551616) (w : World) (hT : TabF w) :
    Calls Tryz.prog 126 #[.int .u64 D, .int .i64 P, .bool neg] w fun e w' => e = .returned (.tuple #[.float .f64 0, .bool false]) ∧ w' = w := by
  obtain ⟨h8, _⟩ := hT
  go_enter Tryz.func126, Tryz.ntmps126
  go_wp2
  go_ret2
  exact ⟨rfl, rfl⟩

theorem exact64_zero (D r : Nat) (neg : Bool) (hD1 : 1 ≤ D) (hD : D < 4503599627370496) (hr : r < 9218868437227405312) (hN : Fl.Near 4503599627370496 r (D * 2 ^ 1074) 1) (w : World) (hT : TabF w) :
    Calls Tryz.prog 126 #[.int .u64 D, .int .i64 0, .bool neg] w fun e w' => e = .returned (.tuple #[.float .f64 (Ieee.double.word neg r), .bool true]) ∧ w' = w := by
  obtain ⟨h8, _⟩ := hT
  obtain ⟨rD, hn, hl, _, hz⟩ := quo64 (i := 0) neg hD1 (by omega) (by decide) hr hN
  have hrD := hz rfl
  subst hrD
  have hc : floatOfInt .f64 (D : Int) = Ieee.double.word false rD := hn
  have hg := Fl.neg_word64 rD hl
  clear hn hN hz
  have hq : (D : Int) / 4503599627370496 = 0 := by omega
  cases neg
  · generalize Ieee.double.word false rD = b0 at *
    go_enter Tryz.func126, Tryz.ntmps126
    go_wp2
    go_ret2
    exact ⟨rfl, rfl⟩
  · generalize Ieee.double.word false rD = b0 at *
    generalize Ieee.double.word true rD = b1 at *
    go_enter Tryz.func126, Tryz.ntmps126
    go_wp2
    go_ret2
    exact ⟨rfl, rfl⟩

theorem exact64_far (D : Nat) (P : Int) (neg : Bool) (hD : D < 4503599627370496) (hP : P < -22) (hP1 : -400 ≤ P) (w : World) (hT : TabF w) :
    Calls Tryz.prog 126 #[.int .u64 D, .int .i64 P, .bool neg] w fun e w' => (∃ b, e = .returned (.tuple #[.float .f64 b, .bool false])) ∧ w' = w := by
  obtain ⟨h8, _⟩ := hT
  have hq : (D : Int) / 4503599627370496 = 0 := by omega
  generalize hb : floatOfInt .f64 (D : Int) = b0
  cases neg
  all_goals
    go_enter Tryz.func126, Tryz.ntmps126
    go_wp2
    go_ret2
    exact ⟨⟨_, rfl⟩, rfl⟩

theorem exact64_quo (D r i : Nat) (neg : Bool) (hD1 : 1 ≤ D) (hD : D < 4503599627370496) (hi1 : 1 ≤ i) (hi : i ≤ 22) (hr : r < 9218868437227405312) (hN : Fl.Near 4503599627370496 r (D * 2 ^ 1074) (10 ^ i)) (w : World) (hT : TabF w) :
    Calls Tryz.prog 126 #[.int .u64 D, .int .i64 (-(i : Int)), .bool neg] w fun e w' => e = .returned (.tuple #[.float .f64 (Ieee.double.word neg r), .bool true]) ∧ w' = w := by
  obtain ⟨h8, a, c, h13, hel⟩ := hT
  obtain ⟨rD, hn, hl, hqq, _⟩ := quo64 neg hD1 (by omega) hi hr hN
  have hc : floatOfInt .f64 (D : Int) = Ieee.double.word false rD := hn
  have hg := Fl.neg_word64 rD hl
  have he := hel i (by omega)
  clear hn hN hel
  have hq : (D : Int) / 4503599627370496 = 0 := by omega
  generalize p64.getD i 0 = y at *
  generalize Ieee.double.word neg r = bz at *
  have hrun : ∀ (x : Nat), floatBits .quo .f64 x y = some bz → ∀ W, (binOp .quo 30 (.float .f64 x) (.float .f64 y)).run Tryz.prog W = .ok (.float .f64 bz) W := fun x h W => run_float_arith W .quo 30 .f64 x y bz h
  cases neg
  · generalize Ieee.double.word false rD = b0 at *
    have hrun := hrun b0 hqq
    clear hqq
    go_enter Tryz.func126, Tryz.ntmps126
    go_wp2
    go_ret2
    exact ⟨rfl, rfl⟩
  · generalize Ieee.double.word false rD = b0 at *
    generalize Ieee.double.word true rD = b1 at *
    have hrun := hrun b1 hqq
    clear hqq
    go_enter Tryz.func126, Tryz.ntmps126
    go_wp2
    go_ret2
    exact ⟨rfl, rfl⟩
end Go.Proofs.YtbbjjkcjpdmjnaaGreatDoor

/- Walks of the law FnBack: the exact road of reading a narrow float, walked. -/
namespace Go.Proofs.YtbbjjkcjpdmjnaaGreatDoor
open Go.RowKit

/-- The floats' table lies where the program looks. -/
def TabF32 (w : World) : Prop := ∃ a c, w.cell? ⟨11, 0, none⟩ = some (.slice (some a) 11 c) ∧ ∀ i : Nat, i < 11 → w.cell? (a.add i) = some (.float .f32 (p32.getD i 0))

theorem exact32_no (D : Nat) (P : Int) (neg : Bool) (hD : 8388608 ≤ D) (hD2 : D < 18446744073709551616) (w : World) :
    Calls Tryz.prog 121 #[.int .u64 D, .int .i64 P, .bool neg] w fun e w' => e = .returned (.tuple #[.float .f32 0, .bool false]) ∧ w' = w := by
  go_enter Tryz.func121, Tryz.ntmps121
  go_wp2
  go_ret2
  exact ⟨rfl, rfl⟩

theorem exact32_zero (D r : Nat) (neg : Bool) (hD1 : 1 ≤ D) (hD : D < 8388608) (hr : r < 2139095040) (hN : Fl.Near 8388608 r (D * 2 ^ 149) 1) (w : World) :
    Calls Tryz.prog 121 #[.int .u64 D, .int .i64 0, .bool neg] w fun e w' => e = .returned (.tuple #[.float .f32 (Ieee.single.word neg r), .bool true]) ∧ w' = w := by
  obtain ⟨rD, hn, hl, _, hz⟩ := quo32 (i := 0) neg hD1 (by omega) (by decide) hr hN
  have hrD := hz rfl
  subst hrD
  have hc : floatOfInt .f32 (D : Int) = Ieee.single.word false rD := hn
  have hg := Fl.neg_word32 rD hl
  clear hn hN hz
  have hq : (D : Int) / 8388608 = 0 := by omega
  cases neg
  · generalize Ieee.single.word false rD = b0 at *
    go_enter Tryz.func121, Tryz.ntmps121
    go_wp2
    go_ret2
    exact ⟨rfl, rfl⟩
  · generalize Ieee.single.word false rD = b0 at *
    generalize Ieee.single.word true rD = b1 at *
    go_enter Tryz.func121, Tryz.ntmps121
    go_wp2
    go_ret2
    exact ⟨rfl, rfl⟩

theorem exact32_far (D : Nat) (P : Int) (neg : Bool) (hD : D < 8388608) (hP : P < -10) (hP1 : -400 ≤ P) (w : World) :
    Calls Tryz.prog 121 #[.int .u64 D, .int .i64 P, .bool neg] w fun e w' => (∃ b, e = .returned (.tuple #[.float .f32 b, .bool false])) ∧ w' = w := by
  have hq : (D : Int) / 8388608 = 0 := by omega
  generalize hb : floatOfInt .f32 (D : Int) = b0
  cases neg
  all_goals
    go_enter Tryz.func121, Tryz.ntmps121
    go_wp2
    go_ret2
    exact ⟨⟨_, rfl⟩, rfl⟩

theorem exact32_quo (D r i : Nat) (neg : Bool) (hD1 : 1 ≤ D) (hD : D < 8388608) (hi1 : 1 ≤ i) (hi : i ≤ 10) (hr : r < 2139095040) (hN : Fl.Near 8388608 r (D * 2 ^ 149) (10 ^ i)) (w : World) (hT : TabF32 w) :
    Calls Tryz.prog 121 #[.int .u64 D, .int .i64 (-(i : Int)), .bool neg] w fun e w' => e = .returned (.tuple #[.float .f32 (Ieee.single.word neg r), .bool true]) ∧ w' = w := by
  obtain ⟨a, c, h13, hel⟩ := hT
  obtain ⟨rD, hn, hl, hqq, _⟩ := quo32 neg hD1 (by omega) hi hr hN
  have hc : floatOfInt .f32 (D : Int) = Ieee.single.word false rD := hn
  have hg := Fl.neg_word32 rD hl
  have he := hel i (by omega)
  clear hn hN hel
  have hq : (D : Int) / 8388608 = 0 := by omega
  generalize p32.getD i 0 = y at *
  generalize Ieee.single.word neg r = bz at *
  have hrun : ∀ (x : Nat), floatBits .quo .f32 x y = some bz → ∀ W, (binOp .quo 49 (.float .f32 x) (.float .f32 y)).run Tryz.prog W = .ok (.float .f32 bz) W := fun x h W => run_float_arith W .quo 49 .f32 x y bz h
  cases neg
  · generalize Ieee.single.word false rD = b0 at *
    have hrun := hrun b0 hqq
    clear hqq
    go_enter Tryz.func121, Tryz.ntmps121
    go_wp2
    go_ret2
    exact ⟨rfl, rfl⟩
  · generalize Ieee.single.word false rD = b0 at *
    generalize Ieee.single.word true rD = b1 at *
    have hrun := hrun b1 hqq
    clear hqq
    go_enter Tryz.func121, Tryz.ntmps121
    go_wp2
    go_ret2
    exact ⟨rfl, rfl⟩
end Go.Proofs.YtbbjjkcjpdmjnaaGreatDoor
