/- impl.RoundFloat32. -/
import Derived.Test.YtinfcoalicbcbaaDoorRe
import Derived.Laws.EntriesVeiled
namespace Go.Proofs.YtinfcoalicbcbaaDoor.Rd
set_option linter.unusedVariables false
set_option linter.unusedSimpArgs false
open Go.RowKit Go.IntWalk Go.Proofs.YtinfcoalicbcbaaDoorW.PrintWords Go.Proofs.YtinfcoalicbcbaaDoorW.PrintLast Go.Proofs.YtinfcoalicbcbaaDoorW.PrintMore
attribute [local go_sem] max2_int min2_int max_two min_two max_three min_three max_four min_four
attribute [local go_sem] run5 run6 run21 run22 run_store_float
def pw64 : List Nat := [4607182418800017408, 4621819117588971520, 4636737291354636288, 4652007308841189376, 4666723172467343360, 4681608360884174848, 4696837146684686336, 4711630319722168320, 4726483295884279808, 4741671816366391296, 4756540486875873280]
/-- The tables of powers of ten stand where the program lays them. -/
structure Tens (w : World) : Prop where
  p : w.cell? ⟨1, 0, none⟩ = some (.float .f64 4607182418800017408)
  t : ∀ j, j ≤ 10 → w.cell? ⟨2, j, none⟩ = some (.float .f64 (pw64.getD j 0))
theorem cell_lt' {w : World} {a : Addr} {v : Value} (h : w.cell? a = some v) : a.block < w.heap.size := by
  unfold World.cell? at h
  split at h
  · rename_i hb; exact (Array.getElem?_eq_some_iff.1 hb).1
  · cases h
theorem Tens.lt {w : World} (h : Tens w) : 2 < w.heap.size := cell_lt' (h.t 0 (by decide))
theorem Tens.below {w w' : World} {B : Nat} (h : Tens w) (k : Below B w w') (hB : 2 < B) : Tens w' :=
  ⟨(World.cell?_of_block (w := w) (k.block 1 (by omega))).trans h.p, fun j hj => (World.cell?_of_block (w := w) (k.block 2 hB)).trans (h.t j hj)⟩
set_option maxRecDepth 100000 in
theorem impl19 : ∀ (mode : Nat), mode ≤ 9 → ∀ (w : World), ∃ fo, (Calls Tryd.prog 19 #[.int .i8 mode] w fun e w' => e = .returned (.func (.func fo) #[] #[]) ∧ w' = w) ∧ CloC fo mode ∧ (mode < 4 → CloI fo) ∧ (∀ (args : Array Value) (w : World), Sem.run Tryd.prog (callFunc fo args) w = .ok (.enter fo args) w)
  | 0, _, w => ⟨28, by go_enter Tryd.func19, Tryd.ntmps19; go_wp2; go_ret; exact ⟨rfl, rfl⟩, clo28, fun _ => cli28, fun args w => enters_ Tryd.func28 (by kernel_rfl) (by kernel_rfl) args w⟩
  | 1, _, w => ⟨29, by go_enter Tryd.func19, Tryd.ntmps19; go_wp2; go_ret; exact ⟨rfl, rfl⟩, clo29, fun _ => cli29, fun args w => enters_ Tryd.func29 (by kernel_rfl) (by kernel_rfl) args w⟩
  | 2, _, w => ⟨31, by go_enter Tryd.func19, Tryd.ntmps19; go_wp2; go_ret; exact ⟨rfl, rfl⟩, clo31, fun _ => cli31, fun args w => enters_ Tryd.func31 (by kernel_rfl) (by kernel_rfl) args w⟩
  | 3, _, w => ⟨33, by go_enter Tryd.func19, Tryd.ntmps19; go_wp2; go_ret; exact ⟨rfl, rfl⟩, clo33, fun _ => cli33, fun args w => enters_ Tryd.func33 (by kernel_rfl) (by kernel_rfl) args w⟩
  | 4, _, w => ⟨35, by go_enter Tryd.func19, Tryd.ntmps19; go_wp2; go_ret; exact ⟨rfl, rfl⟩, clo35, fun h => absurd h (by decide), fun args w => enters_ Tryd.func35 (by kernel_rfl) (by kernel_rfl) args w⟩
  | 5, _, w => ⟨36, by go_enter Tryd.func19, Tryd.ntmps19; go_wp2; go_ret; exact ⟨rfl, rfl⟩, clo36, fun h => absurd h (by decide), fun args w => enters_ Tryd.func36 (by kernel_rfl) (by kernel_rfl) args w⟩
  | 6, _, w => ⟨37, by go_enter Tryd.func19, Tryd.ntmps19; go_wp2; go_ret; exact ⟨rfl, rfl⟩, clo37, fun h => absurd h (by decide), fun args w => enters_ Tryd.func37 (by kernel_rfl) (by kernel_rfl) args w⟩
  | 7, _, w => ⟨38, by go_enter Tryd.func19, Tryd.ntmps19; go_wp2; go_ret; exact ⟨rfl, rfl⟩, clo38, fun h => absurd h (by decide), fun args w => enters_ Tryd.func38 (by kernel_rfl) (by kernel_rfl) args w⟩
  | 8, _, w => ⟨39, by go_enter Tryd.func19, Tryd.ntmps19; go_wp2; go_ret; exact ⟨rfl, rfl⟩, clo39, fun h => absurd h (by decide), fun args w => enters_ Tryd.func39 (by kernel_rfl) (by kernel_rfl) args w⟩
  | 9, _, w => ⟨41, by go_enter Tryd.func19, Tryd.ntmps19; go_wp2; go_ret; exact ⟨rfl, rfl⟩, clo41, fun h => absurd h (by decide), fun args w => enters_ Tryd.func41 (by kernel_rfl) (by kernel_rfl) args w⟩
  | n + 10, h, _ => absurd h (by omega)
theorem run_dn_c {c c' m : Nat} {e : Int} (h1 : Ieee.double.read c = .number false m e) (h2 : Ieee.single.write (.number false m e) = c') (h3 : (Ieee.single.read c').isInfinity = false) (w : World) : (convert 29 26 (.float .f64 c)).run Tryd.prog w = .ok (.float .f32 c') w := by
  have hc : (convert 29 26 (.float .f64 c)).run Tryd.prog w = (Conv.floatToFloat .f64 c .f32).run Tryd.prog w := by
    simp [convert, run_underlying Tryd.underlying26, run_underlying Tryd.underlying29]
  have hd : FloatKind.f64.decode c = Ieee.double.read c := rfl
  rw [hc]
  unfold Conv.floatToFloat
  rw [if_neg (by decide), hd, h1]
  have hw : FloatKind.f32.encode (.number false m e) = c' := h2
  have hi : (FloatKind.f32.decode c').isInfinity = false := h3
  simp [hw, hi]
theorem run_to_int {c n : Nat} (h : (Ieee.double.read c).toInt .zero = some (n : Int)) (hn : n ≤ 10) (w : World) : (convert 29 3 (.float .f64 c)).run Tryd.prog w = .ok (.int .i64 n) w := by
  have hc : (convert 29 3 (.float .f64 c)).run Tryd.prog w = (Conv.floatToInt .f64 c .i64).run Tryd.prog w := by
    simp [convert, run_underlying Tryd.underlying3, run_underlying Tryd.underlying29]
  have hd : (FloatKind.f64.decode c).toInt .zero = some (n : Int) := h
  rw [hc]
  unfold Conv.floatToInt
  simp only [hd]
  have m1 : IntKind.i64.min = -9223372036854775808 := by decide
  have m2 : IntKind.i64.max = 9223372036854775807 := by decide
  have h1 : IntKind.i64.min ≤ (n : Int) ∧ (n : Int) ≤ IntKind.i64.max := ⟨by rw [m1]; omega, by rw [m2]; omega⟩
  rw [if_pos h1]
  rfl
def pw32 : List Nat := [1065353216, 1092616192, 1120403456, 1148846080, 1176256512, 1203982336, 1232348160, 1259902592, 1287568416, 1315859240, 1343554297]
set_option maxRecDepth 100000 in
theorem pow18 : ∀ (n : Nat), n ≤ 10 → ∀ (w : World), Tens w → Calls Tryd.prog 18 #[.int .i64 n] w fun e w' => e = .returned (.float .f64 (pw64.getD n 0)) ∧ Below w.heap.size w w'
  | 0, _, w, hT => by
    have c1 := hT.p
    have c2 : w.cell? ⟨2, 0, none⟩ = some (.float .f64 4607182418800017408) := hT.t 0 (by decide)
    have hm : binOp .mul 29 (.float .f64 4607182418800017408) (.float .f64 4607182418800017408) = pure (.float .f64 4607182418800017408) := fmul64 (by decide +kernel) 29
    clear hT
    go_enter Tryd.func18, Tryd.ntmps18
    go_upto_region 2 with fail
    go_quiet (fail)
    go_wp2
    go_ret
    exact ⟨rfl, pw_below_drewN (Below.refl _ _) _⟩
  | 1, _, w, hT => by
    have c1 := hT.p
    have c2 : w.cell? ⟨2, 1, none⟩ = some (.float .f64 4621819117588971520) := hT.t 1 (by decide)
    have hm : binOp .mul 29 (.float .f64 4607182418800017408) (.float .f64 4621819117588971520) = pure (.float .f64 4621819117588971520) := fmul64 (by decide +kernel) 29
    clear hT
    go_enter Tryd.func18, Tryd.ntmps18
    go_upto_region 2 with fail
    go_quiet (fail)
    go_wp2
    go_ret
    exact ⟨rfl, pw_below_drewN (Below.refl _ _) _⟩
  | 2, _, w, hT => by
    have c1 := hT.p
    have c2 : w.cell? ⟨2, 2, none⟩ = some (.float .f64 4636737291354636288) := hT.t 2 (by decide)
    have hm : binOp .mul 29 (.float .f64 4607182418800017408) (.float .f64 4636737291354636288) = pure (.float .f64 4636737291354636288) := fmul64 (by decide +kernel) 29
    clear hT
    go_enter Tryd.func18, Tryd.ntmps18
    go_upto_region 2 with fail
    go_quiet (fail)
    go_wp2
    go_ret
    exact ⟨rfl, pw_below_drewN (Below.refl _ _) _⟩
  | 3, _, w, hT => by
    have c1 := hT.p
    have c2 : w.cell? ⟨2, 3, none⟩ = some (.float .f64 4652007308841189376) := hT.t 3 (by decide)
    have hm : binOp .mul 29 (.float .f64 4607182418800017408) (.float .f64 4652007308841189376) = pure (.float .f64 4652007308841189376) := fmul64 (by decide +kernel) 29
    clear hT
    go_enter Tryd.func18, Tryd.ntmps18
    go_upto_region 2 with fail
    go_quiet (fail)
    go_wp2
    go_ret
    exact ⟨rfl, pw_below_drewN (Below.refl _ _) _⟩
  | 4, _, w, hT => by
    have c1 := hT.p
    have c2 : w.cell? ⟨2, 4, none⟩ = some (.float .f64 4666723172467343360) := hT.t 4 (by decide)
    have hm : binOp .mul 29 (.float .f64 4607182418800017408) (.float .f64 4666723172467343360) = pure (.float .f64 4666723172467343360) := fmul64 (by decide +kernel) 29
    clear hT
    go_enter Tryd.func18, Tryd.ntmps18
    go_upto_region 2 with fail
    go_quiet (fail)
    go_wp2
    go_ret
    exact ⟨rfl, pw_below_drewN (Below.refl _ _) _⟩
  | 5, _, w, hT => by
    have c1 := hT.p
    have c2 : w.cell? ⟨2, 5, none⟩ = some (.float .f64 4681608360884174848) := hT.t 5 (by decide)
    have hm : binOp .mul 29 (.float .f64 4607182418800017408) (.float .f64 4681608360884174848) = pure (.float .f64 4681608360884174848) := fmul64 (by decide +kernel) 29
    clear hT
    go_enter Tryd.func18, Tryd.ntmps18
    go_upto_region 2 with fail
    go_quiet (fail)
    go_wp2
    go_ret
    exact ⟨rfl, pw_below_drewN (Below.refl _ _) _⟩
  | 6, _, w, hT => by
    have c1 := hT.p
    have c2 : w.cell? ⟨2, 6, none⟩ = some (.float .f64 4696837146684686336) := hT.t 6 (by decide)
    have hm : binOp .mul 29 (.float .f64 4607182418800017408) (.float .f64 4696837146684686336) = pure (.float .f64 4696837146684686336) := fmul64 (by decide +kernel) 29
    clear hT
    go_enter Tryd.func18, Tryd.ntmps18
    go_upto_region 2 with fail
    go_quiet (fail)
    go_wp2
    go_ret
    exact ⟨rfl, pw_below_drewN (Below.refl _ _) _⟩
  | 7, _, w, hT => by
    have c1 := hT.p
    have c2 : w.cell? ⟨2, 7, none⟩ = some (.float .f64 4711630319722168320) := hT.t 7 (by decide)
    have hm : binOp .mul 29 (.float .f64 4607182418800017408) (.float .f64 4711630319722168320) = pure (.float .f64 4711630319722168320) := fmul64 (by decide +kernel) 29
    clear hT
    go_enter Tryd.func18, Tryd.ntmps18
    go_upto_region 2 with fail
    go_quiet (fail)
    go_wp2
    go_ret
    exact ⟨rfl, pw_below_drewN (Below.refl _ _) _⟩
  | 8, _, w, hT => by
    have c1 := hT.p
    have c2 : w.cell? ⟨2, 8, none⟩ = some (.float .f64 4726483295884279808) := hT.t 8 (by decide)
    have hm : binOp .mul 29 (.float .f64 4607182418800017408) (.float .f64 4726483295884279808) = pure (.float .f64 4726483295884279808) := fmul64 (by decide +kernel) 29
    clear hT
    go_enter Tryd.func18, Tryd.ntmps18
    go_upto_region 2 with fail
    go_quiet (fail)
    go_wp2
    go_ret
    exact ⟨rfl, pw_below_drewN (Below.refl _ _) _⟩
  | 9, _, w, hT => by
    have c1 := hT.p
    have c2 : w.cell? ⟨2, 9, none⟩ = some (.float .f64 4741671816366391296) := hT.t 9 (by decide)
    have hm : binOp .mul 29 (.float .f64 4607182418800017408) (.float .f64 4741671816366391296) = pure (.float .f64 4741671816366391296) := fmul64 (by decide +kernel) 29
    clear hT
    go_enter Tryd.func18, Tryd.ntmps18
    go_upto_region 2 with fail
    go_quiet (fail)
    go_wp2
    go_ret
    exact ⟨rfl, pw_below_drewN (Below.refl _ _) _⟩
  | 10, _, w, hT => by
    have c1 := hT.p
    have c2 : w.cell? ⟨2, 10, none⟩ = some (.float .f64 4756540486875873280) := hT.t 10 (by decide)
    have hm : binOp .mul 29 (.float .f64 4607182418800017408) (.float .f64 4756540486875873280) = pure (.float .f64 4756540486875873280) := fmul64 (by decide +kernel) 29
    clear hT
    go_enter Tryd.func18, Tryd.ntmps18
    go_upto_region 2 with fail
    go_quiet (fail)
    go_wp2
    go_ret
    exact ⟨rfl, pw_below_drewN (Below.refl _ _) _⟩
  | n + 11, h, _, _ => absurd h (by omega)
theorem down_pw : ∀ (n : Nat), n ≤ 10 → ∀ w, (convert 29 26 (.float .f64 (pw64.getD n 0))).run Tryd.prog w = .ok (.float .f32 (pw32.getD n 0)) w
  | 0, _, w => run_dn_c (m := 4503599627370496) (e := -52) (by decide +kernel) (by decide +kernel) (by decide +kernel) w
  | 1, _, w => run_dn_c (m := 5629499534213120) (e := -49) (by decide +kernel) (by decide +kernel) (by decide +kernel) w
  | 2, _, w => run_dn_c (m := 7036874417766400) (e := -46) (by decide +kernel) (by decide +kernel) (by decide +kernel) w
  | 3, _, w => run_dn_c (m := 8796093022208000) (e := -43) (by decide +kernel) (by decide +kernel) (by decide +kernel) w
  | 4, _, w => run_dn_c (m := 5497558138880000) (e := -39) (by decide +kernel) (by decide +kernel) (by decide +kernel) w
  | 5, _, w => run_dn_c (m := 6871947673600000) (e := -36) (by decide +kernel) (by decide +kernel) (by decide +kernel) w
  | 6, _, w => run_dn_c (m := 8589934592000000) (e := -33) (by decide +kernel) (by decide +kernel) (by decide +kernel) w
  | 7, _, w => run_dn_c (m := 5368709120000000) (e := -29) (by decide +kernel) (by decide +kernel) (by decide +kernel) w
  | 8, _, w => run_dn_c (m := 6710886400000000) (e := -26) (by decide +kernel) (by decide +kernel) (by decide +kernel) w
  | 9, _, w => run_dn_c (m := 8388608000000000) (e := -23) (by decide +kernel) (by decide +kernel) (by decide +kernel) w
  | 10, _, w => run_dn_c (m := 5242880000000000) (e := -19) (by decide +kernel) (by decide +kernel) (by decide +kernel) w
  | n + 11, h, _ => absurd h (by omega)
theorem to_int : ∀ (n : Nat), n ≤ 10 → ∀ w, (convert 29 3 (.float .f64 (I64 false n))).run Tryd.prog w = .ok (.int .i64 n) w
  | 0, h, w => run_to_int (n := 0) (by decide +kernel) h w
  | 1, h, w => run_to_int (n := 1) (by decide +kernel) h w
  | 2, h, w => run_to_int (n := 2) (by decide +kernel) h w
  | 3, h, w => run_to_int (n := 3) (by decide +kernel) h w
  | 4, h, w => run_to_int (n := 4) (by decide +kernel) h w
  | 5, h, w => run_to_int (n := 5) (by decide +kernel) h w
  | 6, h, w => run_to_int (n := 6) (by decide +kernel) h w
  | 7, h, w => run_to_int (n := 7) (by decide +kernel) h w
  | 8, h, w => run_to_int (n := 8) (by decide +kernel) h w
  | 9, h, w => run_to_int (n := 9) (by decide +kernel) h w
  | 10, h, w => run_to_int (n := 10) (by decide +kernel) h w
  | n + 11, h, _ => absurd h (by omega)
theorem abs_I (s : Bool) {n : Nat} (hn : n < 2 ^ 53) : I64 s n % 9223372036854775808 = I64 false n := by
  have hw : ∃ r, r < 9223372036854775808 ∧ ∀ t, I64 t n = (if t = true then 1 else 0) * 9223372036854775808 + r := by
    by_cases h0 : n = 0
    · refine ⟨0, by decide, fun t => ?_⟩
      unfold I64 Ieee.Format.nearest
      rw [if_pos h0, word_sign]
    · have hL := log_le' (n := 52) (Nat.pos_of_ne_zero h0) hn
      obtain ⟨h1, h2⟩ := lift_lo (Nat.pos_of_ne_zero h0) hL
      refine ⟨((0 : Int) + n.log2 + 1022).toNat * 2 ^ 52 + n * 2 ^ (52 - n.log2), by omega, fun t => ?_⟩
      have := word64 (neg := t) (e := 0) (Nat.pos_of_ne_zero h0) hn (by omega) (by omega)
      rw [word_sign] at this
      exact this
  obtain ⟨r, hr, ht⟩ := hw
  rw [ht s, ht false]
  cases s
  · rw [if_neg (by decide)]; omega
  · rw [if_pos rfl, if_neg (by decide)]; omega
theorem of_int (d : Int) : floatOfInt .f64 d = I64 (decide (d < 0)) d.natAbs := rfl
set_option maxHeartbeats 4000000 in
set_option maxRecDepth 100000 in
theorem round13 (d : Int) (n mode v : Nat) (hd : d.natAbs = n) (hn : n ≤ 10) (hm : mode ≤ 9) (Q : Nat → Bool → Prop) (w : World) (hT : Tens w)
    (HC : ∀ (fo R E : Nat) (W : World), CloC fo mode → (mode < 4 → CloI fo) → (∀ (args : Array Value) (w : World), Sem.run Tryd.prog (callFunc fo args) w = .ok (.enter fo args) w) → W.heap[R]? = some (.cells #[.float .f32 (pw32.getD n 0), .int .i64 d, .int .i8 mode, .func (.func fo) #[] #[]] 50 (0, 0)) → W.heap[E]? = some (.cells #[.nilIface] 39 (0, 0)) → Calls Tryd.prog 20 #[.pointer (some ⟨R, 0, none⟩), .float .f32 v, .pointer (some ⟨E, 0, none⟩)] W (CallP E W Q)) :
    Calls Tryd.prog 13 #[.float .f32 v, .int .i64 d, .int .i8 mode] w fun e w' => ∃ out errv, e = .returned (.tuple #[.float .f32 out, errv]) ∧ Below w.heap.size w w' ∧ ((errv = .nilIface ∧ Q out true) ∨ ((∃ b, errv = .iface 67 (.pointer (some ⟨b, 0, none⟩))) ∧ Q out false)) := by
  have hof := of_int d
  rw [hd] at hof
  obtain ⟨wd, hwd⟩ : ∃ x, x = I64 (decide (d < 0)) n := ⟨_, rfl⟩
  rw [← hwd] at hof
  have hlt := I64_lt (s := decide (d < 0)) (n := n) (by omega)
  have habs : wd % 9223372036854775808 = I64 false n := by rw [hwd]; exact abs_I _ (by omega)
  have HA := Aside0.mk (abs14 wd (by rw [hwd]; exact hlt.1) w)
  rw [habs] at HA
  obtain ⟨wn, hwn⟩ : ∃ x, x = I64 false n := ⟨_, rfl⟩
  have ti := to_int n hn
  rw [← hwn] at HA ti
  have HP := Aside0.mk (pow18 n hn w hT)
  have dp := down_pw n hn
  obtain ⟨P64, hP64⟩ : ∃ x, x = pw64.getD n 0 := ⟨_, rfl⟩
  obtain ⟨P32, hP32⟩ : ∃ x, x = pw32.getD n 0 := ⟨_, rfl⟩
  rw [← hP64] at HP dp
  rw [← hP32] at dp HC
  have H19 := Aside0.mk (fun W => impl19 mode hm W)
  have HC' := Aside0.mk HC
  clear hwd hlt habs hwn hP64 hP32 HC hT
  go_enter Tryd.func13, Tryd.ntmps13
  go_upto_region 2 with (first | (go_at_call 14; refine Calls.mono HA.out ?_; rintro r w1 ⟨rfl, hww⟩; rw [hww]; clear hww) | (go_at_call 18; refine Calls.mono HP.out ?_; rintro r w2 ⟨rfl, hb2⟩; have B2 := Aside0.mk hb2; clear hb2) | (go_at_call 19; obtain ⟨fo, hcall, hcc, hci, hee⟩ := H19.out _; refine Calls.mono hcall ?_; rintro r w3 ⟨rfl, rfl⟩; have CC := Aside0.mk hcc; have CI := Aside0.mk hci; have EE := Aside0.mk hee; clear hcall hcc hci hee))
  have hT0 := B2.out
  obtain ⟨R, hR⟩ : ∃ R, R = w3.heap.size := ⟨_, rfl⟩
  obtain ⟨W1, hW1⟩ : ∃ W1, W1 = w3.alloc (.cells #[.float .f32 P32, .int .i64 d, .int .i8 mode, .func (.func fo) #[] #[]] 50 (0, 0)) := ⟨_, rfl⟩
  rw [← hR]
  rw [← hW1]
  obtain ⟨E, hE⟩ : ∃ E, E = W1.heap.size := ⟨_, rfl⟩
  obtain ⟨W2, hW2⟩ : ∃ W2, W2 = W1.alloc (.cells #[.nilIface] 39 (0, 0)) := ⟨_, rfl⟩
  have b1 : W1.heap[R]? = some (.cells #[.float .f32 P32, .int .i64 d, .int .i8 mode, .func (.func fo) #[] #[]] 50 (0, 0)) := by rw [hW1, hR]; exact blk_new w3 _
  have b2 : W2.heap[R]? = some (.cells #[.float .f32 P32, .int .i64 d, .int .i8 mode, .func (.func fo) #[] #[]] 50 (0, 0)) := by rw [hW2]; exact blk_alloc b1 _
  have b3 : W2.heap[E]? = some (.cells #[.nilIface] 39 (0, 0)) := by rw [hW2, hE]; exact blk_new W1 _
  have HCC := Aside0.mk (HC'.out fo R E W2 CC.out CI.out EE.out b2 b3)
  have BW := Aside0.mk (show Below w.heap.size w W2 by rw [hW2, hW1]; exact below_alloc (below_alloc B2.out _) _)
  have hsz : w.heap.size ≤ E := by
    have := B2.out.size
    rw [hE, hW1]
    simp
    omega
  have HA2 := Aside0.mk hW2.symm
  have HE2 := Aside0.mk hE.symm
  clear b1 b2 b3 hW1 hW2 hT0 hR hE
  go_upto_region 3 with fail
  rw [HA2.out, HE2.out]
  go_upto_region 4 with (go_at_call 20; refine Calls.mono HCC.out ?_; rintro r w5 ⟨out, errv, rfl, hE5, hB5, hQ⟩; have ce : w5.cell? ⟨E, 0, none⟩ = some errv := (cell_of_row' hE5 0).trans rfl; have B5 := Aside0.mk hB5; have QQ := Aside0.mk hQ; clear hE5 hB5 hQ)
  go_quiet (fail)
  go_wp2
  refine ⟨rfl, .tuple #[.float .f32 out, errv], by simp [results, Tryd.results13, go_sem], ?_⟩
  exact ⟨out, errv, rfl, pw_below_drewN (BW.out.trans (B5.out.mono hsz)) _, QQ.out⟩

end Go.Proofs.YtinfcoalicbcbaaDoor.Rd
