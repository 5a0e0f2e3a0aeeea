import Derived.Test.Qxb6608910aLaw
namespace Go.Proofs.Qxb6608910a
open Go.RowKit
set_option linter.unusedVariables false

theorem grown_trans {a b c : World} (h1 : Grown a b) (h2 : Grown b c) : Grown a c :=
  ⟨World.keptBut_trans h1.1 h2.1, fun x => (h2.2.1 x).trans (h1.2.1 x), Nat.le_trans h1.2.2 h2.2.2⟩

theorem hid {p : Prop} (h : p) : Hid p := h
theorem pow10_z (z : Int) (w : World) (h0 : 0 ≤ z) (h6 : z ≤ 6) :
    Calls Try.prog 6 #[.int .i64 z] w fun e w' => e = .returned (.int .i64 (pw10 z.toNat)) ∧ w' = w := by
  obtain ⟨n, rfl⟩ := Int.eq_ofNat_of_zero_le h0
  exact pow10_any n w (by omega)

set_option maxHeartbeats 400000 in
theorem odd_in (a f : Int) (w : World) (h1 : -315537897600000000 ≤ a) (h2 : a ≤ 315537897600000000) (f1 : 3 ≤ f) (f2 : f ≤ 6) :
    Calls Try.prog 4 #[.int .i64 a, .int .i64 f] w fun e w' => e = .returned (.bool true) ∧ Grown w w' := by
  have c1 := fun W => zzextract_any a f W h1 h2 (by omega)
  have c2 := fun W => zzextract_any (-a) f W (by omega) (by omega) (by omega)
  have c3 := fun W => zzextract_any a 6 W h1 h2 (by omega)
  obtain ⟨b1, b2⟩ := fld_bd a f h1 h2
  obtain ⟨k1, k2, k3, k4, k5⟩ := fld_6 a
  have t8 := tdiv_cases a 60000000
  have k6 : -60000000 ≤ a.tmod 60000000 := by omega
  have k7 : a.tmod 60000000 ≤ 60000000 := by omega
  clear t8
  rw [fld_odd] at c2
  generalize (fld a f).1 = u at *
  generalize (fld a f).2 = sc at *
  generalize (fld a 6).1 = su at *
  generalize (fld a 6).2 = ssc at *
  have C1 := hid c1
  have C2 := hid c2
  have C3 := hid c3
  have K5 := hid k5
  clear c1 c2 c3 k5
  have KF : Hid ((wrap64 (su * pw10 (6 - ssc)) == a.tmod 60000000) = true) := by
    have e : wrap64 (a.tmod 60000000) = a.tmod 60000000 := by unfold wrap64; omega
    have : (wrap64 (su * pw10 (6 - ssc)) == a.tmod 60000000) = true := by rw [K5.out, e]; simp
    exact this
  by_cases hz : 0 < ssc
  · have hb : (su.tmod 10 == 0) = false := by simpa using k2 hz
    clear k2
    go_enter Try.func4, Try.ntmps4
    go_wp2_with fail
    refine (C1.out _).mono ?_
    rintro e w1 ⟨rfl, g1⟩
    go_wp2_with fail
    refine (C2.out _).mono ?_
    rintro e w2 ⟨rfl, g2⟩
    go_wp2_with fail
    refine (C3.out _).mono ?_
    rintro e w3 ⟨rfl, g3⟩
    go_wp2_with fail
    refine (pow10_z _ _ (by omega) (by omega)).mono ?_
    rintro e w4 ⟨rfl, rfl⟩
    go_wp2_with fail
    go_ret
    exact ⟨ret_bool KF.out, grown_trans g1 (grown_trans g2 g3)⟩
  · obtain rfl : ssc = 0 := by omega
    clear k2
    go_enter Try.func4, Try.ntmps4
    go_wp2_with fail
    refine (C1.out _).mono ?_
    rintro e w1 ⟨rfl, g1⟩
    go_wp2_with fail
    refine (C2.out _).mono ?_
    rintro e w2 ⟨rfl, g2⟩
    go_wp2_with fail
    refine (C3.out _).mono ?_
    rintro e w3 ⟨rfl, g3⟩
    go_wp2_with fail
    refine (pow10_z _ _ (by omega) (by omega)).mono ?_
    rintro e w4 ⟨rfl, rfl⟩
    go_wp2_with fail
    go_ret
    exact ⟨ret_bool KF.out, grown_trans g1 (grown_trans g2 g3)⟩
end Go.Proofs.Qxb6608910a
