/- The fields of a DayToSecond and its String, at this seat's dump. -/
import Derived.Test.Qxb6608910aFmtG
import Derived.RowKit3
import Derived.BigRegion
import Derived.Deep.RegionHeld3
namespace Go.Proofs.Qxb6608910aFmt
open Go.Extern.Stop Go.Stop Go.Extern Go.RowKit
set_option linter.unusedVariables false

theorem cell_up {w : World} {a : Addr} {v : Value} {o : Obj} (h : w.cell? a = some v) : (w.alloc o).cell? a = some v := by
  rw [World.cell?_alloc_lt _ _ _ (World.block_lt_of_cell? w a h), h]
theorem six0 (X : World) (n : Nat) (hn : n = X.heap.size) (v0 v1 v2 v3 v4 v5 : Value) : (X.alloc (.cells #[v0, v1, v2, v3, v4, v5] 20)).drew.cell? ⟨n, 0, none⟩ = some v0 := by subst hn; simp [go_sem]
theorem six1 (X : World) (n : Nat) (hn : n = X.heap.size) (v0 v1 v2 v3 v4 v5 : Value) : (X.alloc (.cells #[v0, v1, v2, v3, v4, v5] 20)).drew.cell? ⟨n, 1, none⟩ = some v1 := by subst hn; simp [go_sem]
theorem six2 (X : World) (n : Nat) (hn : n = X.heap.size) (v0 v1 v2 v3 v4 v5 : Value) : (X.alloc (.cells #[v0, v1, v2, v3, v4, v5] 20)).drew.cell? ⟨n, 2, none⟩ = some v2 := by subst hn; simp [go_sem]
theorem six3 (X : World) (n : Nat) (hn : n = X.heap.size) (v0 v1 v2 v3 v4 v5 : Value) : (X.alloc (.cells #[v0, v1, v2, v3, v4, v5] 20)).drew.cell? ⟨n, 3, none⟩ = some v3 := by subst hn; simp [go_sem]
theorem six4 (X : World) (n : Nat) (hn : n = X.heap.size) (v0 v1 v2 v3 v4 v5 : Value) : (X.alloc (.cells #[v0, v1, v2, v3, v4, v5] 20)).drew.cell? ⟨n, 4, none⟩ = some v4 := by subst hn; simp [go_sem]
theorem six5 (X : World) (n : Nat) (hn : n = X.heap.size) (v0 v1 v2 v3 v4 v5 : Value) : (X.alloc (.cells #[v0, v1, v2, v3, v4, v5] 20)).drew.cell? ⟨n, 5, none⟩ = some v5 := by subst hn; simp [go_sem]
theorem answers_set {F : Interp} {w : World} {a : Addr} {v : Value} (h : F.answers w.tape) : F.answers (w.setCell a v).drew.tape := by
  have e : (w.setCell a v).drew.tape = w.tape := by simp
  rw [e]; exact h
theorem hid {p : Prop} (h : p) : Hid p := h

theorem days_any (a : Int) (w : World) (h1 : -315537897600000000 ≤ a) (h2 : a ≤ 315537897600000000) :
    Calls Tryf.prog 28 #[.agg #[.int .i64 a]] w fun e w' => e = .returned (.int .i64 (a.tdiv 86400000000)) ∧ w' = w.alloc (.cells #[.int .i64 a] 52) := by
  go_enter Tryf.func28, Tryf.ntmps28
  go_wp2
  go_ret
  exact ⟨rfl, rfl⟩
theorem hours_any (a : Int) (w : World) (h1 : -315537897600000000 ≤ a) (h2 : a ≤ 315537897600000000) :
    Calls Tryf.prog 29 #[.agg #[.int .i64 a]] w fun e w' => e = .returned (.int .i64 ((a.tdiv 3600000000).tmod 24)) ∧ w' = w.alloc (.cells #[.int .i64 a] 52) := by
  go_enter Tryf.func29, Tryf.ntmps29
  go_wp2
  go_ret
  exact ⟨rfl, rfl⟩
theorem minutes_any (a : Int) (w : World) (h1 : -315537897600000000 ≤ a) (h2 : a ≤ 315537897600000000) :
    Calls Tryf.prog 30 #[.agg #[.int .i64 a]] w fun e w' => e = .returned (.int .i64 ((a.tdiv 60000000).tmod 60)) ∧ w' = w.alloc (.cells #[.int .i64 a] 52) := by
  go_enter Tryf.func30, Tryf.ntmps30
  go_wp2
  go_ret
  exact ⟨rfl, rfl⟩
theorem seconds_any (a : Int) (w : World) (h1 : -315537897600000000 ≤ a) (h2 : a ≤ 315537897600000000) :
    Calls Tryf.prog 31 #[.agg #[.int .i64 a]] w fun e w' => e = .returned (.int .i64 ((a.tdiv 1000000).tmod 60)) ∧ w' = w.alloc (.cells #[.int .i64 a] 52) := by
  go_enter Tryf.func31, Tryf.ntmps31
  go_wp2
  go_ret
  exact ⟨rfl, rfl⟩
theorem micros_any (a : Int) (w : World) :
    Calls Tryf.prog 32 #[.agg #[.int .i64 a]] w fun e w' => e = .returned (.int .i64 (a.tmod 1000000)) ∧ w' = w.alloc (.cells #[.int .i64 a] 52) := by
  go_enter Tryf.func32, Tryf.ntmps32
  go_wp2
  go_ret
  exact ⟨rfl, rfl⟩

set_option maxRecDepth 10000 in
set_option maxHeartbeats 4000000 in
theorem str_nonneg (F : Interp) (a : Int) (w : World) (hF : F.answers w.tape) (h1 : 0 ≤ a) (h2 : a ≤ 315537897600000000) :
    Calls Tryf.prog 22 #[.agg #[.int .i64 a]] w fun e w' => e = .returned (.string (FmtStop.textOf (F (FmtCalls.frontName 0) (readA ⟨#[]⟩ (a.tdiv 86400000000) ((a.tdiv 3600000000).tmod 24) ((a.tdiv 60000000).tmod 60) ((a.tdiv 1000000).tmod 60) (a.tmod 1000000)) 0))) ∧ Below w.heap.size w w' := by
  have h3 : ¬ a < 0 := by omega
  have HF := hid hF
  have b1 : -315537897600000000 ≤ a := by omega
  clear hF
  go_enter Tryf.func22, Tryf.ntmps22
  go_wp2_with fail
  go_region
  generalize hw2 : ((w.alloc (Obj.cells #[Value.int IntKind.i64 a] 52)).alloc (Obj.cells #[Value.int IntKind.i64 a] 52)).drew = w2
  have p0 : w2.cell? ⟨w.heap.size, 0, none⟩ = some (.int .i64 a) := by rw [← hw2]; simp [go_sem]
  have p1 : w2.cell? ⟨w.heap.size + 1, 0, none⟩ = some (.int .i64 a) := by rw [← hw2]; simp [go_sem]
  have hs2 : w2.heap.size = w.heap.size + 2 := by rw [← hw2]; simp
  have HF2 : Hid (F.answers w2.tape) := by rw [← hw2]; exact HF.out
  have HB2 : Hid (Below w.heap.size w w2) := by rw [← hw2]; exact (((Below.refl _ _).alloc (Nat.le_refl _) _).alloc (by simp) _).drew
  have lt2 : w.heap.size + 1 < w2.heap.size := by omega
  have hs2' : Hid (w2.heap.size = w.heap.size + 2) := hs2
  clear hw2 hs2
  go_wp2_with fail
  go_region_held3 (fun w' => w'.cell? ⟨w.heap.size + 1, 0, none⟩ = some (.int .i64 a)) (repeat (first | exact p1 | apply cell_up | rw [World.cell?_drew]))
    (first
      | (go_at_call 28; refine (days_any a _ b1 h2).mono ?_; rintro e w' ⟨rfl, rfl⟩)
      | (go_at_call 29; refine (hours_any a _ b1 h2).mono ?_; rintro e w' ⟨rfl, rfl⟩)
      | (go_at_call 30; refine (minutes_any a _ b1 h2).mono ?_; rintro e w' ⟨rfl, rfl⟩)
      | (go_at_call 31; refine (seconds_any a _ b1 h2).mono ?_; rintro e w' ⟨rfl, rfl⟩)
      | (go_at_call 32; refine (micros_any a _).mono ?_; rintro e w' ⟨rfl, rfl⟩)
      | (refine step_sprA F _ (w2.heap.size + 1 + 1 + 1 + 1 + 1) ⟨#[]⟩ (a.tdiv 86400000000) ((a.tdiv 3600000000).tmod 24) ((a.tdiv 60000000).tmod 60) ((a.tdiv 1000000).tmod 60) (a.tmod 1000000) ?a0 rfl _ _ rfl ?a1 ?a2 ?a3 ?a4 ?a5 ?a6 ?a7 ?a8 ?a9; (exact HF2.out); (exact rfl); (exact rfl); (exact six0 _ _ (by simp) _ _ _ _ _ _); (exact six1 _ _ (by simp) _ _ _ _ _ _); (exact six2 _ _ (by simp) _ _ _ _ _ _); (exact six3 _ _ (by simp) _ _ _ _ _ _); (exact six4 _ _ (by simp) _ _ _ _ _ _); (exact six5 _ _ (by simp) _ _ _ _ _ _)))
  go_wp2_with fail
  go_ret
  refine ⟨rfl, ?_⟩
  have e2 := hs2'.out
  exact ((((((HB2.out.alloc (by omega) _).alloc (by simp; omega) _).alloc (by simp; omega) _).alloc (by simp; omega) _).alloc (by simp; omega) _).alloc (by simp; omega) _).drew.drew
set_option maxRecDepth 10000 in
set_option maxHeartbeats 4000000 in
theorem str_neg (F : Interp) (a : Int) (w : World) (hF : F.answers w.tape) (h1 : 0 < a) (h2 : a ≤ 315537897600000000) :
    Calls Tryf.prog 22 #[.agg #[.int .i64 (-a)]] w fun e w' => e = .returned (.string (FmtStop.textOf (F (FmtCalls.frontName 0) (readA ⟨#[45]⟩ (a.tdiv 86400000000) ((a.tdiv 3600000000).tmod 24) ((a.tdiv 60000000).tmod 60) ((a.tdiv 1000000).tmod 60) (a.tmod 1000000)) 0))) ∧ Below w.heap.size w w' := by
  have h3 : -a < 0 := by omega
  have HF := hid hF
  have b1 : -315537897600000000 ≤ a := by omega
  clear hF
  go_enter Tryf.func22, Tryf.ntmps22
  go_wp2_with fail
  go_region
  generalize hw1 : ((w.alloc (Obj.cells #[Value.int IntKind.i64 (-a)] 52)).alloc (Obj.cells #[Value.int IntKind.i64 (-a)] 52)).drew = w1
  have p0 : w1.cell? ⟨w.heap.size, 0, none⟩ = some (.int .i64 (-a)) := by rw [← hw1]; simp [go_sem]
  have p1 : w1.cell? ⟨w.heap.size + 1, 0, none⟩ = some (.int .i64 (-a)) := by rw [← hw1]; simp [go_sem]
  have f1 : w1.frozen? ⟨w.heap.size + 1, 0, none⟩ = false := by rw [← hw1]; simp [go_sem]
  have hs1 : w1.heap.size = w.heap.size + 2 := by rw [← hw1]; simp
  have HF1 : Hid (F.answers w1.tape) := by rw [← hw1]; exact HF.out
  have HB1 : Hid (Below w.heap.size w w1) := by rw [← hw1]; exact (((Below.refl _ _).alloc (Nat.le_refl _) _).alloc (by simp) _).drew
  have hs1' : Hid (w1.heap.size = w.heap.size + 2) := hs1
  clear hw1 hs1
  go_wp2_with fail
  go_region
  generalize hw2 : (w1.setCell { block := w.heap.size + 1, off := 0 } (Value.int IntKind.i64 a)).drew = w2
  have p1' : w2.cell? ⟨w.heap.size + 1, 0, none⟩ = some (.int .i64 a) := by rw [← hw2, World.cell?_drew]; exact World.cell?_setCell_same _ _ _ p1
  have hs2 : w2.heap.size = w.heap.size + 2 := by rw [← hw2]; simpa using hs1'.out
  have HF2 : Hid (F.answers w2.tape) := by rw [← hw2]; exact answers_set HF1.out
  have HB2 : Hid (Below w.heap.size w w2) := by rw [← hw2]; exact (HB1.out.setCell (p := ⟨w.heap.size + 1, 0, none⟩) (Nat.le_succ _) _).drew
  have hs2' : Hid (w2.heap.size = w.heap.size + 2) := hs2
  clear p0 p1 f1
  have p1 := p1'
  clear p1'
  clear hw2 hs2
  go_wp2_with fail
  go_region_held3 (fun w' => w'.cell? ⟨w.heap.size + 1, 0, none⟩ = some (.int .i64 a)) (repeat (first | exact p1 | apply cell_up | rw [World.cell?_drew]))
    (first
      | (go_at_call 28; refine (days_any a _ b1 h2).mono ?_; rintro e w' ⟨rfl, rfl⟩)
      | (go_at_call 29; refine (hours_any a _ b1 h2).mono ?_; rintro e w' ⟨rfl, rfl⟩)
      | (go_at_call 30; refine (minutes_any a _ b1 h2).mono ?_; rintro e w' ⟨rfl, rfl⟩)
      | (go_at_call 31; refine (seconds_any a _ b1 h2).mono ?_; rintro e w' ⟨rfl, rfl⟩)
      | (go_at_call 32; refine (micros_any a _).mono ?_; rintro e w' ⟨rfl, rfl⟩)
      | (refine step_sprA F _ (w2.heap.size + 1 + 1 + 1 + 1 + 1) ⟨#[45]⟩ (a.tdiv 86400000000) ((a.tdiv 3600000000).tmod 24) ((a.tdiv 60000000).tmod 60) ((a.tdiv 1000000).tmod 60) (a.tmod 1000000) ?a0 rfl _ _ rfl ?a1 ?a2 ?a3 ?a4 ?a5 ?a6 ?a7 ?a8 ?a9; (exact HF2.out); (exact rfl); (exact rfl); (exact six0 _ _ (by simp) _ _ _ _ _ _); (exact six1 _ _ (by simp) _ _ _ _ _ _); (exact six2 _ _ (by simp) _ _ _ _ _ _); (exact six3 _ _ (by simp) _ _ _ _ _ _); (exact six4 _ _ (by simp) _ _ _ _ _ _); (exact six5 _ _ (by simp) _ _ _ _ _ _)))
  go_wp2_with fail
  go_ret
  refine ⟨rfl, ?_⟩
  have e2 := hs2'.out
  exact ((((((HB2.out.alloc (by omega) _).alloc (by simp; omega) _).alloc (by simp; omega) _).alloc (by simp; omega) _).alloc (by simp; omega) _).alloc (by simp; omega) _).drew.drew
end Go.Proofs.Qxb6608910aFmt
