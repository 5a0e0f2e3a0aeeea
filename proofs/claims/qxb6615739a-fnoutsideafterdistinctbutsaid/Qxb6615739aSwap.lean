/- The closure that Shuffle calls, and Shuffle, at this seat's dump. -/
import Derived.Test.Qxb6615739aKthN
import Derived.BigRegion
namespace Go.Proofs.Qxb6615739a
open Go.RowKit
set_option linter.unusedVariables false

/-- Block g holds in its first n cells the numbers f 0, f 1, .. . -/
def RowF (w : World) (g n : Nat) (f : Nat → Int) : Prop := ∃ cur : Array Value, w.heap[g]? = some (.cells cur 3 (0, 0)) ∧ n ≤ cur.size ∧ ∀ i, i < n → cur[i]? = some (.int .i64 (f i))
theorem RowF.cell {w : World} {g n : Nat} {f : Nat → Int} (h : RowF w g n f) {i : Nat} (hi : i < n) : w.cell? ⟨g, i, none⟩ = some (.int .i64 (f i)) := by
  obtain ⟨cur, h1, h2, h3⟩ := h
  simp [World.cell?, h1, h3 i hi]
theorem RowF.frozen {w : World} {g n : Nat} {f : Nat → Int} (h : RowF w g n f) (i : Nat) : w.frozen? ⟨g, i, none⟩ = false := by
  obtain ⟨cur, h1, h2, h3⟩ := h
  simp [World.frozen?, h1]
theorem RowF.lt {w : World} {g n : Nat} {f : Nat → Int} (h : RowF w g n f) : g < w.heap.size := by
  obtain ⟨cur, h1, h2, h3⟩ := h
  exact (Array.getElem?_eq_some_iff.1 h1).1
theorem RowF.of_block {w w' : World} {g n : Nat} {f : Nat → Int} (h : RowF w g n f) (e : w'.heap[g]? = w.heap[g]?) : RowF w' g n f := by
  obtain ⟨cur, h1, h2, h3⟩ := h
  exact ⟨cur, e.trans h1, h2, h3⟩
theorem RowF.congr {w : World} {g n : Nat} {f f' : Nat → Int} (h : RowF w g n f) (e : ∀ i, i < n → f i = f' i) : RowF w g n f' := by
  obtain ⟨cur, h1, h2, h3⟩ := h
  exact ⟨cur, h1, h2, fun i hi => by rw [h3 i hi, e i hi]⟩
theorem RowF.set {w : World} {g n : Nat} {f : Nat → Int} (h : RowF w g n f) (i : Nat) (x : Int) : RowF (w.setCell ⟨g, i, none⟩ (.int .i64 x)) g n (fun j => if j = i then x else f j) := by
  obtain ⟨cur, h1, h2, h3⟩ := h
  refine ⟨cur.setIfInBounds i (.int .i64 x), ?_, by simpa using h2, fun j hj => ?_⟩
  · simp [World.setCell, Array.getElem?_modify, h1]
  · rw [Array.getElem?_setIfInBounds]
    by_cases e : j = i
    · subst e
      simp [show j < cur.size by omega]
    · rw [if_neg (fun h => e h.symm)]
      show cur[j]? = some (.int .i64 (if j = i then x else f j))
      rw [if_neg e]
      exact h3 j hj

/-- The variable that holds the slice: block d. -/
def VarAt (w : World) (d : Nat) (v : Value) : Prop := w.heap[d]? = some (.cells #[v] 23 (0, 0))
theorem VarAt.cell0 {w : World} {d : Nat} {v : Value} (h : VarAt w d v) : w.cell? ⟨d, 0, none⟩ = some v := by unfold VarAt at h; simp [World.cell?, h]
theorem VarAt.frozen0 {w : World} {d : Nat} {v : Value} (h : VarAt w d v) : w.frozen? ⟨d, 0, none⟩ = false := by unfold VarAt at h; simp [World.frozen?, h]
theorem VarAt.lt {w : World} {d : Nat} {v : Value} (h : VarAt w d v) : d < w.heap.size := (Array.getElem?_eq_some_iff.1 h).1
theorem VarAt.of_block {w w' : World} {d : Nat} {v : Value} (h : VarAt w d v) (e : w'.heap[d]? = w.heap[d]?) : VarAt w' d v := by unfold VarAt at *; rw [e]; exact h
theorem VarAt.set {w : World} {d : Nat} {v : Value} (h : VarAt w d v) (u : Value) : VarAt (w.setCell ⟨d, 0, none⟩ u) d u := by
  unfold VarAt at *
  simp [World.setCell, Array.getElem?_modify, h]

/-- The row with places a and b exchanged. -/
def swp (f : Nat → Int) (a b : Nat) : Nat → Int := fun i => if i = b then f a else if i = a then f b else f i

set_option maxHeartbeats 1000000 in
theorem swap_any (d g n cap a b : Nat) (f : Nat → Int) (w : World) (hv : VarAt w d (.slice (some ⟨g, 0, none⟩) n cap)) (hr : RowF w g n f) (ha : a < n) (hb : b < n) (hn : n ≤ 1000000) :
    Calls Try.prog 34 #[.int .i64 a, .int .i64 b, .pointer (some ⟨d, 0, none⟩)] w fun e w' => e = .returned (.tuple #[]) ∧ RowF w' g n (swp f a b) ∧ But g w w' := by
  have c0 := hv.cell0
  have hdg : d ≠ g := by
    intro e
    subst e
    obtain ⟨cur, h1, _, _⟩ := hr
    unfold VarAt at hv
    rw [hv] at h1
    simp at h1
  have c0' : ∀ z, (w.setCell ⟨g, a, none⟩ (.int .i64 z)).cell? ⟨d, 0, none⟩ = some (.slice (some ⟨g, 0, none⟩) n cap) := fun z => (World.cell?_of_block (Below.heap_setCell _ _ _ _ hdg)).trans c0
  have ca := hr.cell ha
  have cb := hr.cell hb
  have fa := hr.frozen a
  have fb := hr.frozen b
  have HR := hid hr
  clear hr hv
  generalize hfa : f a = x at *
  generalize hfb : f b = y at *
  have HFA := hid hfa
  have HFB := hid hfb
  clear hfa hfb
  obtain ⟨v', hv'⟩ : ∃ v', (w.setCell ⟨g, a, none⟩ (.int .i64 y)).cell? ⟨g, b, none⟩ = some v' := ⟨_, (HR.out.set a y).cell hb⟩
  have ha' : (a : Int) < (n : Int) := by omega
  have hb' : (b : Int) < (n : Int) := by omega
  go_enter Try.func34, Try.ntmps34
  go_wp2
  go_region
  go_end0
  refine ⟨rfl, ?_, ?_⟩
  · refine ((HR.out.set a y).set b x).congr (fun i _ => ?_)
    unfold swp
    rw [HFA.out, HFB.out]
  · exact (((But.refl _ _).setCell (p := ⟨g, a, none⟩) rfl _).setCell (p := ⟨g, b, none⟩) rfl _).drew

/-- Distinct numbers of [0, B), by their places. -/
def Good (f : Nat → Int) (n : Nat) (B : Int) : Prop := (∀ i, i < n → 0 ≤ f i ∧ f i < B) ∧ ∀ i j, i < n → j < n → f i = f j → i = j
/-- The place whose number comes to place i. -/
def tau (a b i : Nat) : Nat := if i = b then a else if i = a then b else i
theorem tau_lt {a b i n : Nat} (ha : a < n) (hb : b < n) (hi : i < n) : tau a b i < n := by unfold tau; split; exact ha; split; exact hb; exact hi
theorem tau_inj {a b i j : Nat} (h : tau a b i = tau a b j) : i = j := by
  unfold tau at h
  split at h <;> split at h <;> (try split at h) <;> (try split at h) <;> omega
theorem swp_eq (f : Nat → Int) (a b i : Nat) : swp f a b i = f (tau a b i) := by
  unfold swp tau
  split
  · rfl
  split
  · rfl
  · rfl
theorem swp_good {f : Nat → Int} {n : Nat} {B : Int} (h : Good f n B) {a b : Nat} (ha : a < n) (hb : b < n) : Good (swp f a b) n B := by
  refine ⟨fun i hi => ?_, fun i j hi hj e => ?_⟩
  · rw [swp_eq]; exact h.1 _ (tau_lt ha hb hi)
  · rw [swp_eq, swp_eq] at e
    exact tau_inj (h.2 _ _ (tau_lt ha hb hi) (tau_lt ha hb hj) e)

/-- What Shuffle leaves. -/
def ShufPost (g b n : Nat) (B : Int) (w : World) (e : Ending) (w' : World) : Prop :=
  e = .returned (.tuple #[]) ∧ ∃ (f' : Nat → Int) (hi' lo' : Nat), Good f' n B ∧ RowF w' g n f' ∧ PcgAt w' b hi' lo' ∧ hi' < 18446744073709551616 ∧ lo' < 18446744073709551616 ∧ Buts [g, b] w w'

set_option maxHeartbeats 1000000 in
theorem shuffle_any (r b hi lo d g n cap : Nat) (f : Nat → Int) (B : Int) (w : World) (hr : RandAt w r b) (hb : PcgAt w b hi lo) (hhi : hi < 18446744073709551616) (hlo : lo < 18446744073709551616)
    (hv : VarAt w d (.slice (some ⟨g, 0, none⟩) n cap)) (hrow : RowF w g n f) (hf : Good f n B) (hn1 : 1 ≤ n) (hn : n ≤ 65536) (hrg : r ≠ g) (hbg : b ≠ g) (hdb : d ≠ b) (hdg : d ≠ g) :
    Calls Try.prog 33 #[.pointer (some ⟨r, 0, none⟩), .int .i64 n, .func (.func 34) #[] #[.pointer (some ⟨d, 0, none⟩)]] w (ShufPost g b n B w) := by
  have HR := hid hr
  have HB := hid hb
  have HV := hid hv
  have HW := hid hrow
  have HF := hid hf
  clear hr hb hv hrow hf
  go_enter Try.func33, Try.ntmps33
  go_wp2_with fail
  go_loopg [6] n (fun gn i wr => ∃ (k : Nat) (f' : Nat → Int) (hi' lo' : Nat), i = .int .i64 k ∧ k < n ∧ k ≤ gn ∧ Good f' n B ∧ RowF wr g n f' ∧ PcgAt wr b hi' lo' ∧ hi' < 18446744073709551616 ∧ lo' < 18446744073709551616 ∧ Buts [g, b] w wr)
  case atStart => exact ⟨n - 1, f, hi, lo, by go_num, by omega, by omega, HF.out, HW.out, HB.out, hhi, hlo, Buts.refl _ _⟩
  case round =>
    obtain ⟨k, f', hi', lo', rfl, hk, hkg, hf', hw', hp', h1', h2', hbu⟩ := hrel
    have HF' := hid hf'
    have HW' := hid hw'
    have HP' := hid hp'
    have HU := hid hbu
    clear hf' hw' hp' hbu
    by_cases hk0 : 0 < k
    · have R1 := hid (HR.out.of_block (HU.out.block r HR.out.lt (by simp; exact ⟨hrg, apart_rb HR.out HB.out⟩)))
      have V1 := hid (HV.out.of_block (HU.out.block d HV.out.lt (by simp; exact ⟨hdg, hdb⟩)))
      have cu := hid (u64n_any r b hi' lo' (k + 1) wr R1.out HP'.out h1' h2' (by omega) (by omega))
      go_wp2_with fail
      rw [show ((k : Int) + 1) = ((k + 1 : Nat) : Int) from by omega]
      refine cu.out.mono ?_
      rintro e w2 ⟨v, hi2, lo2, rfl, hd2, hp2, hq2⟩
      have hv2 := hd2.lt (by omega)
      obtain ⟨t1, t2⟩ := hd2.state
      have W2 := hid (HW'.out.of_block (hq2.block g HW'.out.lt (fun e => hbg e.symm)))
      have V2 := hid (V1.out.of_block (hq2.block d V1.out.lt hdb))
      have cw := hid (swap_any d g n cap k v f' w2 V2.out W2.out hk (by omega) (by omega))
      have P2 := hid hp2
      have U2 := hid (HU.out.trans (hq2.buts (L := [g, b]) (by simp)))
      clear hp2 hq2 hd2
      go_wp2_with fail
      refine cw.out.mono ?_
      rintro e w3 ⟨rfl, hw3, hq3⟩
      have W3 := hid hw3
      have P3 := hid (P2.out.of_block (hq3.block b P2.out.lt hbg))
      have U3 := hid (U2.out.trans (hq3.buts (L := [g, b]) (by simp)))
      clear hw3 hq3
      go_wp2_with fail
      go_roundg (gk - 1)
      case measure => omega
      case rel => exact ⟨k - 1, swp f' k v, hi2, lo2, by go_num, by omega, by omega, swp_good HF'.out hk (by omega), W3.out, P3.out, t1, t2, U3.out⟩
    · obtain rfl : k = 0 := by omega
      go_wp2_with fail
      go_end0
      exact ⟨rfl, f', hi', lo', HF'.out, HW'.out, HP'.out, h1', h2', HU.out⟩
end Go.Proofs.Qxb6615739a
