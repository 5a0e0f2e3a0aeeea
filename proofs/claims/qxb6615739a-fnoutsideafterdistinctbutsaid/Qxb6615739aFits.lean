/- zzBytes and takenFits, at this seat's dump. -/
import Derived.Test.Qxb6615739aNew
import Derived.Test.Qxb6615739aFree
import Derived.Deep.OwnRows
namespace Go.Proofs.Qxb6615739a
open Go.RowKit
set_option linter.unusedVariables false

theorem info4 : (Try.prog.info? 4).map (fun i => (i.zero, i.size, i.bytes)) = some (some (.bool false), 1, 1) := by kernel_rfl

/-- Distinct numbers of [0, m) other than but. -/
def Fits (L : List Int) (m but : Int) : Prop := (∀ t ∈ L, 0 ≤ t ∧ t < m ∧ t ≠ but) ∧ L.Nodup

/-- The row of marks: j is marked where it is in L. -/
def markF (L : List Int) : Nat → Value := fun j => .bool (decide ((j : Int) ∈ L))

theorem markF_snoc (L : List Int) (t : Int) (h : 0 ≤ t) (j : Nat) : (if j = t.toNat then Value.bool true else markF L j) = markF (L ++ [t]) j := by
  unfold markF
  by_cases e : j = t.toNat
  · rw [if_pos e]
    have : (j : Int) = t := by omega
    simp [this]
  · rw [if_neg e]
    have : (j : Int) ≠ t := by omega
    simp [this]

theorem Fits.snoc {L : List Int} {m but t : Int} (h : Fits L m but) (h1 : 0 ≤ t) (h2 : t < m) (h3 : t ≠ but) (h4 : t ∉ L) : Fits (L ++ [t]) m but := by
  refine ⟨fun u hu => ?_, ?_⟩
  · rcases List.mem_append.1 hu with e | e
    · exact h.1 u e
    · rw [List.mem_singleton] at e
      rw [e]; exact ⟨h1, h2, h3⟩
  · rw [List.nodup_append]
    refine ⟨h.2, by simp, fun a ha b hb => ?_⟩
    rw [List.mem_singleton] at hb
    rw [hb]
    intro e
    rw [e] at ha
    exact h4 ha

theorem take_snoc (zs : List Int) (k : Nat) (h : k < zs.length) : zs.take (k + 1) = zs.take k ++ [zs.getD k 0] := by
  rw [List.take_succ_eq_append_getElem h]
  simp [List.getD, List.getElem?_eq_getElem h]

/-- What takenFits leaves. -/
def FitsPost (zs : List Int) (m but : Int) (w : World) (e : Ending) (w' : World) : Prop := ∃ v : Bool, e = .returned (.bool v) ∧ (v = true → Fits zs m but) ∧ Below w.heap.size w w'
theorem FitsPost.no {zs : List Int} {m but : Int} {w w' : World} (h : Below w.heap.size w w') : FitsPost zs m but w (.returned (.bool false)) w' := ⟨false, rfl, fun h => (by cases h), h⟩
theorem FitsPost.yes {zs : List Int} {m but : Int} {w w' : World} (hf : Fits zs m but) (h : Below w.heap.size w w') : FitsPost zs m but w (.returned (.bool true)) w' := ⟨true, rfl, fun _ => hf, h⟩

set_option maxHeartbeats 1000000 in
theorem fits_some (m but : Int) (tb off len cap : Nat) (zs : List Int) (w : World) (htb : tb < w.heap.size) (hc : ∀ i, i < len → w.cell? ⟨tb, off + i, none⟩ = some (.int .i64 (zs.getD i 0))) (hl : zs.length = len)
    (hlen : len ≤ 131072) (hm1 : 1 ≤ m) (hm2 : m ≤ 65536) :
    Calls Try.prog 8 #[.int .i64 m, .slice (some ⟨tb, off, none⟩) len cap, .int .i64 but] w (FitsPost zs m but w) := by
  obtain ⟨M, rfl⟩ := Int.eq_ofNat_of_zero_le (by omega : 0 ≤ m)
  have hmk := run_make_row' (P := Try.prog) 33 4 (.bool false) 1 Try.underlying33 info4 rfl .i64 .i64 M (by omega) (by omega)
  have HC := hid hc
  have HL := hid hl
  clear hc hl
  go_enter Try.func8, Try.ntmps8
  go_wp2_with fail
  go_loopg [14] len (fun gn i wr => ∃ k : Nat, k + gn = len ∧ i = .int .i64 k ∧ Below w.heap.size w wr ∧ wr.rowIs w.heap.size 4 M (markF (zs.take k)) ∧ Fits (zs.take k) M but)
  case atStart => exact ⟨0, by omega, rfl, (Below.refl _ _).alloc (Nat.le_refl _) _, (World.rowIs_made w (.bool false) M 4).congr (fun i _ => by simp [markF]), by simp [Fits]⟩
  case round =>
    obtain ⟨k, hk, rfl, hb, hrow, hf⟩ := hrel
    by_cases hlt : k < len
    · have hcell : wr.cell? ⟨tb, off + k, none⟩ = some (.int .i64 (zs.getD k 0)) := (hb.cell (p := ⟨tb, off + k, none⟩) htb).trans (HC.out k hlt)
      have hsn := hid (take_snoc zs k (by rw [HL.out]; exact hlt))
      have HB := hid hb
      have HR := hid hrow
      have HF := hid hf
      have HK := hid hk
      clear hb hrow hf hk
      generalize zs.getD k 0 = t at *
      by_cases h1 : t < 0
      · go_wp2_with fail
        go_ret
        exact FitsPost.no HB.out
      by_cases h2 : (M : Int) ≤ t
      · go_wp2_with fail
        go_ret
        exact FitsPost.no HB.out
      by_cases h3 : t = but
      · have h3' : (t == but) = true := by simp [h3]
        subst h3
        go_wp2_with fail
        go_ret
        exact FitsPost.no HB.out
      have h3' : (t == but) = false := by simp [h3]
      obtain ⟨T, rfl⟩ := Int.eq_ofNat_of_zero_le (by omega : 0 ≤ t)
      have hTM : T < M := by omega
      have hmc : wr.cell? ⟨w.heap.size, T, none⟩ = some (.bool (decide ((T : Int) ∈ zs.take k))) := HR.out.cell hTM
      have hfr : wr.frozen? ⟨w.heap.size, T, none⟩ = false := HR.out.frozen T
      by_cases h4 : (T : Int) ∈ zs.take k
      · rw [decide_eq_true h4] at hmc
        go_wp2_with fail
        go_ret
        exact FitsPost.no HB.out
      · rw [decide_eq_false h4] at hmc
        have H4 := hid h4
        have H3 := hid h3
        clear h4 h3
        go_wp2_with fail
        go_roundg (gk - 1)
        case measure => have := HK.out; omega
        case rel =>
          refine ⟨k + 1, by have := HK.out; omega, by go_num, HB.out.setCell (p := ⟨w.heap.size, T, none⟩) (Nat.le_refl _) _, ?_, ?_⟩
          · rw [hsn.out]
            exact (HR.out.set T (.bool true)).congr (fun j _ => markF_snoc (zs.take k) T (by omega) j)
          · rw [hsn.out]
            exact HF.out.snoc (by omega) (by omega) H3.out H4.out
    · have hkl : k = len := by omega
      have HB := hid hb
      have HF := hid hf
      clear hb hrow hf hk
      go_wp2_with fail
      go_ret
      refine FitsPost.yes ?_ HB.out
      have := HF.out
      rwa [List.take_of_length_le (by rw [HL.out]; omega)] at this

set_option maxHeartbeats 1000000 in
theorem fits_none (m but : Int) (a : Option Addr) (cap : Nat) (w : World) (hm1 : 1 ≤ m) (hm2 : m ≤ 65536) :
    Calls Try.prog 8 #[.int .i64 m, .slice a 0 cap, .int .i64 but] w (FitsPost [] m but w) := by
  obtain ⟨M, rfl⟩ := Int.eq_ofNat_of_zero_le (by omega : 0 ≤ m)
  have hmk := run_make_row' (P := Try.prog) 33 4 (.bool false) 1 Try.underlying33 info4 rfl .i64 .i64 M (by omega) (by omega)
  go_enter Try.func8, Try.ntmps8
  go_wp2_with fail
  go_loopg [14] 0 (fun gn i wr => i = .int .i64 0 ∧ Below w.heap.size w wr)
  case atStart => exact ⟨rfl, (Below.refl _ _).alloc (Nat.le_refl _) _⟩
  case round =>
    obtain ⟨rfl, hb⟩ := hrel
    have HB := hid hb
    clear hb
    go_wp2_with fail
    go_ret
    exact FitsPost.yes (by simp [Fits]) HB.out

theorem bytes_any (a0 a1 : Int) (m but : Int) (a : Option Addr) (len cap : Nat) (w : World) (h : len ≤ 1048576) :
    Calls Try.prog 7 #[.int .u64 a0, .int .u64 a1, .int .i64 m, .slice a len cap, .int .i64 but] w fun e w' => e = .returned (.bool true) ∧ w' = w := by
  go_enter Try.func7, Try.ntmps7
  go_wp2
  go_ret
  exact ⟨rfl, rfl⟩
theorem bytes_no (a0 a1 : Int) (m but : Int) (a : Option Addr) (len cap : Nat) (w : World) (h : 1048576 < len) :
    Calls Try.prog 7 #[.int .u64 a0, .int .u64 a1, .int .i64 m, .slice a len cap, .int .i64 but] w fun e w' => e = .returned (.bool false) ∧ w' = w := by
  go_enter Try.func7, Try.ntmps7
  go_wp2
  go_ret
  exact ⟨rfl, rfl⟩
end Go.Proofs.Qxb6615739a
