/- kthFree, at this seat's dump. -/
import Derived.Test.Qxb6615739aFits
namespace Go.Proofs.Qxb6615739a
open Go.RowKit
open Free (fre)
set_option linter.unusedVariables false

theorem fre_zero (L : List Int) (h : ∀ t ∈ L, 0 ≤ t) : fre L 0 = 0 := by
  unfold fre
  rw [Free.cnt_none _ _ h]
  rfl
theorem fre_nn (L : List Int) (hn : L.Nodup) (h : ∀ t ∈ L, 0 ≤ t) (x : Nat) : 0 ≤ fre L x ∧ fre L x ≤ x := by
  have h0 := fre_zero L h
  have h1 := Free.fre_le L hn 0 x (by omega)
  refine ⟨by omega, ?_⟩
  unfold fre
  omega

theorem ret_i64 {a b : Int} (h : a = b) : Ending.returned (.int .i64 a) = .returned (.int .i64 b) := by rw [h]

/-- What the second loop looks for. -/
def Kth (L : List Int) (m but k X : Int) : Prop := 0 ≤ X ∧ X < m ∧ X ≠ but ∧ X ∉ L ∧ fre (L ++ [but]) X = k

theorem fits_all {L : List Int} {m but : Int} (hf : Fits L m but) : (L ++ [but]).Nodup := by
  rw [List.nodup_append]
  refine ⟨hf.2, by simp, fun a ha b hb => ?_⟩
  rw [List.mem_singleton] at hb
  rw [hb]
  exact (hf.1 a ha).2.2
theorem fits_nn {L : List Int} {m but : Int} (hf : Fits L m but) (hb : 0 ≤ but) : ∀ t ∈ L ++ [but], 0 ≤ t := by
  intro t ht
  rcases List.mem_append.1 ht with e | e
  · exact (hf.1 t e).1
  · rw [List.mem_singleton] at e; omega

set_option maxHeartbeats 1000000 in
theorem kth_some (m but k : Int) (tb len : Nat) (zs : List Int) (X : Int) (w : World) (htb : tb < w.heap.size) (hc : ∀ i, i < len → w.cell? ⟨tb, i, none⟩ = some (.int .i64 (zs.getD i 0))) (hl : zs.length = len)
    (hlen : len ≤ 131072) (hm1 : 1 ≤ m) (hm2 : m ≤ 65536) (hb0 : 0 ≤ but) (hbm : but < m) (hf : Fits zs m but) (hX : Kth zs m but k X) :
    Calls Try.prog 12 #[.int .i64 m, .slice (some ⟨tb, 0, none⟩) len len, .int .i64 but, .int .i64 k] w fun e w' => e = .returned (.int .i64 X) ∧ Below w.heap.size w w' := by
  obtain ⟨M, rfl⟩ := Int.eq_ofNat_of_zero_le (by omega : 0 ≤ m)
  have hmk := run_make_row' (P := Try.prog) 33 4 (.bool false) 1 Try.underlying33 info4 rfl .i64 .i64 M (by omega) (by omega)
  have HC := hid hc
  have HL := hid hl
  have HF := hid hf
  have HX := hid hX
  clear hc hl hf hX
  go_enter Try.func12, Try.ntmps12
  go_wp2_with fail
  go_loopg [18] len (fun gn i wr => ∃ k : Nat, k + gn = len ∧ i = .int .i64 k ∧ Below w.heap.size w wr ∧ wr.rowIs w.heap.size 4 M (markF (zs.take k)))
  case atStart => exact ⟨0, by omega, rfl, (Below.refl _ _).alloc (Nat.le_refl _) _, (World.rowIs_made w (.bool false) M 4).congr (fun i _ => by simp [markF])⟩
  case round =>
    obtain ⟨k', hk, rfl, hb, hrow⟩ := hrel
    by_cases hlt : k' < len
    · have hcell : wr.cell? ⟨tb, k', none⟩ = some (.int .i64 (zs.getD k' 0)) := (hb.cell (p := ⟨tb, k', none⟩) htb).trans (HC.out k' hlt)
      have hsn := hid (take_snoc zs k' (by rw [HL.out]; exact hlt))
      have hin : zs.getD k' 0 ∈ zs := by
        have h : k' < zs.length := by rw [HL.out]; exact hlt
        simp [List.getD, List.getElem?_eq_getElem h]
      have h12 := HF.out.1 _ hin
      have h1 := h12.1
      have h2 := h12.2.1
      have HB := hid hb
      have HR := hid hrow
      have HK := hid hk
      clear hb hrow hk h12 hin
      generalize zs.getD k' 0 = t at *
      obtain ⟨T, rfl⟩ := Int.eq_ofNat_of_zero_le h1
      have hTM : T < M := by omega
      have hfr : wr.frozen? ⟨w.heap.size, T, none⟩ = false := HR.out.frozen T
      have hmc : wr.cell? ⟨w.heap.size, T, none⟩ = some (markF (zs.take k') T) := HR.out.cell hTM
      go_wp2_with fail
      go_roundg (gk - 1)
      case measure => have := HK.out; omega
      case rel =>
        refine ⟨k' + 1, by have := HK.out; omega, by go_num, HB.out.setCell (p := ⟨w.heap.size, T, none⟩) (Nat.le_refl _) _, ?_⟩
        rw [hsn.out]
        exact (HR.out.set T (.bool true)).congr (fun j _ => markF_snoc (zs.take k') T (by omega) j)
    · have hkl : zs.take k' = zs := List.take_of_length_le (by rw [HL.out]; omega)
      rw [hkl] at hrow
      have HB := hid hb
      have HR := hid hrow
      clear hb hrow hk hkl
      go_wp2_with fail
      obtain ⟨x0, x1, x2, x3, x4⟩ := HX.out
      have X4 := hid x4
      have X3 := hid x3
      have X2 := hid x2
      clear x4 x3 x2
      obtain ⟨Y, rfl⟩ := Int.eq_ofNat_of_zero_le x0
      have hnd := hid (fits_all HF.out)
      have hnn := hid (fits_nn HF.out hb0)
      go_loop [12, 13] (fun c i => ∃ x : Nat, x ≤ Y ∧ i = .int .i64 x ∧ c = .int .i64 (fre (zs ++ [but]) x)) (fun _ i => Y + 1 - (intOf i).toNat)
      case atStart => exact ⟨0, Nat.zero_le _, rfl, by rw [show ((0 : Nat) : Int) = 0 from rfl, fre_zero _ hnn.out]⟩
      case round =>
        obtain ⟨x, hx, rfl, rfl⟩ := hrel
        have hxM : x < M := by omega
        have hmc : wr.cell? ⟨w.heap.size, x, none⟩ = some (.bool (decide ((x : Int) ∈ zs))) := HR.out.cell hxM
        obtain ⟨n1, n2⟩ := fre_nn _ hnd.out hnn.out x
        have hs := hid (Free.fre_succ _ hnd.out (x : Int))
        by_cases hin : (x : Int) ∈ zs ++ [but]
        · have hne : x ≠ Y := by
            intro e
            rw [e] at hin
            rcases List.mem_append.1 hin with h | h
            · exact X3.out h
            · rw [List.mem_singleton] at h; exact X2.out h
          have hs2 := hs.out
          rw [if_pos hin] at hs2
          have HS2 := hid hs2
          clear hs2
          by_cases hbut : (x : Int) = but
          · have hbb : ((x : Int) == but) = true := by simp [hbut]
            clear hin hbut
            generalize fre (zs ++ [but]) (x : Int) = c at *
            go_wp2_with fail
            go_round
            case rel => exact ⟨x + 1, by omega, by go_num, by rw [show ((x + 1 : Nat) : Int) = (x : Int) + 1 from by omega, HS2.out]; simp⟩
            case measure => simp [intOf]; omega
          · have hbb : ((x : Int) == but) = false := by simp [hbut]
            have hz : (x : Int) ∈ zs := by
              rcases List.mem_append.1 hin with h | h
              · exact h
              · rw [List.mem_singleton] at h; exact absurd h hbut
            rw [decide_eq_true hz] at hmc
            clear hin hbut hz
            generalize fre (zs ++ [but]) (x : Int) = c at *
            go_wp2_with fail
            go_round
            case rel => exact ⟨x + 1, by omega, by go_num, by rw [show ((x + 1 : Nat) : Int) = (x : Int) + 1 from by omega, HS2.out]; simp⟩
            case measure => simp [intOf]; omega
        · have hs2 := hs.out
          rw [if_neg hin] at hs2
          have HS2 := hid hs2
          clear hs2
          have hz : (x : Int) ∉ zs := fun h => hin (List.mem_append.2 (.inl h))
          have hbut : (x : Int) ≠ but := fun h => hin (List.mem_append.2 (.inr (by rw [List.mem_singleton]; exact h)))
          have hbb : ((x : Int) == but) = false := by simp [hbut]
          rw [decide_eq_false hz] at hmc
          by_cases he : x = Y
          · subst he
            have hcc : (fre (zs ++ [but]) (x : Int) == k) = true := by simp [X4.out]
            clear hin hz hbut
            generalize fre (zs ++ [but]) (x : Int) = c at *
            go_wp2_with fail
            go_ret
            exact ⟨rfl, HB.out⟩
          · have hlt2 := Free.fre_lt _ hnd.out (x : Int) (Y : Int) hin (by omega)
            rw [X4.out] at hlt2
            have hcc : (fre (zs ++ [but]) (x : Int) == k) = false := by simp; omega
            clear hin hz hbut
            generalize fre (zs ++ [but]) (x : Int) = c at *
            go_wp2_with fail
            go_round
            case rel => exact ⟨x + 1, by omega, by go_num, by rw [show ((x + 1 : Nat) : Int) = (x : Int) + 1 from by omega, HS2.out]⟩
            case measure => simp [intOf]; omega
end Go.Proofs.Qxb6615739a
