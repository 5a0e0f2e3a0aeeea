/- (*Sampler).outside at a nil slice, at this seat's dump. -/
import Derived.Test.Qxb6615739aOut
namespace Go.Proofs.Qxb6615739a
open Go.RowKit
set_option linter.unusedVariables false

theorem map_getD (R : List Int) (i : Nat) (h : i < R.length) : (R.map (Value.int .i64))[i]? = some (.int .i64 (R.getD i 0)) := by
  rw [List.getElem?_map, List.getElem?_eq_getElem h]
  simp [List.getD, List.getElem?_eq_getElem h]

set_option maxRecDepth 10000 in
set_option maxHeartbeats 1000000 in
theorem out_none (s r b hi lo rd : Nat) (mk : Value) (M : Nat) (but : Int) (w : World)
    (hs : SamAt w s r mk rd (.slice none 0 0)) (hr : RandAt w r b) (hb : PcgAt w b hi lo) (hhi : hi < 18446744073709551616) (hlo : lo < 18446744073709551616)
    (hm1 : 1 ≤ M) (hm2 : M ≤ 65536) :
    Calls Try.prog 26 #[.pointer (some ⟨s, 0, none⟩), .int .i64 M, .slice none 0 0, .int .i64 but] w (OutPost s b hi lo M 0 [but] w) := by
  obtain ⟨i0, hi3, hz0, hz1, hz2⟩ := info3
  have c3 := hs.cell3
  have f3 := hs.frozen 3
  have own0 : w.ownsRow w.heap.size 3 1 (.slice none 0 0) 0 [] := World.ownsRow_nil _ _ _ _
  have own1a := own0.alloc (.cells #[.int .i64 but] 3)
  have B1 : Buts [] w w := Buts.refl [] w
  have BB1 := hid B1
  have O1 := hid own0
  go_enter Try.func26, Try.ntmps26
  go_wp2_with (at_builtin; first | (refine wpList_append_own_none rfl _ _ 23 rfl w.heap.size 3 i0 1 Try.underlying23 hi3 _ _ _ rfl own0 rfl ?_) | (refine wpList_append_own _ rfl _ _ 23 rfl w.heap.size 3 i0 (.int .i64 0) 1 8 Try.underlying23 hi3 hz0 hz1 hz2 rfl (by decide) _ _ _ rfl own1a ⟨w.heap.size, 0, none⟩ 1 1 [.int .i64 but] rfl ?d0 ?d1 ?d2 ?d3 ?d4 ?d5 ?_))
  case d0 => rfl
  case d1 =>
    intro j u hj
    match j, hj with
    | 0, hj => simp at hj; subst hj; simp [Addr.add]
  case d2 => intro u hu; simp at hu; subst hu; rfl
  case d3 => unfold maxLen; omega
  case d4 => omega
  case d5 => simp
  intro v2 w2 own2 grow2 _
  clear own0 B1
  have B2 : Buts [] w w2 := (BB1.out.alloc _).grown grow2 (fun k hk => .inl (own_ge O1.out k hk))
  replace own2 : w2.ownsRow w.heap.size 3 1 v2 1 ([but].map (Value.int .i64)) := by simpa using own2
  have hex : ∃ g cap, v2 = .slice (some ⟨g, 0, none⟩) 1 cap ∧ w.heap.size ≤ g ∧ 1 ≤ cap ∧ cap ≤ maxLen ∧ ∃ cur : Array Value, w2.heap[g]? = some (.cells cur 3 (0, 0)) ∧ cur.size = cap * 1 ∧ cur.toList.take 1 = [but].map (Value.int .i64) := by
    rcases own2.2 with ⟨_, h0⟩ | ⟨g, cap, cur, hv, hg, hb', h1, h2, h3, h4⟩
    · omega
    · exact ⟨g, cap, hv, hg, h1, h2, cur, hb', h3, by simpa using h4⟩
  obtain ⟨g, cap, hv2, hg, hcap1, hcap2, cur, hcur, hcurs, hcurt⟩ := hex
  rw [hv2]
  have hs2 : SamAt w2 s r mk rd (.slice none 0 0) := hs.of_block (B2.block s hs.lt (by simp))
  have q3 := hs2.cell3
  have p3 := hs2.frozen 3
  have hgs : g ≠ s := by have := hs.lt; omega
  have hg2 : g < w2.heap.size := (Array.getElem?_eq_some_iff.1 hcur).1
  have hlen1 : [but].length = 1 := rfl
  have hH : Sort.Holds (Value.int .i64) (w2.setCell ⟨s, 3, none⟩ (.slice (some ⟨g, 0, none⟩) 1 cap)) g 0 [but].toArray :=
    holds_of_blockI (cur := cur) (e := 3) ((Below.heap_setCell _ _ _ _ hgs).trans hcur) (by rw [hlen1]; exact hcurt)
  have cs := Try.slices_Sort_int g 0 cap [but] _ hH (by simpa [World.setCell] using hg2) (by rw [hlen1]; omega)
  rw [hlen1] at cs
  have CS := hid cs
  have S3 := hid (hs2.set3 (.slice (some ⟨g, 0, none⟩) 1 cap))
  have BB2 := hid B2
  have HCU := hid hcur
  have HCS := hid hcurs
  have HL1 := hid hlen1
  have HS := hid hs
  have HR := hid hr
  have HP := hid hb
  clear cs hH hcur hcurs hcurt own2 grow2 own1a BB1 O1 hv2 B2 hlen1 hs hr hb hs2 c3 f3
  go_wp2_with fail
  refine CS.out.mono ?_
  rintro e w4 ⟨rfl, n4, os4, hw4⟩
  have B4 : Buts [s] w w4 := by
    refine Buts.grown ((BB2.out.mono (by simp)).setCell (p := ⟨s, 3, none⟩) (by simp) _) (hw4 ▸ grownBy_sortedI _) (fun k hk => ?_)
    simp at hk
    left; omega
  have S4 : SamAt w4 s r mk rd (.slice (some ⟨g, 0, none⟩) 1 cap) := by
    refine S3.out.of_block ?_
    have hgr : (w2.setCell ⟨s, 3, none⟩ (.slice (some ⟨g, 0, none⟩) 1 cap)).grownBy w4 (some g) := hw4 ▸ grownBy_sortedI _
    exact hgr.block s S3.out.lt (fun e => hgs (by simpa using e.symm))
  have hsl : ([but].mergeSort fun x y => decide (x ≤ y)).length = 1 := by rw [List.length_mergeSort, HL1.out]
  have C4 : ∀ i, i < 1 → w4.cell? ⟨g, i, none⟩ = some (.int .i64 (([but].mergeSort fun x y => decide (x ≤ y)).getD i 0)) := by
    have hown := ownsRow_sortedI (w := w2.setCell ⟨s, 3, none⟩ (.slice (some ⟨g, 0, none⟩) 1 cap)) (base := w.heap.size) (g := g) (cap := cap) (n := n4) (e := 3) (os := os4) (cur := cur) (ss := [but]) (ts := [but].mergeSort fun x y => decide (x ≤ y)) (by rw [List.length_mergeSort]) hg ((Below.heap_setCell _ _ _ _ hgs).trans HCU.out) (by rw [HL1.out]; exact hcap1) hcap2 HCS.out
    rw [← hw4, HL1.out] at hown
    intro i hi
    rw [hown.cellAt i (by omega)]
    exact map_getD _ i (by rw [hsl]; exact hi)
  have hrs : r ≠ s := by
    intro e
    have h1 := HS.out
    have h2 := HR.out
    unfold SamAt at h1
    unfold RandAt at h2
    rw [e, h1] at h2
    simp at h2
  have hbs : b ≠ s := by
    intro e
    have h1 := HS.out
    have h2 := HP.out
    unfold SamAt at h1
    unfold PcgAt at h2
    rw [e, h1] at h2
    simp at h2
  have R4 := hid (HR.out.of_block (B4.block r HR.out.lt (by simp [hrs])))
  have P4 := hid (HP.out.of_block (B4.block b HP.out.lt (by simp [hbs])))
  have S4L := hid S4.lt
  have G4 : Hid (g < w4.heap.size) := by
    have hgr : (w2.setCell ⟨s, 3, none⟩ (.slice (some ⟨g, 0, none⟩) 1 cap)).grownBy w4 (some g) := hw4 ▸ grownBy_sortedI _
    have := hgr.size
    simp [World.setCell] at this
    have h2 : g < w4.heap.size := by omega
    exact h2
  have s40 := S4.cell0
  have s43 := S4.cell3
  have hR : Hid (srt [but] = [but].mergeSort fun x y => decide (x ≤ y)) := rfl
  generalize ([but].mergeSort fun x y => decide (x ≤ y)) = R at *
  have C4H := hid C4
  have B4H := hid B4
  have HSL := hid hsl
  clear C4 B4 hw4 S3 CS BB2 HCU HCS hsl S4 q3 p3 hg2
  by_cases hge : M ≤ 1
  · go_wp2_with fail
    go_ret2
    exact OutPost.no hge B4H.out
  · have hgt : 1 < M := by omega
    clear hge
    have ci := fun W hr hb => intn_any r b hi lo (M - 1) W hr hb hhi hlo (by omega) (by omega)
    have CI := hid ci
    clear ci
    have HW : Hid (IntKind.i64.wrap ((M : Int) - 1) = ((M - 1 : Nat) : Int)) := by
      have : IntKind.i64.wrap ((M : Int) - 1) = ((M - 1 : Nat) : Int) := by rw [IntKind.wrap_i64]; omega
      exact this
    go_wp2_with fail
    go_region_with (go_at_call 27; rw [HW.out]; refine (CI.out _ (by exact R4.out) (by exact P4.out)).mono ?_; rintro e w5 ⟨v, hi', lo', rfl, hv, hd, hp5, hq5⟩)
    all_goals
      have s53 : w5.cell? ⟨s, 3, none⟩ = some (.slice (some ⟨g, 0, none⟩) 1 cap) := (hq5.cell (p := ⟨s, 3, none⟩) S4L.out (fun e => hbs e.symm)).trans s43
      have HD := hid hd
      have HP5 := hid hp5
      have HQ5 := hid hq5
      clear hd hp5 hq5
      have C5 : ∀ i, i < 1 → w5.cell? ⟨g, i, none⟩ = some (.int .i64 (R.getD i 0)) := fun i hi => (HQ5.out.cell (p := ⟨g, i, none⟩) G4.out (by have := HP.out.lt; simp; omega)).trans (C4H.out i hi)
      have C5H := hid C5
      clear C5
      go_wp2_with fail
      go_loop [10, 55] (fun x i => ∃ (k : Nat) (y : Int), k ≤ 1 ∧ i = .int .i64 k ∧ x = .int .i64 y ∧ 0 ≤ y ∧ y ≤ (v : Int) + k ∧ Hid (Free.bump (R.drop k) y = Free.bump R v)) (fun _ i => 1 - (intOf i).toNat)
      case atStart => exact ⟨0, v, by omega, rfl, rfl, by omega, by omega, rfl⟩
      case round =>
        obtain ⟨k, y, hk, rfl, rfl, hy0, hy1, HY⟩ := hrel
        by_cases hlt : k < 1
        · have hcell := C5H.out k hlt
          have hdr := hid (drop_cons R k (by rw [HSL.out]; exact hlt))
          generalize R.getD k 0 = t at *
          by_cases hbr : y < t
          · have HF : Hid (y = Free.bump R v) := by
              have h := HY.out
              rw [hdr.out] at h
              simp only [Free.bump, if_pos hbr] at h
              exact h
            go_wp2_with fail
            go_ret2
            exact OutPost.yes hgt ((B4H.out.mono (by simp)).drew.trans (HQ5.out.buts (L := [s, b]) (by simp))) hv HD.out (by rw [hR.out]; exact HF.out)
          · have HF : Hid (Free.bump (R.drop (k + 1)) (y + 1) = Free.bump R v) := by
              have h := HY.out
              rw [hdr.out] at h
              simp only [Free.bump, if_neg hbr] at h
              exact h
            go_wp2_with fail
            go_round
            case rel => exact ⟨k + 1, y + 1, by omega, by go_num, rfl, by omega, by omega, HF⟩
            case measure => simp [intOf]; omega
        · have HF : Hid (y = Free.bump R v) := by
            have h := HY.out
            rw [List.drop_eq_nil_of_le (by rw [HSL.out]; omega)] at h
            exact h
          go_wp2_with fail
          go_ret2
          exact OutPost.yes hgt ((B4H.out.mono (by simp)).drew.trans (HQ5.out.buts (L := [s, b]) (by simp))) hv HD.out (by rw [hR.out]; exact HF.out)
end Go.Proofs.Qxb6615739a
