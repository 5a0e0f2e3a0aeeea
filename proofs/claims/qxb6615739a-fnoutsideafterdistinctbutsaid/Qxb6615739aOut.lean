/- (*Sampler).outside, at this seat's dump. -/
import Derived.Test.Qxb6615739aKth
import Derived.Test.Qxb6615739aSort
import Derived.Sort.OwnSortedInts
import Derived.Laws.AppendOwnNone
import Derived.Deep.RegionWith
namespace Go.Proofs.Qxb6615739a
open Go.RowKit
set_option linter.unusedVariables false

/-- The sampler lies in block s. -/
def SamAt (w : World) (s r : Nat) (mk : Value) (rd : Nat) (room : Value) : Prop := w.heap[s]? = some (.cells #[.pointer (some ⟨r, 0, none⟩), mk, .int .u64 rd, room] 68 (0, 0))
theorem SamAt.cell0 {w : World} {s r rd : Nat} {mk room : Value} (h : SamAt w s r mk rd room) : w.cell? ⟨s, 0, none⟩ = some (.pointer (some ⟨r, 0, none⟩)) := by unfold SamAt at h; simp [World.cell?, h]
theorem SamAt.cell1 {w : World} {s r rd : Nat} {mk room : Value} (h : SamAt w s r mk rd room) : w.cell? ⟨s, 1, none⟩ = some mk := by unfold SamAt at h; simp [World.cell?, h]
theorem SamAt.cell2 {w : World} {s r rd : Nat} {mk room : Value} (h : SamAt w s r mk rd room) : w.cell? ⟨s, 2, none⟩ = some (.int .u64 rd) := by unfold SamAt at h; simp [World.cell?, h]
theorem SamAt.cell3 {w : World} {s r rd : Nat} {mk room : Value} (h : SamAt w s r mk rd room) : w.cell? ⟨s, 3, none⟩ = some room := by unfold SamAt at h; simp [World.cell?, h]
theorem SamAt.frozen {w : World} {s r rd : Nat} {mk room : Value} (h : SamAt w s r mk rd room) (i : Nat) : w.frozen? ⟨s, i, none⟩ = false := by unfold SamAt at h; simp [World.frozen?, h]
theorem SamAt.lt {w : World} {s r rd : Nat} {mk room : Value} (h : SamAt w s r mk rd room) : s < w.heap.size := (Array.getElem?_eq_some_iff.1 h).1
theorem SamAt.of_block {w w' : World} {s r rd : Nat} {mk room : Value} (h : SamAt w s r mk rd room) (e : w'.heap[s]? = w.heap[s]?) : SamAt w' s r mk rd room := by unfold SamAt at *; rw [e]; exact h
theorem SamAt.set3 {w : World} {s r rd : Nat} {mk room : Value} (h : SamAt w s r mk rd room) (v : Value) : SamAt (w.setCell ⟨s, 3, none⟩ v) s r mk rd v := by
  unfold SamAt at *
  simp [World.setCell, Array.getElem?_modify, h]

/-- Of what was there the blocks of the list alone may have turned. -/
structure Buts (L : List Nat) (w w' : World) : Prop where
  os : w'.os = w.os
  tape : w'.tape = w.tape
  output : w'.output = w.output
  size : w.heap.size ≤ w'.heap.size
  block : ∀ k, k < w.heap.size → k ∉ L → w'.heap[k]? = w.heap[k]?
theorem Buts.refl (L : List Nat) (w : World) : Buts L w w := ⟨rfl, rfl, rfl, Nat.le_refl _, fun _ _ _ => rfl⟩
theorem Buts.trans {L : List Nat} {u v w : World} (h : Buts L u v) (k : Buts L v w) : Buts L u w :=
  ⟨k.os.trans h.os, k.tape.trans h.tape, k.output.trans h.output, Nat.le_trans h.size k.size, fun i hi hb => (k.block i (Nat.lt_of_lt_of_le hi h.size) hb).trans (h.block i hi hb)⟩
theorem Buts.mono {L L' : List Nat} {w w' : World} (h : Buts L w w') (hL : ∀ k ∈ L, k ∈ L') : Buts L' w w' := ⟨h.os, h.tape, h.output, h.size, fun k hk hk' => h.block k hk (fun hm => hk' (hL k hm))⟩
theorem Buts.setCell {L : List Nat} {u w : World} (h : Buts L u w) {p : Addr} (hp : p.block ∈ L) (v : Value) : Buts L u (w.setCell p v) :=
  h.trans ⟨rfl, rfl, rfl, by simp [World.setCell], fun k _ hk => Below.heap_setCell _ _ _ _ (fun e => hk (e ▸ hp))⟩
theorem Buts.setNew {L : List Nat} {u w : World} (h : Buts L u w) {p : Addr} (hp : u.heap.size ≤ p.block) (v : Value) : Buts L u (w.setCell p v) :=
  ⟨h.os, h.tape, h.output, by simpa [World.setCell] using h.size, fun k hk hL => (Below.heap_setCell _ _ _ _ (by omega)).trans (h.block k hk hL)⟩
theorem Buts.drewN {L : List Nat} {u w : World} (h : Buts L u w) (n : Nat) : Buts L u (w.drewN n) := ⟨h.os, h.tape, h.output, h.size, h.block⟩
theorem Buts.drew {L : List Nat} {u w : World} (h : Buts L u w) : Buts L u w.drew := ⟨h.os, h.tape, h.output, h.size, h.block⟩
theorem Buts.alloc {L : List Nat} {u w : World} (h : Buts L u w) (o : Obj) : Buts L u (w.alloc o) :=
  h.trans ⟨rfl, rfl, rfl, by simp, fun k hk _ => Below.heap_alloc _ _ _ hk⟩
theorem But.buts {b : Nat} {L : List Nat} {w w' : World} (h : But b w w') (hb : b ∈ L) : Buts L w w' :=
  ⟨h.os, h.tape, h.output, h.size, fun k hk hL => h.block k hk (fun e => hL (e ▸ hb))⟩
/-- A law that wrote to a block that came after u. -/
theorem Buts.grown {L : List Nat} {u w w' : World} {row : Option Nat} (h : Buts L u w) (hg : w.grownBy w' row) (hr : ∀ k, row = some k → u.heap.size ≤ k ∨ k ∈ L) : Buts L u w' :=
  ⟨hg.os.trans h.os, hg.tape.trans h.tape, hg.output.trans h.output, Nat.le_trans h.size hg.size, fun k hk hL => (hg.block k (Nat.lt_of_lt_of_le hk h.size) (fun e => by rcases hr k e.symm with q | q; omega; exact hL q)).trans (h.block k hk hL)⟩
theorem Buts.below {L : List Nat} {B : Nat} {w w' : World} (h : Buts L w w') (h1 : B ≤ w.heap.size) (h2 : ∀ k ∈ L, B ≤ k) : Below B w w' :=
  ⟨h.os, h.tape, h.output, h.size, fun k hk => h.block k (by omega) (fun hm => by have := h2 k hm; omega)⟩
theorem Buts.cell {L : List Nat} {w w' : World} (h : Buts L w w') {p : Addr} (h1 : p.block < w.heap.size) (h2 : p.block ∉ L) : w'.cell? p = w.cell? p := World.cell?_of_block (w := w) (h.block p.block h1 h2)

theorem addr_add0 (b j : Nat) : (⟨b, 0, none⟩ : Addr).add j = ⟨b, j, none⟩ := by
  unfold Addr.add
  by_cases h : j = 0
  · simp [h]
  · simp [h]
theorem own_ge {w : World} {base n : Nat} {e : TypeId} {size : Nat} {v : Value} {xs : List Value} (h : w.ownsRow base e size v n xs) : ∀ k, v.ownBlock = some k → base ≤ k := by
  intro k hk
  rcases h.2 with ⟨hv, _⟩ | ⟨g, cap, cur, hv, hg, _⟩
  · rw [hv] at hk; cases hk
  · rw [hv] at hk
    simp [Value.ownBlock] at hk
    omega
theorem info3m : (Try.prog.info? 3).map (fun i => (i.zero, i.size, i.bytes)) = some (some (.int .i64 0), 1, 8) := by kernel_rfl
theorem info3 : ∃ i, Try.prog.info? 3 = some i ∧ i.zero = some (.int .i64 0) ∧ i.size = 1 ∧ i.bytes = 8 := by
  obtain ⟨i, hi, h⟩ := Option.map_eq_some_iff.1 info3m
  simp only [Prod.mk.injEq] at h
  exact ⟨i, hi, h.1, h.2.1, h.2.2⟩

/-- The row that outside sorts. -/
def srt (L : List Int) : List Int := L.mergeSort fun x y => decide (x ≤ y)
/-- What outside leaves. -/
def OutPost (s b hi lo M len : Nat) (L : List Int) (w : World) (e : Ending) (w' : World) : Prop :=
  Buts [s, b] w w' ∧ ((M ≤ len + 1 ∧ e = .returned (.tuple #[.int .i64 0, .bool false])) ∨
    (len + 1 < M ∧ ∃ v hi' lo' : Nat, v < M - (len + 1) ∧ Draws hi lo (M - (len + 1)) v hi' lo' ∧ e = .returned (.tuple #[.int .i64 (Free.bump (srt L) v), .bool true])))
theorem OutPost.no {s b hi lo M len : Nat} {L : List Int} {w w' : World} (h : M ≤ len + 1) (hb : Buts [s] w w') : OutPost s b hi lo M len L w (.returned (.tuple #[.int .i64 0, .bool false])) w' :=
  ⟨hb.mono (by simp), .inl ⟨h, rfl⟩⟩
theorem OutPost.yes {s b hi lo M len : Nat} {L : List Int} {w w' : World} (h : len + 1 < M) (hb : Buts [s, b] w w') {v hi' lo' : Nat} (hv : v < M - (len + 1)) (hd : Draws hi lo (M - (len + 1)) v hi' lo') {y : Int} (hy : y = Free.bump (srt L) v) :
    OutPost s b hi lo M len L w (.returned (.tuple #[.int .i64 y, .bool true])) w' := ⟨hb, .inr ⟨h, v, hi', lo', hv, hd, by rw [hy]⟩⟩
theorem drop_cons (R : List Int) (k : Nat) (h : k < R.length) : R.drop k = R.getD k 0 :: R.drop (k + 1) := by
  rw [List.drop_eq_getElem_cons h]
  simp [List.getD, List.getElem?_eq_getElem h]

set_option maxRecDepth 10000 in
set_option maxHeartbeats 1000000 in
theorem out_some (s r b hi lo rd : Nat) (mk : Value) (M : Nat) (but : Int) (tb len cp : Nat) (zs : List Int) (w : World)
    (hs : SamAt w s r mk rd (.slice none 0 0)) (hr : RandAt w r b) (hb : PcgAt w b hi lo) (hhi : hi < 18446744073709551616) (hlo : lo < 18446744073709551616)
    (htb : tb < w.heap.size) (hc : ∀ i, i < len → w.cell? ⟨tb, i, none⟩ = some (.int .i64 (zs.getD i 0))) (hl : zs.length = len)
    (hlen : len ≤ 131072) (hm1 : 1 ≤ M) (hm2 : M ≤ 65536) :
    Calls Try.prog 26 #[.pointer (some ⟨s, 0, none⟩), .int .i64 M, .slice (some ⟨tb, 0, none⟩) len cp, .int .i64 but] w (OutPost s b hi lo M len (zs ++ [but]) w) := by
  obtain ⟨i0, hi3, hz0, hz1, hz2⟩ := info3
  have c3 := hs.cell3
  have f3 := hs.frozen 3
  have own0 : w.ownsRow w.heap.size 3 1 (.slice none 0 0) 0 [] := World.ownsRow_nil _ _ _ _
  go_enter Try.func26, Try.ntmps26
  go_wp2_with (at_builtin; refine wpList_append_own _ rfl _ _ 23 rfl w.heap.size 3 i0 (.int .i64 0) 1 8 Try.underlying23 hi3 hz0 hz1 hz2 rfl (by decide) _ _ _ rfl own0 ⟨tb, 0, none⟩ len cp (zs.map (Value.int .i64)) rfl ?c0 ?c1 ?c2 ?c3 ?c4 ?c5 ?_)
  case c0 => simp [hl]
  case c1 =>
    intro j u hj
    rw [List.getElem?_map] at hj
    obtain ⟨t, ht, rfl⟩ := Option.map_eq_some_iff.1 hj
    have hj' : j < zs.length := (List.getElem?_eq_some_iff.1 ht).1
    have := hc j (by omega)
    rw [List.getD, ht] at this
    rw [addr_add0]
    exact this
  case c2 => intro u hu; obtain ⟨t, _, rfl⟩ := List.mem_map.1 hu; rfl
  case c3 => unfold maxLen; omega
  case c4 => omega
  case c5 => exact Nat.le_refl _
  intro v1 w1 own1 grow1 _
  replace own1 : w1.ownsRow w.heap.size 3 1 v1 len (zs.map (Value.int .i64)) := by simpa using own1
  have B1 : Buts [] w w1 := (Buts.refl [] w).grown grow1 (fun k hk => by cases hk)
  clear grow1 own0
  have sz1 := B1.size
  have own1a := own1.alloc (.cells #[.int .i64 but] 3)
  have O1 := hid own1
  have BB1 := hid B1
  clear own1 B1
  go_wp2_with (at_builtin; refine wpList_append_own _ rfl _ _ 23 rfl w.heap.size 3 i0 (.int .i64 0) 1 8 Try.underlying23 hi3 hz0 hz1 hz2 rfl (by decide) _ _ _ rfl own1a ⟨w1.heap.size, 0, none⟩ 1 1 [.int .i64 but] rfl ?d0 ?d1 ?d2 ?d3 ?d4 ?d5 ?_)
  case d0 => rfl
  case d1 =>
    intro j u hj
    match j, hj with
    | 0, hj => simp at hj; subst hj; simp [Addr.add]
  case d2 => intro u hu; simp at hu; subst hu; rfl
  case d3 => unfold maxLen; omega
  case d4 => omega
  case d5 => simp; omega
  intro v2 w2 own2 grow2 _
  have B2 : Buts [] w w2 := (BB1.out.alloc _).grown grow2 (fun k hk => .inl (own_ge O1.out k hk))
  replace own2 : w2.ownsRow w.heap.size 3 1 v2 (len + 1) ((zs ++ [but]).map (Value.int .i64)) := by simpa using own2
  have hex : ∃ g cap, v2 = .slice (some ⟨g, 0, none⟩) (len + 1) cap ∧ w.heap.size ≤ g ∧ len + 1 ≤ cap ∧ cap ≤ maxLen ∧ ∃ cur : Array Value, w2.heap[g]? = some (.cells cur 3 (0, 0)) ∧ cur.size = cap * 1 ∧ cur.toList.take (len + 1) = (zs ++ [but]).map (Value.int .i64) := by
    rcases own2.2 with ⟨_, h0⟩ | ⟨g, cap, cur, hv, hg, hb', h1, h2, h3, h4⟩
    · omega
    · exact ⟨g, cap, hv, hg, h1, h2, cur, hb', h3, by simpa using h4⟩
  obtain ⟨g, cap, hv2, hg, hcap1, hcap2, cur, hcur, hcurs, hcurt⟩ := hex
  rw [hv2]
  have hs2 : SamAt w2 s r mk rd (.slice none 0 0) := hs.of_block (B2.block s hs.lt (by simp))
  have q3 := hs2.cell3
  have p3 := hs2.frozen 3
  have hgs : g ≠ s := by have := hs.lt; omega
  have hg2 : g < w2.heap.size := (Array.getElem?_eq_some_iff.1 hcur).1
  have hlen1 : (zs ++ [but]).length = len + 1 := by simp [hl]
  have hH : Sort.Holds (Value.int .i64) (w2.setCell ⟨s, 3, none⟩ (.slice (some ⟨g, 0, none⟩) (len + 1) cap)) g 0 (zs ++ [but]).toArray :=
    holds_of_blockI (cur := cur) (e := 3) ((Below.heap_setCell _ _ _ _ hgs).trans hcur) (by rw [hlen1]; exact hcurt)
  have cs := Try.slices_Sort_int g 0 cap (zs ++ [but]) _ hH (by simpa [World.setCell] using hg2) (by rw [hlen1]; omega)
  rw [hlen1] at cs
  have CS := hid cs
  have S3 := hid (hs2.set3 (.slice (some ⟨g, 0, none⟩) (len + 1) cap))
  have BB2 := hid B2
  have HCU := hid hcur
  have HCS := hid hcurs
  have HL := hid hl
  have HL1 := hid hlen1
  have HC := hid hc
  have HS := hid hs
  have HR := hid hr
  have HP := hid hb
  clear cs hH hcur hcurs hcurt own2 grow2 own1a BB1 O1 hv2 B2 hl hlen1 hc hs hr hb hs2 c3 f3
  go_wp2_with fail
  refine CS.out.mono ?_
  rintro e w4 ⟨rfl, n4, os4, hw4⟩
  have B4 : Buts [s] w w4 := by
    refine Buts.grown ((BB2.out.mono (by simp)).setCell (p := ⟨s, 3, none⟩) (by simp) _) (hw4 ▸ grownBy_sortedI _) (fun k hk => ?_)
    simp at hk
    left; omega
  have S4 : SamAt w4 s r mk rd (.slice (some ⟨g, 0, none⟩) (len + 1) cap) := by
    refine S3.out.of_block ?_
    have hgr : (w2.setCell ⟨s, 3, none⟩ (.slice (some ⟨g, 0, none⟩) (len + 1) cap)).grownBy w4 (some g) := hw4 ▸ grownBy_sortedI _
    exact hgr.block s S3.out.lt (fun e => hgs (by simpa using e.symm))
  have hsl : ((zs ++ [but]).mergeSort fun x y => decide (x ≤ y)).length = len + 1 := by rw [List.length_mergeSort, HL1.out]
  have C4 : ∀ i, i < len + 1 → w4.cell? ⟨g, i, none⟩ = some (.int .i64 (((zs ++ [but]).mergeSort fun x y => decide (x ≤ y)).getD i 0)) := by
    have hown := ownsRow_sortedI (w := w2.setCell ⟨s, 3, none⟩ (.slice (some ⟨g, 0, none⟩) (len + 1) cap)) (base := w.heap.size) (g := g) (cap := cap) (n := n4) (e := 3) (os := os4) (cur := cur) (ss := zs ++ [but]) (ts := (zs ++ [but]).mergeSort fun x y => decide (x ≤ y)) (by rw [List.length_mergeSort]) hg ((Below.heap_setCell _ _ _ _ hgs).trans HCU.out) (by rw [HL1.out]; exact hcap1) hcap2 HCS.out
    rw [← hw4, HL1.out] at hown
    intro i hi
    rw [hown.cellAt i (by omega), List.getElem?_map, List.getElem?_eq_getElem (by rw [hsl]; exact hi)]
    simp [List.getD, List.getElem?_eq_getElem (show i < ((zs ++ [but]).mergeSort fun x y => decide (x ≤ y)).length by rw [hsl]; exact hi)]
  have hrs : r ≠ s := by
    intro e
    have h1 := HS.out
    have h2 := HR.out
    unfold SamAt at h1
    unfold RandAt at h2
    rw [e, h1] at h2
    simp at h2
  have hbs : b ≠ s := by
    intro e
    have h1 := HS.out
    have h2 := HP.out
    unfold SamAt at h1
    unfold PcgAt at h2
    rw [e, h1] at h2
    simp at h2
  have R4 := hid (HR.out.of_block (B4.block r HR.out.lt (by simp [hrs])))
  have P4 := hid (HP.out.of_block (B4.block b HP.out.lt (by simp [hbs])))
  have S4L := hid S4.lt
  have G4 : Hid (g < w4.heap.size) := by
    have hgr : (w2.setCell ⟨s, 3, none⟩ (.slice (some ⟨g, 0, none⟩) (len + 1) cap)).grownBy w4 (some g) := hw4 ▸ grownBy_sortedI _
    have := hgr.size
    simp [World.setCell] at this
    have h2 : g < w4.heap.size := by omega
    exact h2
  have s40 := S4.cell0
  have s43 := S4.cell3
  have hR : Hid (srt (zs ++ [but]) = (zs ++ [but]).mergeSort fun x y => decide (x ≤ y)) := rfl
  generalize ((zs ++ [but]).mergeSort fun x y => decide (x ≤ y)) = R at *
  have C4H := hid C4
  have B4H := hid B4
  have HSL := hid hsl
  clear C4 B4 hw4 S3 CS BB2 HCU HCS hsl S4 q3 p3 hg2
  by_cases hge : M ≤ len + 1
  · go_wp2_with fail
    go_ret2
    exact OutPost.no hge B4H.out
  · have hgt : len + 1 < M := by omega
    clear hge
    have ci := fun W hr hb => intn_any r b hi lo (M - (len + 1)) W hr hb hhi hlo (by omega) (by omega)
    have CI := hid ci
    clear ci
    have HW : Hid (IntKind.i64.wrap ((M : Int) - ((len : Int) + 1)) = ((M - (len + 1) : Nat) : Int)) := by
      have : IntKind.i64.wrap ((M : Int) - ((len : Int) + 1)) = ((M - (len + 1) : Nat) : Int) := by rw [IntKind.wrap_i64]; omega
      exact this
    go_wp2_with fail
    go_region_with (go_at_call 27; rw [HW.out]; refine (CI.out _ (by exact R4.out) (by exact P4.out)).mono ?_; rintro e w5 ⟨v, hi', lo', rfl, hv, hd, hp5, hq5⟩)
    all_goals
      have s53 : w5.cell? ⟨s, 3, none⟩ = some (.slice (some ⟨g, 0, none⟩) (len + 1) cap) := (hq5.cell (p := ⟨s, 3, none⟩) S4L.out (fun e => hbs e.symm)).trans s43
      have HD := hid hd
      have HP5 := hid hp5
      have HQ5 := hid hq5
      clear hd hp5 hq5
      have C5 : ∀ i, i < len + 1 → w5.cell? ⟨g, i, none⟩ = some (.int .i64 (R.getD i 0)) := fun i hi => (HQ5.out.cell (p := ⟨g, i, none⟩) G4.out (by have := HP.out.lt; simp; omega)).trans (C4H.out i hi)
      have C5H := hid C5
      clear C5
      go_wp2_with fail
      go_loop [10, 55] (fun x i => ∃ (k : Nat) (y : Int), k ≤ len + 1 ∧ i = .int .i64 k ∧ x = .int .i64 y ∧ 0 ≤ y ∧ y ≤ (v : Int) + k ∧ Hid (Free.bump (R.drop k) y = Free.bump R v)) (fun _ i => len + 1 - (intOf i).toNat)
      case atStart => exact ⟨0, v, by omega, rfl, rfl, by omega, by omega, rfl⟩
      case round =>
        obtain ⟨k, y, hk, rfl, rfl, hy0, hy1, HY⟩ := hrel
        by_cases hlt : k < len + 1
        · have hcell := C5H.out k hlt
          have hdr := hid (drop_cons R k (by rw [HSL.out]; exact hlt))
          generalize R.getD k 0 = t at *
          by_cases hbr : y < t
          · have HF : Hid (y = Free.bump R v) := by
              have h := HY.out
              rw [hdr.out] at h
              simp only [Free.bump, if_pos hbr] at h
              exact h
            go_wp2_with fail
            go_ret2
            exact OutPost.yes hgt ((B4H.out.mono (by simp)).drew.trans (HQ5.out.buts (L := [s, b]) (by simp))) hv HD.out (by rw [hR.out]; exact HF.out)
          · have HF : Hid (Free.bump (R.drop (k + 1)) (y + 1) = Free.bump R v) := by
              have h := HY.out
              rw [hdr.out] at h
              simp only [Free.bump, if_neg hbr] at h
              exact h
            go_wp2_with fail
            go_round
            case rel => exact ⟨k + 1, y + 1, by omega, by go_num, rfl, by omega, by omega, HF⟩
            case measure => simp [intOf]; omega
        · have HF : Hid (y = Free.bump R v) := by
            have h := HY.out
            rw [List.drop_eq_nil_of_le (by rw [HSL.out]; omega)] at h
            exact h
          go_wp2_with fail
          go_ret2
          exact OutPost.yes hgt ((B4H.out.mono (by simp)).drew.trans (HQ5.out.buts (L := [s, b]) (by simp))) hv HD.out (by rw [hR.out]; exact HF.out)
end Go.Proofs.Qxb6615739a
