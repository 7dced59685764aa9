/-
  THE LAW 'record.LawS3411ATable' WALKED: it answers true.
-/
import Derived.Test.YbulkbrpsDoorALaws
import Derived.Test.YbulkbrpsDoorAName
namespace Go.Proofs.YbulkbrpsDoor
open Go.RowKit

theorem NamesAt.later {w w' : World} {b : Nat} {ns : List ByteArray} {n : Nat} (h : NamesAt w b ns n) {B : Nat} (hb : Below B w w') (hlt : b < B) : NamesAt w' b ns n := by
  refine ⟨fun j hj => ?_, h.2.later hb hlt⟩
  obtain ⟨h1, h2⟩ := h.1 j hj
  refine ⟨by rw [hb.cell (p := ⟨b, 0 + j, none⟩) hlt]; exact h1, ?_⟩
  rw [World.frozen?_of_block (w := w) (hb.block b hlt)]; exact h2

/-- What the table's loop keeps. -/
structure TEnv (w wr : World) (k n : Nat) (ns : List ByteArray) : Prop where
  below : Below w.heap.size w wr
  lt : w.heap.size < wr.heap.size
  len : ns.length = k
  names : NamesAt wr w.heap.size ns n
  small : ∀ s ∈ ns, s.size ≤ maxLen

theorem TEnv.step {w wr w' : World} {k n : Nat} {ns : List ByteArray} (h : TEnv w wr k n ns) (hk : k < n) (hb : Below wr.heap.size wr w') (s : ByteArray) (hs : s.size ≤ maxLen) :
    TEnv w (w'.setCell ⟨w.heap.size, k, none⟩ (.string s)) (k + 1) n (ns ++ [s]) where
  below := (h.below.trans (hb.mono (Nat.le_of_lt h.lt))).setCell (by simp) _
  lt := by
    have := hb.size
    have := h.lt
    simp
    omega
  len := by simp [h.len]
  names := by
    have := (h.names.later hb h.lt).step (by rw [h.len]; exact hk) s
    rw [h.len] at this
    exact this
  small := fun x hx => by
    rcases List.mem_append.1 hx with h' | h'
    · exact h.small x h'
    · rw [List.mem_singleton.1 h']; exact hs

set_option maxRecDepth 100000 in
set_option maxHeartbeats 2000000 in
theorem atable_any (sp : Option Addr) (n cap : Nat) (rp : Option Addr) (m rcap : Nat) (w : World) (hm : m ≤ maxLen)
    (hsel : Hid (0 < n → ∃ ad, sp = some ad ∧ ∀ j, j < n → ∃ b : Nat, b < 256 ∧ w.cell? (ad.add j) = some (.int .u8 b)))
    (hraw : Hid (0 < m → ∃ ad, rp = some ad ∧ ∀ j, j < m → ∃ s : ByteArray, w.cell? (ad.add j) = some (.string s) ∧ s.size ≤ maxLen))
    (h1 : Hid (∀ j, j < 5 → w.cell? ⟨1, j, none⟩ = some (.string (ST j)))) (h2 : Hid (∀ j, j < 5 → w.cell? ⟨2, j, none⟩ = some (.string (EN j)))) (hg : 2 < w.heap.size) :
    Calls Ybad.prog 3 #[.slice sp n cap, .slice rp m rcap] w fun e w' => e = .returned (.bool true) ∧ Below w.heap.size w w' := by
  go_enter Ybad.func3, Ybad.ntmps3
  by_cases hn : n ≤ 1024
  · have hmk := make23 n hn
    go_wp2
    clear hmk
    go_loopw [16] (fun i wr => ∃ k : Nat, k ≤ n ∧ i = .int .i64 k ∧ ∃ ns, TEnv w wr k n ns) (fun i _ => n - (intOf i).toNat)
    case atStart =>
      exact ⟨0, Nat.zero_le _, rfl, [], (Below.refl _ _).alloc (Nat.le_refl _) _, by simp, rfl, (by have h := names_start w #[.string ⟨#[]⟩] n; rwa [Nat.mul_one] at h), fun s hs => by cases hs⟩
    case round =>
      obtain ⟨k, hk, rfl, ns, hT0⟩ := hrel
      have hT : Hid (TEnv w wr k n ns) := hT0
      clear hT0
      by_cases hlt : k < n
      · obtain ⟨ad, hsp, hcell⟩ := hsel.out (by omega)
        obtain ⟨b, hb, hc0⟩ := hcell k hlt
        have hc : wr.cell? (ad.add k) = some (.int .u8 b) := by
          rw [hT.out.below.cell (World.block_lt_of_cell? w _ hc0)]; exact hc0
        clear hcell hc0
        subst hsp
        have hr2 : Hid (0 < m → ∃ ad, rp = some ad ∧ ∀ j, j < m → ∃ s : ByteArray, wr.cell? (ad.add j) = some (.string s) ∧ s.size ≤ maxLen) := fun h0 => by
          obtain ⟨ad, e, hcl⟩ := hraw.out h0
          refine ⟨ad, e, fun j hj => ?_⟩
          obtain ⟨s, hs, hss⟩ := hcl j hj
          exact ⟨s, by rw [hT.out.below.cell (World.block_lt_of_cell? w _ hs)]; exact hs, hss⟩
        have hst : Hid (∀ w', Below wr.heap.size wr w' → (∃ v, w'.cell? ⟨w.heap.size, k, none⟩ = some v) ∧ w'.frozen? ⟨w.heap.size, k, none⟩ = false) := fun w' hb2 => by
          have h := (hT.out.names.later hb2 hT.out.lt).1 k hlt
          rw [Nat.zero_add] at h
          exact ⟨Option.isSome_iff_exists.1 h.1, h.2⟩
        go_wp2_with (go_at_call 8; refine (aname_any b hb rp m rcap wr hm hr2).mono ?_; rintro e w' ⟨s, rfl, hss, hb2⟩; obtain ⟨⟨v, hv⟩, hf⟩ := hst.out w' hb2)
        go_roundw
        case rel => exact ⟨k + 1, by omega, by go_num, ns ++ [s], hT.out.step hlt hb2 s hss⟩
        case measure => simp [intOf]; omega
      · obtain rfl : k = n := by omega
        have hcall : Hid (Calls Ybad.prog 9 #[.slice (some ⟨w.heap.size, 0, none⟩) k k] wr fun e w2 => e = .returned (.bool true) ∧ Below w.heap.size w w2) := by
          have h := hT.out
          refine (acheck_any ns k hn w.heap.size wr h.len h.names.2 h.lt (fun j hj => ?_) (fun j hj => ?_) (by have := h.lt; omega) (fun j => ?_)).mono fun e w2 ⟨he, hb2⟩ => ⟨he, h.below.trans (hb2.mono (Nat.le_of_lt h.lt))⟩
          · rw [h.below.cell (p := ⟨1, j, none⟩) (by simp; omega)]; exact h1.out j hj
          · rw [h.below.cell (p := ⟨2, j, none⟩) (by simp; omega)]; exact h2.out j hj
          · by_cases hj : j < ns.length
            · have e : ns.getD j ByteArray.empty = ns[j] := by simp [List.getD, hj]
              rw [e]
              exact h.small _ (List.getElem_mem hj)
            · have e : ns.getD j ByteArray.empty = ByteArray.empty := by simp [List.getD, List.getElem?_eq_none (Nat.le_of_not_lt hj)]
              rw [e]; decide
        go_wp2_with (go_at_call 9; refine hcall.out.mono ?_; rintro e w2 ⟨rfl, hb2⟩)
        go_ret
        exact ⟨rfl, hb2⟩
  · go_wp2
    go_ret
    exact ⟨rfl, Below.refl _ _⟩
end Go.Proofs.YbulkbrpsDoor
