/-
  zzs3411acheck: at rows of at most 1024 names it answers true.
-/
import Derived.Test.YbulkbrpsDoorAPos
import Derived.Test.YbulkbrpsDoorAModel
import Derived.Test.YbulkbrpsDoorACheckEnv
import Derived.Test.YbulkbrpsDoorARegion8
import Derived.BigQuiet
import Derived.Deep.RegionWith
import Derived.WalkSpells
namespace Go.Proofs.YbulkbrpsDoor
open Go.RowKit

/-- What stands behind the two reckonings. -/
structure Chk (w w3 : World) (gb bn : Nat) (ns : List ByteArray) (k : Nat) (r : Bool) : Prop where
  pat : PAt w3 gb (fun j => atTo (ST j) ns k) (fun j => atTo (EN j) ns k) (fun j => atTo (SRC j) ns k) r
  below : Below w.heap.size w w3
  fields : FieldsAt w3 w.heap.size ns
  strs : StrsAt w3 bn ns

set_option maxRecDepth 100000 in
set_option maxHeartbeats 4000000 in
theorem acheck_any (ns : List ByteArray) (n : Nat) (hn : n ≤ 1024) (bn : Nat) (w : World) (hl : Hid (ns.length = n)) (hs : Hid (StrsAt w bn ns)) (hb : bn < w.heap.size)
    (h1 : Hid (∀ j, j < 5 → w.cell? ⟨1, j, none⟩ = some (.string (ST j)))) (h2 : Hid (∀ j, j < 5 → w.cell? ⟨2, j, none⟩ = some (.string (EN j)))) (hg : 2 < w.heap.size) (hsz : Hid (∀ j, (ns.getD j ByteArray.empty).size ≤ maxLen)) :
    Calls Ybad.prog 9 #[.slice (some ⟨bn, 0, none⟩) n n] w fun e w' => e = .returned (.bool true) ∧ Below w.heap.size w w' := by
  go_enter Ybad.func9, Ybad.ntmps9
  have hmk := make39 n hn
  go_wp2
  clear hmk
  go_loopw [12] (fun i wr => ∃ k : Nat, k ≤ n ∧ i = .int .i64 k ∧ Below w.heap.size w wr ∧ w.heap.size < wr.heap.size ∧ FillAt wr w.heap.size ns k n) (fun i _ => n - (intOf i).toNat)
  case atStart =>
    exact ⟨0, Nat.zero_le _, rfl, (Below.refl _ _).alloc (Nat.le_refl _) _, by simp, fill_start _ _ _ _⟩
  case round =>
    obtain ⟨k, hk, rfl, hB0, hz0, hF0⟩ := hrel
    have hB : Hid (Below w.heap.size w wr) := hB0
    have hF : Hid (FillAt wr w.heap.size ns k n) := hF0
    by_cases hlt : k < n
    · have cx := hs.out.later hB0 hb k (by rw [hl.out]; exact hlt)
      obtain ⟨x, hxe⟩ : ∃ x, Hid (x = ns.getD k ByteArray.empty) := ⟨_, rfl⟩
      rw [← hxe.out] at cx
      clear hB0 hF0
      obtain ⟨⟨v0, c0⟩, ⟨v1, c1⟩, ⟨v2, c2⟩, f0, f1, f2⟩ := hF.out.three hlt
      go_wp2
      go_roundw
      case rel => exact ⟨k + 1, by omega, by go_num, below_setCells (Nat.le_refl _) [.string x, .string ⟨#[]⟩, .slice none 0 0] (k * 3) wr hB.out, by simpa using hz0, hF.out.step hlt hxe.out⟩
      case measure => simp [intOf]; omega
    · obtain rfl : k = n := by omega
      have hff : Hid (FieldsAt wr w.heap.size ns) := hF0.fields hl.out
      have hbw : w.heap.size < wr.heap.size := hz0
      have g1 : Hid (∀ j, j < 5 → wr.cell? ⟨1, j, none⟩ = some (.string (ST j))) := fun j hj => by
        rw [hB0.cell (p := ⟨1, j, none⟩) (by simp; omega)]; exact h1.out j hj
      have g2 : Hid (∀ j, j < 5 → wr.cell? ⟨2, j, none⟩ = some (.string (EN j))) := fun j hj => by
        rw [hB0.cell (p := ⟨2, j, none⟩) (by simp; omega)]; exact h2.out j hj
      clear hB0 hF0 hF hz0
      go_upto_region 8 with (first | (go_at_call 13; refine (pos_any ns k hn w.heap.size wr hl hff hbw g1 g2 (by omega) hsz).mono ?_; rintro e w' ⟨r, hr, rfl, hb2⟩) | refine wpList_allocT 46 zeroP alloc46 rfl rfl ?_ | refine wpList_storeT 46 zeroP (posTo ns k r) (by kernel_rfl) rfl (posC_one _ _ _ _) rfl _ _ rfl rfl rfl ?_)
      have hr0 : Hid (r = true ↔ twice ns k) := hr
      have hb1 : Hid (Below w.heap.size w w') := hB.out.trans (hb2.mono (Nat.le_of_lt hbw))
      have hz1 : w.heap.size < w'.heap.size := Nat.lt_of_lt_of_le hbw hb2.size
      have hff1 : Hid (FieldsAt w' w.heap.size ns) := hff.out.later hb2 hbw
      clear hr hb2 hff g1 g2 hB
      have hB3 : Hid (Below w.heap.size w (w'.alloc (.cells (posTo ns k r) 46)).drew) := by
        have h := hb1.out.alloc (Nat.le_of_lt hz1) (.cells (posTo ns k r) 46)
        exact ⟨h.os, h.tape, h.output, h.size, h.block⟩
      have hback : Hid (∀ w3, Below (w'.alloc (.cells (posTo ns k r) 46)).drew.heap.size (w'.alloc (.cells (posTo ns k r) 46)).drew w3 → Chk w w3 w'.heap.size bn ns k r) := fun w3 hb3 => by
        have hlt : w'.heap.size < (w'.alloc (.cells (posTo ns k r) 46)).drew.heap.size := by simp
        refine ⟨?_, hB3.out.trans (hb3.mono (by omega)), ?_, (hs.out.later hB3.out hb).later hb3 (by omega)⟩
        · unfold PAt; rw [hb3.block _ hlt]; exact heap_alloc_new w' _
        · refine FieldsAt.later (w := (w'.alloc (.cells (posTo ns k r) 46)).drew) ?_ hb3 (by omega)
          exact FieldsAt.of_heap (hff1.out.later ((Below.refl w'.heap.size w').alloc (Nat.le_refl _) _) hz1) rfl
      refine region8 (by kernel_rfl) rfl (by kernel_rfl) (by kernel_rfl) (by kernel_rfl) (by kernel_rfl) (by kernel_rfl) bn k w'.heap.size (fun j => atTo (ST j) ns k) (fun j => atTo (EN j) ns k) (fun j => atTo (SRC j) ns k) r (fun w3 => Chk w w3 w'.heap.size bn ns k r) rfl rfl rfl rfl (heap_alloc_new _ _) (fun _ h => h.pat) (by kernel_rfl) ?_ ?_
      · refine (amodel_any ns k hn bn (w'.alloc (.cells (posTo ns k r) 46)).drew hl (hs.out.later hB3.out hb) (by simp; omega)).mono ?_
        rintro e w3 ⟨r', hr', rfl, hb3⟩
        obtain rfl : r' = r := Bool.eq_iff_iff.2 (hr'.trans hr0.out.symm)
        exact ⟨rfl, hback.out _ hb3⟩
      · intro v0 v1 v2 w3 hC
        clear hback hB3 hb1 hz1 hff1 hr0
        simp only [putFrom, Act.put, List.setIfInBounds_toArray, List.set_cons_succ, List.set_cons_zero]
        have hB : Hid (Below w.heap.size w w3) := hC.below
        have hF : Hid (FieldsAt w3 w.heap.size ns) := hC.fields
        have hS : Hid (StrsAt w3 bn ns) := hC.strs
        clear hC
        go_wp2
        go_loopw [32] (fun i wr => ∃ q : Nat, q ≤ k ∧ i = .int .i64 q ∧ Below w.heap.size w wr ∧ FieldsAt wr w.heap.size ns ∧ StrsAt wr bn ns) (fun i _ => k - (intOf i).toNat)
        case atStart => exact ⟨0, Nat.zero_le _, rfl, hB.out, hF.out, hS.out⟩
        case round =>
          clear hB hF hS
          obtain ⟨q, hq, rfl, hB0, hF0, hS0⟩ := hrel
          have hB : Hid (Below w.heap.size w wr) := hB0
          have hF : Hid (FieldsAt wr w.heap.size ns) := hF0
          have hS : Hid (StrsAt wr bn ns) := hS0
          by_cases hlt : q < k
          · obtain ⟨c0, c1, c2⟩ := hF0 q (by rw [hl.out]; exact hlt)
            have cn := hS0 q (by rw [hl.out]; exact hlt)
            obtain ⟨x, hxe⟩ : ∃ x, Hid (x = ns.getD q ByteArray.empty) := ⟨_, rfl⟩
            rw [← hxe.out] at c0 cn
            clear hB0 hF0 hS0
            go_wp2
            go_quiet (fail)
            go_wp2
            go_roundw
            case rel => exact ⟨q + 1, by omega, by go_num, ⟨hB.out.os, hB.out.tape, hB.out.output, hB.out.size, hB.out.block⟩, FieldsAt.of_heap hF.out rfl, fun j hj => cell_drewN (hS.out j hj) _⟩
            case measure => simp [intOf]; omega
          · clear hB0 hF0 hS0
            go_wp2
            go_ret
            exact ⟨rfl, hB.out⟩
end Go.Proofs.YbulkbrpsDoor
