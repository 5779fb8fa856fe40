/-
  The keys -4 .. 15 of the two laws over record.Recorder: their shards and slots; index, home, find, Shard walked.
-/
import Derived.Test.YbulkaqgyRows
import Derived.Test.YbulkaqgyHeap
import Derived.WalkKit
import Derived.WalkSpells
import Derived.WalkLawsBesides
import Derived.BigQuiet
import Derived.Deep.QuietTactic
import Derived.BigRegion
import Derived.Deep.RegionHeld3
import Derived.Deep.DeepCutAuto
namespace Go.Proofs.Ybulkaqgy.Rec
open Go.RowKit Go.Deep
set_option linter.unusedVariables false

/-- the keys that the two laws use -/
def K (k : Int) : Prop := -4 ≤ k ∧ k < 16
/-- the shard of a key -/
def idx (k : Int) : Nat := [33, 9, 48, 24, 0, 39, 15, 54, 30, 5, 45, 20, 60, 35, 11, 51, 26, 2, 41, 17].getD (k + 4).toNat 0
/-- the slot that a key's hash picks in a table of eight -/
def hm (k : Int) : Nat := if k < 1 then 0 else 7

theorem K_cases {k : Int} (h : K k) : k = -4 ∨ k = -3 ∨ k = -2 ∨ k = -1 ∨ k = 0 ∨ k = 1 ∨ k = 2 ∨ k = 3 ∨ k = 4 ∨ k = 5 ∨ k = 6 ∨ k = 7 ∨ k = 8 ∨ k = 9 ∨ k = 10 ∨ k = 11 ∨ k = 12 ∨ k = 13 ∨ k = 14 ∨ k = 15 := by
  unfold K at h; omega

theorem idx_inj {k k' : Int} (h : K k) (h' : K k') (e : idx k = idx k') : k = k' := by
  obtain ⟨a, ha⟩ : ∃ a : Fin 20, k = (a.val : Int) - 4 := ⟨⟨(k + 4).toNat, by unfold K at h; omega⟩, by unfold K at h; simp; omega⟩
  obtain ⟨b, hb⟩ : ∃ b : Fin 20, k' = (b.val : Int) - 4 := ⟨⟨(k' + 4).toNat, by unfold K at h'; omega⟩, by unfold K at h'; simp; omega⟩
  subst ha hb
  have : ∀ a b : Fin 20, idx ((a.val : Int) - 4) = idx ((b.val : Int) - 4) → a = b := by decide
  rw [this a b e]
theorem idx_lt (k : Int) (h : K k) : idx k < 64 := by
  rcases K_cases h with h | h | h | h | h | h | h | h | h | h | h | h | h | h | h | h | h | h | h | h <;> subst h <;> decide
theorem hm_lt (k : Int) : hm k < 8 := by unfold hm; split <;> omega

theorem ret_int {k : IntKind} {a b : Int} (h : a = b) : Ending.returned (.int k a) = .returned (.int k b) := by rw [h]

theorem idx_eq (k : Int) (hk : K k) : wrap64 (IntKind.u64.wrap (IntKind.u64.wrap k * 11400714819323198485) / 288230376151711744) = (idx k : Int) := by
  rcases K_cases hk with h | h | h | h | h | h | h | h | h | h | h | h | h | h | h | h | h | h | h | h <;> subst h <;> decide +kernel

set_option maxHeartbeats 400000 in
theorem index_any (k : Int) (hk : K k) (w : World) : Calls Yba.prog 13 #[.int .i64 k] w fun e w' => e = .returned (.int .i64 (idx k)) ∧ w' = w := by
  have HK : Hid _ := hk
  clear hk
  go_enter Yba.func13, Yba.ntmps13
  go_wp2
  go_ret
  exact ⟨ret_int (idx_eq k HK.out), rfl⟩

theorem hm_eq (k : Int) (hk : K k) : wrap64 (bits BinOp.xor IntKind.u64 (IntKind.u64.wrap (bits BinOp.xor IntKind.u64 (IntKind.u64.wrap k) (IntKind.u64.wrap k / 8589934592) * 18397679294719823053))
    (IntKind.u64.wrap (bits BinOp.xor IntKind.u64 (IntKind.u64.wrap k) (IntKind.u64.wrap k / 8589934592) * 18397679294719823053) / 8589934592) / 2305843009213693952) = (hm k : Int) := by
  rcases K_cases hk with h | h | h | h | h | h | h | h | h | h | h | h | h | h | h | h | h | h | h | h <;> subst h <;> decide +kernel

set_option maxHeartbeats 400000 in
theorem home_any (k : Int) (hk : K k) (b o : Nat) (w : World) (hs : w.cell? ⟨b, o + 2, none⟩ = some (.int .u64 61)) : Calls Yba.prog 19 #[.pointer (some ⟨b, o, none⟩), .int .i64 k] w fun e w' => e = .returned (.int .i64 (hm k)) ∧ w' = w := by
  have HK : Hid _ := hk
  clear hk
  go_enter Yba.func19, Yba.ntmps19
  go_wp2
  go_ret
  exact ⟨ret_int (hm_eq k HK.out), rfl⟩

set_option maxHeartbeats 400000 in
theorem find_used (k : Int) (hk : K k) (b o s : Nat) (w : World) (hsl : w.cell? ⟨b, o, none⟩ = some (.slice (some ⟨s, 0, none⟩) 8 8)) (hs : w.cell? ⟨b, o + 2, none⟩ = some (.int .u64 61))
    (hu : w.cell? ⟨s, hm k * 5 + 1, none⟩ = some (.bool true)) (hkey : w.cell? ⟨s, hm k * 5, none⟩ = some (.int .i64 k)) :
    Calls Yba.prog 14 #[.pointer (some ⟨b, o, none⟩), .int .i64 k] w fun e w' => e = .returned (.int .i64 (hm k)) ∧ w' = w := by
  have HK : Hid _ := hk
  have hh := hm_lt k
  clear hk
  go_enter Yba.func14, Yba.ntmps14
  go_wp2_with (go_at_call 19; refine (home_any k HK.out b o _ hs).mono ?_; rintro e w' ⟨rfl, rfl⟩)
  refine wp_loop_rounds 1 ?_
  rw [rounds_succ]
  go_wp2
  go_ret
  exact ⟨rfl, rfl⟩

set_option maxHeartbeats 400000 in
theorem find_free (k : Int) (hk : K k) (b o s : Nat) (w : World) (hsl : w.cell? ⟨b, o, none⟩ = some (.slice (some ⟨s, 0, none⟩) 8 8)) (hs : w.cell? ⟨b, o + 2, none⟩ = some (.int .u64 61))
    (hu : w.cell? ⟨s, hm k * 5 + 1, none⟩ = some (.bool false)) :
    Calls Yba.prog 14 #[.pointer (some ⟨b, o, none⟩), .int .i64 k] w fun e w' => e = .returned (.int .i64 (hm k)) ∧ w' = w := by
  have HK : Hid _ := hk
  have hh := hm_lt k
  clear hk
  go_enter Yba.func14, Yba.ntmps14
  go_wp2_with (go_at_call 19; refine (home_any k HK.out b o _ hs).mono ?_; rintro e w' ⟨rfl, rfl⟩)
  refine wp_loop_rounds 1 ?_
  rw [rounds_succ]
  go_wp2
  go_ret
  exact ⟨rfl, rfl⟩

set_option maxHeartbeats 400000 in
theorem shard_any (k : Int) (hk : K k) (b o : Nat) (w : World) :
    Calls Yba.prog 9 #[.pointer (some ⟨b, o, none⟩), .int .i64 k] w fun e w' => e = .returned (.pointer (some ⟨b, o + idx k * 21, none⟩)) ∧ ∃ n, w' = w.drewN n := by
  have HK : Hid _ := hk
  have hh := idx_lt k hk
  have hh2 : (idx k : Int) < 64 := by omega
  clear hk
  go_enter Yba.func9, Yba.ntmps9
  go_wp2
  go_quiet ((go_at_call 13; exact Calls.quiet_of_same (index_any k HK.out _)))
  go_wp2
  go_ret
  exact ⟨rfl, _, rfl⟩
end Go.Proofs.Ybulkaqgy.Rec
