import Derived.Test.Qxb6600554aWkd
namespace Go.Proofs.Qxb6600554a
open Go.RowKit

/-- The unit letters from a rank on. -/
def us : Nat → ByteArray
  | 1 => ⟨#[104, 109, 115]⟩
  | 2 => ⟨#[109, 115]⟩
  | 3 => ⟨#[115]⟩
  | _ => ⟨#[]⟩
def ix (lo c : Nat) : Int := if Pl.rank c < (lo : Int) then -1 else Pl.rank c - (lo : Int)

theorem ix_fin : ∀ lo : Fin 4, ∀ c : Fin 256, Lib.indexByte (us (lo.val + 1)).data.toList ((c.val : Int).toNat.toUInt8) = ix (lo.val + 1) c.val := by decide +kernel
theorem ix_lo (lo c : Nat) (h1 : 1 ≤ lo) (h4 : lo ≤ 4) (hc : c < 256) : Lib.indexByte (us lo).data.toList ((c : Int).toNat.toUInt8) = ix lo c := by
  have := ix_fin ⟨lo - 1, by omega⟩ ⟨c, hc⟩
  simpa [show lo - 1 + 1 = lo by omega] using this

theorem index49 (lo c : Nat) (w : World) (h1 : 1 ≤ lo) (h4 : lo ≤ 4) (hc : c < 256) : Calls Try.prog 49 #[.string (us lo), .int .u8 (c : Int)] w fun e w' => e = .returned (.int .i64 (ix lo c)) ∧ w = w' :=
  (Try.strings_IndexByte (us lo) (c : Int) w).mono (by
    rintro e w' ⟨rfl, rfl⟩
    exact ⟨by rw [ix_lo lo c h1 h4 hc], rfl⟩)

theorem rank_cases (c : Nat) : Pl.rank c = -1 ∨ (c = 100 ∧ Pl.rank c = 0) ∨ (c = 104 ∧ Pl.rank c = 1) ∨ (c = 109 ∧ Pl.rank c = 2) ∨ (c = 115 ∧ Pl.rank c = 3) := by
  unfold Pl.rank
  split
  · right; left; exact ⟨by assumption, rfl⟩
  · split
    · right; right; left; exact ⟨by assumption, rfl⟩
    · split
      · right; right; right; left; exact ⟨by assumption, rfl⟩
      · split
        · right; right; right; right; exact ⟨by assumption, rfl⟩
        · left; rfl

theorem us_cut (lo : Nat) (r : Nat) (h1 : 1 ≤ lo) (h2 : lo ≤ r) (h3 : r ≤ 3) : (us lo).extract (r - lo + 1) (us lo).size = us (r + 1) ∧ r - lo + 1 ≤ (us lo).size := by
  have h : (lo = 1 ∧ (r = 1 ∨ r = 2 ∨ r = 3)) ∨ (lo = 2 ∧ (r = 2 ∨ r = 3)) ∨ (lo = 3 ∧ r = 3) := by omega
  rcases h with ⟨rfl, rfl | rfl | rfl⟩ | ⟨rfl, rfl | rfl⟩ | ⟨rfl, rfl⟩ <;> decide +kernel

set_option maxRecDepth 100000 in
set_option maxHeartbeats 400000 in
theorem seconds50 (c : Nat) (w : World) (h : 1 ≤ Pl.rank c) : Calls Try.prog 50 #[.int .u8 (c : Int)] w fun e w' => e = .returned (.int .i64 (Pl.scale (Pl.rank c))) ∧ w = w' := by
  rcases rank_cases c with k | ⟨rfl, k⟩ | ⟨rfl, k⟩ | ⟨rfl, k⟩ | ⟨rfl, k⟩
  · omega
  · omega
  all_goals
    rw [k]
    clear h k
    go_enter Try.func50, Try.ntmps50
    go_wp2
    go_ret
    exact ⟨rfl, rfl⟩

def stepU (t v k : Int) : Int := wrap64 (t + wrap64 (v * k))
end Go.Proofs.Qxb6600554a
