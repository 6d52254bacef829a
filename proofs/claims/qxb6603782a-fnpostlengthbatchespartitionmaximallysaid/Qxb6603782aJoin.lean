/-
  zzToRaft, postLength, zzTopDown at whatever slice of Messages.
-/
import Derived.Test.Qxb6603782aRaft
import Derived.Test.Qxb6603782aPost
import Derived.Test.Qxb6603782aTooBig
namespace Go.Proofs.Qxb6603782a
open Go.RowKit

theorem mkr0 (w : World) : (Instr.makeSlice 25 (.int .i64 0) (.int .i64 0)).run Try.prog w = .ok (.slice (some ⟨w.heap.size, 0, none⟩) 0 0) (w.alloc (.cells #[] 47)) := by kernel_rfl

set_option maxHeartbeats 400000 in
theorem raft_empty (x : Addr) (c : Nat) (w : World) : Calls Try.prog 9 #[.slice (some x) 0 c] w fun e w' => e = .returned (.slice (some ⟨w.heap.size, 0, none⟩) 0 0) ∧ Below w.heap.size w w' := by
  have hmk := mkr0
  have hnil := eqnil22
  go_enter Try.func9, Try.ntmps9
  go_wp2
  refine wp_loop_rounds 1 ?_
  rw [rounds_succ]
  go_wp2
  go_ret
  exact ⟨rfl, (Below.refl _ _).alloc (Nat.le_refl _) _⟩

/-- What zzToRaft gives. -/
def RaftPost (n : Nat) (M : Nat → MsgC) (E : Nat → Nat → EntC) (w : World) (e : Ending) (w' : World) : Prop :=
  ∃ a' M', e = .returned (.slice a' n n) ∧ (∀ i, i < n → (MsgC.en (M' i)) = (M i).en) ∧ rowAt w' a' n M' E ∧ Below w.heap.size w w'

theorem raft_any (a : Option Addr) (n c : Nat) (M : Nat → MsgC) (E : Nat → Nat → EntC) (w : World) (hn : n ≤ 1048576) (hB : Bound n M E) (hnl : ∀ i, i < n → (M i).ea = none → (M i).en = 0) (hz : a = none → n = 0 ∧ c = 0) (hr : rowAt w a n M E) :
    Calls Try.prog 9 #[.slice a n c] w fun e w' => RaftPost n M E w e w' := by
  cases a with
  | none =>
    obtain ⟨rfl, rfl⟩ := hz rfl
    refine (raft_nil w).mono ?_
    rintro e w' ⟨rfl, rfl⟩
    exact ⟨none, M, rfl, fun _ _ => rfl, .inl rfl, Below.refl _ _⟩
  | some x =>
    by_cases h0 : n = 0
    · subst h0
      refine (raft_empty x c w).mono ?_
      rintro e w' ⟨rfl, hb⟩
      exact ⟨_, M, rfl, fun _ _ => rfl, .inl rfl, hb⟩
    · obtain ⟨b, o, hx, h2⟩ := hr.resolve_left h0
      obtain rfl := Option.some.inj hx
      refine (raft_plain b o n c M E w hn hB hnl h2).mono ?_
      rintro e w' ⟨rfl, ho, hb⟩
      obtain ⟨M', h3, h4⟩ := ho.row
      exact ⟨_, M', rfl, h3, .inr ⟨_, 0, rfl, h4⟩, hb⟩

set_option maxHeartbeats 400000 in
theorem post_none (a : Option Addr) (c : Nat) (P : Nat → Nat) (w : World) : Calls Try.prog 17 #[.slice a 0 c] w fun e w' => PostPost 0 P w e w' := by
  go_enter Try.func17, Try.ntmps17
  go_wp2
  refine wp_loop_rounds 1 ?_
  rw [rounds_succ]
  go_wp2
  go_ret
  exact ⟨0, rfl, ⟨Nat.le_refl _, fun h => h, fun h => by omega, fun h => by omega⟩, Below.refl _ _⟩

theorem post_any (a : Option Addr) (n c : Nat) (M : Nat → MsgC) (E : Nat → Nat → EntC) (w : World) (hn : n ≤ 1048576) (hB : Bound n M E) (hr : rowAt w a n M E) :
    Calls Try.prog 17 #[.slice a n c] w fun e w' => PostPost n (PTo M E) w e w' := by
  by_cases h0 : n = 0
  · subst h0
    exact post_none a c _ w
  · obtain ⟨b, o, rfl, h2⟩ := hr.resolve_left h0
    exact post_some b o n c M E w hn hB h2

theorem zzpost_any (a : Option Addr) (n c : Nat) (M : Nat → MsgC) (E : Nat → Nat → EntC) (w : World) (hn : n ≤ 1048576) (hB : Bound n M E) (hr : rowAt w a n M E) :
    Calls Try.prog 8 #[.slice a n c] w fun e w' => PostPost n (PTo M E) w e w' := by
  go_enter Try.func8, Try.ntmps8
  go_wp2_with fail
  refine (post_any a n c M E w hn hB hr).mono ?_
  rintro e w' ⟨r, rfl, hm, hb⟩
  go_wp2_with fail
  go_ret
  exact ⟨r, rfl, hm, hb⟩

set_option maxHeartbeats 400000 in
theorem top_none (a : Option Addr) (c : Nat) (P : Nat → Nat) (w : World) : Calls Try.prog 10 #[.slice a 0 c] w fun e w' => PostPost 0 P w e w' := by
  go_enter Try.func10, Try.ntmps10
  go_wp2
  refine wp_loop_rounds 1 ?_
  rw [rounds_succ]
  go_wp2
  refine wp_loop_rounds 1 ?_
  rw [rounds_succ]
  go_wp2
  go_ret
  exact ⟨0, rfl, ⟨Nat.le_refl _, fun h => h, fun h => by omega, fun h => by omega⟩, Below.refl _ _⟩

theorem top_any (a : Option Addr) (n c : Nat) (M : Nat → MsgC) (E : Nat → Nat → EntC) (w : World) (hn : n ≤ 1048576) (hB : Bound n M E) (hr : rowAt w a n M E) :
    Calls Try.prog 10 #[.slice a n c] w fun e w' => PostPost n (PTo M E) w e w' := by
  by_cases h0 : n = 0
  · subst h0
    exact top_none a c _ w
  · obtain ⟨b, o, rfl, h2⟩ := hr.resolve_left h0
    exact top_some b o n c M E w hn hB h2

theorem MaxRun.congr {n : Nat} {P P' : Nat → Nat} (h : ∀ k, k ≤ n → P k = P' k) {r : Nat} (hm : MaxRun n P r) : MaxRun n P' r := by
  obtain ⟨h1, h2, h3, h4⟩ := hm
  refine ⟨h1, h2, fun hr => ?_, fun hr => ?_⟩
  · rw [← h r h1]; exact h3 hr
  · rw [← h (r + 1) hr]; exact h4 hr

theorem Bound.congr {n : Nat} {M M' : Nat → MsgC} {E : Nat → Nat → EntC} (h : ∀ i, i < n → (M' i).en = (M i).en) (hB : Bound n M E) : Bound n M' E := by
  intro i hi
  rw [h i hi]
  exact hB i hi
end Go.Proofs.Qxb6603782a
