/-
  What makes a diagnostic's text: Place, Errorf.
-/
import Derived.Test.Qxb6002619aFmtSprint
namespace Go.Proofs.Qxb6002619aFmt
open Go.RowKit Go.Extern.Stop Go.Stop Go.Extern

theorem one_cell {w : World} {a : Value} {t : TypeId} : ∀ (j : Nat) (v : Value), [a][j]? = some v → (w.alloc (.cells #[a] t)).cell? ⟨w.heap.size, j, none⟩ = some v := by
  intro j v h
  rw [cell_of (alloc_new w (.cells #[a] t)) j]
  simpa using h

def TextPost (w : World) (e' : Ending) (w' : World) : Prop := (∃ s, e' = .returned (.string s)) ∧ Below w.heap.size w w'

set_option maxHeartbeats 2000000 in
theorem place_any (F : Interp) (line fl : Int) (w : World) (hF : F.answers w.tape) : Calls Tryf.prog 23 #[.int .i64 line, .int .i64 fl] w fun e' w' => TextPost w e' w' := by
  by_cases h : 0 < line
  · have hp := prints_any F (w.alloc (.cells #[.iface 3 (.int .i64 line)] 20)) hF ⟨#[108, 105, 110, 101, 32, 37, 100]⟩ w.heap.size 1 1 [.iface 3 (.int .i64 line)] rfl one_cell (fun v hv => by simp only [List.mem_singleton] at hv; exact Or.inr ⟨_, hv⟩)
    rcases hp with ⟨s, hrun⟩ | ⟨row, sv, hrun, hrows⟩
    · go_enter Tryf.func23, Tryf.ntmps23
      go_wp2
      go_ret
      exact ⟨⟨_, rfl⟩, ((Below.refl _ _).alloc (Nat.le_refl _) _).drew⟩
    · have HR := hide hrows
      clear hrows
      go_enter Tryf.func23, Tryf.ntmps23
      go_wp2
      refine HR.out _ fun s => ?_
      go_wp2
      go_ret
      exact ⟨⟨_, rfl⟩, ((Below.refl _ _).alloc (Nat.le_refl _) _).drew⟩
  · have hp := prints_any F (w.alloc (.cells #[.iface 3 (.int .i64 fl)] 20)) hF ⟨#[102, 105, 108, 101, 32, 108, 105, 110, 101, 32, 37, 100]⟩ w.heap.size 1 1 [.iface 3 (.int .i64 fl)] rfl one_cell (fun v hv => by simp only [List.mem_singleton] at hv; exact Or.inr ⟨_, hv⟩)
    rcases hp with ⟨s, hrun⟩ | ⟨row, sv, hrun, hrows⟩
    · go_enter Tryf.func23, Tryf.ntmps23
      go_wp2
      go_ret
      exact ⟨⟨_, rfl⟩, ((Below.refl _ _).alloc (Nat.le_refl _) _).drew⟩
    · have HR := hide hrows
      clear hrows
      go_enter Tryf.func23, Tryf.ntmps23
      go_wp2
      refine HR.out _ fun s => ?_
      go_wp2
      go_ret
      exact ⟨⟨_, rfl⟩, ((Below.refl _ _).alloc (Nat.le_refl _) _).drew⟩

set_option maxHeartbeats 2000000 in
theorem errorf_any (line fl : Int) (f : ByteArray) (a : Value) (w : World) (hp : ∀ o, Prints #[.string f, a] (w.alloc o)) :
    Calls Tryf.prog 15 #[.int .i64 line, .int .i64 fl, .string f, a] w fun e' w' => (∃ s, e' = .returned (.agg #[.int .i64 line, .int .i64 fl, .string s, .bool false])) ∧ Below w.heap.size w w' := by
  have hp' := hp (.cells #[.int .i64 0, .int .i64 0, .string ⟨#[]⟩, .bool false] 65)
  clear hp
  rcases hp' with ⟨s, hrun⟩ | ⟨row, sv, hrun, hrows⟩
  · go_enter Tryf.func15, Tryf.ntmps15
    go_wp2
    refine bodyPost_ret (v := .agg #[.int .i64 line, .int .i64 fl, .string s, .bool false]) (by simp [results, Tryf.results15, go_sem]) rfl ⟨⟨s, rfl⟩, ?_⟩
    repeat (first | with_reducible exact Below.refl _ _ | with_reducible refine Below.drew ?_ | with_reducible refine Below.alloc ?_ (by simp) _ | with_reducible refine Below.setCell ?_ (by simp) _)
  · have HR := hide hrows
    clear hrows
    go_enter Tryf.func15, Tryf.ntmps15
    go_wp2
    refine HR.out _ fun s => ?_
    go_wp2
    refine bodyPost_ret (v := .agg #[.int .i64 line, .int .i64 fl, .string s, .bool false]) (by simp [results, Tryf.results15, go_sem]) rfl ⟨⟨s, rfl⟩, ?_⟩
    repeat (first | with_reducible exact Below.refl _ _ | with_reducible refine Below.drew ?_ | with_reducible refine Below.alloc ?_ (by simp) _ | with_reducible refine Below.setCell ?_ (by simp) _)
end Go.Proofs.Qxb6002619aFmt
