/-
  'c := make([]byte, len(b)); copy(c, b)': the run of the two built-ins, and the world behind them.
-/
import Derived.Test.Qxb6600291aReader
import Derived.Laws.CopyRow
import Derived.Deep.OwnRows
namespace Go.Proofs.Qxb6600291a.Copy
open Go.RowKit
set_option linter.unusedVariables false
set_option linter.unusedSimpArgs false

theorem info5 : (Try.prog.info? 5).map (fun i => (i.zero, i.size, i.bytes)) = some (some (.int .u8 0), 1, 1) := by kernel_rfl
theorem info5s : (Try.prog.info? 5).map (·.size) = some 1 := by kernel_rfl

theorem made (n : Nat) (h : n ≤ 1048576) (w : World) :
    (Instr.makeSlice 22 (.int .i64 (n : Int)) (.int .i64 (n : Int))).run Try.prog w = .ok (.slice (some ⟨w.heap.size, 0, none⟩) n n) (w.alloc (.cells (madeCells #[.int .u8 0] n) 5)) :=
  run_make_row' 22 5 (.int .u8 0) 1 Try.underlying22 info5 rfl .i64 .i64 n (by omega) (by omega) w

theorem row_at (zs : List Int) (len j : Nat) (hj : j < len) (hl : len ≤ zs.length) : ((zs.take len).map (Value.int .u8))[j]? = some (.int .u8 (zs.getD j 0)) := by
  have h : j < zs.length := by omega
  rw [List.getElem?_map, List.getElem?_take_of_lt hj, List.getElem?_eq_getElem h, List.getD_eq_getElem?_getD, List.getElem?_eq_getElem h]
  rfl

theorem copied (w : World) (x : Addr) (len cap : Nat) (zs : List Int) (hl : len ≤ cap) (hzs : zs.length = cap)
    (hc : ∀ i, i < zs.length → w.cell? (x.add i) = some (.int .u8 (zs.getD i 0))) :
    ∃ w2, (∀ ty, (Builtin.copy_ #[22, 22] ty #[.slice (some ⟨w.heap.size, 0, none⟩) len len, .slice (some x) len cap]).run Try.prog (w.alloc (.cells (madeCells #[.int .u8 0] len) 5)) = .ok (goInt len) w2) ∧
      (∀ j, j < len → w2.cell? ⟨w.heap.size, j, none⟩ = some (.int .u8 (zs.getD j 0))) ∧ Below w.heap.size w w2 ∧ w2.heap.size = w.heap.size + 1 := by
  have hb : Below w.heap.size w (w.alloc (.cells (madeCells #[.int .u8 0] len) 5)) := (Below.refl _ _).alloc (Nat.le_refl _) _
  have hg : (w.alloc (.cells (madeCells #[.int .u8 0] len) 5)).heap[w.heap.size]? = some (.cells (madeCells #[.int .u8 0] len) 5 (0, 0)) := (MapKept.heap_alloc w _).1
  have hms : (madeCells #[Value.int .u8 0] len).size = len := size_madeCells _ _
  have hcs : ((zs.take len).map (Value.int .u8)).length = len := by simp; omega
  have hrun := fun ty => run_copy_row Try.prog (w.alloc (.cells (madeCells #[.int .u8 0] len) 5)) 22 22 ty 5 w.heap.size 0 len len x len cap (madeCells #[.int .u8 0] len) 5 ((zs.take len).map (Value.int .u8))
    Try.underlying22 info5s hg (by rw [hcs]; simp [Nat.min_def]) (fun j v hj => by
      have hj' : j < len := by
        have := (List.getElem?_eq_some_iff.1 hj).1
        omega
      refine cell_later hb ?_
      rw [hc j (by omega)]
      rw [row_at zs len j hj' (by omega)] at hj
      exact hj) (by omega) (fun v hv => by
      obtain ⟨n, _, rfl⟩ := List.mem_map.1 hv
      rfl)
  rw [hcs] at hrun
  refine ⟨_, hrun, fun j hj => ?_, hb.trans ⟨rfl, rfl, rfl, by simp [World.setRow], fun k hk => ?_⟩, by simp [World.setRow]⟩
  · have hh := setRow_heap _ _ _ ((madeCells #[Value.int .u8 0] len).toList.take 0 ++ (zs.take len).map (Value.int .u8) ++ (madeCells #[Value.int .u8 0] len).toList.drop (0 + len)).toArray _ _ hg
    have hr := row_at zs len j hj (by omega)
    have hd : (madeCells #[Value.int .u8 0] len).toList.drop (0 + len) = [] := List.drop_eq_nil_of_le (by simp [hms])
    rw [hd] at hh
    rw [hd]
    simp only [World.cell?, hh]
    simp only [List.take_zero, List.nil_append, List.append_nil, List.getElem?_toArray]
    exact hr
  · show (Array.modify _ _ _)[k]? = _
    rw [Array.getElem?_modify, if_neg (by omega)]
end Go.Proofs.Qxb6600291a.Copy
