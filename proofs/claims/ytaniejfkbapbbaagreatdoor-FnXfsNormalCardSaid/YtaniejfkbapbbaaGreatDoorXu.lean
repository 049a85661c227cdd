/-
  Part of the proof of FnXfsNormal: a world for the witness, and what of it the kernel reckons.
-/
import Derived.Test.YtaniejfkbapbbaaGreatDoorXt
import Derived.Deep.DeepLaidRun
import Derived.Lib.LaidIn
namespace Go.Proofs.YtaniejfkbapbbaaGreatDoor
open Go.RowKit

/-- A world for the witness: behind the program's own laying of its variables, with the two great tables laid besides. -/
noncomputable def baseW (os : Os) : World := varsWorld Tryz.prog 115 (varsId Tryz.prog) os (fun _ _ => 0)
def cheatCells : Array Value := (Go.Pinned.cheatRows.flatMap fun x => [Value.int .i64 x.1, Value.string ⟨x.2.toArray⟩]).toArray
def powL : List Value := Go.Pinned.pow10Rows.flatMap fun x => [Value.int .u64 x.1, Value.int .u64 x.2]
def powCells : Array Value := powL.toArray
def layC (c : Array Value) : Obj → Obj
  | .cells _ t fr => .cells c t fr
  | o => o
noncomputable def laidW (os : Os) : World :=
  { baseW os with heap := (((baseW os).heap.modify 13 (layC #[.slice (some ⟨29, 0, none⟩) 61 61])).modify 12 (layC powCells)).push (.cells cheatCells 377 (0, 0)) }
noncomputable def callW (os : Os) : World := (laidW os).forCall (fun _ _ => 0) ⟨#[], #[.string ⟨#[]⟩], []⟩
theorem laidW_os (os : Os) : (laidW os).os = os := by kernel_rfl
/-- A variable's block is as its type asks. -/
def varOk (P : Program) (w : World) (g : Nat) : Bool :=
  match ((begin P (fun _ _ => 0) default).world.heap[g]?).bind Obj.row?, w.heap[g]? with
  | some z, some (.cells cs t fr) => (decide (t = z.2) && decide (fr = (0, 0)) && decide (cs.size = z.1.size)) && (!P.buildable t || Row.okRefB P w t cs)
  | some _, _ => false
  | none, _ => true
theorem laidW_vars (os : Os) : [0, 1, 2, 3, 4, 5, 6, 7, 8, 9, 10, 11, 13, 14, 15, 16].all (varOk Tryz.prog (callW os)) = true := by kernel_rfl
theorem laidW_rest (os : Os) : ((callW os).heap.toList.drop Tryz.prog.globals.size).take ((begin Tryz.prog (fun _ _ => 0) default).world.heap.size - Tryz.prog.globals.size) =
      (begin Tryz.prog (fun _ _ => 0) default).world.heap.toList.drop Tryz.prog.globals.size := by kernel_rfl
theorem laidW_ok (os : Os) : Input.okWideB Tryz.prog (callW os) 3 ⟨#[], #[.string ⟨#[]⟩], []⟩ = true := by kernel_rfl
end Go.Proofs.YtaniejfkbapbbaaGreatDoor
namespace Go.Proofs.YtaniejfkbapbbaaGreatDoor
open Go.RowKit

theorem laid13 (os : Os) : LaidIn Tryz.prog (callW os).memory (Rows.fnXfsNormalRow.laid.take 13) [0, 1, 2, 3, 4, 5, 6, 7, 8, 9, 10, 11, 14, 15, 16, 17, 18, 19, 20, 21, 22, 23, 24, 25, 26, 27, 28] :=
  LaidIn.of_run [0, 1, 2, 3, 4, 5, 6, 7, 8, 9, 10, 11, 14, 15, 16, 17, 18, 19, 20, 21, 22, 23, 24, 25, 26, 27, 28] 8 (by kernel_rfl) (by kernel_rfl) (by kernel_rfl) (by kernel_rfl)
end Go.Proofs.YtaniejfkbapbbaaGreatDoor
namespace Go.Proofs.YtaniejfkbapbbaaGreatDoor
open Go.RowKit

theorem laidCheat (os : Os) : LaidIn Tryz.prog (callW os).memory [("internal/strconv.leftcheats", Rows.laid_internal_strconv_leftcheats)] [13, 29] :=
  LaidIn.of_run [13, 29] 8 (by kernel_rfl) (by kernel_rfl) (by kernel_rfl) (by kernel_rfl)
end Go.Proofs.YtaniejfkbapbbaaGreatDoor
namespace Go.Proofs.YtaniejfkbapbbaaGreatDoor
open Go.RowKit

theorem pow_zero : (((begin Tryz.prog (fun _ _ => 0) default).world.heap[12]?).bind Obj.row?).map (fun x => (x.1.size, x.2)) = some (1392, 370) := by kernel_rfl
theorem pow_heap (os : Os) : (callW os).heap[12]? = some (.cells powCells 370 (0, 0)) := by kernel_rfl
theorem pow_types : Tryz.prog.cellTypes Tryz.prog.depth 370 = some (List.replicate 1392 31) := by kernel_rfl
theorem pow_size : powCells.size = 1392 := by kernel_rfl
def pairOk (x : Nat × Nat) : Bool := decide (x.1 < 18446744073709551616) && decide (x.2 < 18446744073709551616)
theorem pow_ok : Go.Pinned.pow10Rows.all pairOk = true := by kernel_rfl
theorem pow_len : Go.Pinned.pow10Rows.length = 696 := by kernel_rfl
theorem pow_mem {v : Value} (h : v ∈ powL) : ∃ n : Nat, v = .int .u64 n ∧ n < 18446744073709551616 := by
  unfold powL at h
  obtain ⟨x, hx, hv⟩ := List.mem_flatMap.1 h
  have hp := List.all_eq_true.1 pow_ok x hx
  unfold pairOk at hp
  simp only [Bool.and_eq_true, decide_eq_true_eq] at hp
  simp only [List.mem_cons, List.not_mem_nil, or_false] at hv
  rcases hv with rfl | rfl
  · exact ⟨_, rfl, hp.1⟩
  · exact ⟨_, rfl, hp.2⟩
set_option maxRecDepth 100000 in
theorem pow_row (w : World) : Row.ok Tryz.prog w .any 0 370 powCells := by
  refine ⟨_, pow_types, ⟨1, by rw [pow_size, List.length_replicate]⟩, fun i v hv => ⟨31, ?_, ?_⟩⟩
  · have hi := (Array.getElem?_eq_some_iff.1 hv).1
    rw [List.length_replicate, List.getElem?_replicate, if_pos (Nat.mod_lt _ (by omega))]
  · have hm : v ∈ powL := by
      have : v ∈ powCells := Array.mem_of_getElem? hv
      simpa [powCells] using this
    obtain ⟨n, rfl, hn⟩ := pow_mem hm
    have e1 : IntKind.u64.min = 0 := by kernel_rfl
    have e2 : IntKind.u64.max = 18446744073709551615 := by kernel_rfl
    simp [Cell.ok, Tryz.underlying31, IntKind.has, e1, e2]
    omega
set_option maxRecDepth 100000 in
theorem laidW_shaped (os : Os) : (callW os).Shaped Tryz.prog := by
  refine ⟨fun g zero t hg hz => ?_, fun k h1 h2 => ?_⟩
  case refine_2 =>
    have := congrArg (·[k - Tryz.prog.globals.size]?) (laidW_rest os)
    simp only [List.getElem?_take, List.getElem?_drop, Array.getElem?_toList] at this
    rw [if_pos (by omega), Nat.add_sub_cancel' h1] at this
    exact this
  by_cases h12 : g = 12
  · subst h12
    have hpz := pow_zero
    rw [hz] at hpz
    simp only [Option.map_some, Option.some.injEq, Prod.mk.injEq] at hpz
    obtain ⟨hs, rfl⟩ := hpz
    exact ⟨powCells, pow_heap os, by rw [pow_size, hs], fun _ => pow_row _⟩
  · have hv := List.all_eq_true.1 (laidW_vars os)
    have hgs : Tryz.prog.globals.size = 17 := by kernel_rfl
    have hm : g ∈ [0, 1, 2, 3, 4, 5, 6, 7, 8, 9, 10, 11, 13, 14, 15, 16] := by
      rw [hgs] at hg
      simp only [List.mem_cons, List.not_mem_nil, or_false]
      omega
    have h1 := hv g hm
    unfold varOk at h1
    rw [hz] at h1
    cases hw : (callW os).heap[g]? with
    | none => rw [hw] at h1; cases h1
    | some o =>
      rw [hw] at h1
      cases o with
      | cells cs t' fr =>
        simp only [Bool.and_eq_true, decide_eq_true_eq, Bool.or_eq_true, Bool.not_eq_true'] at h1
        obtain ⟨⟨⟨rfl, rfl⟩, hs⟩, hb⟩ := h1
        refine ⟨cs, rfl, hs, fun hbuild => ?_⟩
        rcases hb with hb | hb
        · rw [hbuild] at hb; cases hb
        · exact Row.ok_of_okRefB hb
      | _ => cases h1
end Go.Proofs.YtaniejfkbapbbaaGreatDoor
