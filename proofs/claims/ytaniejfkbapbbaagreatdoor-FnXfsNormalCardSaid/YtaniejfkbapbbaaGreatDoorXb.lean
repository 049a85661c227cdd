/-
  Part of the proof of FnXfsNormal: the builders of the sections.
-/
import Derived.Test.YtaniejfkbapbbaaGreatDoorXn
import Derived.StillTailTactics
import Derived.Deep.MidRow
namespace Go.Proofs.YtaniejfkbapbbaaGreatDoor
open Go.RowKit Go.Proofs.YtaniejfkbapbbaaGreatDoorW.PrintWords Go.Proofs.YtaniejfkbapbbaaGreatDoorW.PrintLast Go.Proofs.YtaniejfkbapbbaaGreatDoorW.PrintMore

def Built (w : World) (cs : Array Value) (v : Value) (w' : World) : Prop := v = .tuple #[.agg cs, .nilIface] ∧ Below w.heap.size w w'
theorem setRow_heap {w : World} {g : Nat} {c cs : Array Value} {t : TypeId} {fr : Nat × Nat} (h : w.heap[g]? = some (.cells c t fr)) : (w.setRow g cs).heap[g]? = some (.cells cs t fr) := by
  simp [World.setRow, Array.getElem?_modify, h]
theorem below_setRow {w W : World} {g : Nat} {cs : Array Value} (h : Below w.heap.size w W) (hg : w.heap.size ≤ g) : Below w.heap.size w (W.setRow g cs) :=
  ⟨h.os, h.tape, h.output, by simp only [World.setRow, Array.size_modify]; exact h.size, fun k hk => by
    have : (W.setRow g cs).heap[k]? = W.heap[k]? := by
      simp only [World.setRow, Array.getElem?_modify]
      rw [if_neg (by omega)]
    exact this.trans (h.block k hk)⟩
end Go.Proofs.YtaniejfkbapbbaaGreatDoor
namespace Go.Proofs.YtaniejfkbapbbaaGreatDoor
open Go.RowKit Go.Proofs.YtaniejfkbapbbaaGreatDoorW.PrintWords Go.Proofs.YtaniejfkbapbbaaGreatDoorW.PrintLast Go.Proofs.YtaniejfkbapbbaaGreatDoorW.PrintMore

set_option maxRecDepth 100000 in
set_option maxHeartbeats 2000000 in
theorem build42 (f : Nat → Int) (g : Nat) (c : Nat) (w : World) (hr : ∀ j, j < 1 → w.cell? ⟨g, j, none⟩ = some (.int .u64 (f j))) : Calls Tryz.prog 42 #[.slice (some ⟨g, 0, none⟩) 1 c] w (Ret (Built w #[.int .u64 (f 0)])) := by
  have q0 := cell_old (o := (Obj.cells #[.int .u64 0] 116)) (hr 0 (by omega))
  clear hr
  go_enter Tryz.func42, Tryz.ntmps42
  go_wp2
  try simp only [Exit.inBlock, Exit.then]
  refine bodyPost_ret (results_ct rfl _ _ w.heap.size 116 #[.int .u64 (f 0)] (0, 0) _ rfl (heap_alloc_new w _) Tryz.underlying116 rfl (by kernel_rfl)) rfl (.mk _ rfl ⟨rfl, below_alloc (Below.refl _ _) _⟩)
set_option maxRecDepth 100000 in
set_option maxHeartbeats 2000000 in
theorem build43 (f : Nat → Int) (g : Nat) (c : Nat) (w : World) (hr : ∀ j, j < 3 → w.cell? ⟨g, j, none⟩ = some (.int .u64 (f j))) : Calls Tryz.prog 43 #[.slice (some ⟨g, 0, none⟩) 3 c] w (Ret (Built w #[.int .u64 (f 0), .int .u64 (f 1), .int .u64 (f 2)])) := by
  have q0 := cell_old (o := (Obj.cells #[.int .u64 0, .int .u64 0, .int .u64 0] 87)) (hr 0 (by omega))
  have q1 := cell_old (o := (Obj.cells #[.int .u64 0, .int .u64 0, .int .u64 0] 87)) (hr 1 (by omega))
  have q2 := cell_old (o := (Obj.cells #[.int .u64 0, .int .u64 0, .int .u64 0] 87)) (hr 2 (by omega))
  clear hr
  go_enter Tryz.func43, Tryz.ntmps43
  go_wp2_with fail
  have hB := below_alloc (Below.refl w.heap.size w) (Obj.cells #[.int .u64 0, .int .u64 0, .int .u64 0] 87)
  have hb := heap_alloc_new w (Obj.cells #[.int .u64 0, .int .u64 0, .int .u64 0] 87)
  generalize w.alloc (Obj.cells #[.int .u64 0, .int .u64 0, .int .u64 0] 87) = W at hB hb q0 q1 q2 ⊢
  have hlt := blk_lt hb
  have Hb2 : Hid ((W.drew.setRow w.heap.size #[.int .u64 (f 0), .int .u64 (f 1), .int .u64 (f 2)]).heap[w.heap.size]? = some (.cells #[.int .u64 (f 0), .int .u64 (f 1), .int .u64 (f 2)] 87 (0, 0))) := Lib.hid (setRow_heap (w := W.drew) hb)
  have HB2 := Lib.hid (below_setRow (cs := #[.int .u64 (f 0), .int .u64 (f 1), .int .u64 (f 2)]) (below_drew hB) (Nat.le_refl _))
  have Hb := Lib.hid hb
  clear hb hB
  go_still_tail 10, (by kernel_rfl)
  refine wpList_plain rfl (fun K hK => wp_store_row 87 (.tmp 2) (.tmp 20) rfl w.heap.size #[.int .u64 (f 0), .int .u64 (f 1), .int .u64 (f 2)] rfl rfl 87 #[.int .u64 0, .int .u64 0, .int .u64 0] Hb.out (by kernel_rfl) rfl (by simp [Value.oneCell']) (hK _ _ ?_))
  clear hK K
  go_wp2
  try simp only [Exit.inBlock, Exit.then]
  refine bodyPost_ret (results_ct rfl _ _ w.heap.size 87 #[.int .u64 (f 0), .int .u64 (f 1), .int .u64 (f 2)] (0, 0) _ rfl Hb2.out Tryz.underlying87 rfl (by kernel_rfl)) rfl (.mk _ rfl ⟨rfl, HB2.out⟩)
set_option maxRecDepth 100000 in
set_option maxHeartbeats 2000000 in
theorem build44 (f : Nat → Int) (g : Nat) (c : Nat) (w : World) (hr : ∀ j, j < 1 → w.cell? ⟨g, j, none⟩ = some (.int .u64 (f j))) : Calls Tryz.prog 44 #[.slice (some ⟨g, 0, none⟩) 1 c] w (Ret (Built w #[.int .u64 (f 0)])) := by
  have q0 := cell_old (o := (Obj.cells #[.int .u64 0] 114)) (hr 0 (by omega))
  clear hr
  go_enter Tryz.func44, Tryz.ntmps44
  go_wp2
  try simp only [Exit.inBlock, Exit.then]
  refine bodyPost_ret (results_ct rfl _ _ w.heap.size 114 #[.int .u64 (f 0)] (0, 0) _ rfl (heap_alloc_new w _) Tryz.underlying114 rfl (by kernel_rfl)) rfl (.mk _ rfl ⟨rfl, below_alloc (Below.refl _ _) _⟩)
set_option maxRecDepth 100000 in
set_option maxHeartbeats 2000000 in
theorem build46 (f : Nat → Int) (g : Nat) (c : Nat) (w : World) (hr : ∀ j, j < 4 → w.cell? ⟨g, j, none⟩ = some (.int .u32 (f j))) : Calls Tryz.prog 46 #[.slice (some ⟨g, 0, none⟩) 4 c] w (Ret (Built w #[.int .u32 (f 0), .int .u32 (f 1), .int .u32 (f 2), .int .u32 (f 3)])) := by
  have q0 := cell_old (o := (Obj.cells #[.int .u32 0, .int .u32 0, .int .u32 0, .int .u32 0] 63)) (hr 0 (by omega))
  have q1 := cell_old (o := (Obj.cells #[.int .u32 0, .int .u32 0, .int .u32 0, .int .u32 0] 63)) (hr 1 (by omega))
  have q2 := cell_old (o := (Obj.cells #[.int .u32 0, .int .u32 0, .int .u32 0, .int .u32 0] 63)) (hr 2 (by omega))
  have q3 := cell_old (o := (Obj.cells #[.int .u32 0, .int .u32 0, .int .u32 0, .int .u32 0] 63)) (hr 3 (by omega))
  clear hr
  go_enter Tryz.func46, Tryz.ntmps46
  go_wp2_with fail
  have hB := below_alloc (Below.refl w.heap.size w) (Obj.cells #[.int .u32 0, .int .u32 0, .int .u32 0, .int .u32 0] 63)
  have hb := heap_alloc_new w (Obj.cells #[.int .u32 0, .int .u32 0, .int .u32 0, .int .u32 0] 63)
  generalize w.alloc (Obj.cells #[.int .u32 0, .int .u32 0, .int .u32 0, .int .u32 0] 63) = W at hB hb q0 q1 q2 q3 ⊢
  have hlt := blk_lt hb
  have Hb2 : Hid ((W.drew.setRow w.heap.size #[.int .u32 (f 0), .int .u32 (f 1), .int .u32 (f 2), .int .u32 (f 3)]).heap[w.heap.size]? = some (.cells #[.int .u32 (f 0), .int .u32 (f 1), .int .u32 (f 2), .int .u32 (f 3)] 63 (0, 0))) := Lib.hid (setRow_heap (w := W.drew) hb)
  have HB2 := Lib.hid (below_setRow (cs := #[.int .u32 (f 0), .int .u32 (f 1), .int .u32 (f 2), .int .u32 (f 3)]) (below_drew hB) (Nat.le_refl _))
  have Hb := Lib.hid hb
  clear hb hB
  go_still_tail 13, (by kernel_rfl)
  refine wpList_plain rfl (fun K hK => wp_store_row 63 (.tmp 2) (.tmp 23) rfl w.heap.size #[.int .u32 (f 0), .int .u32 (f 1), .int .u32 (f 2), .int .u32 (f 3)] rfl rfl 63 #[.int .u32 0, .int .u32 0, .int .u32 0, .int .u32 0] Hb.out (by kernel_rfl) rfl (by simp [Value.oneCell']) (hK _ _ ?_))
  clear hK K
  go_wp2
  try simp only [Exit.inBlock, Exit.then]
  refine bodyPost_ret (results_ct rfl _ _ w.heap.size 63 #[.int .u32 (f 0), .int .u32 (f 1), .int .u32 (f 2), .int .u32 (f 3)] (0, 0) _ rfl Hb2.out Tryz.underlying63 rfl (by kernel_rfl)) rfl (.mk _ rfl ⟨rfl, HB2.out⟩)
set_option maxRecDepth 100000 in
set_option maxHeartbeats 2000000 in
theorem build47 (f : Nat → Int) (g : Nat) (c : Nat) (w : World) (hr : ∀ j, j < 4 → w.cell? ⟨g, j, none⟩ = some (.int .u32 (f j))) : Calls Tryz.prog 47 #[.slice (some ⟨g, 0, none⟩) 4 c] w (Ret (Built w #[.int .u32 (f 0), .int .u32 (f 1), .int .u32 (f 2), .int .u32 (f 3)])) := by
  have q0 := cell_old (o := (Obj.cells #[.int .u32 0, .int .u32 0, .int .u32 0, .int .u32 0] 65)) (hr 0 (by omega))
  have q1 := cell_old (o := (Obj.cells #[.int .u32 0, .int .u32 0, .int .u32 0, .int .u32 0] 65)) (hr 1 (by omega))
  have q2 := cell_old (o := (Obj.cells #[.int .u32 0, .int .u32 0, .int .u32 0, .int .u32 0] 65)) (hr 2 (by omega))
  have q3 := cell_old (o := (Obj.cells #[.int .u32 0, .int .u32 0, .int .u32 0, .int .u32 0] 65)) (hr 3 (by omega))
  clear hr
  go_enter Tryz.func47, Tryz.ntmps47
  go_wp2_with fail
  have hB := below_alloc (Below.refl w.heap.size w) (Obj.cells #[.int .u32 0, .int .u32 0, .int .u32 0, .int .u32 0] 65)
  have hb := heap_alloc_new w (Obj.cells #[.int .u32 0, .int .u32 0, .int .u32 0, .int .u32 0] 65)
  generalize w.alloc (Obj.cells #[.int .u32 0, .int .u32 0, .int .u32 0, .int .u32 0] 65) = W at hB hb q0 q1 q2 q3 ⊢
  have hlt := blk_lt hb
  have Hb2 : Hid ((W.drew.setRow w.heap.size #[.int .u32 (f 0), .int .u32 (f 1), .int .u32 (f 2), .int .u32 (f 3)]).heap[w.heap.size]? = some (.cells #[.int .u32 (f 0), .int .u32 (f 1), .int .u32 (f 2), .int .u32 (f 3)] 65 (0, 0))) := Lib.hid (setRow_heap (w := W.drew) hb)
  have HB2 := Lib.hid (below_setRow (cs := #[.int .u32 (f 0), .int .u32 (f 1), .int .u32 (f 2), .int .u32 (f 3)]) (below_drew hB) (Nat.le_refl _))
  have Hb := Lib.hid hb
  clear hb hB
  go_still_tail 13, (by kernel_rfl)
  refine wpList_plain rfl (fun K hK => wp_store_row 65 (.tmp 2) (.tmp 23) rfl w.heap.size #[.int .u32 (f 0), .int .u32 (f 1), .int .u32 (f 2), .int .u32 (f 3)] rfl rfl 65 #[.int .u32 0, .int .u32 0, .int .u32 0, .int .u32 0] Hb.out (by kernel_rfl) rfl (by simp [Value.oneCell']) (hK _ _ ?_))
  clear hK K
  go_wp2
  try simp only [Exit.inBlock, Exit.then]
  refine bodyPost_ret (results_ct rfl _ _ w.heap.size 65 #[.int .u32 (f 0), .int .u32 (f 1), .int .u32 (f 2), .int .u32 (f 3)] (0, 0) _ rfl Hb2.out Tryz.underlying65 rfl (by kernel_rfl)) rfl (.mk _ rfl ⟨rfl, HB2.out⟩)
set_option maxRecDepth 100000 in
set_option maxHeartbeats 2000000 in
theorem build48 (f : Nat → Int) (g : Nat) (c : Nat) (w : World) (hr : ∀ j, j < 7 → w.cell? ⟨g, j, none⟩ = some (.int .u32 (f j))) : Calls Tryz.prog 48 #[.slice (some ⟨g, 0, none⟩) 7 c] w (Ret (Built w #[.int .u32 (f 0), .int .u32 (f 1), .int .u32 (f 2), .int .u32 (f 3), .int .u32 (f 4), .int .u32 (f 5), .int .u32 (f 6)])) := by
  have q0 := cell_old (o := (Obj.cells #[.int .u32 0, .int .u32 0, .int .u32 0, .int .u32 0, .int .u32 0, .int .u32 0, .int .u32 0] 67)) (hr 0 (by omega))
  have q1 := cell_old (o := (Obj.cells #[.int .u32 0, .int .u32 0, .int .u32 0, .int .u32 0, .int .u32 0, .int .u32 0, .int .u32 0] 67)) (hr 1 (by omega))
  have q2 := cell_old (o := (Obj.cells #[.int .u32 0, .int .u32 0, .int .u32 0, .int .u32 0, .int .u32 0, .int .u32 0, .int .u32 0] 67)) (hr 2 (by omega))
  have q3 := cell_old (o := (Obj.cells #[.int .u32 0, .int .u32 0, .int .u32 0, .int .u32 0, .int .u32 0, .int .u32 0, .int .u32 0] 67)) (hr 3 (by omega))
  have q4 := cell_old (o := (Obj.cells #[.int .u32 0, .int .u32 0, .int .u32 0, .int .u32 0, .int .u32 0, .int .u32 0, .int .u32 0] 67)) (hr 4 (by omega))
  have q5 := cell_old (o := (Obj.cells #[.int .u32 0, .int .u32 0, .int .u32 0, .int .u32 0, .int .u32 0, .int .u32 0, .int .u32 0] 67)) (hr 5 (by omega))
  have q6 := cell_old (o := (Obj.cells #[.int .u32 0, .int .u32 0, .int .u32 0, .int .u32 0, .int .u32 0, .int .u32 0, .int .u32 0] 67)) (hr 6 (by omega))
  clear hr
  go_enter Tryz.func48, Tryz.ntmps48
  go_wp2_with fail
  have hB := below_alloc (Below.refl w.heap.size w) (Obj.cells #[.int .u32 0, .int .u32 0, .int .u32 0, .int .u32 0, .int .u32 0, .int .u32 0, .int .u32 0] 67)
  have hb := heap_alloc_new w (Obj.cells #[.int .u32 0, .int .u32 0, .int .u32 0, .int .u32 0, .int .u32 0, .int .u32 0, .int .u32 0] 67)
  generalize w.alloc (Obj.cells #[.int .u32 0, .int .u32 0, .int .u32 0, .int .u32 0, .int .u32 0, .int .u32 0, .int .u32 0] 67) = W at hB hb q0 q1 q2 q3 q4 q5 q6 ⊢
  have hlt := blk_lt hb
  have Hb2 : Hid ((W.drew.setRow w.heap.size #[.int .u32 (f 0), .int .u32 (f 1), .int .u32 (f 2), .int .u32 (f 3), .int .u32 (f 4), .int .u32 (f 5), .int .u32 (f 6)]).heap[w.heap.size]? = some (.cells #[.int .u32 (f 0), .int .u32 (f 1), .int .u32 (f 2), .int .u32 (f 3), .int .u32 (f 4), .int .u32 (f 5), .int .u32 (f 6)] 67 (0, 0))) := Lib.hid (setRow_heap (w := W.drew) hb)
  have HB2 := Lib.hid (below_setRow (cs := #[.int .u32 (f 0), .int .u32 (f 1), .int .u32 (f 2), .int .u32 (f 3), .int .u32 (f 4), .int .u32 (f 5), .int .u32 (f 6)]) (below_drew hB) (Nat.le_refl _))
  have Hb := Lib.hid hb
  clear hb hB
  go_still_tail 22, (by kernel_rfl)
  refine wpList_plain rfl (fun K hK => wp_store_row 67 (.tmp 2) (.tmp 32) rfl w.heap.size #[.int .u32 (f 0), .int .u32 (f 1), .int .u32 (f 2), .int .u32 (f 3), .int .u32 (f 4), .int .u32 (f 5), .int .u32 (f 6)] rfl rfl 67 #[.int .u32 0, .int .u32 0, .int .u32 0, .int .u32 0, .int .u32 0, .int .u32 0, .int .u32 0] Hb.out (by kernel_rfl) rfl (by simp [Value.oneCell']) (hK _ _ ?_))
  clear hK K
  go_wp2
  try simp only [Exit.inBlock, Exit.then]
  refine bodyPost_ret (results_ct rfl _ _ w.heap.size 67 #[.int .u32 (f 0), .int .u32 (f 1), .int .u32 (f 2), .int .u32 (f 3), .int .u32 (f 4), .int .u32 (f 5), .int .u32 (f 6)] (0, 0) _ rfl Hb2.out Tryz.underlying67 rfl (by kernel_rfl)) rfl (.mk _ rfl ⟨rfl, HB2.out⟩)
set_option maxRecDepth 100000 in
set_option maxHeartbeats 2000000 in
theorem build49 (f : Nat → Int) (g : Nat) (c : Nat) (w : World) (hr : ∀ j, j < 4 → w.cell? ⟨g, j, none⟩ = some (.int .u32 (f j))) : Calls Tryz.prog 49 #[.slice (some ⟨g, 0, none⟩) 4 c] w (Ret (Built w #[.int .u32 (f 0), .int .u32 (f 1), .int .u32 (f 2), .int .u32 (f 3)])) := by
  have q0 := cell_old (o := (Obj.cells #[.int .u32 0, .int .u32 0, .int .u32 0, .int .u32 0] 69)) (hr 0 (by omega))
  have q1 := cell_old (o := (Obj.cells #[.int .u32 0, .int .u32 0, .int .u32 0, .int .u32 0] 69)) (hr 1 (by omega))
  have q2 := cell_old (o := (Obj.cells #[.int .u32 0, .int .u32 0, .int .u32 0, .int .u32 0] 69)) (hr 2 (by omega))
  have q3 := cell_old (o := (Obj.cells #[.int .u32 0, .int .u32 0, .int .u32 0, .int .u32 0] 69)) (hr 3 (by omega))
  clear hr
  go_enter Tryz.func49, Tryz.ntmps49
  go_wp2_with fail
  have hB := below_alloc (Below.refl w.heap.size w) (Obj.cells #[.int .u32 0, .int .u32 0, .int .u32 0, .int .u32 0] 69)
  have hb := heap_alloc_new w (Obj.cells #[.int .u32 0, .int .u32 0, .int .u32 0, .int .u32 0] 69)
  generalize w.alloc (Obj.cells #[.int .u32 0, .int .u32 0, .int .u32 0, .int .u32 0] 69) = W at hB hb q0 q1 q2 q3 ⊢
  have hlt := blk_lt hb
  have Hb2 : Hid ((W.drew.setRow w.heap.size #[.int .u32 (f 0), .int .u32 (f 1), .int .u32 (f 2), .int .u32 (f 3)]).heap[w.heap.size]? = some (.cells #[.int .u32 (f 0), .int .u32 (f 1), .int .u32 (f 2), .int .u32 (f 3)] 69 (0, 0))) := Lib.hid (setRow_heap (w := W.drew) hb)
  have HB2 := Lib.hid (below_setRow (cs := #[.int .u32 (f 0), .int .u32 (f 1), .int .u32 (f 2), .int .u32 (f 3)]) (below_drew hB) (Nat.le_refl _))
  have Hb := Lib.hid hb
  clear hb hB
  go_still_tail 13, (by kernel_rfl)
  refine wpList_plain rfl (fun K hK => wp_store_row 69 (.tmp 2) (.tmp 23) rfl w.heap.size #[.int .u32 (f 0), .int .u32 (f 1), .int .u32 (f 2), .int .u32 (f 3)] rfl rfl 69 #[.int .u32 0, .int .u32 0, .int .u32 0, .int .u32 0] Hb.out (by kernel_rfl) rfl (by simp [Value.oneCell']) (hK _ _ ?_))
  clear hK K
  go_wp2
  try simp only [Exit.inBlock, Exit.then]
  refine bodyPost_ret (results_ct rfl _ _ w.heap.size 69 #[.int .u32 (f 0), .int .u32 (f 1), .int .u32 (f 2), .int .u32 (f 3)] (0, 0) _ rfl Hb2.out Tryz.underlying69 rfl (by kernel_rfl)) rfl (.mk _ rfl ⟨rfl, HB2.out⟩)
set_option maxRecDepth 100000 in
set_option maxHeartbeats 2000000 in
theorem build50 (f : Nat → Int) (g : Nat) (c : Nat) (w : World) (hr : ∀ j, j < 3 → w.cell? ⟨g, j, none⟩ = some (.int .u32 (f j))) : Calls Tryz.prog 50 #[.slice (some ⟨g, 0, none⟩) 3 c] w (Ret (Built w #[.int .u32 (f 0), .int .u32 (f 1), .int .u32 (f 2)])) := by
  have q0 := cell_old (o := (Obj.cells #[.int .u32 0, .int .u32 0, .int .u32 0] 71)) (hr 0 (by omega))
  have q1 := cell_old (o := (Obj.cells #[.int .u32 0, .int .u32 0, .int .u32 0] 71)) (hr 1 (by omega))
  have q2 := cell_old (o := (Obj.cells #[.int .u32 0, .int .u32 0, .int .u32 0] 71)) (hr 2 (by omega))
  clear hr
  go_enter Tryz.func50, Tryz.ntmps50
  go_wp2_with fail
  have hB := below_alloc (Below.refl w.heap.size w) (Obj.cells #[.int .u32 0, .int .u32 0, .int .u32 0] 71)
  have hb := heap_alloc_new w (Obj.cells #[.int .u32 0, .int .u32 0, .int .u32 0] 71)
  generalize w.alloc (Obj.cells #[.int .u32 0, .int .u32 0, .int .u32 0] 71) = W at hB hb q0 q1 q2 ⊢
  have hlt := blk_lt hb
  have Hb2 : Hid ((W.drew.setRow w.heap.size #[.int .u32 (f 0), .int .u32 (f 1), .int .u32 (f 2)]).heap[w.heap.size]? = some (.cells #[.int .u32 (f 0), .int .u32 (f 1), .int .u32 (f 2)] 71 (0, 0))) := Lib.hid (setRow_heap (w := W.drew) hb)
  have HB2 := Lib.hid (below_setRow (cs := #[.int .u32 (f 0), .int .u32 (f 1), .int .u32 (f 2)]) (below_drew hB) (Nat.le_refl _))
  have Hb := Lib.hid hb
  clear hb hB
  go_still_tail 10, (by kernel_rfl)
  refine wpList_plain rfl (fun K hK => wp_store_row 71 (.tmp 2) (.tmp 20) rfl w.heap.size #[.int .u32 (f 0), .int .u32 (f 1), .int .u32 (f 2)] rfl rfl 71 #[.int .u32 0, .int .u32 0, .int .u32 0] Hb.out (by kernel_rfl) rfl (by simp [Value.oneCell']) (hK _ _ ?_))
  clear hK K
  go_wp2
  try simp only [Exit.inBlock, Exit.then]
  refine bodyPost_ret (results_ct rfl _ _ w.heap.size 71 #[.int .u32 (f 0), .int .u32 (f 1), .int .u32 (f 2)] (0, 0) _ rfl Hb2.out Tryz.underlying71 rfl (by kernel_rfl)) rfl (.mk _ rfl ⟨rfl, HB2.out⟩)
set_option maxRecDepth 100000 in
set_option maxHeartbeats 2000000 in
theorem build51 (f : Nat → Int) (g : Nat) (c : Nat) (w : World) (hr : ∀ j, j < 7 → w.cell? ⟨g, j, none⟩ = some (.int .u32 (f j))) : Calls Tryz.prog 51 #[.slice (some ⟨g, 0, none⟩) 7 c] w (Ret (Built w #[.int .u32 (f 0), .int .u32 (f 1), .int .u32 (f 2), .int .u32 (f 3), .int .u32 (f 4), .int .u32 (f 5), .int .u32 (f 6)])) := by
  have q0 := cell_old (o := (Obj.cells #[.int .u32 0, .int .u32 0, .int .u32 0, .int .u32 0, .int .u32 0, .int .u32 0, .int .u32 0] 73)) (hr 0 (by omega))
  have q1 := cell_old (o := (Obj.cells #[.int .u32 0, .int .u32 0, .int .u32 0, .int .u32 0, .int .u32 0, .int .u32 0, .int .u32 0] 73)) (hr 1 (by omega))
  have q2 := cell_old (o := (Obj.cells #[.int .u32 0, .int .u32 0, .int .u32 0, .int .u32 0, .int .u32 0, .int .u32 0, .int .u32 0] 73)) (hr 2 (by omega))
  have q3 := cell_old (o := (Obj.cells #[.int .u32 0, .int .u32 0, .int .u32 0, .int .u32 0, .int .u32 0, .int .u32 0, .int .u32 0] 73)) (hr 3 (by omega))
  have q4 := cell_old (o := (Obj.cells #[.int .u32 0, .int .u32 0, .int .u32 0, .int .u32 0, .int .u32 0, .int .u32 0, .int .u32 0] 73)) (hr 4 (by omega))
  have q5 := cell_old (o := (Obj.cells #[.int .u32 0, .int .u32 0, .int .u32 0, .int .u32 0, .int .u32 0, .int .u32 0, .int .u32 0] 73)) (hr 5 (by omega))
  have q6 := cell_old (o := (Obj.cells #[.int .u32 0, .int .u32 0, .int .u32 0, .int .u32 0, .int .u32 0, .int .u32 0, .int .u32 0] 73)) (hr 6 (by omega))
  clear hr
  go_enter Tryz.func51, Tryz.ntmps51
  go_wp2_with fail
  have hB := below_alloc (Below.refl w.heap.size w) (Obj.cells #[.int .u32 0, .int .u32 0, .int .u32 0, .int .u32 0, .int .u32 0, .int .u32 0, .int .u32 0] 73)
  have hb := heap_alloc_new w (Obj.cells #[.int .u32 0, .int .u32 0, .int .u32 0, .int .u32 0, .int .u32 0, .int .u32 0, .int .u32 0] 73)
  generalize w.alloc (Obj.cells #[.int .u32 0, .int .u32 0, .int .u32 0, .int .u32 0, .int .u32 0, .int .u32 0, .int .u32 0] 73) = W at hB hb q0 q1 q2 q3 q4 q5 q6 ⊢
  have hlt := blk_lt hb
  have Hb2 : Hid ((W.drew.setRow w.heap.size #[.int .u32 (f 0), .int .u32 (f 1), .int .u32 (f 2), .int .u32 (f 3), .int .u32 (f 4), .int .u32 (f 5), .int .u32 (f 6)]).heap[w.heap.size]? = some (.cells #[.int .u32 (f 0), .int .u32 (f 1), .int .u32 (f 2), .int .u32 (f 3), .int .u32 (f 4), .int .u32 (f 5), .int .u32 (f 6)] 73 (0, 0))) := Lib.hid (setRow_heap (w := W.drew) hb)
  have HB2 := Lib.hid (below_setRow (cs := #[.int .u32 (f 0), .int .u32 (f 1), .int .u32 (f 2), .int .u32 (f 3), .int .u32 (f 4), .int .u32 (f 5), .int .u32 (f 6)]) (below_drew hB) (Nat.le_refl _))
  have Hb := Lib.hid hb
  clear hb hB
  go_still_tail 22, (by kernel_rfl)
  refine wpList_plain rfl (fun K hK => wp_store_row 73 (.tmp 2) (.tmp 32) rfl w.heap.size #[.int .u32 (f 0), .int .u32 (f 1), .int .u32 (f 2), .int .u32 (f 3), .int .u32 (f 4), .int .u32 (f 5), .int .u32 (f 6)] rfl rfl 73 #[.int .u32 0, .int .u32 0, .int .u32 0, .int .u32 0, .int .u32 0, .int .u32 0, .int .u32 0] Hb.out (by kernel_rfl) rfl (by simp [Value.oneCell']) (hK _ _ ?_))
  clear hK K
  go_wp2
  try simp only [Exit.inBlock, Exit.then]
  refine bodyPost_ret (results_ct rfl _ _ w.heap.size 73 #[.int .u32 (f 0), .int .u32 (f 1), .int .u32 (f 2), .int .u32 (f 3), .int .u32 (f 4), .int .u32 (f 5), .int .u32 (f 6)] (0, 0) _ rfl Hb2.out Tryz.underlying73 rfl (by kernel_rfl)) rfl (.mk _ rfl ⟨rfl, HB2.out⟩)
set_option maxRecDepth 100000 in
set_option maxHeartbeats 2000000 in
theorem build52 (f : Nat → Int) (g : Nat) (c : Nat) (w : World) (hr : ∀ j, j < 5 → w.cell? ⟨g, j, none⟩ = some (.int .u32 (f j))) : Calls Tryz.prog 52 #[.slice (some ⟨g, 0, none⟩) 5 c] w (Ret (Built w #[.int .u32 (f 0), .int .u32 (f 1), .int .u32 (f 2), .int .u32 (f 3), .int .u32 (f 4)])) := by
  have q0 := cell_old (o := (Obj.cells #[.int .u32 0, .int .u32 0, .int .u32 0, .int .u32 0, .int .u32 0] 75)) (hr 0 (by omega))
  have q1 := cell_old (o := (Obj.cells #[.int .u32 0, .int .u32 0, .int .u32 0, .int .u32 0, .int .u32 0] 75)) (hr 1 (by omega))
  have q2 := cell_old (o := (Obj.cells #[.int .u32 0, .int .u32 0, .int .u32 0, .int .u32 0, .int .u32 0] 75)) (hr 2 (by omega))
  have q3 := cell_old (o := (Obj.cells #[.int .u32 0, .int .u32 0, .int .u32 0, .int .u32 0, .int .u32 0] 75)) (hr 3 (by omega))
  have q4 := cell_old (o := (Obj.cells #[.int .u32 0, .int .u32 0, .int .u32 0, .int .u32 0, .int .u32 0] 75)) (hr 4 (by omega))
  clear hr
  go_enter Tryz.func52, Tryz.ntmps52
  go_wp2_with fail
  have hB := below_alloc (Below.refl w.heap.size w) (Obj.cells #[.int .u32 0, .int .u32 0, .int .u32 0, .int .u32 0, .int .u32 0] 75)
  have hb := heap_alloc_new w (Obj.cells #[.int .u32 0, .int .u32 0, .int .u32 0, .int .u32 0, .int .u32 0] 75)
  generalize w.alloc (Obj.cells #[.int .u32 0, .int .u32 0, .int .u32 0, .int .u32 0, .int .u32 0] 75) = W at hB hb q0 q1 q2 q3 q4 ⊢
  have hlt := blk_lt hb
  have Hb2 : Hid ((W.drew.setRow w.heap.size #[.int .u32 (f 0), .int .u32 (f 1), .int .u32 (f 2), .int .u32 (f 3), .int .u32 (f 4)]).heap[w.heap.size]? = some (.cells #[.int .u32 (f 0), .int .u32 (f 1), .int .u32 (f 2), .int .u32 (f 3), .int .u32 (f 4)] 75 (0, 0))) := Lib.hid (setRow_heap (w := W.drew) hb)
  have HB2 := Lib.hid (below_setRow (cs := #[.int .u32 (f 0), .int .u32 (f 1), .int .u32 (f 2), .int .u32 (f 3), .int .u32 (f 4)]) (below_drew hB) (Nat.le_refl _))
  have Hb := Lib.hid hb
  clear hb hB
  go_still_tail 16, (by kernel_rfl)
  refine wpList_plain rfl (fun K hK => wp_store_row 75 (.tmp 2) (.tmp 26) rfl w.heap.size #[.int .u32 (f 0), .int .u32 (f 1), .int .u32 (f 2), .int .u32 (f 3), .int .u32 (f 4)] rfl rfl 75 #[.int .u32 0, .int .u32 0, .int .u32 0, .int .u32 0, .int .u32 0] Hb.out (by kernel_rfl) rfl (by simp [Value.oneCell']) (hK _ _ ?_))
  clear hK K
  go_wp2
  try simp only [Exit.inBlock, Exit.then]
  refine bodyPost_ret (results_ct rfl _ _ w.heap.size 75 #[.int .u32 (f 0), .int .u32 (f 1), .int .u32 (f 2), .int .u32 (f 3), .int .u32 (f 4)] (0, 0) _ rfl Hb2.out Tryz.underlying75 rfl (by kernel_rfl)) rfl (.mk _ rfl ⟨rfl, HB2.out⟩)
set_option maxRecDepth 100000 in
set_option maxHeartbeats 2000000 in
theorem build53 (f : Nat → Int) (g : Nat) (c : Nat) (w : World) (hr : ∀ j, j < 2 → w.cell? ⟨g, j, none⟩ = some (.int .u32 (f j))) : Calls Tryz.prog 53 #[.slice (some ⟨g, 0, none⟩) 2 c] w (Ret (Built w #[.int .u32 (f 0), .int .u32 (f 1)])) := by
  have q0 := cell_old (o := (Obj.cells #[.int .u32 0, .int .u32 0] 77)) (hr 0 (by omega))
  have q1 := cell_old (o := (Obj.cells #[.int .u32 0, .int .u32 0] 77)) (hr 1 (by omega))
  clear hr
  go_enter Tryz.func53, Tryz.ntmps53
  go_wp2_with fail
  have hB := below_alloc (Below.refl w.heap.size w) (Obj.cells #[.int .u32 0, .int .u32 0] 77)
  have hb := heap_alloc_new w (Obj.cells #[.int .u32 0, .int .u32 0] 77)
  generalize w.alloc (Obj.cells #[.int .u32 0, .int .u32 0] 77) = W at hB hb q0 q1 ⊢
  have hlt := blk_lt hb
  have Hb2 : Hid ((W.drew.setRow w.heap.size #[.int .u32 (f 0), .int .u32 (f 1)]).heap[w.heap.size]? = some (.cells #[.int .u32 (f 0), .int .u32 (f 1)] 77 (0, 0))) := Lib.hid (setRow_heap (w := W.drew) hb)
  have HB2 := Lib.hid (below_setRow (cs := #[.int .u32 (f 0), .int .u32 (f 1)]) (below_drew hB) (Nat.le_refl _))
  have Hb := Lib.hid hb
  clear hb hB
  go_still_tail 7, (by kernel_rfl)
  refine wpList_plain rfl (fun K hK => wp_store_row 77 (.tmp 2) (.tmp 17) rfl w.heap.size #[.int .u32 (f 0), .int .u32 (f 1)] rfl rfl 77 #[.int .u32 0, .int .u32 0] Hb.out (by kernel_rfl) rfl (by simp [Value.oneCell']) (hK _ _ ?_))
  clear hK K
  go_wp2
  try simp only [Exit.inBlock, Exit.then]
  refine bodyPost_ret (results_ct rfl _ _ w.heap.size 77 #[.int .u32 (f 0), .int .u32 (f 1)] (0, 0) _ rfl Hb2.out Tryz.underlying77 rfl (by kernel_rfl)) rfl (.mk _ rfl ⟨rfl, HB2.out⟩)
end Go.Proofs.YtaniejfkbapbbaaGreatDoor
namespace Go.Proofs.YtaniejfkbapbbaaGreatDoor
open Go.RowKit Go.Proofs.YtaniejfkbapbbaaGreatDoorW.PrintWords Go.Proofs.YtaniejfkbapbbaaGreatDoorW.PrintLast Go.Proofs.YtaniejfkbapbbaaGreatDoorW.PrintMore

set_option maxRecDepth 100000 in
set_option maxHeartbeats 2000000 in
theorem build54 (f : Nat → Int) (g : Nat) (c : Nat) (w : World) (hr : ∀ j, j < 4 → w.cell? ⟨g, j, none⟩ = some (.int .u32 (f j))) : Calls Tryz.prog 54 #[.slice (some ⟨g, 0, none⟩) 4 c] w (Ret (Built w #[.int .u32 (f 0), .int .u32 (f 1), .int .u32 (f 2), .int .u32 (f 3)])) := by
  have q0 := cell_old (o := (Obj.cells #[.int .u32 0, .int .u32 0, .int .u32 0, .int .u32 0] 79)) (hr 0 (by omega))
  have q1 := cell_old (o := (Obj.cells #[.int .u32 0, .int .u32 0, .int .u32 0, .int .u32 0] 79)) (hr 1 (by omega))
  have q2 := cell_old (o := (Obj.cells #[.int .u32 0, .int .u32 0, .int .u32 0, .int .u32 0] 79)) (hr 2 (by omega))
  have q3 := cell_old (o := (Obj.cells #[.int .u32 0, .int .u32 0, .int .u32 0, .int .u32 0] 79)) (hr 3 (by omega))
  clear hr
  go_enter Tryz.func54, Tryz.ntmps54
  go_wp2_with fail
  have hB := below_alloc (Below.refl w.heap.size w) (Obj.cells #[.int .u32 0, .int .u32 0, .int .u32 0, .int .u32 0] 79)
  have hb := heap_alloc_new w (Obj.cells #[.int .u32 0, .int .u32 0, .int .u32 0, .int .u32 0] 79)
  generalize w.alloc (Obj.cells #[.int .u32 0, .int .u32 0, .int .u32 0, .int .u32 0] 79) = W at hB hb q0 q1 q2 q3 ⊢
  have hlt := blk_lt hb
  have Hb2 : Hid ((W.drew.setRow w.heap.size #[.int .u32 (f 0), .int .u32 (f 1), .int .u32 (f 2), .int .u32 (f 3)]).heap[w.heap.size]? = some (.cells #[.int .u32 (f 0), .int .u32 (f 1), .int .u32 (f 2), .int .u32 (f 3)] 79 (0, 0))) := Lib.hid (setRow_heap (w := W.drew) hb)
  have HB2 := Lib.hid (below_setRow (cs := #[.int .u32 (f 0), .int .u32 (f 1), .int .u32 (f 2), .int .u32 (f 3)]) (below_drew hB) (Nat.le_refl _))
  have Hb := Lib.hid hb
  clear hb hB
  go_still_tail 13, (by kernel_rfl)
  refine wpList_plain rfl (fun K hK => wp_store_row 79 (.tmp 2) (.tmp 23) rfl w.heap.size #[.int .u32 (f 0), .int .u32 (f 1), .int .u32 (f 2), .int .u32 (f 3)] rfl rfl 79 #[.int .u32 0, .int .u32 0, .int .u32 0, .int .u32 0] Hb.out (by kernel_rfl) rfl (by simp [Value.oneCell']) (hK _ _ ?_))
  clear hK K
  go_wp2
  try simp only [Exit.inBlock, Exit.then]
  refine bodyPost_ret (results_ct rfl _ _ w.heap.size 79 #[.int .u32 (f 0), .int .u32 (f 1), .int .u32 (f 2), .int .u32 (f 3)] (0, 0) _ rfl Hb2.out Tryz.underlying79 rfl (by kernel_rfl)) rfl (.mk _ rfl ⟨rfl, HB2.out⟩)
set_option maxRecDepth 100000 in
set_option maxHeartbeats 2000000 in
theorem build55 (f : Nat → Int) (g : Nat) (c : Nat) (w : World) (hr : ∀ j, j < 3 → w.cell? ⟨g, j, none⟩ = some (.int .u32 (f j))) : Calls Tryz.prog 55 #[.slice (some ⟨g, 0, none⟩) 3 c] w (Ret (Built w #[.int .u32 (f 0), .int .u32 (f 1), .int .u32 (f 2)])) := by
  have q0 := cell_old (o := (Obj.cells #[.int .u32 0, .int .u32 0, .int .u32 0] 81)) (hr 0 (by omega))
  have q1 := cell_old (o := (Obj.cells #[.int .u32 0, .int .u32 0, .int .u32 0] 81)) (hr 1 (by omega))
  have q2 := cell_old (o := (Obj.cells #[.int .u32 0, .int .u32 0, .int .u32 0] 81)) (hr 2 (by omega))
  clear hr
  go_enter Tryz.func55, Tryz.ntmps55
  go_wp2_with fail
  have hB := below_alloc (Below.refl w.heap.size w) (Obj.cells #[.int .u32 0, .int .u32 0, .int .u32 0] 81)
  have hb := heap_alloc_new w (Obj.cells #[.int .u32 0, .int .u32 0, .int .u32 0] 81)
  generalize w.alloc (Obj.cells #[.int .u32 0, .int .u32 0, .int .u32 0] 81) = W at hB hb q0 q1 q2 ⊢
  have hlt := blk_lt hb
  have Hb2 : Hid ((W.drew.setRow w.heap.size #[.int .u32 (f 0), .int .u32 (f 1), .int .u32 (f 2)]).heap[w.heap.size]? = some (.cells #[.int .u32 (f 0), .int .u32 (f 1), .int .u32 (f 2)] 81 (0, 0))) := Lib.hid (setRow_heap (w := W.drew) hb)
  have HB2 := Lib.hid (below_setRow (cs := #[.int .u32 (f 0), .int .u32 (f 1), .int .u32 (f 2)]) (below_drew hB) (Nat.le_refl _))
  have Hb := Lib.hid hb
  clear hb hB
  go_still_tail 10, (by kernel_rfl)
  refine wpList_plain rfl (fun K hK => wp_store_row 81 (.tmp 2) (.tmp 20) rfl w.heap.size #[.int .u32 (f 0), .int .u32 (f 1), .int .u32 (f 2)] rfl rfl 81 #[.int .u32 0, .int .u32 0, .int .u32 0] Hb.out (by kernel_rfl) rfl (by simp [Value.oneCell']) (hK _ _ ?_))
  clear hK K
  go_wp2
  try simp only [Exit.inBlock, Exit.then]
  refine bodyPost_ret (results_ct rfl _ _ w.heap.size 81 #[.int .u32 (f 0), .int .u32 (f 1), .int .u32 (f 2)] (0, 0) _ rfl Hb2.out Tryz.underlying81 rfl (by kernel_rfl)) rfl (.mk _ rfl ⟨rfl, HB2.out⟩)
set_option maxRecDepth 100000 in
set_option maxHeartbeats 2000000 in
theorem build57 (f : Nat → Int) (g : Nat) (c : Nat) (w : World) (hr : ∀ j, j < 9 → w.cell? ⟨g, j, none⟩ = some (.int .u32 (f j))) : Calls Tryz.prog 57 #[.slice (some ⟨g, 0, none⟩) 9 c] w (Ret (Built w #[.int .u32 (f 0), .int .u32 (f 1), .int .u32 (f 2), .int .u32 (f 3), .int .u32 (f 4), .int .u32 (f 5), .int .u32 (f 6), .int .u32 (f 7), .int .u32 (f 8)])) := by
  have q0 := cell_old (o := (Obj.cells #[.int .u32 0, .int .u32 0, .int .u32 0, .int .u32 0, .int .u32 0, .int .u32 0, .int .u32 0, .int .u32 0, .int .u32 0] 85)) (hr 0 (by omega))
  have q1 := cell_old (o := (Obj.cells #[.int .u32 0, .int .u32 0, .int .u32 0, .int .u32 0, .int .u32 0, .int .u32 0, .int .u32 0, .int .u32 0, .int .u32 0] 85)) (hr 1 (by omega))
  have q2 := cell_old (o := (Obj.cells #[.int .u32 0, .int .u32 0, .int .u32 0, .int .u32 0, .int .u32 0, .int .u32 0, .int .u32 0, .int .u32 0, .int .u32 0] 85)) (hr 2 (by omega))
  have q3 := cell_old (o := (Obj.cells #[.int .u32 0, .int .u32 0, .int .u32 0, .int .u32 0, .int .u32 0, .int .u32 0, .int .u32 0, .int .u32 0, .int .u32 0] 85)) (hr 3 (by omega))
  have q4 := cell_old (o := (Obj.cells #[.int .u32 0, .int .u32 0, .int .u32 0, .int .u32 0, .int .u32 0, .int .u32 0, .int .u32 0, .int .u32 0, .int .u32 0] 85)) (hr 4 (by omega))
  have q5 := cell_old (o := (Obj.cells #[.int .u32 0, .int .u32 0, .int .u32 0, .int .u32 0, .int .u32 0, .int .u32 0, .int .u32 0, .int .u32 0, .int .u32 0] 85)) (hr 5 (by omega))
  have q6 := cell_old (o := (Obj.cells #[.int .u32 0, .int .u32 0, .int .u32 0, .int .u32 0, .int .u32 0, .int .u32 0, .int .u32 0, .int .u32 0, .int .u32 0] 85)) (hr 6 (by omega))
  have q7 := cell_old (o := (Obj.cells #[.int .u32 0, .int .u32 0, .int .u32 0, .int .u32 0, .int .u32 0, .int .u32 0, .int .u32 0, .int .u32 0, .int .u32 0] 85)) (hr 7 (by omega))
  have q8 := cell_old (o := (Obj.cells #[.int .u32 0, .int .u32 0, .int .u32 0, .int .u32 0, .int .u32 0, .int .u32 0, .int .u32 0, .int .u32 0, .int .u32 0] 85)) (hr 8 (by omega))
  clear hr
  go_enter Tryz.func57, Tryz.ntmps57
  go_wp2_with fail
  have hB := below_alloc (Below.refl w.heap.size w) (Obj.cells #[.int .u32 0, .int .u32 0, .int .u32 0, .int .u32 0, .int .u32 0, .int .u32 0, .int .u32 0, .int .u32 0, .int .u32 0] 85)
  have hb := heap_alloc_new w (Obj.cells #[.int .u32 0, .int .u32 0, .int .u32 0, .int .u32 0, .int .u32 0, .int .u32 0, .int .u32 0, .int .u32 0, .int .u32 0] 85)
  generalize w.alloc (Obj.cells #[.int .u32 0, .int .u32 0, .int .u32 0, .int .u32 0, .int .u32 0, .int .u32 0, .int .u32 0, .int .u32 0, .int .u32 0] 85) = W at hB hb q0 q1 q2 q3 q4 q5 q6 q7 q8 ⊢
  have hlt := blk_lt hb
  have Hb2 : Hid ((W.drew.setRow w.heap.size #[.int .u32 (f 0), .int .u32 (f 1), .int .u32 (f 2), .int .u32 (f 3), .int .u32 (f 4), .int .u32 (f 5), .int .u32 (f 6), .int .u32 (f 7), .int .u32 (f 8)]).heap[w.heap.size]? = some (.cells #[.int .u32 (f 0), .int .u32 (f 1), .int .u32 (f 2), .int .u32 (f 3), .int .u32 (f 4), .int .u32 (f 5), .int .u32 (f 6), .int .u32 (f 7), .int .u32 (f 8)] 85 (0, 0))) := Lib.hid (setRow_heap (w := W.drew) hb)
  have HB2 := Lib.hid (below_setRow (cs := #[.int .u32 (f 0), .int .u32 (f 1), .int .u32 (f 2), .int .u32 (f 3), .int .u32 (f 4), .int .u32 (f 5), .int .u32 (f 6), .int .u32 (f 7), .int .u32 (f 8)]) (below_drew hB) (Nat.le_refl _))
  have Hb := Lib.hid hb
  clear hb hB
  go_still_tail 28, (by kernel_rfl)
  refine wpList_plain rfl (fun K hK => wp_store_row 85 (.tmp 2) (.tmp 38) rfl w.heap.size #[.int .u32 (f 0), .int .u32 (f 1), .int .u32 (f 2), .int .u32 (f 3), .int .u32 (f 4), .int .u32 (f 5), .int .u32 (f 6), .int .u32 (f 7), .int .u32 (f 8)] rfl rfl 85 #[.int .u32 0, .int .u32 0, .int .u32 0, .int .u32 0, .int .u32 0, .int .u32 0, .int .u32 0, .int .u32 0, .int .u32 0] Hb.out (by kernel_rfl) rfl (by simp [Value.oneCell']) (hK _ _ ?_))
  clear hK K
  go_wp2
  try simp only [Exit.inBlock, Exit.then]
  refine bodyPost_ret (results_ct rfl _ _ w.heap.size 85 #[.int .u32 (f 0), .int .u32 (f 1), .int .u32 (f 2), .int .u32 (f 3), .int .u32 (f 4), .int .u32 (f 5), .int .u32 (f 6), .int .u32 (f 7), .int .u32 (f 8)] (0, 0) _ rfl Hb2.out Tryz.underlying85 rfl (by kernel_rfl)) rfl (.mk _ rfl ⟨rfl, HB2.out⟩)
set_option maxRecDepth 100000 in
set_option maxHeartbeats 2000000 in
theorem build58 (f : Nat → Int) (g : Nat) (c : Nat) (w : World) (hr : ∀ j, j < 10 → w.cell? ⟨g, j, none⟩ = some (.int .u32 (f j))) : Calls Tryz.prog 58 #[.slice (some ⟨g, 0, none⟩) 10 c] w (Ret (Built w #[.int .u32 (f 0), .int .u32 (f 1), .int .u32 (f 2), .int .u32 (f 3), .int .u32 (f 4), .int .u32 (f 5), .int .u32 (f 6), .int .u32 (f 7), .int .u32 (f 8), .int .u32 (f 9)])) := by
  have q0 := cell_old (o := (Obj.cells #[.int .u32 0, .int .u32 0, .int .u32 0, .int .u32 0, .int .u32 0, .int .u32 0, .int .u32 0, .int .u32 0, .int .u32 0, .int .u32 0] 91)) (hr 0 (by omega))
  have q1 := cell_old (o := (Obj.cells #[.int .u32 0, .int .u32 0, .int .u32 0, .int .u32 0, .int .u32 0, .int .u32 0, .int .u32 0, .int .u32 0, .int .u32 0, .int .u32 0] 91)) (hr 1 (by omega))
  have q2 := cell_old (o := (Obj.cells #[.int .u32 0, .int .u32 0, .int .u32 0, .int .u32 0, .int .u32 0, .int .u32 0, .int .u32 0, .int .u32 0, .int .u32 0, .int .u32 0] 91)) (hr 2 (by omega))
  have q3 := cell_old (o := (Obj.cells #[.int .u32 0, .int .u32 0, .int .u32 0, .int .u32 0, .int .u32 0, .int .u32 0, .int .u32 0, .int .u32 0, .int .u32 0, .int .u32 0] 91)) (hr 3 (by omega))
  have q4 := cell_old (o := (Obj.cells #[.int .u32 0, .int .u32 0, .int .u32 0, .int .u32 0, .int .u32 0, .int .u32 0, .int .u32 0, .int .u32 0, .int .u32 0, .int .u32 0] 91)) (hr 4 (by omega))
  have q5 := cell_old (o := (Obj.cells #[.int .u32 0, .int .u32 0, .int .u32 0, .int .u32 0, .int .u32 0, .int .u32 0, .int .u32 0, .int .u32 0, .int .u32 0, .int .u32 0] 91)) (hr 5 (by omega))
  have q6 := cell_old (o := (Obj.cells #[.int .u32 0, .int .u32 0, .int .u32 0, .int .u32 0, .int .u32 0, .int .u32 0, .int .u32 0, .int .u32 0, .int .u32 0, .int .u32 0] 91)) (hr 6 (by omega))
  have q7 := cell_old (o := (Obj.cells #[.int .u32 0, .int .u32 0, .int .u32 0, .int .u32 0, .int .u32 0, .int .u32 0, .int .u32 0, .int .u32 0, .int .u32 0, .int .u32 0] 91)) (hr 7 (by omega))
  have q8 := cell_old (o := (Obj.cells #[.int .u32 0, .int .u32 0, .int .u32 0, .int .u32 0, .int .u32 0, .int .u32 0, .int .u32 0, .int .u32 0, .int .u32 0, .int .u32 0] 91)) (hr 8 (by omega))
  have q9 := cell_old (o := (Obj.cells #[.int .u32 0, .int .u32 0, .int .u32 0, .int .u32 0, .int .u32 0, .int .u32 0, .int .u32 0, .int .u32 0, .int .u32 0, .int .u32 0] 91)) (hr 9 (by omega))
  clear hr
  go_enter Tryz.func58, Tryz.ntmps58
  go_wp2_with fail
  have hB := below_alloc (Below.refl w.heap.size w) (Obj.cells #[.int .u32 0, .int .u32 0, .int .u32 0, .int .u32 0, .int .u32 0, .int .u32 0, .int .u32 0, .int .u32 0, .int .u32 0, .int .u32 0] 91)
  have hb := heap_alloc_new w (Obj.cells #[.int .u32 0, .int .u32 0, .int .u32 0, .int .u32 0, .int .u32 0, .int .u32 0, .int .u32 0, .int .u32 0, .int .u32 0, .int .u32 0] 91)
  generalize w.alloc (Obj.cells #[.int .u32 0, .int .u32 0, .int .u32 0, .int .u32 0, .int .u32 0, .int .u32 0, .int .u32 0, .int .u32 0, .int .u32 0, .int .u32 0] 91) = W at hB hb q0 q1 q2 q3 q4 q5 q6 q7 q8 q9 ⊢
  have hlt := blk_lt hb
  have Hb2 : Hid ((W.drew.setRow w.heap.size #[.int .u32 (f 0), .int .u32 (f 1), .int .u32 (f 2), .int .u32 (f 3), .int .u32 (f 4), .int .u32 (f 5), .int .u32 (f 6), .int .u32 (f 7), .int .u32 (f 8), .int .u32 (f 9)]).heap[w.heap.size]? = some (.cells #[.int .u32 (f 0), .int .u32 (f 1), .int .u32 (f 2), .int .u32 (f 3), .int .u32 (f 4), .int .u32 (f 5), .int .u32 (f 6), .int .u32 (f 7), .int .u32 (f 8), .int .u32 (f 9)] 91 (0, 0))) := Lib.hid (setRow_heap (w := W.drew) hb)
  have HB2 := Lib.hid (below_setRow (cs := #[.int .u32 (f 0), .int .u32 (f 1), .int .u32 (f 2), .int .u32 (f 3), .int .u32 (f 4), .int .u32 (f 5), .int .u32 (f 6), .int .u32 (f 7), .int .u32 (f 8), .int .u32 (f 9)]) (below_drew hB) (Nat.le_refl _))
  have Hb := Lib.hid hb
  clear hb hB
  go_still_tail 31, (by kernel_rfl)
  refine wpList_plain rfl (fun K hK => wp_store_row 91 (.tmp 2) (.tmp 41) rfl w.heap.size #[.int .u32 (f 0), .int .u32 (f 1), .int .u32 (f 2), .int .u32 (f 3), .int .u32 (f 4), .int .u32 (f 5), .int .u32 (f 6), .int .u32 (f 7), .int .u32 (f 8), .int .u32 (f 9)] rfl rfl 91 #[.int .u32 0, .int .u32 0, .int .u32 0, .int .u32 0, .int .u32 0, .int .u32 0, .int .u32 0, .int .u32 0, .int .u32 0, .int .u32 0] Hb.out (by kernel_rfl) rfl (by simp [Value.oneCell']) (hK _ _ ?_))
  clear hK K
  go_wp2
  try simp only [Exit.inBlock, Exit.then]
  refine bodyPost_ret (results_ct rfl _ _ w.heap.size 91 #[.int .u32 (f 0), .int .u32 (f 1), .int .u32 (f 2), .int .u32 (f 3), .int .u32 (f 4), .int .u32 (f 5), .int .u32 (f 6), .int .u32 (f 7), .int .u32 (f 8), .int .u32 (f 9)] (0, 0) _ rfl Hb2.out Tryz.underlying91 rfl (by kernel_rfl)) rfl (.mk _ rfl ⟨rfl, HB2.out⟩)
set_option maxRecDepth 100000 in
set_option maxHeartbeats 2000000 in
theorem build59 (f : Nat → Int) (g : Nat) (c : Nat) (w : World) (hr : ∀ j, j < 2 → w.cell? ⟨g, j, none⟩ = some (.int .u32 (f j))) : Calls Tryz.prog 59 #[.slice (some ⟨g, 0, none⟩) 2 c] w (Ret (Built w #[.int .u32 (f 0), .int .u32 (f 1)])) := by
  have q0 := cell_old (o := (Obj.cells #[.int .u32 0, .int .u32 0] 89)) (hr 0 (by omega))
  have q1 := cell_old (o := (Obj.cells #[.int .u32 0, .int .u32 0] 89)) (hr 1 (by omega))
  clear hr
  go_enter Tryz.func59, Tryz.ntmps59
  go_wp2_with fail
  have hB := below_alloc (Below.refl w.heap.size w) (Obj.cells #[.int .u32 0, .int .u32 0] 89)
  have hb := heap_alloc_new w (Obj.cells #[.int .u32 0, .int .u32 0] 89)
  generalize w.alloc (Obj.cells #[.int .u32 0, .int .u32 0] 89) = W at hB hb q0 q1 ⊢
  have hlt := blk_lt hb
  have Hb2 : Hid ((W.drew.setRow w.heap.size #[.int .u32 (f 0), .int .u32 (f 1)]).heap[w.heap.size]? = some (.cells #[.int .u32 (f 0), .int .u32 (f 1)] 89 (0, 0))) := Lib.hid (setRow_heap (w := W.drew) hb)
  have HB2 := Lib.hid (below_setRow (cs := #[.int .u32 (f 0), .int .u32 (f 1)]) (below_drew hB) (Nat.le_refl _))
  have Hb := Lib.hid hb
  clear hb hB
  go_still_tail 7, (by kernel_rfl)
  refine wpList_plain rfl (fun K hK => wp_store_row 89 (.tmp 2) (.tmp 17) rfl w.heap.size #[.int .u32 (f 0), .int .u32 (f 1)] rfl rfl 89 #[.int .u32 0, .int .u32 0] Hb.out (by kernel_rfl) rfl (by simp [Value.oneCell']) (hK _ _ ?_))
  clear hK K
  go_wp2
  try simp only [Exit.inBlock, Exit.then]
  refine bodyPost_ret (results_ct rfl _ _ w.heap.size 89 #[.int .u32 (f 0), .int .u32 (f 1)] (0, 0) _ rfl Hb2.out Tryz.underlying89 rfl (by kernel_rfl)) rfl (.mk _ rfl ⟨rfl, HB2.out⟩)
set_option maxRecDepth 100000 in
set_option maxHeartbeats 2000000 in
theorem build60 (f : Nat → Int) (g : Nat) (c : Nat) (w : World) (hr : ∀ j, j < 15 → w.cell? ⟨g, j, none⟩ = some (.int .u32 (f j))) : Calls Tryz.prog 60 #[.slice (some ⟨g, 0, none⟩) 15 c] w (Ret (Built w #[.int .u32 (f 0), .int .u32 (f 1), .int .u32 (f 2), .int .u32 (f 3), .int .u32 (f 4), .int .u32 (f 5), .int .u32 (f 6), .int .u32 (f 7), .int .u32 (f 8), .int .u32 (f 9), .int .u32 (f 10), .int .u32 (f 11), .int .u32 (f 12), .int .u32 (f 13), .int .u32 (f 14)])) := by
  have q0 := cell_old (o := (Obj.cells #[.int .u32 0, .int .u32 0, .int .u32 0, .int .u32 0, .int .u32 0, .int .u32 0, .int .u32 0, .int .u32 0, .int .u32 0, .int .u32 0, .int .u32 0, .int .u32 0, .int .u32 0, .int .u32 0, .int .u32 0] 97)) (hr 0 (by omega))
  have q1 := cell_old (o := (Obj.cells #[.int .u32 0, .int .u32 0, .int .u32 0, .int .u32 0, .int .u32 0, .int .u32 0, .int .u32 0, .int .u32 0, .int .u32 0, .int .u32 0, .int .u32 0, .int .u32 0, .int .u32 0, .int .u32 0, .int .u32 0] 97)) (hr 1 (by omega))
  have q2 := cell_old (o := (Obj.cells #[.int .u32 0, .int .u32 0, .int .u32 0, .int .u32 0, .int .u32 0, .int .u32 0, .int .u32 0, .int .u32 0, .int .u32 0, .int .u32 0, .int .u32 0, .int .u32 0, .int .u32 0, .int .u32 0, .int .u32 0] 97)) (hr 2 (by omega))
  have q3 := cell_old (o := (Obj.cells #[.int .u32 0, .int .u32 0, .int .u32 0, .int .u32 0, .int .u32 0, .int .u32 0, .int .u32 0, .int .u32 0, .int .u32 0, .int .u32 0, .int .u32 0, .int .u32 0, .int .u32 0, .int .u32 0, .int .u32 0] 97)) (hr 3 (by omega))
  have q4 := cell_old (o := (Obj.cells #[.int .u32 0, .int .u32 0, .int .u32 0, .int .u32 0, .int .u32 0, .int .u32 0, .int .u32 0, .int .u32 0, .int .u32 0, .int .u32 0, .int .u32 0, .int .u32 0, .int .u32 0, .int .u32 0, .int .u32 0] 97)) (hr 4 (by omega))
  have q5 := cell_old (o := (Obj.cells #[.int .u32 0, .int .u32 0, .int .u32 0, .int .u32 0, .int .u32 0, .int .u32 0, .int .u32 0, .int .u32 0, .int .u32 0, .int .u32 0, .int .u32 0, .int .u32 0, .int .u32 0, .int .u32 0, .int .u32 0] 97)) (hr 5 (by omega))
  have q6 := cell_old (o := (Obj.cells #[.int .u32 0, .int .u32 0, .int .u32 0, .int .u32 0, .int .u32 0, .int .u32 0, .int .u32 0, .int .u32 0, .int .u32 0, .int .u32 0, .int .u32 0, .int .u32 0, .int .u32 0, .int .u32 0, .int .u32 0] 97)) (hr 6 (by omega))
  have q7 := cell_old (o := (Obj.cells #[.int .u32 0, .int .u32 0, .int .u32 0, .int .u32 0, .int .u32 0, .int .u32 0, .int .u32 0, .int .u32 0, .int .u32 0, .int .u32 0, .int .u32 0, .int .u32 0, .int .u32 0, .int .u32 0, .int .u32 0] 97)) (hr 7 (by omega))
  have q8 := cell_old (o := (Obj.cells #[.int .u32 0, .int .u32 0, .int .u32 0, .int .u32 0, .int .u32 0, .int .u32 0, .int .u32 0, .int .u32 0, .int .u32 0, .int .u32 0, .int .u32 0, .int .u32 0, .int .u32 0, .int .u32 0, .int .u32 0] 97)) (hr 8 (by omega))
  have q9 := cell_old (o := (Obj.cells #[.int .u32 0, .int .u32 0, .int .u32 0, .int .u32 0, .int .u32 0, .int .u32 0, .int .u32 0, .int .u32 0, .int .u32 0, .int .u32 0, .int .u32 0, .int .u32 0, .int .u32 0, .int .u32 0, .int .u32 0] 97)) (hr 9 (by omega))
  have q10 := cell_old (o := (Obj.cells #[.int .u32 0, .int .u32 0, .int .u32 0, .int .u32 0, .int .u32 0, .int .u32 0, .int .u32 0, .int .u32 0, .int .u32 0, .int .u32 0, .int .u32 0, .int .u32 0, .int .u32 0, .int .u32 0, .int .u32 0] 97)) (hr 10 (by omega))
  have q11 := cell_old (o := (Obj.cells #[.int .u32 0, .int .u32 0, .int .u32 0, .int .u32 0, .int .u32 0, .int .u32 0, .int .u32 0, .int .u32 0, .int .u32 0, .int .u32 0, .int .u32 0, .int .u32 0, .int .u32 0, .int .u32 0, .int .u32 0] 97)) (hr 11 (by omega))
  have q12 := cell_old (o := (Obj.cells #[.int .u32 0, .int .u32 0, .int .u32 0, .int .u32 0, .int .u32 0, .int .u32 0, .int .u32 0, .int .u32 0, .int .u32 0, .int .u32 0, .int .u32 0, .int .u32 0, .int .u32 0, .int .u32 0, .int .u32 0] 97)) (hr 12 (by omega))
  have q13 := cell_old (o := (Obj.cells #[.int .u32 0, .int .u32 0, .int .u32 0, .int .u32 0, .int .u32 0, .int .u32 0, .int .u32 0, .int .u32 0, .int .u32 0, .int .u32 0, .int .u32 0, .int .u32 0, .int .u32 0, .int .u32 0, .int .u32 0] 97)) (hr 13 (by omega))
  have q14 := cell_old (o := (Obj.cells #[.int .u32 0, .int .u32 0, .int .u32 0, .int .u32 0, .int .u32 0, .int .u32 0, .int .u32 0, .int .u32 0, .int .u32 0, .int .u32 0, .int .u32 0, .int .u32 0, .int .u32 0, .int .u32 0, .int .u32 0] 97)) (hr 14 (by omega))
  clear hr
  go_enter Tryz.func60, Tryz.ntmps60
  go_wp2_with fail
  have hB := below_alloc (Below.refl w.heap.size w) (Obj.cells #[.int .u32 0, .int .u32 0, .int .u32 0, .int .u32 0, .int .u32 0, .int .u32 0, .int .u32 0, .int .u32 0, .int .u32 0, .int .u32 0, .int .u32 0, .int .u32 0, .int .u32 0, .int .u32 0, .int .u32 0] 97)
  have hb := heap_alloc_new w (Obj.cells #[.int .u32 0, .int .u32 0, .int .u32 0, .int .u32 0, .int .u32 0, .int .u32 0, .int .u32 0, .int .u32 0, .int .u32 0, .int .u32 0, .int .u32 0, .int .u32 0, .int .u32 0, .int .u32 0, .int .u32 0] 97)
  generalize w.alloc (Obj.cells #[.int .u32 0, .int .u32 0, .int .u32 0, .int .u32 0, .int .u32 0, .int .u32 0, .int .u32 0, .int .u32 0, .int .u32 0, .int .u32 0, .int .u32 0, .int .u32 0, .int .u32 0, .int .u32 0, .int .u32 0] 97) = W at hB hb q0 q1 q2 q3 q4 q5 q6 q7 q8 q9 q10 q11 q12 q13 q14 ⊢
  have hlt := blk_lt hb
  have Hb2 : Hid ((W.drew.setRow w.heap.size #[.int .u32 (f 0), .int .u32 (f 1), .int .u32 (f 2), .int .u32 (f 3), .int .u32 (f 4), .int .u32 (f 5), .int .u32 (f 6), .int .u32 (f 7), .int .u32 (f 8), .int .u32 (f 9), .int .u32 (f 10), .int .u32 (f 11), .int .u32 (f 12), .int .u32 (f 13), .int .u32 (f 14)]).heap[w.heap.size]? = some (.cells #[.int .u32 (f 0), .int .u32 (f 1), .int .u32 (f 2), .int .u32 (f 3), .int .u32 (f 4), .int .u32 (f 5), .int .u32 (f 6), .int .u32 (f 7), .int .u32 (f 8), .int .u32 (f 9), .int .u32 (f 10), .int .u32 (f 11), .int .u32 (f 12), .int .u32 (f 13), .int .u32 (f 14)] 97 (0, 0))) := Lib.hid (setRow_heap (w := W.drew) hb)
  have HB2 := Lib.hid (below_setRow (cs := #[.int .u32 (f 0), .int .u32 (f 1), .int .u32 (f 2), .int .u32 (f 3), .int .u32 (f 4), .int .u32 (f 5), .int .u32 (f 6), .int .u32 (f 7), .int .u32 (f 8), .int .u32 (f 9), .int .u32 (f 10), .int .u32 (f 11), .int .u32 (f 12), .int .u32 (f 13), .int .u32 (f 14)]) (below_drew hB) (Nat.le_refl _))
  have Hb := Lib.hid hb
  clear hb hB
  go_still_tail 46, (by kernel_rfl)
  refine wpList_plain rfl (fun K hK => wp_store_row 97 (.tmp 2) (.tmp 56) rfl w.heap.size #[.int .u32 (f 0), .int .u32 (f 1), .int .u32 (f 2), .int .u32 (f 3), .int .u32 (f 4), .int .u32 (f 5), .int .u32 (f 6), .int .u32 (f 7), .int .u32 (f 8), .int .u32 (f 9), .int .u32 (f 10), .int .u32 (f 11), .int .u32 (f 12), .int .u32 (f 13), .int .u32 (f 14)] rfl rfl 97 #[.int .u32 0, .int .u32 0, .int .u32 0, .int .u32 0, .int .u32 0, .int .u32 0, .int .u32 0, .int .u32 0, .int .u32 0, .int .u32 0, .int .u32 0, .int .u32 0, .int .u32 0, .int .u32 0, .int .u32 0] Hb.out (by kernel_rfl) rfl (by simp [Value.oneCell']) (hK _ _ ?_))
  clear hK K
  go_wp2
  try simp only [Exit.inBlock, Exit.then]
  refine bodyPost_ret (results_ct rfl _ _ w.heap.size 97 #[.int .u32 (f 0), .int .u32 (f 1), .int .u32 (f 2), .int .u32 (f 3), .int .u32 (f 4), .int .u32 (f 5), .int .u32 (f 6), .int .u32 (f 7), .int .u32 (f 8), .int .u32 (f 9), .int .u32 (f 10), .int .u32 (f 11), .int .u32 (f 12), .int .u32 (f 13), .int .u32 (f 14)] (0, 0) _ rfl Hb2.out Tryz.underlying97 rfl (by kernel_rfl)) rfl (.mk _ rfl ⟨rfl, HB2.out⟩)
set_option maxRecDepth 100000 in
set_option maxHeartbeats 2000000 in
theorem build61 (f : Nat → Int) (g : Nat) (c : Nat) (w : World) (hr : ∀ j, j < 15 → w.cell? ⟨g, j, none⟩ = some (.int .u32 (f j))) : Calls Tryz.prog 61 #[.slice (some ⟨g, 0, none⟩) 15 c] w (Ret (Built w #[.int .u32 (f 0), .int .u32 (f 1), .int .u32 (f 2), .int .u32 (f 3), .int .u32 (f 4), .int .u32 (f 5), .int .u32 (f 6), .int .u32 (f 7), .int .u32 (f 8), .int .u32 (f 9), .int .u32 (f 10), .int .u32 (f 11), .int .u32 (f 12), .int .u32 (f 13), .int .u32 (f 14)])) := by
  have q0 := cell_old (o := (Obj.cells #[.int .u32 0, .int .u32 0, .int .u32 0, .int .u32 0, .int .u32 0, .int .u32 0, .int .u32 0, .int .u32 0, .int .u32 0, .int .u32 0, .int .u32 0, .int .u32 0, .int .u32 0, .int .u32 0, .int .u32 0] 98)) (hr 0 (by omega))
  have q1 := cell_old (o := (Obj.cells #[.int .u32 0, .int .u32 0, .int .u32 0, .int .u32 0, .int .u32 0, .int .u32 0, .int .u32 0, .int .u32 0, .int .u32 0, .int .u32 0, .int .u32 0, .int .u32 0, .int .u32 0, .int .u32 0, .int .u32 0] 98)) (hr 1 (by omega))
  have q2 := cell_old (o := (Obj.cells #[.int .u32 0, .int .u32 0, .int .u32 0, .int .u32 0, .int .u32 0, .int .u32 0, .int .u32 0, .int .u32 0, .int .u32 0, .int .u32 0, .int .u32 0, .int .u32 0, .int .u32 0, .int .u32 0, .int .u32 0] 98)) (hr 2 (by omega))
  have q3 := cell_old (o := (Obj.cells #[.int .u32 0, .int .u32 0, .int .u32 0, .int .u32 0, .int .u32 0, .int .u32 0, .int .u32 0, .int .u32 0, .int .u32 0, .int .u32 0, .int .u32 0, .int .u32 0, .int .u32 0, .int .u32 0, .int .u32 0] 98)) (hr 3 (by omega))
  have q4 := cell_old (o := (Obj.cells #[.int .u32 0, .int .u32 0, .int .u32 0, .int .u32 0, .int .u32 0, .int .u32 0, .int .u32 0, .int .u32 0, .int .u32 0, .int .u32 0, .int .u32 0, .int .u32 0, .int .u32 0, .int .u32 0, .int .u32 0] 98)) (hr 4 (by omega))
  have q5 := cell_old (o := (Obj.cells #[.int .u32 0, .int .u32 0, .int .u32 0, .int .u32 0, .int .u32 0, .int .u32 0, .int .u32 0, .int .u32 0, .int .u32 0, .int .u32 0, .int .u32 0, .int .u32 0, .int .u32 0, .int .u32 0, .int .u32 0] 98)) (hr 5 (by omega))
  have q6 := cell_old (o := (Obj.cells #[.int .u32 0, .int .u32 0, .int .u32 0, .int .u32 0, .int .u32 0, .int .u32 0, .int .u32 0, .int .u32 0, .int .u32 0, .int .u32 0, .int .u32 0, .int .u32 0, .int .u32 0, .int .u32 0, .int .u32 0] 98)) (hr 6 (by omega))
  have q7 := cell_old (o := (Obj.cells #[.int .u32 0, .int .u32 0, .int .u32 0, .int .u32 0, .int .u32 0, .int .u32 0, .int .u32 0, .int .u32 0, .int .u32 0, .int .u32 0, .int .u32 0, .int .u32 0, .int .u32 0, .int .u32 0, .int .u32 0] 98)) (hr 7 (by omega))
  have q8 := cell_old (o := (Obj.cells #[.int .u32 0, .int .u32 0, .int .u32 0, .int .u32 0, .int .u32 0, .int .u32 0, .int .u32 0, .int .u32 0, .int .u32 0, .int .u32 0, .int .u32 0, .int .u32 0, .int .u32 0, .int .u32 0, .int .u32 0] 98)) (hr 8 (by omega))
  have q9 := cell_old (o := (Obj.cells #[.int .u32 0, .int .u32 0, .int .u32 0, .int .u32 0, .int .u32 0, .int .u32 0, .int .u32 0, .int .u32 0, .int .u32 0, .int .u32 0, .int .u32 0, .int .u32 0, .int .u32 0, .int .u32 0, .int .u32 0] 98)) (hr 9 (by omega))
  have q10 := cell_old (o := (Obj.cells #[.int .u32 0, .int .u32 0, .int .u32 0, .int .u32 0, .int .u32 0, .int .u32 0, .int .u32 0, .int .u32 0, .int .u32 0, .int .u32 0, .int .u32 0, .int .u32 0, .int .u32 0, .int .u32 0, .int .u32 0] 98)) (hr 10 (by omega))
  have q11 := cell_old (o := (Obj.cells #[.int .u32 0, .int .u32 0, .int .u32 0, .int .u32 0, .int .u32 0, .int .u32 0, .int .u32 0, .int .u32 0, .int .u32 0, .int .u32 0, .int .u32 0, .int .u32 0, .int .u32 0, .int .u32 0, .int .u32 0] 98)) (hr 11 (by omega))
  have q12 := cell_old (o := (Obj.cells #[.int .u32 0, .int .u32 0, .int .u32 0, .int .u32 0, .int .u32 0, .int .u32 0, .int .u32 0, .int .u32 0, .int .u32 0, .int .u32 0, .int .u32 0, .int .u32 0, .int .u32 0, .int .u32 0, .int .u32 0] 98)) (hr 12 (by omega))
  have q13 := cell_old (o := (Obj.cells #[.int .u32 0, .int .u32 0, .int .u32 0, .int .u32 0, .int .u32 0, .int .u32 0, .int .u32 0, .int .u32 0, .int .u32 0, .int .u32 0, .int .u32 0, .int .u32 0, .int .u32 0, .int .u32 0, .int .u32 0] 98)) (hr 13 (by omega))
  have q14 := cell_old (o := (Obj.cells #[.int .u32 0, .int .u32 0, .int .u32 0, .int .u32 0, .int .u32 0, .int .u32 0, .int .u32 0, .int .u32 0, .int .u32 0, .int .u32 0, .int .u32 0, .int .u32 0, .int .u32 0, .int .u32 0, .int .u32 0] 98)) (hr 14 (by omega))
  clear hr
  go_enter Tryz.func61, Tryz.ntmps61
  go_wp2_with fail
  have hB := below_alloc (Below.refl w.heap.size w) (Obj.cells #[.int .u32 0, .int .u32 0, .int .u32 0, .int .u32 0, .int .u32 0, .int .u32 0, .int .u32 0, .int .u32 0, .int .u32 0, .int .u32 0, .int .u32 0, .int .u32 0, .int .u32 0, .int .u32 0, .int .u32 0] 98)
  have hb := heap_alloc_new w (Obj.cells #[.int .u32 0, .int .u32 0, .int .u32 0, .int .u32 0, .int .u32 0, .int .u32 0, .int .u32 0, .int .u32 0, .int .u32 0, .int .u32 0, .int .u32 0, .int .u32 0, .int .u32 0, .int .u32 0, .int .u32 0] 98)
  generalize w.alloc (Obj.cells #[.int .u32 0, .int .u32 0, .int .u32 0, .int .u32 0, .int .u32 0, .int .u32 0, .int .u32 0, .int .u32 0, .int .u32 0, .int .u32 0, .int .u32 0, .int .u32 0, .int .u32 0, .int .u32 0, .int .u32 0] 98) = W at hB hb q0 q1 q2 q3 q4 q5 q6 q7 q8 q9 q10 q11 q12 q13 q14 ⊢
  have hlt := blk_lt hb
  have Hb2 : Hid ((W.drew.setRow w.heap.size #[.int .u32 (f 0), .int .u32 (f 1), .int .u32 (f 2), .int .u32 (f 3), .int .u32 (f 4), .int .u32 (f 5), .int .u32 (f 6), .int .u32 (f 7), .int .u32 (f 8), .int .u32 (f 9), .int .u32 (f 10), .int .u32 (f 11), .int .u32 (f 12), .int .u32 (f 13), .int .u32 (f 14)]).heap[w.heap.size]? = some (.cells #[.int .u32 (f 0), .int .u32 (f 1), .int .u32 (f 2), .int .u32 (f 3), .int .u32 (f 4), .int .u32 (f 5), .int .u32 (f 6), .int .u32 (f 7), .int .u32 (f 8), .int .u32 (f 9), .int .u32 (f 10), .int .u32 (f 11), .int .u32 (f 12), .int .u32 (f 13), .int .u32 (f 14)] 98 (0, 0))) := Lib.hid (setRow_heap (w := W.drew) hb)
  have HB2 := Lib.hid (below_setRow (cs := #[.int .u32 (f 0), .int .u32 (f 1), .int .u32 (f 2), .int .u32 (f 3), .int .u32 (f 4), .int .u32 (f 5), .int .u32 (f 6), .int .u32 (f 7), .int .u32 (f 8), .int .u32 (f 9), .int .u32 (f 10), .int .u32 (f 11), .int .u32 (f 12), .int .u32 (f 13), .int .u32 (f 14)]) (below_drew hB) (Nat.le_refl _))
  have Hb := Lib.hid hb
  clear hb hB
  go_still_tail 46, (by kernel_rfl)
  refine wpList_plain rfl (fun K hK => wp_store_row 98 (.tmp 2) (.tmp 56) rfl w.heap.size #[.int .u32 (f 0), .int .u32 (f 1), .int .u32 (f 2), .int .u32 (f 3), .int .u32 (f 4), .int .u32 (f 5), .int .u32 (f 6), .int .u32 (f 7), .int .u32 (f 8), .int .u32 (f 9), .int .u32 (f 10), .int .u32 (f 11), .int .u32 (f 12), .int .u32 (f 13), .int .u32 (f 14)] rfl rfl 98 #[.int .u32 0, .int .u32 0, .int .u32 0, .int .u32 0, .int .u32 0, .int .u32 0, .int .u32 0, .int .u32 0, .int .u32 0, .int .u32 0, .int .u32 0, .int .u32 0, .int .u32 0, .int .u32 0, .int .u32 0] Hb.out (by kernel_rfl) rfl (by simp [Value.oneCell']) (hK _ _ ?_))
  clear hK K
  go_wp2
  try simp only [Exit.inBlock, Exit.then]
  refine bodyPost_ret (results_ct rfl _ _ w.heap.size 98 #[.int .u32 (f 0), .int .u32 (f 1), .int .u32 (f 2), .int .u32 (f 3), .int .u32 (f 4), .int .u32 (f 5), .int .u32 (f 6), .int .u32 (f 7), .int .u32 (f 8), .int .u32 (f 9), .int .u32 (f 10), .int .u32 (f 11), .int .u32 (f 12), .int .u32 (f 13), .int .u32 (f 14)] (0, 0) _ rfl Hb2.out Tryz.underlying98 rfl (by kernel_rfl)) rfl (.mk _ rfl ⟨rfl, HB2.out⟩)
set_option maxRecDepth 100000 in
set_option maxHeartbeats 2000000 in
theorem build62 (f : Nat → Int) (g : Nat) (c : Nat) (w : World) (hr : ∀ j, j < 15 → w.cell? ⟨g, j, none⟩ = some (.int .u32 (f j))) : Calls Tryz.prog 62 #[.slice (some ⟨g, 0, none⟩) 15 c] w (Ret (Built w #[.int .u32 (f 0), .int .u32 (f 1), .int .u32 (f 2), .int .u32 (f 3), .int .u32 (f 4), .int .u32 (f 5), .int .u32 (f 6), .int .u32 (f 7), .int .u32 (f 8), .int .u32 (f 9), .int .u32 (f 10), .int .u32 (f 11), .int .u32 (f 12), .int .u32 (f 13), .int .u32 (f 14)])) := by
  have q0 := cell_old (o := (Obj.cells #[.int .u32 0, .int .u32 0, .int .u32 0, .int .u32 0, .int .u32 0, .int .u32 0, .int .u32 0, .int .u32 0, .int .u32 0, .int .u32 0, .int .u32 0, .int .u32 0, .int .u32 0, .int .u32 0, .int .u32 0] 99)) (hr 0 (by omega))
  have q1 := cell_old (o := (Obj.cells #[.int .u32 0, .int .u32 0, .int .u32 0, .int .u32 0, .int .u32 0, .int .u32 0, .int .u32 0, .int .u32 0, .int .u32 0, .int .u32 0, .int .u32 0, .int .u32 0, .int .u32 0, .int .u32 0, .int .u32 0] 99)) (hr 1 (by omega))
  have q2 := cell_old (o := (Obj.cells #[.int .u32 0, .int .u32 0, .int .u32 0, .int .u32 0, .int .u32 0, .int .u32 0, .int .u32 0, .int .u32 0, .int .u32 0, .int .u32 0, .int .u32 0, .int .u32 0, .int .u32 0, .int .u32 0, .int .u32 0] 99)) (hr 2 (by omega))
  have q3 := cell_old (o := (Obj.cells #[.int .u32 0, .int .u32 0, .int .u32 0, .int .u32 0, .int .u32 0, .int .u32 0, .int .u32 0, .int .u32 0, .int .u32 0, .int .u32 0, .int .u32 0, .int .u32 0, .int .u32 0, .int .u32 0, .int .u32 0] 99)) (hr 3 (by omega))
  have q4 := cell_old (o := (Obj.cells #[.int .u32 0, .int .u32 0, .int .u32 0, .int .u32 0, .int .u32 0, .int .u32 0, .int .u32 0, .int .u32 0, .int .u32 0, .int .u32 0, .int .u32 0, .int .u32 0, .int .u32 0, .int .u32 0, .int .u32 0] 99)) (hr 4 (by omega))
  have q5 := cell_old (o := (Obj.cells #[.int .u32 0, .int .u32 0, .int .u32 0, .int .u32 0, .int .u32 0, .int .u32 0, .int .u32 0, .int .u32 0, .int .u32 0, .int .u32 0, .int .u32 0, .int .u32 0, .int .u32 0, .int .u32 0, .int .u32 0] 99)) (hr 5 (by omega))
  have q6 := cell_old (o := (Obj.cells #[.int .u32 0, .int .u32 0, .int .u32 0, .int .u32 0, .int .u32 0, .int .u32 0, .int .u32 0, .int .u32 0, .int .u32 0, .int .u32 0, .int .u32 0, .int .u32 0, .int .u32 0, .int .u32 0, .int .u32 0] 99)) (hr 6 (by omega))
  have q7 := cell_old (o := (Obj.cells #[.int .u32 0, .int .u32 0, .int .u32 0, .int .u32 0, .int .u32 0, .int .u32 0, .int .u32 0, .int .u32 0, .int .u32 0, .int .u32 0, .int .u32 0, .int .u32 0, .int .u32 0, .int .u32 0, .int .u32 0] 99)) (hr 7 (by omega))
  have q8 := cell_old (o := (Obj.cells #[.int .u32 0, .int .u32 0, .int .u32 0, .int .u32 0, .int .u32 0, .int .u32 0, .int .u32 0, .int .u32 0, .int .u32 0, .int .u32 0, .int .u32 0, .int .u32 0, .int .u32 0, .int .u32 0, .int .u32 0] 99)) (hr 8 (by omega))
  have q9 := cell_old (o := (Obj.cells #[.int .u32 0, .int .u32 0, .int .u32 0, .int .u32 0, .int .u32 0, .int .u32 0, .int .u32 0, .int .u32 0, .int .u32 0, .int .u32 0, .int .u32 0, .int .u32 0, .int .u32 0, .int .u32 0, .int .u32 0] 99)) (hr 9 (by omega))
  have q10 := cell_old (o := (Obj.cells #[.int .u32 0, .int .u32 0, .int .u32 0, .int .u32 0, .int .u32 0, .int .u32 0, .int .u32 0, .int .u32 0, .int .u32 0, .int .u32 0, .int .u32 0, .int .u32 0, .int .u32 0, .int .u32 0, .int .u32 0] 99)) (hr 10 (by omega))
  have q11 := cell_old (o := (Obj.cells #[.int .u32 0, .int .u32 0, .int .u32 0, .int .u32 0, .int .u32 0, .int .u32 0, .int .u32 0, .int .u32 0, .int .u32 0, .int .u32 0, .int .u32 0, .int .u32 0, .int .u32 0, .int .u32 0, .int .u32 0] 99)) (hr 11 (by omega))
  have q12 := cell_old (o := (Obj.cells #[.int .u32 0, .int .u32 0, .int .u32 0, .int .u32 0, .int .u32 0, .int .u32 0, .int .u32 0, .int .u32 0, .int .u32 0, .int .u32 0, .int .u32 0, .int .u32 0, .int .u32 0, .int .u32 0, .int .u32 0] 99)) (hr 12 (by omega))
  have q13 := cell_old (o := (Obj.cells #[.int .u32 0, .int .u32 0, .int .u32 0, .int .u32 0, .int .u32 0, .int .u32 0, .int .u32 0, .int .u32 0, .int .u32 0, .int .u32 0, .int .u32 0, .int .u32 0, .int .u32 0, .int .u32 0, .int .u32 0] 99)) (hr 13 (by omega))
  have q14 := cell_old (o := (Obj.cells #[.int .u32 0, .int .u32 0, .int .u32 0, .int .u32 0, .int .u32 0, .int .u32 0, .int .u32 0, .int .u32 0, .int .u32 0, .int .u32 0, .int .u32 0, .int .u32 0, .int .u32 0, .int .u32 0, .int .u32 0] 99)) (hr 14 (by omega))
  clear hr
  go_enter Tryz.func62, Tryz.ntmps62
  go_wp2_with fail
  have hB := below_alloc (Below.refl w.heap.size w) (Obj.cells #[.int .u32 0, .int .u32 0, .int .u32 0, .int .u32 0, .int .u32 0, .int .u32 0, .int .u32 0, .int .u32 0, .int .u32 0, .int .u32 0, .int .u32 0, .int .u32 0, .int .u32 0, .int .u32 0, .int .u32 0] 99)
  have hb := heap_alloc_new w (Obj.cells #[.int .u32 0, .int .u32 0, .int .u32 0, .int .u32 0, .int .u32 0, .int .u32 0, .int .u32 0, .int .u32 0, .int .u32 0, .int .u32 0, .int .u32 0, .int .u32 0, .int .u32 0, .int .u32 0, .int .u32 0] 99)
  generalize w.alloc (Obj.cells #[.int .u32 0, .int .u32 0, .int .u32 0, .int .u32 0, .int .u32 0, .int .u32 0, .int .u32 0, .int .u32 0, .int .u32 0, .int .u32 0, .int .u32 0, .int .u32 0, .int .u32 0, .int .u32 0, .int .u32 0] 99) = W at hB hb q0 q1 q2 q3 q4 q5 q6 q7 q8 q9 q10 q11 q12 q13 q14 ⊢
  have hlt := blk_lt hb
  have Hb2 : Hid ((W.drew.setRow w.heap.size #[.int .u32 (f 0), .int .u32 (f 1), .int .u32 (f 2), .int .u32 (f 3), .int .u32 (f 4), .int .u32 (f 5), .int .u32 (f 6), .int .u32 (f 7), .int .u32 (f 8), .int .u32 (f 9), .int .u32 (f 10), .int .u32 (f 11), .int .u32 (f 12), .int .u32 (f 13), .int .u32 (f 14)]).heap[w.heap.size]? = some (.cells #[.int .u32 (f 0), .int .u32 (f 1), .int .u32 (f 2), .int .u32 (f 3), .int .u32 (f 4), .int .u32 (f 5), .int .u32 (f 6), .int .u32 (f 7), .int .u32 (f 8), .int .u32 (f 9), .int .u32 (f 10), .int .u32 (f 11), .int .u32 (f 12), .int .u32 (f 13), .int .u32 (f 14)] 99 (0, 0))) := Lib.hid (setRow_heap (w := W.drew) hb)
  have HB2 := Lib.hid (below_setRow (cs := #[.int .u32 (f 0), .int .u32 (f 1), .int .u32 (f 2), .int .u32 (f 3), .int .u32 (f 4), .int .u32 (f 5), .int .u32 (f 6), .int .u32 (f 7), .int .u32 (f 8), .int .u32 (f 9), .int .u32 (f 10), .int .u32 (f 11), .int .u32 (f 12), .int .u32 (f 13), .int .u32 (f 14)]) (below_drew hB) (Nat.le_refl _))
  have Hb := Lib.hid hb
  clear hb hB
  go_still_tail 46, (by kernel_rfl)
  refine wpList_plain rfl (fun K hK => wp_store_row 99 (.tmp 2) (.tmp 56) rfl w.heap.size #[.int .u32 (f 0), .int .u32 (f 1), .int .u32 (f 2), .int .u32 (f 3), .int .u32 (f 4), .int .u32 (f 5), .int .u32 (f 6), .int .u32 (f 7), .int .u32 (f 8), .int .u32 (f 9), .int .u32 (f 10), .int .u32 (f 11), .int .u32 (f 12), .int .u32 (f 13), .int .u32 (f 14)] rfl rfl 99 #[.int .u32 0, .int .u32 0, .int .u32 0, .int .u32 0, .int .u32 0, .int .u32 0, .int .u32 0, .int .u32 0, .int .u32 0, .int .u32 0, .int .u32 0, .int .u32 0, .int .u32 0, .int .u32 0, .int .u32 0] Hb.out (by kernel_rfl) rfl (by simp [Value.oneCell']) (hK _ _ ?_))
  clear hK K
  go_wp2
  try simp only [Exit.inBlock, Exit.then]
  refine bodyPost_ret (results_ct rfl _ _ w.heap.size 99 #[.int .u32 (f 0), .int .u32 (f 1), .int .u32 (f 2), .int .u32 (f 3), .int .u32 (f 4), .int .u32 (f 5), .int .u32 (f 6), .int .u32 (f 7), .int .u32 (f 8), .int .u32 (f 9), .int .u32 (f 10), .int .u32 (f 11), .int .u32 (f 12), .int .u32 (f 13), .int .u32 (f 14)] (0, 0) _ rfl Hb2.out Tryz.underlying99 rfl (by kernel_rfl)) rfl (.mk _ rfl ⟨rfl, HB2.out⟩)
set_option maxRecDepth 100000 in
set_option maxHeartbeats 2000000 in
theorem build63 (f : Nat → Int) (g : Nat) (c : Nat) (w : World) (hr : ∀ j, j < 15 → w.cell? ⟨g, j, none⟩ = some (.int .u32 (f j))) : Calls Tryz.prog 63 #[.slice (some ⟨g, 0, none⟩) 15 c] w (Ret (Built w #[.int .u32 (f 0), .int .u32 (f 1), .int .u32 (f 2), .int .u32 (f 3), .int .u32 (f 4), .int .u32 (f 5), .int .u32 (f 6), .int .u32 (f 7), .int .u32 (f 8), .int .u32 (f 9), .int .u32 (f 10), .int .u32 (f 11), .int .u32 (f 12), .int .u32 (f 13), .int .u32 (f 14)])) := by
  have q0 := cell_old (o := (Obj.cells #[.int .u32 0, .int .u32 0, .int .u32 0, .int .u32 0, .int .u32 0, .int .u32 0, .int .u32 0, .int .u32 0, .int .u32 0, .int .u32 0, .int .u32 0, .int .u32 0, .int .u32 0, .int .u32 0, .int .u32 0] 100)) (hr 0 (by omega))
  have q1 := cell_old (o := (Obj.cells #[.int .u32 0, .int .u32 0, .int .u32 0, .int .u32 0, .int .u32 0, .int .u32 0, .int .u32 0, .int .u32 0, .int .u32 0, .int .u32 0, .int .u32 0, .int .u32 0, .int .u32 0, .int .u32 0, .int .u32 0] 100)) (hr 1 (by omega))
  have q2 := cell_old (o := (Obj.cells #[.int .u32 0, .int .u32 0, .int .u32 0, .int .u32 0, .int .u32 0, .int .u32 0, .int .u32 0, .int .u32 0, .int .u32 0, .int .u32 0, .int .u32 0, .int .u32 0, .int .u32 0, .int .u32 0, .int .u32 0] 100)) (hr 2 (by omega))
  have q3 := cell_old (o := (Obj.cells #[.int .u32 0, .int .u32 0, .int .u32 0, .int .u32 0, .int .u32 0, .int .u32 0, .int .u32 0, .int .u32 0, .int .u32 0, .int .u32 0, .int .u32 0, .int .u32 0, .int .u32 0, .int .u32 0, .int .u32 0] 100)) (hr 3 (by omega))
  have q4 := cell_old (o := (Obj.cells #[.int .u32 0, .int .u32 0, .int .u32 0, .int .u32 0, .int .u32 0, .int .u32 0, .int .u32 0, .int .u32 0, .int .u32 0, .int .u32 0, .int .u32 0, .int .u32 0, .int .u32 0, .int .u32 0, .int .u32 0] 100)) (hr 4 (by omega))
  have q5 := cell_old (o := (Obj.cells #[.int .u32 0, .int .u32 0, .int .u32 0, .int .u32 0, .int .u32 0, .int .u32 0, .int .u32 0, .int .u32 0, .int .u32 0, .int .u32 0, .int .u32 0, .int .u32 0, .int .u32 0, .int .u32 0, .int .u32 0] 100)) (hr 5 (by omega))
  have q6 := cell_old (o := (Obj.cells #[.int .u32 0, .int .u32 0, .int .u32 0, .int .u32 0, .int .u32 0, .int .u32 0, .int .u32 0, .int .u32 0, .int .u32 0, .int .u32 0, .int .u32 0, .int .u32 0, .int .u32 0, .int .u32 0, .int .u32 0] 100)) (hr 6 (by omega))
  have q7 := cell_old (o := (Obj.cells #[.int .u32 0, .int .u32 0, .int .u32 0, .int .u32 0, .int .u32 0, .int .u32 0, .int .u32 0, .int .u32 0, .int .u32 0, .int .u32 0, .int .u32 0, .int .u32 0, .int .u32 0, .int .u32 0, .int .u32 0] 100)) (hr 7 (by omega))
  have q8 := cell_old (o := (Obj.cells #[.int .u32 0, .int .u32 0, .int .u32 0, .int .u32 0, .int .u32 0, .int .u32 0, .int .u32 0, .int .u32 0, .int .u32 0, .int .u32 0, .int .u32 0, .int .u32 0, .int .u32 0, .int .u32 0, .int .u32 0] 100)) (hr 8 (by omega))
  have q9 := cell_old (o := (Obj.cells #[.int .u32 0, .int .u32 0, .int .u32 0, .int .u32 0, .int .u32 0, .int .u32 0, .int .u32 0, .int .u32 0, .int .u32 0, .int .u32 0, .int .u32 0, .int .u32 0, .int .u32 0, .int .u32 0, .int .u32 0] 100)) (hr 9 (by omega))
  have q10 := cell_old (o := (Obj.cells #[.int .u32 0, .int .u32 0, .int .u32 0, .int .u32 0, .int .u32 0, .int .u32 0, .int .u32 0, .int .u32 0, .int .u32 0, .int .u32 0, .int .u32 0, .int .u32 0, .int .u32 0, .int .u32 0, .int .u32 0] 100)) (hr 10 (by omega))
  have q11 := cell_old (o := (Obj.cells #[.int .u32 0, .int .u32 0, .int .u32 0, .int .u32 0, .int .u32 0, .int .u32 0, .int .u32 0, .int .u32 0, .int .u32 0, .int .u32 0, .int .u32 0, .int .u32 0, .int .u32 0, .int .u32 0, .int .u32 0] 100)) (hr 11 (by omega))
  have q12 := cell_old (o := (Obj.cells #[.int .u32 0, .int .u32 0, .int .u32 0, .int .u32 0, .int .u32 0, .int .u32 0, .int .u32 0, .int .u32 0, .int .u32 0, .int .u32 0, .int .u32 0, .int .u32 0, .int .u32 0, .int .u32 0, .int .u32 0] 100)) (hr 12 (by omega))
  have q13 := cell_old (o := (Obj.cells #[.int .u32 0, .int .u32 0, .int .u32 0, .int .u32 0, .int .u32 0, .int .u32 0, .int .u32 0, .int .u32 0, .int .u32 0, .int .u32 0, .int .u32 0, .int .u32 0, .int .u32 0, .int .u32 0, .int .u32 0] 100)) (hr 13 (by omega))
  have q14 := cell_old (o := (Obj.cells #[.int .u32 0, .int .u32 0, .int .u32 0, .int .u32 0, .int .u32 0, .int .u32 0, .int .u32 0, .int .u32 0, .int .u32 0, .int .u32 0, .int .u32 0, .int .u32 0, .int .u32 0, .int .u32 0, .int .u32 0] 100)) (hr 14 (by omega))
  clear hr
  go_enter Tryz.func63, Tryz.ntmps63
  go_wp2_with fail
  have hB := below_alloc (Below.refl w.heap.size w) (Obj.cells #[.int .u32 0, .int .u32 0, .int .u32 0, .int .u32 0, .int .u32 0, .int .u32 0, .int .u32 0, .int .u32 0, .int .u32 0, .int .u32 0, .int .u32 0, .int .u32 0, .int .u32 0, .int .u32 0, .int .u32 0] 100)
  have hb := heap_alloc_new w (Obj.cells #[.int .u32 0, .int .u32 0, .int .u32 0, .int .u32 0, .int .u32 0, .int .u32 0, .int .u32 0, .int .u32 0, .int .u32 0, .int .u32 0, .int .u32 0, .int .u32 0, .int .u32 0, .int .u32 0, .int .u32 0] 100)
  generalize w.alloc (Obj.cells #[.int .u32 0, .int .u32 0, .int .u32 0, .int .u32 0, .int .u32 0, .int .u32 0, .int .u32 0, .int .u32 0, .int .u32 0, .int .u32 0, .int .u32 0, .int .u32 0, .int .u32 0, .int .u32 0, .int .u32 0] 100) = W at hB hb q0 q1 q2 q3 q4 q5 q6 q7 q8 q9 q10 q11 q12 q13 q14 ⊢
  have hlt := blk_lt hb
  have Hb2 : Hid ((W.drew.setRow w.heap.size #[.int .u32 (f 0), .int .u32 (f 1), .int .u32 (f 2), .int .u32 (f 3), .int .u32 (f 4), .int .u32 (f 5), .int .u32 (f 6), .int .u32 (f 7), .int .u32 (f 8), .int .u32 (f 9), .int .u32 (f 10), .int .u32 (f 11), .int .u32 (f 12), .int .u32 (f 13), .int .u32 (f 14)]).heap[w.heap.size]? = some (.cells #[.int .u32 (f 0), .int .u32 (f 1), .int .u32 (f 2), .int .u32 (f 3), .int .u32 (f 4), .int .u32 (f 5), .int .u32 (f 6), .int .u32 (f 7), .int .u32 (f 8), .int .u32 (f 9), .int .u32 (f 10), .int .u32 (f 11), .int .u32 (f 12), .int .u32 (f 13), .int .u32 (f 14)] 100 (0, 0))) := Lib.hid (setRow_heap (w := W.drew) hb)
  have HB2 := Lib.hid (below_setRow (cs := #[.int .u32 (f 0), .int .u32 (f 1), .int .u32 (f 2), .int .u32 (f 3), .int .u32 (f 4), .int .u32 (f 5), .int .u32 (f 6), .int .u32 (f 7), .int .u32 (f 8), .int .u32 (f 9), .int .u32 (f 10), .int .u32 (f 11), .int .u32 (f 12), .int .u32 (f 13), .int .u32 (f 14)]) (below_drew hB) (Nat.le_refl _))
  have Hb := Lib.hid hb
  clear hb hB
  go_still_tail 46, (by kernel_rfl)
  refine wpList_plain rfl (fun K hK => wp_store_row 100 (.tmp 2) (.tmp 56) rfl w.heap.size #[.int .u32 (f 0), .int .u32 (f 1), .int .u32 (f 2), .int .u32 (f 3), .int .u32 (f 4), .int .u32 (f 5), .int .u32 (f 6), .int .u32 (f 7), .int .u32 (f 8), .int .u32 (f 9), .int .u32 (f 10), .int .u32 (f 11), .int .u32 (f 12), .int .u32 (f 13), .int .u32 (f 14)] rfl rfl 100 #[.int .u32 0, .int .u32 0, .int .u32 0, .int .u32 0, .int .u32 0, .int .u32 0, .int .u32 0, .int .u32 0, .int .u32 0, .int .u32 0, .int .u32 0, .int .u32 0, .int .u32 0, .int .u32 0, .int .u32 0] Hb.out (by kernel_rfl) rfl (by simp [Value.oneCell']) (hK _ _ ?_))
  clear hK K
  go_wp2
  try simp only [Exit.inBlock, Exit.then]
  refine bodyPost_ret (results_ct rfl _ _ w.heap.size 100 #[.int .u32 (f 0), .int .u32 (f 1), .int .u32 (f 2), .int .u32 (f 3), .int .u32 (f 4), .int .u32 (f 5), .int .u32 (f 6), .int .u32 (f 7), .int .u32 (f 8), .int .u32 (f 9), .int .u32 (f 10), .int .u32 (f 11), .int .u32 (f 12), .int .u32 (f 13), .int .u32 (f 14)] (0, 0) _ rfl Hb2.out Tryz.underlying100 rfl (by kernel_rfl)) rfl (.mk _ rfl ⟨rfl, HB2.out⟩)
set_option maxRecDepth 100000 in
set_option maxHeartbeats 2000000 in
theorem build64 (f : Nat → Int) (g : Nat) (c : Nat) (w : World) (hr : ∀ j, j < 15 → w.cell? ⟨g, j, none⟩ = some (.int .u32 (f j))) : Calls Tryz.prog 64 #[.slice (some ⟨g, 0, none⟩) 15 c] w (Ret (Built w #[.int .u32 (f 0), .int .u32 (f 1), .int .u32 (f 2), .int .u32 (f 3), .int .u32 (f 4), .int .u32 (f 5), .int .u32 (f 6), .int .u32 (f 7), .int .u32 (f 8), .int .u32 (f 9), .int .u32 (f 10), .int .u32 (f 11), .int .u32 (f 12), .int .u32 (f 13), .int .u32 (f 14)])) := by
  have q0 := cell_old (o := (Obj.cells #[.int .u32 0, .int .u32 0, .int .u32 0, .int .u32 0, .int .u32 0, .int .u32 0, .int .u32 0, .int .u32 0, .int .u32 0, .int .u32 0, .int .u32 0, .int .u32 0, .int .u32 0, .int .u32 0, .int .u32 0] 101)) (hr 0 (by omega))
  have q1 := cell_old (o := (Obj.cells #[.int .u32 0, .int .u32 0, .int .u32 0, .int .u32 0, .int .u32 0, .int .u32 0, .int .u32 0, .int .u32 0, .int .u32 0, .int .u32 0, .int .u32 0, .int .u32 0, .int .u32 0, .int .u32 0, .int .u32 0] 101)) (hr 1 (by omega))
  have q2 := cell_old (o := (Obj.cells #[.int .u32 0, .int .u32 0, .int .u32 0, .int .u32 0, .int .u32 0, .int .u32 0, .int .u32 0, .int .u32 0, .int .u32 0, .int .u32 0, .int .u32 0, .int .u32 0, .int .u32 0, .int .u32 0, .int .u32 0] 101)) (hr 2 (by omega))
  have q3 := cell_old (o := (Obj.cells #[.int .u32 0, .int .u32 0, .int .u32 0, .int .u32 0, .int .u32 0, .int .u32 0, .int .u32 0, .int .u32 0, .int .u32 0, .int .u32 0, .int .u32 0, .int .u32 0, .int .u32 0, .int .u32 0, .int .u32 0] 101)) (hr 3 (by omega))
  have q4 := cell_old (o := (Obj.cells #[.int .u32 0, .int .u32 0, .int .u32 0, .int .u32 0, .int .u32 0, .int .u32 0, .int .u32 0, .int .u32 0, .int .u32 0, .int .u32 0, .int .u32 0, .int .u32 0, .int .u32 0, .int .u32 0, .int .u32 0] 101)) (hr 4 (by omega))
  have q5 := cell_old (o := (Obj.cells #[.int .u32 0, .int .u32 0, .int .u32 0, .int .u32 0, .int .u32 0, .int .u32 0, .int .u32 0, .int .u32 0, .int .u32 0, .int .u32 0, .int .u32 0, .int .u32 0, .int .u32 0, .int .u32 0, .int .u32 0] 101)) (hr 5 (by omega))
  have q6 := cell_old (o := (Obj.cells #[.int .u32 0, .int .u32 0, .int .u32 0, .int .u32 0, .int .u32 0, .int .u32 0, .int .u32 0, .int .u32 0, .int .u32 0, .int .u32 0, .int .u32 0, .int .u32 0, .int .u32 0, .int .u32 0, .int .u32 0] 101)) (hr 6 (by omega))
  have q7 := cell_old (o := (Obj.cells #[.int .u32 0, .int .u32 0, .int .u32 0, .int .u32 0, .int .u32 0, .int .u32 0, .int .u32 0, .int .u32 0, .int .u32 0, .int .u32 0, .int .u32 0, .int .u32 0, .int .u32 0, .int .u32 0, .int .u32 0] 101)) (hr 7 (by omega))
  have q8 := cell_old (o := (Obj.cells #[.int .u32 0, .int .u32 0, .int .u32 0, .int .u32 0, .int .u32 0, .int .u32 0, .int .u32 0, .int .u32 0, .int .u32 0, .int .u32 0, .int .u32 0, .int .u32 0, .int .u32 0, .int .u32 0, .int .u32 0] 101)) (hr 8 (by omega))
  have q9 := cell_old (o := (Obj.cells #[.int .u32 0, .int .u32 0, .int .u32 0, .int .u32 0, .int .u32 0, .int .u32 0, .int .u32 0, .int .u32 0, .int .u32 0, .int .u32 0, .int .u32 0, .int .u32 0, .int .u32 0, .int .u32 0, .int .u32 0] 101)) (hr 9 (by omega))
  have q10 := cell_old (o := (Obj.cells #[.int .u32 0, .int .u32 0, .int .u32 0, .int .u32 0, .int .u32 0, .int .u32 0, .int .u32 0, .int .u32 0, .int .u32 0, .int .u32 0, .int .u32 0, .int .u32 0, .int .u32 0, .int .u32 0, .int .u32 0] 101)) (hr 10 (by omega))
  have q11 := cell_old (o := (Obj.cells #[.int .u32 0, .int .u32 0, .int .u32 0, .int .u32 0, .int .u32 0, .int .u32 0, .int .u32 0, .int .u32 0, .int .u32 0, .int .u32 0, .int .u32 0, .int .u32 0, .int .u32 0, .int .u32 0, .int .u32 0] 101)) (hr 11 (by omega))
  have q12 := cell_old (o := (Obj.cells #[.int .u32 0, .int .u32 0, .int .u32 0, .int .u32 0, .int .u32 0, .int .u32 0, .int .u32 0, .int .u32 0, .int .u32 0, .int .u32 0, .int .u32 0, .int .u32 0, .int .u32 0, .int .u32 0, .int .u32 0] 101)) (hr 12 (by omega))
  have q13 := cell_old (o := (Obj.cells #[.int .u32 0, .int .u32 0, .int .u32 0, .int .u32 0, .int .u32 0, .int .u32 0, .int .u32 0, .int .u32 0, .int .u32 0, .int .u32 0, .int .u32 0, .int .u32 0, .int .u32 0, .int .u32 0, .int .u32 0] 101)) (hr 13 (by omega))
  have q14 := cell_old (o := (Obj.cells #[.int .u32 0, .int .u32 0, .int .u32 0, .int .u32 0, .int .u32 0, .int .u32 0, .int .u32 0, .int .u32 0, .int .u32 0, .int .u32 0, .int .u32 0, .int .u32 0, .int .u32 0, .int .u32 0, .int .u32 0] 101)) (hr 14 (by omega))
  clear hr
  go_enter Tryz.func64, Tryz.ntmps64
  go_wp2_with fail
  have hB := below_alloc (Below.refl w.heap.size w) (Obj.cells #[.int .u32 0, .int .u32 0, .int .u32 0, .int .u32 0, .int .u32 0, .int .u32 0, .int .u32 0, .int .u32 0, .int .u32 0, .int .u32 0, .int .u32 0, .int .u32 0, .int .u32 0, .int .u32 0, .int .u32 0] 101)
  have hb := heap_alloc_new w (Obj.cells #[.int .u32 0, .int .u32 0, .int .u32 0, .int .u32 0, .int .u32 0, .int .u32 0, .int .u32 0, .int .u32 0, .int .u32 0, .int .u32 0, .int .u32 0, .int .u32 0, .int .u32 0, .int .u32 0, .int .u32 0] 101)
  generalize w.alloc (Obj.cells #[.int .u32 0, .int .u32 0, .int .u32 0, .int .u32 0, .int .u32 0, .int .u32 0, .int .u32 0, .int .u32 0, .int .u32 0, .int .u32 0, .int .u32 0, .int .u32 0, .int .u32 0, .int .u32 0, .int .u32 0] 101) = W at hB hb q0 q1 q2 q3 q4 q5 q6 q7 q8 q9 q10 q11 q12 q13 q14 ⊢
  have hlt := blk_lt hb
  have Hb2 : Hid ((W.drew.setRow w.heap.size #[.int .u32 (f 0), .int .u32 (f 1), .int .u32 (f 2), .int .u32 (f 3), .int .u32 (f 4), .int .u32 (f 5), .int .u32 (f 6), .int .u32 (f 7), .int .u32 (f 8), .int .u32 (f 9), .int .u32 (f 10), .int .u32 (f 11), .int .u32 (f 12), .int .u32 (f 13), .int .u32 (f 14)]).heap[w.heap.size]? = some (.cells #[.int .u32 (f 0), .int .u32 (f 1), .int .u32 (f 2), .int .u32 (f 3), .int .u32 (f 4), .int .u32 (f 5), .int .u32 (f 6), .int .u32 (f 7), .int .u32 (f 8), .int .u32 (f 9), .int .u32 (f 10), .int .u32 (f 11), .int .u32 (f 12), .int .u32 (f 13), .int .u32 (f 14)] 101 (0, 0))) := Lib.hid (setRow_heap (w := W.drew) hb)
  have HB2 := Lib.hid (below_setRow (cs := #[.int .u32 (f 0), .int .u32 (f 1), .int .u32 (f 2), .int .u32 (f 3), .int .u32 (f 4), .int .u32 (f 5), .int .u32 (f 6), .int .u32 (f 7), .int .u32 (f 8), .int .u32 (f 9), .int .u32 (f 10), .int .u32 (f 11), .int .u32 (f 12), .int .u32 (f 13), .int .u32 (f 14)]) (below_drew hB) (Nat.le_refl _))
  have Hb := Lib.hid hb
  clear hb hB
  go_still_tail 46, (by kernel_rfl)
  refine wpList_plain rfl (fun K hK => wp_store_row 101 (.tmp 2) (.tmp 56) rfl w.heap.size #[.int .u32 (f 0), .int .u32 (f 1), .int .u32 (f 2), .int .u32 (f 3), .int .u32 (f 4), .int .u32 (f 5), .int .u32 (f 6), .int .u32 (f 7), .int .u32 (f 8), .int .u32 (f 9), .int .u32 (f 10), .int .u32 (f 11), .int .u32 (f 12), .int .u32 (f 13), .int .u32 (f 14)] rfl rfl 101 #[.int .u32 0, .int .u32 0, .int .u32 0, .int .u32 0, .int .u32 0, .int .u32 0, .int .u32 0, .int .u32 0, .int .u32 0, .int .u32 0, .int .u32 0, .int .u32 0, .int .u32 0, .int .u32 0, .int .u32 0] Hb.out (by kernel_rfl) rfl (by simp [Value.oneCell']) (hK _ _ ?_))
  clear hK K
  go_wp2
  try simp only [Exit.inBlock, Exit.then]
  refine bodyPost_ret (results_ct rfl _ _ w.heap.size 101 #[.int .u32 (f 0), .int .u32 (f 1), .int .u32 (f 2), .int .u32 (f 3), .int .u32 (f 4), .int .u32 (f 5), .int .u32 (f 6), .int .u32 (f 7), .int .u32 (f 8), .int .u32 (f 9), .int .u32 (f 10), .int .u32 (f 11), .int .u32 (f 12), .int .u32 (f 13), .int .u32 (f 14)] (0, 0) _ rfl Hb2.out Tryz.underlying101 rfl (by kernel_rfl)) rfl (.mk _ rfl ⟨rfl, HB2.out⟩)
end Go.Proofs.YtaniejfkbapbbaaGreatDoor
namespace Go.Proofs.YtaniejfkbapbbaaGreatDoor
open Go.RowKit Go.Proofs.YtaniejfkbapbbaaGreatDoorW.PrintWords Go.Proofs.YtaniejfkbapbbaaGreatDoorW.PrintLast Go.Proofs.YtaniejfkbapbbaaGreatDoorW.PrintMore

set_option maxRecDepth 100000 in
set_option maxHeartbeats 2000000 in
theorem build65 (f : Nat → Int) (g : Nat) (c : Nat) (w : World) (hr : ∀ j, j < 15 → w.cell? ⟨g, j, none⟩ = some (.int .u32 (f j))) : Calls Tryz.prog 65 #[.slice (some ⟨g, 0, none⟩) 15 c] w (Ret (Built w #[.int .u32 (f 0), .int .u32 (f 1), .int .u32 (f 2), .int .u32 (f 3), .int .u32 (f 4), .int .u32 (f 5), .int .u32 (f 6), .int .u32 (f 7), .int .u32 (f 8), .int .u32 (f 9), .int .u32 (f 10), .int .u32 (f 11), .int .u32 (f 12), .int .u32 (f 13), .int .u32 (f 14)])) := by
  have q0 := cell_old (o := (Obj.cells #[.int .u32 0, .int .u32 0, .int .u32 0, .int .u32 0, .int .u32 0, .int .u32 0, .int .u32 0, .int .u32 0, .int .u32 0, .int .u32 0, .int .u32 0, .int .u32 0, .int .u32 0, .int .u32 0, .int .u32 0] 102)) (hr 0 (by omega))
  have q1 := cell_old (o := (Obj.cells #[.int .u32 0, .int .u32 0, .int .u32 0, .int .u32 0, .int .u32 0, .int .u32 0, .int .u32 0, .int .u32 0, .int .u32 0, .int .u32 0, .int .u32 0, .int .u32 0, .int .u32 0, .int .u32 0, .int .u32 0] 102)) (hr 1 (by omega))
  have q2 := cell_old (o := (Obj.cells #[.int .u32 0, .int .u32 0, .int .u32 0, .int .u32 0, .int .u32 0, .int .u32 0, .int .u32 0, .int .u32 0, .int .u32 0, .int .u32 0, .int .u32 0, .int .u32 0, .int .u32 0, .int .u32 0, .int .u32 0] 102)) (hr 2 (by omega))
  have q3 := cell_old (o := (Obj.cells #[.int .u32 0, .int .u32 0, .int .u32 0, .int .u32 0, .int .u32 0, .int .u32 0, .int .u32 0, .int .u32 0, .int .u32 0, .int .u32 0, .int .u32 0, .int .u32 0, .int .u32 0, .int .u32 0, .int .u32 0] 102)) (hr 3 (by omega))
  have q4 := cell_old (o := (Obj.cells #[.int .u32 0, .int .u32 0, .int .u32 0, .int .u32 0, .int .u32 0, .int .u32 0, .int .u32 0, .int .u32 0, .int .u32 0, .int .u32 0, .int .u32 0, .int .u32 0, .int .u32 0, .int .u32 0, .int .u32 0] 102)) (hr 4 (by omega))
  have q5 := cell_old (o := (Obj.cells #[.int .u32 0, .int .u32 0, .int .u32 0, .int .u32 0, .int .u32 0, .int .u32 0, .int .u32 0, .int .u32 0, .int .u32 0, .int .u32 0, .int .u32 0, .int .u32 0, .int .u32 0, .int .u32 0, .int .u32 0] 102)) (hr 5 (by omega))
  have q6 := cell_old (o := (Obj.cells #[.int .u32 0, .int .u32 0, .int .u32 0, .int .u32 0, .int .u32 0, .int .u32 0, .int .u32 0, .int .u32 0, .int .u32 0, .int .u32 0, .int .u32 0, .int .u32 0, .int .u32 0, .int .u32 0, .int .u32 0] 102)) (hr 6 (by omega))
  have q7 := cell_old (o := (Obj.cells #[.int .u32 0, .int .u32 0, .int .u32 0, .int .u32 0, .int .u32 0, .int .u32 0, .int .u32 0, .int .u32 0, .int .u32 0, .int .u32 0, .int .u32 0, .int .u32 0, .int .u32 0, .int .u32 0, .int .u32 0] 102)) (hr 7 (by omega))
  have q8 := cell_old (o := (Obj.cells #[.int .u32 0, .int .u32 0, .int .u32 0, .int .u32 0, .int .u32 0, .int .u32 0, .int .u32 0, .int .u32 0, .int .u32 0, .int .u32 0, .int .u32 0, .int .u32 0, .int .u32 0, .int .u32 0, .int .u32 0] 102)) (hr 8 (by omega))
  have q9 := cell_old (o := (Obj.cells #[.int .u32 0, .int .u32 0, .int .u32 0, .int .u32 0, .int .u32 0, .int .u32 0, .int .u32 0, .int .u32 0, .int .u32 0, .int .u32 0, .int .u32 0, .int .u32 0, .int .u32 0, .int .u32 0, .int .u32 0] 102)) (hr 9 (by omega))
  have q10 := cell_old (o := (Obj.cells #[.int .u32 0, .int .u32 0, .int .u32 0, .int .u32 0, .int .u32 0, .int .u32 0, .int .u32 0, .int .u32 0, .int .u32 0, .int .u32 0, .int .u32 0, .int .u32 0, .int .u32 0, .int .u32 0, .int .u32 0] 102)) (hr 10 (by omega))
  have q11 := cell_old (o := (Obj.cells #[.int .u32 0, .int .u32 0, .int .u32 0, .int .u32 0, .int .u32 0, .int .u32 0, .int .u32 0, .int .u32 0, .int .u32 0, .int .u32 0, .int .u32 0, .int .u32 0, .int .u32 0, .int .u32 0, .int .u32 0] 102)) (hr 11 (by omega))
  have q12 := cell_old (o := (Obj.cells #[.int .u32 0, .int .u32 0, .int .u32 0, .int .u32 0, .int .u32 0, .int .u32 0, .int .u32 0, .int .u32 0, .int .u32 0, .int .u32 0, .int .u32 0, .int .u32 0, .int .u32 0, .int .u32 0, .int .u32 0] 102)) (hr 12 (by omega))
  have q13 := cell_old (o := (Obj.cells #[.int .u32 0, .int .u32 0, .int .u32 0, .int .u32 0, .int .u32 0, .int .u32 0, .int .u32 0, .int .u32 0, .int .u32 0, .int .u32 0, .int .u32 0, .int .u32 0, .int .u32 0, .int .u32 0, .int .u32 0] 102)) (hr 13 (by omega))
  have q14 := cell_old (o := (Obj.cells #[.int .u32 0, .int .u32 0, .int .u32 0, .int .u32 0, .int .u32 0, .int .u32 0, .int .u32 0, .int .u32 0, .int .u32 0, .int .u32 0, .int .u32 0, .int .u32 0, .int .u32 0, .int .u32 0, .int .u32 0] 102)) (hr 14 (by omega))
  clear hr
  go_enter Tryz.func65, Tryz.ntmps65
  go_wp2_with fail
  have hB := below_alloc (Below.refl w.heap.size w) (Obj.cells #[.int .u32 0, .int .u32 0, .int .u32 0, .int .u32 0, .int .u32 0, .int .u32 0, .int .u32 0, .int .u32 0, .int .u32 0, .int .u32 0, .int .u32 0, .int .u32 0, .int .u32 0, .int .u32 0, .int .u32 0] 102)
  have hb := heap_alloc_new w (Obj.cells #[.int .u32 0, .int .u32 0, .int .u32 0, .int .u32 0, .int .u32 0, .int .u32 0, .int .u32 0, .int .u32 0, .int .u32 0, .int .u32 0, .int .u32 0, .int .u32 0, .int .u32 0, .int .u32 0, .int .u32 0] 102)
  generalize w.alloc (Obj.cells #[.int .u32 0, .int .u32 0, .int .u32 0, .int .u32 0, .int .u32 0, .int .u32 0, .int .u32 0, .int .u32 0, .int .u32 0, .int .u32 0, .int .u32 0, .int .u32 0, .int .u32 0, .int .u32 0, .int .u32 0] 102) = W at hB hb q0 q1 q2 q3 q4 q5 q6 q7 q8 q9 q10 q11 q12 q13 q14 ⊢
  have hlt := blk_lt hb
  have Hb2 : Hid ((W.drew.setRow w.heap.size #[.int .u32 (f 0), .int .u32 (f 1), .int .u32 (f 2), .int .u32 (f 3), .int .u32 (f 4), .int .u32 (f 5), .int .u32 (f 6), .int .u32 (f 7), .int .u32 (f 8), .int .u32 (f 9), .int .u32 (f 10), .int .u32 (f 11), .int .u32 (f 12), .int .u32 (f 13), .int .u32 (f 14)]).heap[w.heap.size]? = some (.cells #[.int .u32 (f 0), .int .u32 (f 1), .int .u32 (f 2), .int .u32 (f 3), .int .u32 (f 4), .int .u32 (f 5), .int .u32 (f 6), .int .u32 (f 7), .int .u32 (f 8), .int .u32 (f 9), .int .u32 (f 10), .int .u32 (f 11), .int .u32 (f 12), .int .u32 (f 13), .int .u32 (f 14)] 102 (0, 0))) := Lib.hid (setRow_heap (w := W.drew) hb)
  have HB2 := Lib.hid (below_setRow (cs := #[.int .u32 (f 0), .int .u32 (f 1), .int .u32 (f 2), .int .u32 (f 3), .int .u32 (f 4), .int .u32 (f 5), .int .u32 (f 6), .int .u32 (f 7), .int .u32 (f 8), .int .u32 (f 9), .int .u32 (f 10), .int .u32 (f 11), .int .u32 (f 12), .int .u32 (f 13), .int .u32 (f 14)]) (below_drew hB) (Nat.le_refl _))
  have Hb := Lib.hid hb
  clear hb hB
  go_still_tail 46, (by kernel_rfl)
  refine wpList_plain rfl (fun K hK => wp_store_row 102 (.tmp 2) (.tmp 56) rfl w.heap.size #[.int .u32 (f 0), .int .u32 (f 1), .int .u32 (f 2), .int .u32 (f 3), .int .u32 (f 4), .int .u32 (f 5), .int .u32 (f 6), .int .u32 (f 7), .int .u32 (f 8), .int .u32 (f 9), .int .u32 (f 10), .int .u32 (f 11), .int .u32 (f 12), .int .u32 (f 13), .int .u32 (f 14)] rfl rfl 102 #[.int .u32 0, .int .u32 0, .int .u32 0, .int .u32 0, .int .u32 0, .int .u32 0, .int .u32 0, .int .u32 0, .int .u32 0, .int .u32 0, .int .u32 0, .int .u32 0, .int .u32 0, .int .u32 0, .int .u32 0] Hb.out (by kernel_rfl) rfl (by simp [Value.oneCell']) (hK _ _ ?_))
  clear hK K
  go_wp2
  try simp only [Exit.inBlock, Exit.then]
  refine bodyPost_ret (results_ct rfl _ _ w.heap.size 102 #[.int .u32 (f 0), .int .u32 (f 1), .int .u32 (f 2), .int .u32 (f 3), .int .u32 (f 4), .int .u32 (f 5), .int .u32 (f 6), .int .u32 (f 7), .int .u32 (f 8), .int .u32 (f 9), .int .u32 (f 10), .int .u32 (f 11), .int .u32 (f 12), .int .u32 (f 13), .int .u32 (f 14)] (0, 0) _ rfl Hb2.out Tryz.underlying102 rfl (by kernel_rfl)) rfl (.mk _ rfl ⟨rfl, HB2.out⟩)
set_option maxRecDepth 100000 in
set_option maxHeartbeats 2000000 in
theorem build66 (f : Nat → Int) (g : Nat) (c : Nat) (w : World) (hr : ∀ j, j < 15 → w.cell? ⟨g, j, none⟩ = some (.int .u32 (f j))) : Calls Tryz.prog 66 #[.slice (some ⟨g, 0, none⟩) 15 c] w (Ret (Built w #[.int .u32 (f 0), .int .u32 (f 1), .int .u32 (f 2), .int .u32 (f 3), .int .u32 (f 4), .int .u32 (f 5), .int .u32 (f 6), .int .u32 (f 7), .int .u32 (f 8), .int .u32 (f 9), .int .u32 (f 10), .int .u32 (f 11), .int .u32 (f 12), .int .u32 (f 13), .int .u32 (f 14)])) := by
  have q0 := cell_old (o := (Obj.cells #[.int .u32 0, .int .u32 0, .int .u32 0, .int .u32 0, .int .u32 0, .int .u32 0, .int .u32 0, .int .u32 0, .int .u32 0, .int .u32 0, .int .u32 0, .int .u32 0, .int .u32 0, .int .u32 0, .int .u32 0] 103)) (hr 0 (by omega))
  have q1 := cell_old (o := (Obj.cells #[.int .u32 0, .int .u32 0, .int .u32 0, .int .u32 0, .int .u32 0, .int .u32 0, .int .u32 0, .int .u32 0, .int .u32 0, .int .u32 0, .int .u32 0, .int .u32 0, .int .u32 0, .int .u32 0, .int .u32 0] 103)) (hr 1 (by omega))
  have q2 := cell_old (o := (Obj.cells #[.int .u32 0, .int .u32 0, .int .u32 0, .int .u32 0, .int .u32 0, .int .u32 0, .int .u32 0, .int .u32 0, .int .u32 0, .int .u32 0, .int .u32 0, .int .u32 0, .int .u32 0, .int .u32 0, .int .u32 0] 103)) (hr 2 (by omega))
  have q3 := cell_old (o := (Obj.cells #[.int .u32 0, .int .u32 0, .int .u32 0, .int .u32 0, .int .u32 0, .int .u32 0, .int .u32 0, .int .u32 0, .int .u32 0, .int .u32 0, .int .u32 0, .int .u32 0, .int .u32 0, .int .u32 0, .int .u32 0] 103)) (hr 3 (by omega))
  have q4 := cell_old (o := (Obj.cells #[.int .u32 0, .int .u32 0, .int .u32 0, .int .u32 0, .int .u32 0, .int .u32 0, .int .u32 0, .int .u32 0, .int .u32 0, .int .u32 0, .int .u32 0, .int .u32 0, .int .u32 0, .int .u32 0, .int .u32 0] 103)) (hr 4 (by omega))
  have q5 := cell_old (o := (Obj.cells #[.int .u32 0, .int .u32 0, .int .u32 0, .int .u32 0, .int .u32 0, .int .u32 0, .int .u32 0, .int .u32 0, .int .u32 0, .int .u32 0, .int .u32 0, .int .u32 0, .int .u32 0, .int .u32 0, .int .u32 0] 103)) (hr 5 (by omega))
  have q6 := cell_old (o := (Obj.cells #[.int .u32 0, .int .u32 0, .int .u32 0, .int .u32 0, .int .u32 0, .int .u32 0, .int .u32 0, .int .u32 0, .int .u32 0, .int .u32 0, .int .u32 0, .int .u32 0, .int .u32 0, .int .u32 0, .int .u32 0] 103)) (hr 6 (by omega))
  have q7 := cell_old (o := (Obj.cells #[.int .u32 0, .int .u32 0, .int .u32 0, .int .u32 0, .int .u32 0, .int .u32 0, .int .u32 0, .int .u32 0, .int .u32 0, .int .u32 0, .int .u32 0, .int .u32 0, .int .u32 0, .int .u32 0, .int .u32 0] 103)) (hr 7 (by omega))
  have q8 := cell_old (o := (Obj.cells #[.int .u32 0, .int .u32 0, .int .u32 0, .int .u32 0, .int .u32 0, .int .u32 0, .int .u32 0, .int .u32 0, .int .u32 0, .int .u32 0, .int .u32 0, .int .u32 0, .int .u32 0, .int .u32 0, .int .u32 0] 103)) (hr 8 (by omega))
  have q9 := cell_old (o := (Obj.cells #[.int .u32 0, .int .u32 0, .int .u32 0, .int .u32 0, .int .u32 0, .int .u32 0, .int .u32 0, .int .u32 0, .int .u32 0, .int .u32 0, .int .u32 0, .int .u32 0, .int .u32 0, .int .u32 0, .int .u32 0] 103)) (hr 9 (by omega))
  have q10 := cell_old (o := (Obj.cells #[.int .u32 0, .int .u32 0, .int .u32 0, .int .u32 0, .int .u32 0, .int .u32 0, .int .u32 0, .int .u32 0, .int .u32 0, .int .u32 0, .int .u32 0, .int .u32 0, .int .u32 0, .int .u32 0, .int .u32 0] 103)) (hr 10 (by omega))
  have q11 := cell_old (o := (Obj.cells #[.int .u32 0, .int .u32 0, .int .u32 0, .int .u32 0, .int .u32 0, .int .u32 0, .int .u32 0, .int .u32 0, .int .u32 0, .int .u32 0, .int .u32 0, .int .u32 0, .int .u32 0, .int .u32 0, .int .u32 0] 103)) (hr 11 (by omega))
  have q12 := cell_old (o := (Obj.cells #[.int .u32 0, .int .u32 0, .int .u32 0, .int .u32 0, .int .u32 0, .int .u32 0, .int .u32 0, .int .u32 0, .int .u32 0, .int .u32 0, .int .u32 0, .int .u32 0, .int .u32 0, .int .u32 0, .int .u32 0] 103)) (hr 12 (by omega))
  have q13 := cell_old (o := (Obj.cells #[.int .u32 0, .int .u32 0, .int .u32 0, .int .u32 0, .int .u32 0, .int .u32 0, .int .u32 0, .int .u32 0, .int .u32 0, .int .u32 0, .int .u32 0, .int .u32 0, .int .u32 0, .int .u32 0, .int .u32 0] 103)) (hr 13 (by omega))
  have q14 := cell_old (o := (Obj.cells #[.int .u32 0, .int .u32 0, .int .u32 0, .int .u32 0, .int .u32 0, .int .u32 0, .int .u32 0, .int .u32 0, .int .u32 0, .int .u32 0, .int .u32 0, .int .u32 0, .int .u32 0, .int .u32 0, .int .u32 0] 103)) (hr 14 (by omega))
  clear hr
  go_enter Tryz.func66, Tryz.ntmps66
  go_wp2_with fail
  have hB := below_alloc (Below.refl w.heap.size w) (Obj.cells #[.int .u32 0, .int .u32 0, .int .u32 0, .int .u32 0, .int .u32 0, .int .u32 0, .int .u32 0, .int .u32 0, .int .u32 0, .int .u32 0, .int .u32 0, .int .u32 0, .int .u32 0, .int .u32 0, .int .u32 0] 103)
  have hb := heap_alloc_new w (Obj.cells #[.int .u32 0, .int .u32 0, .int .u32 0, .int .u32 0, .int .u32 0, .int .u32 0, .int .u32 0, .int .u32 0, .int .u32 0, .int .u32 0, .int .u32 0, .int .u32 0, .int .u32 0, .int .u32 0, .int .u32 0] 103)
  generalize w.alloc (Obj.cells #[.int .u32 0, .int .u32 0, .int .u32 0, .int .u32 0, .int .u32 0, .int .u32 0, .int .u32 0, .int .u32 0, .int .u32 0, .int .u32 0, .int .u32 0, .int .u32 0, .int .u32 0, .int .u32 0, .int .u32 0] 103) = W at hB hb q0 q1 q2 q3 q4 q5 q6 q7 q8 q9 q10 q11 q12 q13 q14 ⊢
  have hlt := blk_lt hb
  have Hb2 : Hid ((W.drew.setRow w.heap.size #[.int .u32 (f 0), .int .u32 (f 1), .int .u32 (f 2), .int .u32 (f 3), .int .u32 (f 4), .int .u32 (f 5), .int .u32 (f 6), .int .u32 (f 7), .int .u32 (f 8), .int .u32 (f 9), .int .u32 (f 10), .int .u32 (f 11), .int .u32 (f 12), .int .u32 (f 13), .int .u32 (f 14)]).heap[w.heap.size]? = some (.cells #[.int .u32 (f 0), .int .u32 (f 1), .int .u32 (f 2), .int .u32 (f 3), .int .u32 (f 4), .int .u32 (f 5), .int .u32 (f 6), .int .u32 (f 7), .int .u32 (f 8), .int .u32 (f 9), .int .u32 (f 10), .int .u32 (f 11), .int .u32 (f 12), .int .u32 (f 13), .int .u32 (f 14)] 103 (0, 0))) := Lib.hid (setRow_heap (w := W.drew) hb)
  have HB2 := Lib.hid (below_setRow (cs := #[.int .u32 (f 0), .int .u32 (f 1), .int .u32 (f 2), .int .u32 (f 3), .int .u32 (f 4), .int .u32 (f 5), .int .u32 (f 6), .int .u32 (f 7), .int .u32 (f 8), .int .u32 (f 9), .int .u32 (f 10), .int .u32 (f 11), .int .u32 (f 12), .int .u32 (f 13), .int .u32 (f 14)]) (below_drew hB) (Nat.le_refl _))
  have Hb := Lib.hid hb
  clear hb hB
  go_still_tail 46, (by kernel_rfl)
  refine wpList_plain rfl (fun K hK => wp_store_row 103 (.tmp 2) (.tmp 56) rfl w.heap.size #[.int .u32 (f 0), .int .u32 (f 1), .int .u32 (f 2), .int .u32 (f 3), .int .u32 (f 4), .int .u32 (f 5), .int .u32 (f 6), .int .u32 (f 7), .int .u32 (f 8), .int .u32 (f 9), .int .u32 (f 10), .int .u32 (f 11), .int .u32 (f 12), .int .u32 (f 13), .int .u32 (f 14)] rfl rfl 103 #[.int .u32 0, .int .u32 0, .int .u32 0, .int .u32 0, .int .u32 0, .int .u32 0, .int .u32 0, .int .u32 0, .int .u32 0, .int .u32 0, .int .u32 0, .int .u32 0, .int .u32 0, .int .u32 0, .int .u32 0] Hb.out (by kernel_rfl) rfl (by simp [Value.oneCell']) (hK _ _ ?_))
  clear hK K
  go_wp2
  try simp only [Exit.inBlock, Exit.then]
  refine bodyPost_ret (results_ct rfl _ _ w.heap.size 103 #[.int .u32 (f 0), .int .u32 (f 1), .int .u32 (f 2), .int .u32 (f 3), .int .u32 (f 4), .int .u32 (f 5), .int .u32 (f 6), .int .u32 (f 7), .int .u32 (f 8), .int .u32 (f 9), .int .u32 (f 10), .int .u32 (f 11), .int .u32 (f 12), .int .u32 (f 13), .int .u32 (f 14)] (0, 0) _ rfl Hb2.out Tryz.underlying103 rfl (by kernel_rfl)) rfl (.mk _ rfl ⟨rfl, HB2.out⟩)
set_option maxRecDepth 100000 in
set_option maxHeartbeats 2000000 in
theorem build67 (f : Nat → Int) (g : Nat) (c : Nat) (w : World) (hr : ∀ j, j < 15 → w.cell? ⟨g, j, none⟩ = some (.int .u32 (f j))) : Calls Tryz.prog 67 #[.slice (some ⟨g, 0, none⟩) 15 c] w (Ret (Built w #[.int .u32 (f 0), .int .u32 (f 1), .int .u32 (f 2), .int .u32 (f 3), .int .u32 (f 4), .int .u32 (f 5), .int .u32 (f 6), .int .u32 (f 7), .int .u32 (f 8), .int .u32 (f 9), .int .u32 (f 10), .int .u32 (f 11), .int .u32 (f 12), .int .u32 (f 13), .int .u32 (f 14)])) := by
  have q0 := cell_old (o := (Obj.cells #[.int .u32 0, .int .u32 0, .int .u32 0, .int .u32 0, .int .u32 0, .int .u32 0, .int .u32 0, .int .u32 0, .int .u32 0, .int .u32 0, .int .u32 0, .int .u32 0, .int .u32 0, .int .u32 0, .int .u32 0] 104)) (hr 0 (by omega))
  have q1 := cell_old (o := (Obj.cells #[.int .u32 0, .int .u32 0, .int .u32 0, .int .u32 0, .int .u32 0, .int .u32 0, .int .u32 0, .int .u32 0, .int .u32 0, .int .u32 0, .int .u32 0, .int .u32 0, .int .u32 0, .int .u32 0, .int .u32 0] 104)) (hr 1 (by omega))
  have q2 := cell_old (o := (Obj.cells #[.int .u32 0, .int .u32 0, .int .u32 0, .int .u32 0, .int .u32 0, .int .u32 0, .int .u32 0, .int .u32 0, .int .u32 0, .int .u32 0, .int .u32 0, .int .u32 0, .int .u32 0, .int .u32 0, .int .u32 0] 104)) (hr 2 (by omega))
  have q3 := cell_old (o := (Obj.cells #[.int .u32 0, .int .u32 0, .int .u32 0, .int .u32 0, .int .u32 0, .int .u32 0, .int .u32 0, .int .u32 0, .int .u32 0, .int .u32 0, .int .u32 0, .int .u32 0, .int .u32 0, .int .u32 0, .int .u32 0] 104)) (hr 3 (by omega))
  have q4 := cell_old (o := (Obj.cells #[.int .u32 0, .int .u32 0, .int .u32 0, .int .u32 0, .int .u32 0, .int .u32 0, .int .u32 0, .int .u32 0, .int .u32 0, .int .u32 0, .int .u32 0, .int .u32 0, .int .u32 0, .int .u32 0, .int .u32 0] 104)) (hr 4 (by omega))
  have q5 := cell_old (o := (Obj.cells #[.int .u32 0, .int .u32 0, .int .u32 0, .int .u32 0, .int .u32 0, .int .u32 0, .int .u32 0, .int .u32 0, .int .u32 0, .int .u32 0, .int .u32 0, .int .u32 0, .int .u32 0, .int .u32 0, .int .u32 0] 104)) (hr 5 (by omega))
  have q6 := cell_old (o := (Obj.cells #[.int .u32 0, .int .u32 0, .int .u32 0, .int .u32 0, .int .u32 0, .int .u32 0, .int .u32 0, .int .u32 0, .int .u32 0, .int .u32 0, .int .u32 0, .int .u32 0, .int .u32 0, .int .u32 0, .int .u32 0] 104)) (hr 6 (by omega))
  have q7 := cell_old (o := (Obj.cells #[.int .u32 0, .int .u32 0, .int .u32 0, .int .u32 0, .int .u32 0, .int .u32 0, .int .u32 0, .int .u32 0, .int .u32 0, .int .u32 0, .int .u32 0, .int .u32 0, .int .u32 0, .int .u32 0, .int .u32 0] 104)) (hr 7 (by omega))
  have q8 := cell_old (o := (Obj.cells #[.int .u32 0, .int .u32 0, .int .u32 0, .int .u32 0, .int .u32 0, .int .u32 0, .int .u32 0, .int .u32 0, .int .u32 0, .int .u32 0, .int .u32 0, .int .u32 0, .int .u32 0, .int .u32 0, .int .u32 0] 104)) (hr 8 (by omega))
  have q9 := cell_old (o := (Obj.cells #[.int .u32 0, .int .u32 0, .int .u32 0, .int .u32 0, .int .u32 0, .int .u32 0, .int .u32 0, .int .u32 0, .int .u32 0, .int .u32 0, .int .u32 0, .int .u32 0, .int .u32 0, .int .u32 0, .int .u32 0] 104)) (hr 9 (by omega))
  have q10 := cell_old (o := (Obj.cells #[.int .u32 0, .int .u32 0, .int .u32 0, .int .u32 0, .int .u32 0, .int .u32 0, .int .u32 0, .int .u32 0, .int .u32 0, .int .u32 0, .int .u32 0, .int .u32 0, .int .u32 0, .int .u32 0, .int .u32 0] 104)) (hr 10 (by omega))
  have q11 := cell_old (o := (Obj.cells #[.int .u32 0, .int .u32 0, .int .u32 0, .int .u32 0, .int .u32 0, .int .u32 0, .int .u32 0, .int .u32 0, .int .u32 0, .int .u32 0, .int .u32 0, .int .u32 0, .int .u32 0, .int .u32 0, .int .u32 0] 104)) (hr 11 (by omega))
  have q12 := cell_old (o := (Obj.cells #[.int .u32 0, .int .u32 0, .int .u32 0, .int .u32 0, .int .u32 0, .int .u32 0, .int .u32 0, .int .u32 0, .int .u32 0, .int .u32 0, .int .u32 0, .int .u32 0, .int .u32 0, .int .u32 0, .int .u32 0] 104)) (hr 12 (by omega))
  have q13 := cell_old (o := (Obj.cells #[.int .u32 0, .int .u32 0, .int .u32 0, .int .u32 0, .int .u32 0, .int .u32 0, .int .u32 0, .int .u32 0, .int .u32 0, .int .u32 0, .int .u32 0, .int .u32 0, .int .u32 0, .int .u32 0, .int .u32 0] 104)) (hr 13 (by omega))
  have q14 := cell_old (o := (Obj.cells #[.int .u32 0, .int .u32 0, .int .u32 0, .int .u32 0, .int .u32 0, .int .u32 0, .int .u32 0, .int .u32 0, .int .u32 0, .int .u32 0, .int .u32 0, .int .u32 0, .int .u32 0, .int .u32 0, .int .u32 0] 104)) (hr 14 (by omega))
  clear hr
  go_enter Tryz.func67, Tryz.ntmps67
  go_wp2_with fail
  have hB := below_alloc (Below.refl w.heap.size w) (Obj.cells #[.int .u32 0, .int .u32 0, .int .u32 0, .int .u32 0, .int .u32 0, .int .u32 0, .int .u32 0, .int .u32 0, .int .u32 0, .int .u32 0, .int .u32 0, .int .u32 0, .int .u32 0, .int .u32 0, .int .u32 0] 104)
  have hb := heap_alloc_new w (Obj.cells #[.int .u32 0, .int .u32 0, .int .u32 0, .int .u32 0, .int .u32 0, .int .u32 0, .int .u32 0, .int .u32 0, .int .u32 0, .int .u32 0, .int .u32 0, .int .u32 0, .int .u32 0, .int .u32 0, .int .u32 0] 104)
  generalize w.alloc (Obj.cells #[.int .u32 0, .int .u32 0, .int .u32 0, .int .u32 0, .int .u32 0, .int .u32 0, .int .u32 0, .int .u32 0, .int .u32 0, .int .u32 0, .int .u32 0, .int .u32 0, .int .u32 0, .int .u32 0, .int .u32 0] 104) = W at hB hb q0 q1 q2 q3 q4 q5 q6 q7 q8 q9 q10 q11 q12 q13 q14 ⊢
  have hlt := blk_lt hb
  have Hb2 : Hid ((W.drew.setRow w.heap.size #[.int .u32 (f 0), .int .u32 (f 1), .int .u32 (f 2), .int .u32 (f 3), .int .u32 (f 4), .int .u32 (f 5), .int .u32 (f 6), .int .u32 (f 7), .int .u32 (f 8), .int .u32 (f 9), .int .u32 (f 10), .int .u32 (f 11), .int .u32 (f 12), .int .u32 (f 13), .int .u32 (f 14)]).heap[w.heap.size]? = some (.cells #[.int .u32 (f 0), .int .u32 (f 1), .int .u32 (f 2), .int .u32 (f 3), .int .u32 (f 4), .int .u32 (f 5), .int .u32 (f 6), .int .u32 (f 7), .int .u32 (f 8), .int .u32 (f 9), .int .u32 (f 10), .int .u32 (f 11), .int .u32 (f 12), .int .u32 (f 13), .int .u32 (f 14)] 104 (0, 0))) := Lib.hid (setRow_heap (w := W.drew) hb)
  have HB2 := Lib.hid (below_setRow (cs := #[.int .u32 (f 0), .int .u32 (f 1), .int .u32 (f 2), .int .u32 (f 3), .int .u32 (f 4), .int .u32 (f 5), .int .u32 (f 6), .int .u32 (f 7), .int .u32 (f 8), .int .u32 (f 9), .int .u32 (f 10), .int .u32 (f 11), .int .u32 (f 12), .int .u32 (f 13), .int .u32 (f 14)]) (below_drew hB) (Nat.le_refl _))
  have Hb := Lib.hid hb
  clear hb hB
  go_still_tail 46, (by kernel_rfl)
  refine wpList_plain rfl (fun K hK => wp_store_row 104 (.tmp 2) (.tmp 56) rfl w.heap.size #[.int .u32 (f 0), .int .u32 (f 1), .int .u32 (f 2), .int .u32 (f 3), .int .u32 (f 4), .int .u32 (f 5), .int .u32 (f 6), .int .u32 (f 7), .int .u32 (f 8), .int .u32 (f 9), .int .u32 (f 10), .int .u32 (f 11), .int .u32 (f 12), .int .u32 (f 13), .int .u32 (f 14)] rfl rfl 104 #[.int .u32 0, .int .u32 0, .int .u32 0, .int .u32 0, .int .u32 0, .int .u32 0, .int .u32 0, .int .u32 0, .int .u32 0, .int .u32 0, .int .u32 0, .int .u32 0, .int .u32 0, .int .u32 0, .int .u32 0] Hb.out (by kernel_rfl) rfl (by simp [Value.oneCell']) (hK _ _ ?_))
  clear hK K
  go_wp2
  try simp only [Exit.inBlock, Exit.then]
  refine bodyPost_ret (results_ct rfl _ _ w.heap.size 104 #[.int .u32 (f 0), .int .u32 (f 1), .int .u32 (f 2), .int .u32 (f 3), .int .u32 (f 4), .int .u32 (f 5), .int .u32 (f 6), .int .u32 (f 7), .int .u32 (f 8), .int .u32 (f 9), .int .u32 (f 10), .int .u32 (f 11), .int .u32 (f 12), .int .u32 (f 13), .int .u32 (f 14)] (0, 0) _ rfl Hb2.out Tryz.underlying104 rfl (by kernel_rfl)) rfl (.mk _ rfl ⟨rfl, HB2.out⟩)
set_option maxRecDepth 100000 in
set_option maxHeartbeats 2000000 in
theorem build68 (f : Nat → Int) (g : Nat) (c : Nat) (w : World) (hr : ∀ j, j < 15 → w.cell? ⟨g, j, none⟩ = some (.int .u32 (f j))) : Calls Tryz.prog 68 #[.slice (some ⟨g, 0, none⟩) 15 c] w (Ret (Built w #[.int .u32 (f 0), .int .u32 (f 1), .int .u32 (f 2), .int .u32 (f 3), .int .u32 (f 4), .int .u32 (f 5), .int .u32 (f 6), .int .u32 (f 7), .int .u32 (f 8), .int .u32 (f 9), .int .u32 (f 10), .int .u32 (f 11), .int .u32 (f 12), .int .u32 (f 13), .int .u32 (f 14)])) := by
  have q0 := cell_old (o := (Obj.cells #[.int .u32 0, .int .u32 0, .int .u32 0, .int .u32 0, .int .u32 0, .int .u32 0, .int .u32 0, .int .u32 0, .int .u32 0, .int .u32 0, .int .u32 0, .int .u32 0, .int .u32 0, .int .u32 0, .int .u32 0] 105)) (hr 0 (by omega))
  have q1 := cell_old (o := (Obj.cells #[.int .u32 0, .int .u32 0, .int .u32 0, .int .u32 0, .int .u32 0, .int .u32 0, .int .u32 0, .int .u32 0, .int .u32 0, .int .u32 0, .int .u32 0, .int .u32 0, .int .u32 0, .int .u32 0, .int .u32 0] 105)) (hr 1 (by omega))
  have q2 := cell_old (o := (Obj.cells #[.int .u32 0, .int .u32 0, .int .u32 0, .int .u32 0, .int .u32 0, .int .u32 0, .int .u32 0, .int .u32 0, .int .u32 0, .int .u32 0, .int .u32 0, .int .u32 0, .int .u32 0, .int .u32 0, .int .u32 0] 105)) (hr 2 (by omega))
  have q3 := cell_old (o := (Obj.cells #[.int .u32 0, .int .u32 0, .int .u32 0, .int .u32 0, .int .u32 0, .int .u32 0, .int .u32 0, .int .u32 0, .int .u32 0, .int .u32 0, .int .u32 0, .int .u32 0, .int .u32 0, .int .u32 0, .int .u32 0] 105)) (hr 3 (by omega))
  have q4 := cell_old (o := (Obj.cells #[.int .u32 0, .int .u32 0, .int .u32 0, .int .u32 0, .int .u32 0, .int .u32 0, .int .u32 0, .int .u32 0, .int .u32 0, .int .u32 0, .int .u32 0, .int .u32 0, .int .u32 0, .int .u32 0, .int .u32 0] 105)) (hr 4 (by omega))
  have q5 := cell_old (o := (Obj.cells #[.int .u32 0, .int .u32 0, .int .u32 0, .int .u32 0, .int .u32 0, .int .u32 0, .int .u32 0, .int .u32 0, .int .u32 0, .int .u32 0, .int .u32 0, .int .u32 0, .int .u32 0, .int .u32 0, .int .u32 0] 105)) (hr 5 (by omega))
  have q6 := cell_old (o := (Obj.cells #[.int .u32 0, .int .u32 0, .int .u32 0, .int .u32 0, .int .u32 0, .int .u32 0, .int .u32 0, .int .u32 0, .int .u32 0, .int .u32 0, .int .u32 0, .int .u32 0, .int .u32 0, .int .u32 0, .int .u32 0] 105)) (hr 6 (by omega))
  have q7 := cell_old (o := (Obj.cells #[.int .u32 0, .int .u32 0, .int .u32 0, .int .u32 0, .int .u32 0, .int .u32 0, .int .u32 0, .int .u32 0, .int .u32 0, .int .u32 0, .int .u32 0, .int .u32 0, .int .u32 0, .int .u32 0, .int .u32 0] 105)) (hr 7 (by omega))
  have q8 := cell_old (o := (Obj.cells #[.int .u32 0, .int .u32 0, .int .u32 0, .int .u32 0, .int .u32 0, .int .u32 0, .int .u32 0, .int .u32 0, .int .u32 0, .int .u32 0, .int .u32 0, .int .u32 0, .int .u32 0, .int .u32 0, .int .u32 0] 105)) (hr 8 (by omega))
  have q9 := cell_old (o := (Obj.cells #[.int .u32 0, .int .u32 0, .int .u32 0, .int .u32 0, .int .u32 0, .int .u32 0, .int .u32 0, .int .u32 0, .int .u32 0, .int .u32 0, .int .u32 0, .int .u32 0, .int .u32 0, .int .u32 0, .int .u32 0] 105)) (hr 9 (by omega))
  have q10 := cell_old (o := (Obj.cells #[.int .u32 0, .int .u32 0, .int .u32 0, .int .u32 0, .int .u32 0, .int .u32 0, .int .u32 0, .int .u32 0, .int .u32 0, .int .u32 0, .int .u32 0, .int .u32 0, .int .u32 0, .int .u32 0, .int .u32 0] 105)) (hr 10 (by omega))
  have q11 := cell_old (o := (Obj.cells #[.int .u32 0, .int .u32 0, .int .u32 0, .int .u32 0, .int .u32 0, .int .u32 0, .int .u32 0, .int .u32 0, .int .u32 0, .int .u32 0, .int .u32 0, .int .u32 0, .int .u32 0, .int .u32 0, .int .u32 0] 105)) (hr 11 (by omega))
  have q12 := cell_old (o := (Obj.cells #[.int .u32 0, .int .u32 0, .int .u32 0, .int .u32 0, .int .u32 0, .int .u32 0, .int .u32 0, .int .u32 0, .int .u32 0, .int .u32 0, .int .u32 0, .int .u32 0, .int .u32 0, .int .u32 0, .int .u32 0] 105)) (hr 12 (by omega))
  have q13 := cell_old (o := (Obj.cells #[.int .u32 0, .int .u32 0, .int .u32 0, .int .u32 0, .int .u32 0, .int .u32 0, .int .u32 0, .int .u32 0, .int .u32 0, .int .u32 0, .int .u32 0, .int .u32 0, .int .u32 0, .int .u32 0, .int .u32 0] 105)) (hr 13 (by omega))
  have q14 := cell_old (o := (Obj.cells #[.int .u32 0, .int .u32 0, .int .u32 0, .int .u32 0, .int .u32 0, .int .u32 0, .int .u32 0, .int .u32 0, .int .u32 0, .int .u32 0, .int .u32 0, .int .u32 0, .int .u32 0, .int .u32 0, .int .u32 0] 105)) (hr 14 (by omega))
  clear hr
  go_enter Tryz.func68, Tryz.ntmps68
  go_wp2_with fail
  have hB := below_alloc (Below.refl w.heap.size w) (Obj.cells #[.int .u32 0, .int .u32 0, .int .u32 0, .int .u32 0, .int .u32 0, .int .u32 0, .int .u32 0, .int .u32 0, .int .u32 0, .int .u32 0, .int .u32 0, .int .u32 0, .int .u32 0, .int .u32 0, .int .u32 0] 105)
  have hb := heap_alloc_new w (Obj.cells #[.int .u32 0, .int .u32 0, .int .u32 0, .int .u32 0, .int .u32 0, .int .u32 0, .int .u32 0, .int .u32 0, .int .u32 0, .int .u32 0, .int .u32 0, .int .u32 0, .int .u32 0, .int .u32 0, .int .u32 0] 105)
  generalize w.alloc (Obj.cells #[.int .u32 0, .int .u32 0, .int .u32 0, .int .u32 0, .int .u32 0, .int .u32 0, .int .u32 0, .int .u32 0, .int .u32 0, .int .u32 0, .int .u32 0, .int .u32 0, .int .u32 0, .int .u32 0, .int .u32 0] 105) = W at hB hb q0 q1 q2 q3 q4 q5 q6 q7 q8 q9 q10 q11 q12 q13 q14 ⊢
  have hlt := blk_lt hb
  have Hb2 : Hid ((W.drew.setRow w.heap.size #[.int .u32 (f 0), .int .u32 (f 1), .int .u32 (f 2), .int .u32 (f 3), .int .u32 (f 4), .int .u32 (f 5), .int .u32 (f 6), .int .u32 (f 7), .int .u32 (f 8), .int .u32 (f 9), .int .u32 (f 10), .int .u32 (f 11), .int .u32 (f 12), .int .u32 (f 13), .int .u32 (f 14)]).heap[w.heap.size]? = some (.cells #[.int .u32 (f 0), .int .u32 (f 1), .int .u32 (f 2), .int .u32 (f 3), .int .u32 (f 4), .int .u32 (f 5), .int .u32 (f 6), .int .u32 (f 7), .int .u32 (f 8), .int .u32 (f 9), .int .u32 (f 10), .int .u32 (f 11), .int .u32 (f 12), .int .u32 (f 13), .int .u32 (f 14)] 105 (0, 0))) := Lib.hid (setRow_heap (w := W.drew) hb)
  have HB2 := Lib.hid (below_setRow (cs := #[.int .u32 (f 0), .int .u32 (f 1), .int .u32 (f 2), .int .u32 (f 3), .int .u32 (f 4), .int .u32 (f 5), .int .u32 (f 6), .int .u32 (f 7), .int .u32 (f 8), .int .u32 (f 9), .int .u32 (f 10), .int .u32 (f 11), .int .u32 (f 12), .int .u32 (f 13), .int .u32 (f 14)]) (below_drew hB) (Nat.le_refl _))
  have Hb := Lib.hid hb
  clear hb hB
  go_still_tail 46, (by kernel_rfl)
  refine wpList_plain rfl (fun K hK => wp_store_row 105 (.tmp 2) (.tmp 56) rfl w.heap.size #[.int .u32 (f 0), .int .u32 (f 1), .int .u32 (f 2), .int .u32 (f 3), .int .u32 (f 4), .int .u32 (f 5), .int .u32 (f 6), .int .u32 (f 7), .int .u32 (f 8), .int .u32 (f 9), .int .u32 (f 10), .int .u32 (f 11), .int .u32 (f 12), .int .u32 (f 13), .int .u32 (f 14)] rfl rfl 105 #[.int .u32 0, .int .u32 0, .int .u32 0, .int .u32 0, .int .u32 0, .int .u32 0, .int .u32 0, .int .u32 0, .int .u32 0, .int .u32 0, .int .u32 0, .int .u32 0, .int .u32 0, .int .u32 0, .int .u32 0] Hb.out (by kernel_rfl) rfl (by simp [Value.oneCell']) (hK _ _ ?_))
  clear hK K
  go_wp2
  try simp only [Exit.inBlock, Exit.then]
  refine bodyPost_ret (results_ct rfl _ _ w.heap.size 105 #[.int .u32 (f 0), .int .u32 (f 1), .int .u32 (f 2), .int .u32 (f 3), .int .u32 (f 4), .int .u32 (f 5), .int .u32 (f 6), .int .u32 (f 7), .int .u32 (f 8), .int .u32 (f 9), .int .u32 (f 10), .int .u32 (f 11), .int .u32 (f 12), .int .u32 (f 13), .int .u32 (f 14)] (0, 0) _ rfl Hb2.out Tryz.underlying105 rfl (by kernel_rfl)) rfl (.mk _ rfl ⟨rfl, HB2.out⟩)
set_option maxRecDepth 100000 in
set_option maxHeartbeats 2000000 in
theorem build69 (f : Nat → Int) (g : Nat) (c : Nat) (w : World) (hr : ∀ j, j < 15 → w.cell? ⟨g, j, none⟩ = some (.int .u32 (f j))) : Calls Tryz.prog 69 #[.slice (some ⟨g, 0, none⟩) 15 c] w (Ret (Built w #[.int .u32 (f 0), .int .u32 (f 1), .int .u32 (f 2), .int .u32 (f 3), .int .u32 (f 4), .int .u32 (f 5), .int .u32 (f 6), .int .u32 (f 7), .int .u32 (f 8), .int .u32 (f 9), .int .u32 (f 10), .int .u32 (f 11), .int .u32 (f 12), .int .u32 (f 13), .int .u32 (f 14)])) := by
  have q0 := cell_old (o := (Obj.cells #[.int .u32 0, .int .u32 0, .int .u32 0, .int .u32 0, .int .u32 0, .int .u32 0, .int .u32 0, .int .u32 0, .int .u32 0, .int .u32 0, .int .u32 0, .int .u32 0, .int .u32 0, .int .u32 0, .int .u32 0] 106)) (hr 0 (by omega))
  have q1 := cell_old (o := (Obj.cells #[.int .u32 0, .int .u32 0, .int .u32 0, .int .u32 0, .int .u32 0, .int .u32 0, .int .u32 0, .int .u32 0, .int .u32 0, .int .u32 0, .int .u32 0, .int .u32 0, .int .u32 0, .int .u32 0, .int .u32 0] 106)) (hr 1 (by omega))
  have q2 := cell_old (o := (Obj.cells #[.int .u32 0, .int .u32 0, .int .u32 0, .int .u32 0, .int .u32 0, .int .u32 0, .int .u32 0, .int .u32 0, .int .u32 0, .int .u32 0, .int .u32 0, .int .u32 0, .int .u32 0, .int .u32 0, .int .u32 0] 106)) (hr 2 (by omega))
  have q3 := cell_old (o := (Obj.cells #[.int .u32 0, .int .u32 0, .int .u32 0, .int .u32 0, .int .u32 0, .int .u32 0, .int .u32 0, .int .u32 0, .int .u32 0, .int .u32 0, .int .u32 0, .int .u32 0, .int .u32 0, .int .u32 0, .int .u32 0] 106)) (hr 3 (by omega))
  have q4 := cell_old (o := (Obj.cells #[.int .u32 0, .int .u32 0, .int .u32 0, .int .u32 0, .int .u32 0, .int .u32 0, .int .u32 0, .int .u32 0, .int .u32 0, .int .u32 0, .int .u32 0, .int .u32 0, .int .u32 0, .int .u32 0, .int .u32 0] 106)) (hr 4 (by omega))
  have q5 := cell_old (o := (Obj.cells #[.int .u32 0, .int .u32 0, .int .u32 0, .int .u32 0, .int .u32 0, .int .u32 0, .int .u32 0, .int .u32 0, .int .u32 0, .int .u32 0, .int .u32 0, .int .u32 0, .int .u32 0, .int .u32 0, .int .u32 0] 106)) (hr 5 (by omega))
  have q6 := cell_old (o := (Obj.cells #[.int .u32 0, .int .u32 0, .int .u32 0, .int .u32 0, .int .u32 0, .int .u32 0, .int .u32 0, .int .u32 0, .int .u32 0, .int .u32 0, .int .u32 0, .int .u32 0, .int .u32 0, .int .u32 0, .int .u32 0] 106)) (hr 6 (by omega))
  have q7 := cell_old (o := (Obj.cells #[.int .u32 0, .int .u32 0, .int .u32 0, .int .u32 0, .int .u32 0, .int .u32 0, .int .u32 0, .int .u32 0, .int .u32 0, .int .u32 0, .int .u32 0, .int .u32 0, .int .u32 0, .int .u32 0, .int .u32 0] 106)) (hr 7 (by omega))
  have q8 := cell_old (o := (Obj.cells #[.int .u32 0, .int .u32 0, .int .u32 0, .int .u32 0, .int .u32 0, .int .u32 0, .int .u32 0, .int .u32 0, .int .u32 0, .int .u32 0, .int .u32 0, .int .u32 0, .int .u32 0, .int .u32 0, .int .u32 0] 106)) (hr 8 (by omega))
  have q9 := cell_old (o := (Obj.cells #[.int .u32 0, .int .u32 0, .int .u32 0, .int .u32 0, .int .u32 0, .int .u32 0, .int .u32 0, .int .u32 0, .int .u32 0, .int .u32 0, .int .u32 0, .int .u32 0, .int .u32 0, .int .u32 0, .int .u32 0] 106)) (hr 9 (by omega))
  have q10 := cell_old (o := (Obj.cells #[.int .u32 0, .int .u32 0, .int .u32 0, .int .u32 0, .int .u32 0, .int .u32 0, .int .u32 0, .int .u32 0, .int .u32 0, .int .u32 0, .int .u32 0, .int .u32 0, .int .u32 0, .int .u32 0, .int .u32 0] 106)) (hr 10 (by omega))
  have q11 := cell_old (o := (Obj.cells #[.int .u32 0, .int .u32 0, .int .u32 0, .int .u32 0, .int .u32 0, .int .u32 0, .int .u32 0, .int .u32 0, .int .u32 0, .int .u32 0, .int .u32 0, .int .u32 0, .int .u32 0, .int .u32 0, .int .u32 0] 106)) (hr 11 (by omega))
  have q12 := cell_old (o := (Obj.cells #[.int .u32 0, .int .u32 0, .int .u32 0, .int .u32 0, .int .u32 0, .int .u32 0, .int .u32 0, .int .u32 0, .int .u32 0, .int .u32 0, .int .u32 0, .int .u32 0, .int .u32 0, .int .u32 0, .int .u32 0] 106)) (hr 12 (by omega))
  have q13 := cell_old (o := (Obj.cells #[.int .u32 0, .int .u32 0, .int .u32 0, .int .u32 0, .int .u32 0, .int .u32 0, .int .u32 0, .int .u32 0, .int .u32 0, .int .u32 0, .int .u32 0, .int .u32 0, .int .u32 0, .int .u32 0, .int .u32 0] 106)) (hr 13 (by omega))
  have q14 := cell_old (o := (Obj.cells #[.int .u32 0, .int .u32 0, .int .u32 0, .int .u32 0, .int .u32 0, .int .u32 0, .int .u32 0, .int .u32 0, .int .u32 0, .int .u32 0, .int .u32 0, .int .u32 0, .int .u32 0, .int .u32 0, .int .u32 0] 106)) (hr 14 (by omega))
  clear hr
  go_enter Tryz.func69, Tryz.ntmps69
  go_wp2_with fail
  have hB := below_alloc (Below.refl w.heap.size w) (Obj.cells #[.int .u32 0, .int .u32 0, .int .u32 0, .int .u32 0, .int .u32 0, .int .u32 0, .int .u32 0, .int .u32 0, .int .u32 0, .int .u32 0, .int .u32 0, .int .u32 0, .int .u32 0, .int .u32 0, .int .u32 0] 106)
  have hb := heap_alloc_new w (Obj.cells #[.int .u32 0, .int .u32 0, .int .u32 0, .int .u32 0, .int .u32 0, .int .u32 0, .int .u32 0, .int .u32 0, .int .u32 0, .int .u32 0, .int .u32 0, .int .u32 0, .int .u32 0, .int .u32 0, .int .u32 0] 106)
  generalize w.alloc (Obj.cells #[.int .u32 0, .int .u32 0, .int .u32 0, .int .u32 0, .int .u32 0, .int .u32 0, .int .u32 0, .int .u32 0, .int .u32 0, .int .u32 0, .int .u32 0, .int .u32 0, .int .u32 0, .int .u32 0, .int .u32 0] 106) = W at hB hb q0 q1 q2 q3 q4 q5 q6 q7 q8 q9 q10 q11 q12 q13 q14 ⊢
  have hlt := blk_lt hb
  have Hb2 : Hid ((W.drew.setRow w.heap.size #[.int .u32 (f 0), .int .u32 (f 1), .int .u32 (f 2), .int .u32 (f 3), .int .u32 (f 4), .int .u32 (f 5), .int .u32 (f 6), .int .u32 (f 7), .int .u32 (f 8), .int .u32 (f 9), .int .u32 (f 10), .int .u32 (f 11), .int .u32 (f 12), .int .u32 (f 13), .int .u32 (f 14)]).heap[w.heap.size]? = some (.cells #[.int .u32 (f 0), .int .u32 (f 1), .int .u32 (f 2), .int .u32 (f 3), .int .u32 (f 4), .int .u32 (f 5), .int .u32 (f 6), .int .u32 (f 7), .int .u32 (f 8), .int .u32 (f 9), .int .u32 (f 10), .int .u32 (f 11), .int .u32 (f 12), .int .u32 (f 13), .int .u32 (f 14)] 106 (0, 0))) := Lib.hid (setRow_heap (w := W.drew) hb)
  have HB2 := Lib.hid (below_setRow (cs := #[.int .u32 (f 0), .int .u32 (f 1), .int .u32 (f 2), .int .u32 (f 3), .int .u32 (f 4), .int .u32 (f 5), .int .u32 (f 6), .int .u32 (f 7), .int .u32 (f 8), .int .u32 (f 9), .int .u32 (f 10), .int .u32 (f 11), .int .u32 (f 12), .int .u32 (f 13), .int .u32 (f 14)]) (below_drew hB) (Nat.le_refl _))
  have Hb := Lib.hid hb
  clear hb hB
  go_still_tail 46, (by kernel_rfl)
  refine wpList_plain rfl (fun K hK => wp_store_row 106 (.tmp 2) (.tmp 56) rfl w.heap.size #[.int .u32 (f 0), .int .u32 (f 1), .int .u32 (f 2), .int .u32 (f 3), .int .u32 (f 4), .int .u32 (f 5), .int .u32 (f 6), .int .u32 (f 7), .int .u32 (f 8), .int .u32 (f 9), .int .u32 (f 10), .int .u32 (f 11), .int .u32 (f 12), .int .u32 (f 13), .int .u32 (f 14)] rfl rfl 106 #[.int .u32 0, .int .u32 0, .int .u32 0, .int .u32 0, .int .u32 0, .int .u32 0, .int .u32 0, .int .u32 0, .int .u32 0, .int .u32 0, .int .u32 0, .int .u32 0, .int .u32 0, .int .u32 0, .int .u32 0] Hb.out (by kernel_rfl) rfl (by simp [Value.oneCell']) (hK _ _ ?_))
  clear hK K
  go_wp2
  try simp only [Exit.inBlock, Exit.then]
  refine bodyPost_ret (results_ct rfl _ _ w.heap.size 106 #[.int .u32 (f 0), .int .u32 (f 1), .int .u32 (f 2), .int .u32 (f 3), .int .u32 (f 4), .int .u32 (f 5), .int .u32 (f 6), .int .u32 (f 7), .int .u32 (f 8), .int .u32 (f 9), .int .u32 (f 10), .int .u32 (f 11), .int .u32 (f 12), .int .u32 (f 13), .int .u32 (f 14)] (0, 0) _ rfl Hb2.out Tryz.underlying106 rfl (by kernel_rfl)) rfl (.mk _ rfl ⟨rfl, HB2.out⟩)
set_option maxRecDepth 100000 in
set_option maxHeartbeats 2000000 in
theorem build70 (f : Nat → Int) (g : Nat) (c : Nat) (w : World) (hr : ∀ j, j < 15 → w.cell? ⟨g, j, none⟩ = some (.int .u32 (f j))) : Calls Tryz.prog 70 #[.slice (some ⟨g, 0, none⟩) 15 c] w (Ret (Built w #[.int .u32 (f 0), .int .u32 (f 1), .int .u32 (f 2), .int .u32 (f 3), .int .u32 (f 4), .int .u32 (f 5), .int .u32 (f 6), .int .u32 (f 7), .int .u32 (f 8), .int .u32 (f 9), .int .u32 (f 10), .int .u32 (f 11), .int .u32 (f 12), .int .u32 (f 13), .int .u32 (f 14)])) := by
  have q0 := cell_old (o := (Obj.cells #[.int .u32 0, .int .u32 0, .int .u32 0, .int .u32 0, .int .u32 0, .int .u32 0, .int .u32 0, .int .u32 0, .int .u32 0, .int .u32 0, .int .u32 0, .int .u32 0, .int .u32 0, .int .u32 0, .int .u32 0] 107)) (hr 0 (by omega))
  have q1 := cell_old (o := (Obj.cells #[.int .u32 0, .int .u32 0, .int .u32 0, .int .u32 0, .int .u32 0, .int .u32 0, .int .u32 0, .int .u32 0, .int .u32 0, .int .u32 0, .int .u32 0, .int .u32 0, .int .u32 0, .int .u32 0, .int .u32 0] 107)) (hr 1 (by omega))
  have q2 := cell_old (o := (Obj.cells #[.int .u32 0, .int .u32 0, .int .u32 0, .int .u32 0, .int .u32 0, .int .u32 0, .int .u32 0, .int .u32 0, .int .u32 0, .int .u32 0, .int .u32 0, .int .u32 0, .int .u32 0, .int .u32 0, .int .u32 0] 107)) (hr 2 (by omega))
  have q3 := cell_old (o := (Obj.cells #[.int .u32 0, .int .u32 0, .int .u32 0, .int .u32 0, .int .u32 0, .int .u32 0, .int .u32 0, .int .u32 0, .int .u32 0, .int .u32 0, .int .u32 0, .int .u32 0, .int .u32 0, .int .u32 0, .int .u32 0] 107)) (hr 3 (by omega))
  have q4 := cell_old (o := (Obj.cells #[.int .u32 0, .int .u32 0, .int .u32 0, .int .u32 0, .int .u32 0, .int .u32 0, .int .u32 0, .int .u32 0, .int .u32 0, .int .u32 0, .int .u32 0, .int .u32 0, .int .u32 0, .int .u32 0, .int .u32 0] 107)) (hr 4 (by omega))
  have q5 := cell_old (o := (Obj.cells #[.int .u32 0, .int .u32 0, .int .u32 0, .int .u32 0, .int .u32 0, .int .u32 0, .int .u32 0, .int .u32 0, .int .u32 0, .int .u32 0, .int .u32 0, .int .u32 0, .int .u32 0, .int .u32 0, .int .u32 0] 107)) (hr 5 (by omega))
  have q6 := cell_old (o := (Obj.cells #[.int .u32 0, .int .u32 0, .int .u32 0, .int .u32 0, .int .u32 0, .int .u32 0, .int .u32 0, .int .u32 0, .int .u32 0, .int .u32 0, .int .u32 0, .int .u32 0, .int .u32 0, .int .u32 0, .int .u32 0] 107)) (hr 6 (by omega))
  have q7 := cell_old (o := (Obj.cells #[.int .u32 0, .int .u32 0, .int .u32 0, .int .u32 0, .int .u32 0, .int .u32 0, .int .u32 0, .int .u32 0, .int .u32 0, .int .u32 0, .int .u32 0, .int .u32 0, .int .u32 0, .int .u32 0, .int .u32 0] 107)) (hr 7 (by omega))
  have q8 := cell_old (o := (Obj.cells #[.int .u32 0, .int .u32 0, .int .u32 0, .int .u32 0, .int .u32 0, .int .u32 0, .int .u32 0, .int .u32 0, .int .u32 0, .int .u32 0, .int .u32 0, .int .u32 0, .int .u32 0, .int .u32 0, .int .u32 0] 107)) (hr 8 (by omega))
  have q9 := cell_old (o := (Obj.cells #[.int .u32 0, .int .u32 0, .int .u32 0, .int .u32 0, .int .u32 0, .int .u32 0, .int .u32 0, .int .u32 0, .int .u32 0, .int .u32 0, .int .u32 0, .int .u32 0, .int .u32 0, .int .u32 0, .int .u32 0] 107)) (hr 9 (by omega))
  have q10 := cell_old (o := (Obj.cells #[.int .u32 0, .int .u32 0, .int .u32 0, .int .u32 0, .int .u32 0, .int .u32 0, .int .u32 0, .int .u32 0, .int .u32 0, .int .u32 0, .int .u32 0, .int .u32 0, .int .u32 0, .int .u32 0, .int .u32 0] 107)) (hr 10 (by omega))
  have q11 := cell_old (o := (Obj.cells #[.int .u32 0, .int .u32 0, .int .u32 0, .int .u32 0, .int .u32 0, .int .u32 0, .int .u32 0, .int .u32 0, .int .u32 0, .int .u32 0, .int .u32 0, .int .u32 0, .int .u32 0, .int .u32 0, .int .u32 0] 107)) (hr 11 (by omega))
  have q12 := cell_old (o := (Obj.cells #[.int .u32 0, .int .u32 0, .int .u32 0, .int .u32 0, .int .u32 0, .int .u32 0, .int .u32 0, .int .u32 0, .int .u32 0, .int .u32 0, .int .u32 0, .int .u32 0, .int .u32 0, .int .u32 0, .int .u32 0] 107)) (hr 12 (by omega))
  have q13 := cell_old (o := (Obj.cells #[.int .u32 0, .int .u32 0, .int .u32 0, .int .u32 0, .int .u32 0, .int .u32 0, .int .u32 0, .int .u32 0, .int .u32 0, .int .u32 0, .int .u32 0, .int .u32 0, .int .u32 0, .int .u32 0, .int .u32 0] 107)) (hr 13 (by omega))
  have q14 := cell_old (o := (Obj.cells #[.int .u32 0, .int .u32 0, .int .u32 0, .int .u32 0, .int .u32 0, .int .u32 0, .int .u32 0, .int .u32 0, .int .u32 0, .int .u32 0, .int .u32 0, .int .u32 0, .int .u32 0, .int .u32 0, .int .u32 0] 107)) (hr 14 (by omega))
  clear hr
  go_enter Tryz.func70, Tryz.ntmps70
  go_wp2_with fail
  have hB := below_alloc (Below.refl w.heap.size w) (Obj.cells #[.int .u32 0, .int .u32 0, .int .u32 0, .int .u32 0, .int .u32 0, .int .u32 0, .int .u32 0, .int .u32 0, .int .u32 0, .int .u32 0, .int .u32 0, .int .u32 0, .int .u32 0, .int .u32 0, .int .u32 0] 107)
  have hb := heap_alloc_new w (Obj.cells #[.int .u32 0, .int .u32 0, .int .u32 0, .int .u32 0, .int .u32 0, .int .u32 0, .int .u32 0, .int .u32 0, .int .u32 0, .int .u32 0, .int .u32 0, .int .u32 0, .int .u32 0, .int .u32 0, .int .u32 0] 107)
  generalize w.alloc (Obj.cells #[.int .u32 0, .int .u32 0, .int .u32 0, .int .u32 0, .int .u32 0, .int .u32 0, .int .u32 0, .int .u32 0, .int .u32 0, .int .u32 0, .int .u32 0, .int .u32 0, .int .u32 0, .int .u32 0, .int .u32 0] 107) = W at hB hb q0 q1 q2 q3 q4 q5 q6 q7 q8 q9 q10 q11 q12 q13 q14 ⊢
  have hlt := blk_lt hb
  have Hb2 : Hid ((W.drew.setRow w.heap.size #[.int .u32 (f 0), .int .u32 (f 1), .int .u32 (f 2), .int .u32 (f 3), .int .u32 (f 4), .int .u32 (f 5), .int .u32 (f 6), .int .u32 (f 7), .int .u32 (f 8), .int .u32 (f 9), .int .u32 (f 10), .int .u32 (f 11), .int .u32 (f 12), .int .u32 (f 13), .int .u32 (f 14)]).heap[w.heap.size]? = some (.cells #[.int .u32 (f 0), .int .u32 (f 1), .int .u32 (f 2), .int .u32 (f 3), .int .u32 (f 4), .int .u32 (f 5), .int .u32 (f 6), .int .u32 (f 7), .int .u32 (f 8), .int .u32 (f 9), .int .u32 (f 10), .int .u32 (f 11), .int .u32 (f 12), .int .u32 (f 13), .int .u32 (f 14)] 107 (0, 0))) := Lib.hid (setRow_heap (w := W.drew) hb)
  have HB2 := Lib.hid (below_setRow (cs := #[.int .u32 (f 0), .int .u32 (f 1), .int .u32 (f 2), .int .u32 (f 3), .int .u32 (f 4), .int .u32 (f 5), .int .u32 (f 6), .int .u32 (f 7), .int .u32 (f 8), .int .u32 (f 9), .int .u32 (f 10), .int .u32 (f 11), .int .u32 (f 12), .int .u32 (f 13), .int .u32 (f 14)]) (below_drew hB) (Nat.le_refl _))
  have Hb := Lib.hid hb
  clear hb hB
  go_still_tail 46, (by kernel_rfl)
  refine wpList_plain rfl (fun K hK => wp_store_row 107 (.tmp 2) (.tmp 56) rfl w.heap.size #[.int .u32 (f 0), .int .u32 (f 1), .int .u32 (f 2), .int .u32 (f 3), .int .u32 (f 4), .int .u32 (f 5), .int .u32 (f 6), .int .u32 (f 7), .int .u32 (f 8), .int .u32 (f 9), .int .u32 (f 10), .int .u32 (f 11), .int .u32 (f 12), .int .u32 (f 13), .int .u32 (f 14)] rfl rfl 107 #[.int .u32 0, .int .u32 0, .int .u32 0, .int .u32 0, .int .u32 0, .int .u32 0, .int .u32 0, .int .u32 0, .int .u32 0, .int .u32 0, .int .u32 0, .int .u32 0, .int .u32 0, .int .u32 0, .int .u32 0] Hb.out (by kernel_rfl) rfl (by simp [Value.oneCell']) (hK _ _ ?_))
  clear hK K
  go_wp2
  try simp only [Exit.inBlock, Exit.then]
  refine bodyPost_ret (results_ct rfl _ _ w.heap.size 107 #[.int .u32 (f 0), .int .u32 (f 1), .int .u32 (f 2), .int .u32 (f 3), .int .u32 (f 4), .int .u32 (f 5), .int .u32 (f 6), .int .u32 (f 7), .int .u32 (f 8), .int .u32 (f 9), .int .u32 (f 10), .int .u32 (f 11), .int .u32 (f 12), .int .u32 (f 13), .int .u32 (f 14)] (0, 0) _ rfl Hb2.out Tryz.underlying107 rfl (by kernel_rfl)) rfl (.mk _ rfl ⟨rfl, HB2.out⟩)
set_option maxRecDepth 100000 in
set_option maxHeartbeats 2000000 in
theorem build71 (f : Nat → Int) (g : Nat) (c : Nat) (w : World) (hr : ∀ j, j < 15 → w.cell? ⟨g, j, none⟩ = some (.int .u32 (f j))) : Calls Tryz.prog 71 #[.slice (some ⟨g, 0, none⟩) 15 c] w (Ret (Built w #[.int .u32 (f 0), .int .u32 (f 1), .int .u32 (f 2), .int .u32 (f 3), .int .u32 (f 4), .int .u32 (f 5), .int .u32 (f 6), .int .u32 (f 7), .int .u32 (f 8), .int .u32 (f 9), .int .u32 (f 10), .int .u32 (f 11), .int .u32 (f 12), .int .u32 (f 13), .int .u32 (f 14)])) := by
  have q0 := cell_old (o := (Obj.cells #[.int .u32 0, .int .u32 0, .int .u32 0, .int .u32 0, .int .u32 0, .int .u32 0, .int .u32 0, .int .u32 0, .int .u32 0, .int .u32 0, .int .u32 0, .int .u32 0, .int .u32 0, .int .u32 0, .int .u32 0] 108)) (hr 0 (by omega))
  have q1 := cell_old (o := (Obj.cells #[.int .u32 0, .int .u32 0, .int .u32 0, .int .u32 0, .int .u32 0, .int .u32 0, .int .u32 0, .int .u32 0, .int .u32 0, .int .u32 0, .int .u32 0, .int .u32 0, .int .u32 0, .int .u32 0, .int .u32 0] 108)) (hr 1 (by omega))
  have q2 := cell_old (o := (Obj.cells #[.int .u32 0, .int .u32 0, .int .u32 0, .int .u32 0, .int .u32 0, .int .u32 0, .int .u32 0, .int .u32 0, .int .u32 0, .int .u32 0, .int .u32 0, .int .u32 0, .int .u32 0, .int .u32 0, .int .u32 0] 108)) (hr 2 (by omega))
  have q3 := cell_old (o := (Obj.cells #[.int .u32 0, .int .u32 0, .int .u32 0, .int .u32 0, .int .u32 0, .int .u32 0, .int .u32 0, .int .u32 0, .int .u32 0, .int .u32 0, .int .u32 0, .int .u32 0, .int .u32 0, .int .u32 0, .int .u32 0] 108)) (hr 3 (by omega))
  have q4 := cell_old (o := (Obj.cells #[.int .u32 0, .int .u32 0, .int .u32 0, .int .u32 0, .int .u32 0, .int .u32 0, .int .u32 0, .int .u32 0, .int .u32 0, .int .u32 0, .int .u32 0, .int .u32 0, .int .u32 0, .int .u32 0, .int .u32 0] 108)) (hr 4 (by omega))
  have q5 := cell_old (o := (Obj.cells #[.int .u32 0, .int .u32 0, .int .u32 0, .int .u32 0, .int .u32 0, .int .u32 0, .int .u32 0, .int .u32 0, .int .u32 0, .int .u32 0, .int .u32 0, .int .u32 0, .int .u32 0, .int .u32 0, .int .u32 0] 108)) (hr 5 (by omega))
  have q6 := cell_old (o := (Obj.cells #[.int .u32 0, .int .u32 0, .int .u32 0, .int .u32 0, .int .u32 0, .int .u32 0, .int .u32 0, .int .u32 0, .int .u32 0, .int .u32 0, .int .u32 0, .int .u32 0, .int .u32 0, .int .u32 0, .int .u32 0] 108)) (hr 6 (by omega))
  have q7 := cell_old (o := (Obj.cells #[.int .u32 0, .int .u32 0, .int .u32 0, .int .u32 0, .int .u32 0, .int .u32 0, .int .u32 0, .int .u32 0, .int .u32 0, .int .u32 0, .int .u32 0, .int .u32 0, .int .u32 0, .int .u32 0, .int .u32 0] 108)) (hr 7 (by omega))
  have q8 := cell_old (o := (Obj.cells #[.int .u32 0, .int .u32 0, .int .u32 0, .int .u32 0, .int .u32 0, .int .u32 0, .int .u32 0, .int .u32 0, .int .u32 0, .int .u32 0, .int .u32 0, .int .u32 0, .int .u32 0, .int .u32 0, .int .u32 0] 108)) (hr 8 (by omega))
  have q9 := cell_old (o := (Obj.cells #[.int .u32 0, .int .u32 0, .int .u32 0, .int .u32 0, .int .u32 0, .int .u32 0, .int .u32 0, .int .u32 0, .int .u32 0, .int .u32 0, .int .u32 0, .int .u32 0, .int .u32 0, .int .u32 0, .int .u32 0] 108)) (hr 9 (by omega))
  have q10 := cell_old (o := (Obj.cells #[.int .u32 0, .int .u32 0, .int .u32 0, .int .u32 0, .int .u32 0, .int .u32 0, .int .u32 0, .int .u32 0, .int .u32 0, .int .u32 0, .int .u32 0, .int .u32 0, .int .u32 0, .int .u32 0, .int .u32 0] 108)) (hr 10 (by omega))
  have q11 := cell_old (o := (Obj.cells #[.int .u32 0, .int .u32 0, .int .u32 0, .int .u32 0, .int .u32 0, .int .u32 0, .int .u32 0, .int .u32 0, .int .u32 0, .int .u32 0, .int .u32 0, .int .u32 0, .int .u32 0, .int .u32 0, .int .u32 0] 108)) (hr 11 (by omega))
  have q12 := cell_old (o := (Obj.cells #[.int .u32 0, .int .u32 0, .int .u32 0, .int .u32 0, .int .u32 0, .int .u32 0, .int .u32 0, .int .u32 0, .int .u32 0, .int .u32 0, .int .u32 0, .int .u32 0, .int .u32 0, .int .u32 0, .int .u32 0] 108)) (hr 12 (by omega))
  have q13 := cell_old (o := (Obj.cells #[.int .u32 0, .int .u32 0, .int .u32 0, .int .u32 0, .int .u32 0, .int .u32 0, .int .u32 0, .int .u32 0, .int .u32 0, .int .u32 0, .int .u32 0, .int .u32 0, .int .u32 0, .int .u32 0, .int .u32 0] 108)) (hr 13 (by omega))
  have q14 := cell_old (o := (Obj.cells #[.int .u32 0, .int .u32 0, .int .u32 0, .int .u32 0, .int .u32 0, .int .u32 0, .int .u32 0, .int .u32 0, .int .u32 0, .int .u32 0, .int .u32 0, .int .u32 0, .int .u32 0, .int .u32 0, .int .u32 0] 108)) (hr 14 (by omega))
  clear hr
  go_enter Tryz.func71, Tryz.ntmps71
  go_wp2_with fail
  have hB := below_alloc (Below.refl w.heap.size w) (Obj.cells #[.int .u32 0, .int .u32 0, .int .u32 0, .int .u32 0, .int .u32 0, .int .u32 0, .int .u32 0, .int .u32 0, .int .u32 0, .int .u32 0, .int .u32 0, .int .u32 0, .int .u32 0, .int .u32 0, .int .u32 0] 108)
  have hb := heap_alloc_new w (Obj.cells #[.int .u32 0, .int .u32 0, .int .u32 0, .int .u32 0, .int .u32 0, .int .u32 0, .int .u32 0, .int .u32 0, .int .u32 0, .int .u32 0, .int .u32 0, .int .u32 0, .int .u32 0, .int .u32 0, .int .u32 0] 108)
  generalize w.alloc (Obj.cells #[.int .u32 0, .int .u32 0, .int .u32 0, .int .u32 0, .int .u32 0, .int .u32 0, .int .u32 0, .int .u32 0, .int .u32 0, .int .u32 0, .int .u32 0, .int .u32 0, .int .u32 0, .int .u32 0, .int .u32 0] 108) = W at hB hb q0 q1 q2 q3 q4 q5 q6 q7 q8 q9 q10 q11 q12 q13 q14 ⊢
  have hlt := blk_lt hb
  have Hb2 : Hid ((W.drew.setRow w.heap.size #[.int .u32 (f 0), .int .u32 (f 1), .int .u32 (f 2), .int .u32 (f 3), .int .u32 (f 4), .int .u32 (f 5), .int .u32 (f 6), .int .u32 (f 7), .int .u32 (f 8), .int .u32 (f 9), .int .u32 (f 10), .int .u32 (f 11), .int .u32 (f 12), .int .u32 (f 13), .int .u32 (f 14)]).heap[w.heap.size]? = some (.cells #[.int .u32 (f 0), .int .u32 (f 1), .int .u32 (f 2), .int .u32 (f 3), .int .u32 (f 4), .int .u32 (f 5), .int .u32 (f 6), .int .u32 (f 7), .int .u32 (f 8), .int .u32 (f 9), .int .u32 (f 10), .int .u32 (f 11), .int .u32 (f 12), .int .u32 (f 13), .int .u32 (f 14)] 108 (0, 0))) := Lib.hid (setRow_heap (w := W.drew) hb)
  have HB2 := Lib.hid (below_setRow (cs := #[.int .u32 (f 0), .int .u32 (f 1), .int .u32 (f 2), .int .u32 (f 3), .int .u32 (f 4), .int .u32 (f 5), .int .u32 (f 6), .int .u32 (f 7), .int .u32 (f 8), .int .u32 (f 9), .int .u32 (f 10), .int .u32 (f 11), .int .u32 (f 12), .int .u32 (f 13), .int .u32 (f 14)]) (below_drew hB) (Nat.le_refl _))
  have Hb := Lib.hid hb
  clear hb hB
  go_still_tail 46, (by kernel_rfl)
  refine wpList_plain rfl (fun K hK => wp_store_row 108 (.tmp 2) (.tmp 56) rfl w.heap.size #[.int .u32 (f 0), .int .u32 (f 1), .int .u32 (f 2), .int .u32 (f 3), .int .u32 (f 4), .int .u32 (f 5), .int .u32 (f 6), .int .u32 (f 7), .int .u32 (f 8), .int .u32 (f 9), .int .u32 (f 10), .int .u32 (f 11), .int .u32 (f 12), .int .u32 (f 13), .int .u32 (f 14)] rfl rfl 108 #[.int .u32 0, .int .u32 0, .int .u32 0, .int .u32 0, .int .u32 0, .int .u32 0, .int .u32 0, .int .u32 0, .int .u32 0, .int .u32 0, .int .u32 0, .int .u32 0, .int .u32 0, .int .u32 0, .int .u32 0] Hb.out (by kernel_rfl) rfl (by simp [Value.oneCell']) (hK _ _ ?_))
  clear hK K
  go_wp2
  try simp only [Exit.inBlock, Exit.then]
  refine bodyPost_ret (results_ct rfl _ _ w.heap.size 108 #[.int .u32 (f 0), .int .u32 (f 1), .int .u32 (f 2), .int .u32 (f 3), .int .u32 (f 4), .int .u32 (f 5), .int .u32 (f 6), .int .u32 (f 7), .int .u32 (f 8), .int .u32 (f 9), .int .u32 (f 10), .int .u32 (f 11), .int .u32 (f 12), .int .u32 (f 13), .int .u32 (f 14)] (0, 0) _ rfl Hb2.out Tryz.underlying108 rfl (by kernel_rfl)) rfl (.mk _ rfl ⟨rfl, HB2.out⟩)
set_option maxRecDepth 100000 in
set_option maxHeartbeats 2000000 in
theorem build73 (f : Nat → Int) (g : Nat) (c : Nat) (w : World) (hr : ∀ j, j < 1 → w.cell? ⟨g, j, none⟩ = some (.int .u32 (f j))) : Calls Tryz.prog 73 #[.slice (some ⟨g, 0, none⟩) 1 c] w (Ret (Built w #[.int .u32 (f 0)])) := by
  have q0 := cell_old (o := (Obj.cells #[.int .u32 0] 93)) (hr 0 (by omega))
  clear hr
  go_enter Tryz.func73, Tryz.ntmps73
  go_wp2
  try simp only [Exit.inBlock, Exit.then]
  refine bodyPost_ret (results_ct rfl _ _ w.heap.size 93 #[.int .u32 (f 0)] (0, 0) _ rfl (heap_alloc_new w _) Tryz.underlying93 rfl (by kernel_rfl)) rfl (.mk _ rfl ⟨rfl, below_alloc (Below.refl _ _) _⟩)
set_option maxRecDepth 100000 in
set_option maxHeartbeats 2000000 in
theorem build74 (f : Nat → Int) (g : Nat) (c : Nat) (w : World) (hr : ∀ j, j < 3 → w.cell? ⟨g, j, none⟩ = some (.int .u32 (f j))) : Calls Tryz.prog 74 #[.slice (some ⟨g, 0, none⟩) 3 c] w (Ret (Built w #[.int .u32 (f 0), .int .u32 (f 1), .int .u32 (f 2)])) := by
  have q0 := cell_old (o := (Obj.cells #[.int .u32 0, .int .u32 0, .int .u32 0] 110)) (hr 0 (by omega))
  have q1 := cell_old (o := (Obj.cells #[.int .u32 0, .int .u32 0, .int .u32 0] 110)) (hr 1 (by omega))
  have q2 := cell_old (o := (Obj.cells #[.int .u32 0, .int .u32 0, .int .u32 0] 110)) (hr 2 (by omega))
  clear hr
  go_enter Tryz.func74, Tryz.ntmps74
  go_wp2_with fail
  have hB := below_alloc (Below.refl w.heap.size w) (Obj.cells #[.int .u32 0, .int .u32 0, .int .u32 0] 110)
  have hb := heap_alloc_new w (Obj.cells #[.int .u32 0, .int .u32 0, .int .u32 0] 110)
  generalize w.alloc (Obj.cells #[.int .u32 0, .int .u32 0, .int .u32 0] 110) = W at hB hb q0 q1 q2 ⊢
  have hlt := blk_lt hb
  have Hb2 : Hid ((W.drew.setRow w.heap.size #[.int .u32 (f 0), .int .u32 (f 1), .int .u32 (f 2)]).heap[w.heap.size]? = some (.cells #[.int .u32 (f 0), .int .u32 (f 1), .int .u32 (f 2)] 110 (0, 0))) := Lib.hid (setRow_heap (w := W.drew) hb)
  have HB2 := Lib.hid (below_setRow (cs := #[.int .u32 (f 0), .int .u32 (f 1), .int .u32 (f 2)]) (below_drew hB) (Nat.le_refl _))
  have Hb := Lib.hid hb
  clear hb hB
  go_still_tail 10, (by kernel_rfl)
  refine wpList_plain rfl (fun K hK => wp_store_row 110 (.tmp 2) (.tmp 20) rfl w.heap.size #[.int .u32 (f 0), .int .u32 (f 1), .int .u32 (f 2)] rfl rfl 110 #[.int .u32 0, .int .u32 0, .int .u32 0] Hb.out (by kernel_rfl) rfl (by simp [Value.oneCell']) (hK _ _ ?_))
  clear hK K
  go_wp2
  try simp only [Exit.inBlock, Exit.then]
  refine bodyPost_ret (results_ct rfl _ _ w.heap.size 110 #[.int .u32 (f 0), .int .u32 (f 1), .int .u32 (f 2)] (0, 0) _ rfl Hb2.out Tryz.underlying110 rfl (by kernel_rfl)) rfl (.mk _ rfl ⟨rfl, HB2.out⟩)
set_option maxRecDepth 100000 in
set_option maxHeartbeats 2000000 in
theorem build75 (f : Nat → Int) (g : Nat) (c : Nat) (w : World) (hr : ∀ j, j < 1 → w.cell? ⟨g, j, none⟩ = some (.int .u32 (f j))) : Calls Tryz.prog 75 #[.slice (some ⟨g, 0, none⟩) 1 c] w (Ret (Built w #[.int .u32 (f 0)])) := by
  have q0 := cell_old (o := (Obj.cells #[.int .u32 0] 112)) (hr 0 (by omega))
  clear hr
  go_enter Tryz.func75, Tryz.ntmps75
  go_wp2
  try simp only [Exit.inBlock, Exit.then]
  refine bodyPost_ret (results_ct rfl _ _ w.heap.size 112 #[.int .u32 (f 0)] (0, 0) _ rfl (heap_alloc_new w _) Tryz.underlying112 rfl (by kernel_rfl)) rfl (.mk _ rfl ⟨rfl, below_alloc (Below.refl _ _) _⟩)
end Go.Proofs.YtaniejfkbapbbaaGreatDoor
namespace Go.Proofs.YtaniejfkbapbbaaGreatDoor
open Go.RowKit Go.Proofs.YtaniejfkbapbbaaGreatDoorW.PrintWords Go.Proofs.YtaniejfkbapbbaaGreatDoorW.PrintLast Go.Proofs.YtaniejfkbapbbaaGreatDoorW.PrintMore

set_option maxRecDepth 100000 in
set_option maxHeartbeats 4000000 in
theorem build56 (f : Nat → Int) (g : Nat) (c : Nat) (w : World) (hr : ∀ j, j < 8 → w.cell? ⟨g, j, none⟩ = some (.int .u32 (f j))) : Calls Tryz.prog 56 #[.slice (some ⟨g, 0, none⟩) 8 c] w (Ret (Built w #[.int .u32 (f 0), .int .u32 (f 1), .int .u32 (f 2), .int .u32 (f 3), .int .u32 (f 4), .int .u32 (f 5), .int .u32 (f 6), .int .u32 (f 7)])) := by
  have q0 := cell_old (o := (Obj.cells #[.int .u32 0, .int .u32 0, .int .u32 0, .int .u32 0, .int .u32 0, .int .u32 0, .int .u32 0, .int .u32 0] 83)) (hr 0 (by omega))
  have q1 := cell_old (o := (Obj.cells #[.int .u32 0, .int .u32 0, .int .u32 0, .int .u32 0, .int .u32 0, .int .u32 0, .int .u32 0, .int .u32 0] 83)) (hr 1 (by omega))
  have q2 := cell_old (o := (Obj.cells #[.int .u32 0, .int .u32 0, .int .u32 0, .int .u32 0, .int .u32 0, .int .u32 0, .int .u32 0, .int .u32 0] 83)) (hr 2 (by omega))
  have q3 := cell_old (o := (Obj.cells #[.int .u32 0, .int .u32 0, .int .u32 0, .int .u32 0, .int .u32 0, .int .u32 0, .int .u32 0, .int .u32 0] 83)) (hr 3 (by omega))
  have q4 := cell_old (o := (Obj.cells #[.int .u32 0, .int .u32 0, .int .u32 0, .int .u32 0, .int .u32 0, .int .u32 0, .int .u32 0, .int .u32 0] 83)) (hr 4 (by omega))
  have q5 := cell_old (o := (Obj.cells #[.int .u32 0, .int .u32 0, .int .u32 0, .int .u32 0, .int .u32 0, .int .u32 0, .int .u32 0, .int .u32 0] 83)) (hr 5 (by omega))
  have q6 := cell_old (o := (Obj.cells #[.int .u32 0, .int .u32 0, .int .u32 0, .int .u32 0, .int .u32 0, .int .u32 0, .int .u32 0, .int .u32 0] 83)) (hr 6 (by omega))
  have q7 := cell_old (o := (Obj.cells #[.int .u32 0, .int .u32 0, .int .u32 0, .int .u32 0, .int .u32 0, .int .u32 0, .int .u32 0, .int .u32 0] 83)) (hr 7 (by omega))
  clear hr
  go_enter Tryz.func56, Tryz.ntmps56
  go_wp2_with fail
  have hB := below_alloc (Below.refl w.heap.size w) (Obj.cells #[.int .u32 0, .int .u32 0, .int .u32 0, .int .u32 0, .int .u32 0, .int .u32 0, .int .u32 0, .int .u32 0] 83)
  have hb := heap_alloc_new w (Obj.cells #[.int .u32 0, .int .u32 0, .int .u32 0, .int .u32 0, .int .u32 0, .int .u32 0, .int .u32 0, .int .u32 0] 83)
  generalize w.alloc (Obj.cells #[.int .u32 0, .int .u32 0, .int .u32 0, .int .u32 0, .int .u32 0, .int .u32 0, .int .u32 0, .int .u32 0] 83) = W at hB hb q0 q1 q2 q3 q4 q5 q6 q7 ⊢
  have HB := Lib.hid hB
  have Hb := Lib.hid hb
  have HQ : Hid (W.cell? ⟨g, 7, none⟩ = some (.int .u32 (f 7))) := Lib.hid q7
  have HS : Hid (W.drew.cell? ⟨g, 0, none⟩ = some (.int .u32 (f 0)) ∧ W.drew.cell? ⟨g, 1, none⟩ = some (.int .u32 (f 1)) ∧ W.drew.cell? ⟨g, 2, none⟩ = some (.int .u32 (f 2)) ∧ W.drew.cell? ⟨g, 3, none⟩ = some (.int .u32 (f 3)) ∧ W.drew.cell? ⟨g, 4, none⟩ = some (.int .u32 (f 4)) ∧ W.drew.cell? ⟨g, 5, none⟩ = some (.int .u32 (f 5)) ∧ W.drew.cell? ⟨g, 6, none⟩ = some (.int .u32 (f 6))) := Lib.hid ⟨q0, q1, q2, q3, q4, q5, q6⟩
  clear hB hb q0 q1 q2 q3 q4 q5 q6 q7
  refine start_ (n := 24) (S := fun w' => w'.cell? ⟨g, 0, none⟩ = some (.int .u32 (f 0)) ∧ w'.cell? ⟨g, 1, none⟩ = some (.int .u32 (f 1)) ∧ w'.cell? ⟨g, 2, none⟩ = some (.int .u32 (f 2)) ∧ w'.cell? ⟨g, 3, none⟩ = some (.int .u32 (f 3)) ∧ w'.cell? ⟨g, 4, none⟩ = some (.int .u32 (f 4)) ∧ w'.cell? ⟨g, 5, none⟩ = some (.int .u32 (f 5)) ∧ w'.cell? ⟨g, 6, none⟩ = some (.int .u32 (f 6))) (ds := [23]) #[false, false, false, false, false, false, false, false, false, false, false, false, false, false, false, false, false, false, false, false, false, false, false, false] (by kernel_rfl) rfl rfl HS.out (fun hHeld => ?_)
  refine pure_ (i := 0) (N := some 16) (v := ?_) (a' := ?_) #[true, false, false, false, false, false, false, false, false, false, false, false, false, false, false, false, false, false, false, false, false, false, false, false] rfl rfl (by kernel_rfl) (fun _ _ _ h => h) (Or.inl ⟨by rfl, ?_⟩) ?_ ?_
  rotate_left
  · intro w'
    go_simp
    with_reducible rfl
  rotate_left
  · simp only [Act.put, List.setIfInBounds_toArray, List.set_cons_zero, List.set_cons_succ]
    rfl
  refine pure_ (i := 1) (N := some 17) (v := ?_) (a' := ?_) #[true, true, false, false, false, false, false, false, false, false, false, false, false, false, false, false, false, false, false, false, false, false, false, false] rfl rfl (by kernel_rfl) (fun _ _ _ h => h) (Or.inl ⟨by rfl, ?_⟩) ?_ ?_
  rotate_left
  · intro w'
    go_simp
    with_reducible rfl
  rotate_left
  · simp only [Act.put, List.setIfInBounds_toArray, List.set_cons_zero, List.set_cons_succ]
    rfl
  refine pure_ (i := 3) (N := some 19) (v := ?_) (a' := ?_) #[true, true, false, true, false, false, false, false, false, false, false, false, false, false, false, false, false, false, false, false, false, false, false, false] rfl rfl (by kernel_rfl) (fun _ _ _ h => h) (Or.inl ⟨by rfl, ?_⟩) ?_ ?_
  rotate_left
  · intro w'
    go_simp
    with_reducible rfl
  rotate_left
  · simp only [Act.put, List.setIfInBounds_toArray, List.set_cons_zero, List.set_cons_succ]
    rfl
  refine pure_ (i := 4) (N := some 20) (v := ?_) (a' := ?_) #[true, true, false, true, true, false, false, false, false, false, false, false, false, false, false, false, false, false, false, false, false, false, false, false] rfl rfl (by kernel_rfl) (fun _ _ _ h => h) (Or.inl ⟨by rfl, ?_⟩) ?_ ?_
  rotate_left
  · intro w'
    go_simp
    with_reducible rfl
  rotate_left
  · simp only [Act.put, List.setIfInBounds_toArray, List.set_cons_zero, List.set_cons_succ]
    rfl
  refine pure_ (i := 6) (N := some 22) (v := ?_) (a' := ?_) #[true, true, false, true, true, false, true, false, false, false, false, false, false, false, false, false, false, false, false, false, false, false, false, false] rfl rfl (by kernel_rfl) (fun _ _ _ h => h) (Or.inl ⟨by rfl, ?_⟩) ?_ ?_
  rotate_left
  · intro w'
    go_simp
    with_reducible rfl
  rotate_left
  · simp only [Act.put, List.setIfInBounds_toArray, List.set_cons_zero, List.set_cons_succ]
    rfl
  refine pure_ (i := 7) (N := some 23) (v := ?_) (a' := ?_) #[true, true, false, true, true, false, true, true, false, false, false, false, false, false, false, false, false, false, false, false, false, false, false, false] rfl rfl (by kernel_rfl) (fun _ _ _ h => h) (Or.inl ⟨by rfl, ?_⟩) ?_ ?_
  rotate_left
  · intro w'
    go_simp
    with_reducible rfl
  rotate_left
  · simp only [Act.put, List.setIfInBounds_toArray, List.set_cons_zero, List.set_cons_succ]
    rfl
  refine pure_ (i := 9) (N := some 25) (v := ?_) (a' := ?_) #[true, true, false, true, true, false, true, true, false, true, false, false, false, false, false, false, false, false, false, false, false, false, false, false] rfl rfl (by kernel_rfl) (fun _ _ _ h => h) (Or.inl ⟨by rfl, ?_⟩) ?_ ?_
  rotate_left
  · intro w'
    go_simp
    with_reducible rfl
  rotate_left
  · simp only [Act.put, List.setIfInBounds_toArray, List.set_cons_zero, List.set_cons_succ]
    rfl
  refine pure_ (i := 10) (N := some 26) (v := ?_) (a' := ?_) #[true, true, false, true, true, false, true, true, false, true, true, false, false, false, false, false, false, false, false, false, false, false, false, false] rfl rfl (by kernel_rfl) (fun _ _ _ h => h) (Or.inl ⟨by rfl, ?_⟩) ?_ ?_
  rotate_left
  · intro w'
    go_simp
    with_reducible rfl
  rotate_left
  · simp only [Act.put, List.setIfInBounds_toArray, List.set_cons_zero, List.set_cons_succ]
    rfl
  refine pure_ (i := 12) (N := some 28) (v := ?_) (a' := ?_) #[true, true, false, true, true, false, true, true, false, true, true, false, true, false, false, false, false, false, false, false, false, false, false, false] rfl rfl (by kernel_rfl) (fun _ _ _ h => h) (Or.inl ⟨by rfl, ?_⟩) ?_ ?_
  rotate_left
  · intro w'
    go_simp
    with_reducible rfl
  rotate_left
  · simp only [Act.put, List.setIfInBounds_toArray, List.set_cons_zero, List.set_cons_succ]
    rfl
  refine pure_ (i := 13) (N := some 29) (v := ?_) (a' := ?_) #[true, true, false, true, true, false, true, true, false, true, true, false, true, true, false, false, false, false, false, false, false, false, false, false] rfl rfl (by kernel_rfl) (fun _ _ _ h => h) (Or.inl ⟨by rfl, ?_⟩) ?_ ?_
  rotate_left
  · intro w'
    go_simp
    with_reducible rfl
  rotate_left
  · simp only [Act.put, List.setIfInBounds_toArray, List.set_cons_zero, List.set_cons_succ]
    rfl
  refine pure_ (i := 15) (N := some 31) (v := ?_) (a' := ?_) #[true, true, false, true, true, false, true, true, false, true, true, false, true, true, false, true, false, false, false, false, false, false, false, false] rfl rfl (by kernel_rfl) (fun _ _ _ h => h) (Or.inl ⟨by rfl, ?_⟩) ?_ ?_
  rotate_left
  · intro w'
    go_simp
    with_reducible rfl
  rotate_left
  · simp only [Act.put, List.setIfInBounds_toArray, List.set_cons_zero, List.set_cons_succ]
    rfl
  refine pure_ (i := 16) (N := some 32) (v := ?_) (a' := ?_) #[true, true, false, true, true, false, true, true, false, true, true, false, true, true, false, true, true, false, false, false, false, false, false, false] rfl rfl (by kernel_rfl) (fun _ _ _ h => h) (Or.inl ⟨by rfl, ?_⟩) ?_ ?_
  rotate_left
  · intro w'
    go_simp
    with_reducible rfl
  rotate_left
  · simp only [Act.put, List.setIfInBounds_toArray, List.set_cons_zero, List.set_cons_succ]
    rfl
  refine pure_ (i := 18) (N := some 34) (v := ?_) (a' := ?_) #[true, true, false, true, true, false, true, true, false, true, true, false, true, true, false, true, true, false, true, false, false, false, false, false] rfl rfl (by kernel_rfl) (fun _ _ _ h => h) (Or.inl ⟨by rfl, ?_⟩) ?_ ?_
  rotate_left
  · intro w'
    go_simp
    with_reducible rfl
  rotate_left
  · simp only [Act.put, List.setIfInBounds_toArray, List.set_cons_zero, List.set_cons_succ]
    rfl
  refine pure_ (i := 19) (N := some 35) (v := ?_) (a' := ?_) #[true, true, false, true, true, false, true, true, false, true, true, false, true, true, false, true, true, false, true, true, false, false, false, false] rfl rfl (by kernel_rfl) (fun _ _ _ h => h) (Or.inl ⟨by rfl, ?_⟩) ?_ ?_
  rotate_left
  · intro w'
    go_simp
    with_reducible rfl
  rotate_left
  · simp only [Act.put, List.setIfInBounds_toArray, List.set_cons_zero, List.set_cons_succ]
    rfl
  refine take_ (i := 2) (N := some 18) (v := ?_) (a' := ?_) #[true, true, true, true, true, false, true, true, false, true, true, false, true, true, false, true, true, false, true, true, false, false, false, false] rfl rfl (by kernel_rfl) (fun _ _ _ h => h) (Or.inl ⟨by rfl, ?_⟩) hHeld ?_ ?_
  rotate_left
  · rintro w' ⟨s0, s1, s2, s3, s4, s5, s6⟩
    go_simp
    with_reducible rfl
  rotate_left
  · simp only [Act.put, List.setIfInBounds_toArray, List.set_cons_zero, List.set_cons_succ]
    rfl
  refine take_ (i := 5) (N := some 21) (v := ?_) (a' := ?_) #[true, true, true, true, true, true, true, true, false, true, true, false, true, true, false, true, true, false, true, true, false, false, false, false] rfl rfl (by kernel_rfl) (fun _ _ _ h => h) (Or.inl ⟨by rfl, ?_⟩) hHeld ?_ ?_
  rotate_left
  · rintro w' ⟨s0, s1, s2, s3, s4, s5, s6⟩
    go_simp
    with_reducible rfl
  rotate_left
  · simp only [Act.put, List.setIfInBounds_toArray, List.set_cons_zero, List.set_cons_succ]
    rfl
  refine take_ (i := 8) (N := some 24) (v := ?_) (a' := ?_) #[true, true, true, true, true, true, true, true, true, true, true, false, true, true, false, true, true, false, true, true, false, false, false, false] rfl rfl (by kernel_rfl) (fun _ _ _ h => h) (Or.inl ⟨by rfl, ?_⟩) hHeld ?_ ?_
  rotate_left
  · rintro w' ⟨s0, s1, s2, s3, s4, s5, s6⟩
    go_simp
    with_reducible rfl
  rotate_left
  · simp only [Act.put, List.setIfInBounds_toArray, List.set_cons_zero, List.set_cons_succ]
    rfl
  refine take_ (i := 11) (N := some 27) (v := ?_) (a' := ?_) #[true, true, true, true, true, true, true, true, true, true, true, true, true, true, false, true, true, false, true, true, false, false, false, false] rfl rfl (by kernel_rfl) (fun _ _ _ h => h) (Or.inl ⟨by rfl, ?_⟩) hHeld ?_ ?_
  rotate_left
  · rintro w' ⟨s0, s1, s2, s3, s4, s5, s6⟩
    go_simp
    with_reducible rfl
  rotate_left
  · simp only [Act.put, List.setIfInBounds_toArray, List.set_cons_zero, List.set_cons_succ]
    rfl
  refine take_ (i := 14) (N := some 30) (v := ?_) (a' := ?_) #[true, true, true, true, true, true, true, true, true, true, true, true, true, true, true, true, true, false, true, true, false, false, false, false] rfl rfl (by kernel_rfl) (fun _ _ _ h => h) (Or.inl ⟨by rfl, ?_⟩) hHeld ?_ ?_
  rotate_left
  · rintro w' ⟨s0, s1, s2, s3, s4, s5, s6⟩
    go_simp
    with_reducible rfl
  rotate_left
  · simp only [Act.put, List.setIfInBounds_toArray, List.set_cons_zero, List.set_cons_succ]
    rfl
  refine take_ (i := 17) (N := some 33) (v := ?_) (a' := ?_) #[true, true, true, true, true, true, true, true, true, true, true, true, true, true, true, true, true, true, true, true, false, false, false, false] rfl rfl (by kernel_rfl) (fun _ _ _ h => h) (Or.inl ⟨by rfl, ?_⟩) hHeld ?_ ?_
  rotate_left
  · rintro w' ⟨s0, s1, s2, s3, s4, s5, s6⟩
    go_simp
    with_reducible rfl
  rotate_left
  · simp only [Act.put, List.setIfInBounds_toArray, List.set_cons_zero, List.set_cons_succ]
    rfl
  refine take_ (i := 20) (N := some 36) (v := ?_) (a' := ?_) #[true, true, true, true, true, true, true, true, true, true, true, true, true, true, true, true, true, true, true, true, true, false, false, false] rfl rfl (by kernel_rfl) (fun _ _ _ h => h) (Or.inl ⟨by rfl, ?_⟩) hHeld ?_ ?_
  rotate_left
  · rintro w' ⟨s0, s1, s2, s3, s4, s5, s6⟩
    go_simp
    with_reducible rfl
  rotate_left
  · simp only [Act.put, List.setIfInBounds_toArray, List.set_cons_zero, List.set_cons_succ]
    rfl
  refine pure_ (i := 21) (N := some 37) (v := ?_) (a' := ?_) #[true, true, true, true, true, true, true, true, true, true, true, true, true, true, true, true, true, true, true, true, true, true, false, false] rfl rfl (by kernel_rfl) (fun _ _ _ h => h) (Or.inl ⟨by rfl, ?_⟩) ?_ ?_
  rotate_left
  · intro w'
    go_simp
    with_reducible rfl
  rotate_left
  · simp only [Act.put, List.setIfInBounds_toArray, List.set_cons_zero, List.set_cons_succ]
    rfl
  refine one_ (i := 22) (N := some 5) #[true, true, true, true, true, true, true, true, true, true, true, true, true, true, true, true, true, true, true, true, true, true, true, false] rfl rfl (by kernel_rfl) (by decide) (fun K hK => ?_)
  refine value_ (w1 := ?_) (v := ?_) (by rfl) rfl ?_ ?_
  rotate_left 2
  · go_simp
    constructor
    · rfl
    · rfl
  refine hK.out _ _ ?_ (fun hHeld => ?_)
  · exact ⟨cell_old (hHeld.1), cell_old (hHeld.2.1), cell_old (hHeld.2.2.1), cell_old (hHeld.2.2.2.1), cell_old (hHeld.2.2.2.2.1), cell_old (hHeld.2.2.2.2.2.1), cell_old (hHeld.2.2.2.2.2.2)⟩
  clear hK K
  refine norm_ (a' := ?_) ?_ ?_
  rotate_left
  · show Act.put _ (some 5) _ = _
    simp only [Act.put, List.setIfInBounds_toArray, List.set_cons_zero, List.set_cons_succ]
    rfl
  refine last_ (i := 23) (N := none) #[true, true, true, true, true, true, true, true, true, true, true, true, true, true, true, true, true, true, true, true, true, true, true, true] rfl rfl (by kernel_rfl) (by decide) (fun K hK => ?_)
  rw [if_pos (by rfl)]
  refine wp_store_row 83 (.tmp 5) (.tmp 37) rfl W.heap.size #[.int .u32 (f 0), .int .u32 (f 1), .int .u32 (f 2), .int .u32 (f 3), .int .u32 (f 4), .int .u32 (f 5), .int .u32 (f 6), .int .u32 0] rfl rfl 83 #[.int .u32 0, .int .u32 0, .int .u32 0, .int .u32 0, .int .u32 0, .int .u32 0, .int .u32 0, .int .u32 0] (heap_alloc_new W.drew _) (by kernel_rfl) rfl (by simp [Value.oneCell']) ?_
  refine hK.out _ _ ?_
  clear hK K
  refine done_ (by kernel_rfl) ?_
  have hV1 : ((W.alloc (Obj.cells #[.int .u32 0, .int .u32 0, .int .u32 0, .int .u32 0, .int .u32 0, .int .u32 0, .int .u32 0, .int .u32 0] 83)).drew.setRow W.heap.size #[.int .u32 (f 0), .int .u32 (f 1), .int .u32 (f 2), .int .u32 (f 3), .int .u32 (f 4), .int .u32 (f 5), .int .u32 (f 6), .int .u32 0]).heap[W.heap.size]? = some (.cells #[.int .u32 (f 0), .int .u32 (f 1), .int .u32 (f 2), .int .u32 (f 3), .int .u32 (f 4), .int .u32 (f 5), .int .u32 (f 6), .int .u32 0] 83 (0, 0)) := setRow_heap (w := (W.alloc (Obj.cells #[.int .u32 0, .int .u32 0, .int .u32 0, .int .u32 0, .int .u32 0, .int .u32 0, .int .u32 0, .int .u32 0] 83)).drew) (heap_alloc_new W (Obj.cells #[.int .u32 0, .int .u32 0, .int .u32 0, .int .u32 0, .int .u32 0, .int .u32 0, .int .u32 0, .int .u32 0] 83))
  have hlt := blk_lt Hb.out
  have hV2 : ((W.alloc (Obj.cells #[.int .u32 0, .int .u32 0, .int .u32 0, .int .u32 0, .int .u32 0, .int .u32 0, .int .u32 0, .int .u32 0] 83)).drew.setRow W.heap.size #[.int .u32 (f 0), .int .u32 (f 1), .int .u32 (f 2), .int .u32 (f 3), .int .u32 (f 4), .int .u32 (f 5), .int .u32 (f 6), .int .u32 0]).heap[w.heap.size]? = some (.cells #[.int .u32 0, .int .u32 0, .int .u32 0, .int .u32 0, .int .u32 0, .int .u32 0, .int .u32 0, .int .u32 0] 83 (0, 0)) := by
    simp only [World.setRow, Array.getElem?_modify]
    rw [if_neg (by omega)]
    exact (blk_old W _ _ hlt).trans Hb.out
  have hV3 : ((W.alloc (Obj.cells #[.int .u32 0, .int .u32 0, .int .u32 0, .int .u32 0, .int .u32 0, .int .u32 0, .int .u32 0, .int .u32 0] 83)).drew.setRow W.heap.size #[.int .u32 (f 0), .int .u32 (f 1), .int .u32 (f 2), .int .u32 (f 3), .int .u32 (f 4), .int .u32 (f 5), .int .u32 (f 6), .int .u32 0]).cell? ⟨g, 7, none⟩ = some (.int .u32 (f 7)) := by
    have h1 := World.block_lt_of_cell? W _ HQ.out
    refine Eq.trans (World.cell?_of_block ?_) (cell_old (o := (Obj.cells #[.int .u32 0, .int .u32 0, .int .u32 0, .int .u32 0, .int .u32 0, .int .u32 0, .int .u32 0, .int .u32 0] 83)) HQ.out)
    simp only [World.setRow, Array.getElem?_modify]
    rw [if_neg (by show ¬ W.heap.size = g; exact Nat.ne_of_gt h1)]
    rfl
  have hV4 : Below w.heap.size w ((W.alloc (Obj.cells #[.int .u32 0, .int .u32 0, .int .u32 0, .int .u32 0, .int .u32 0, .int .u32 0, .int .u32 0, .int .u32 0] 83)).drew.setRow W.heap.size #[.int .u32 (f 0), .int .u32 (f 1), .int .u32 (f 2), .int .u32 (f 3), .int .u32 (f 4), .int .u32 (f 5), .int .u32 (f 6), .int .u32 0]) := below_setRow (W := (W.alloc (Obj.cells #[.int .u32 0, .int .u32 0, .int .u32 0, .int .u32 0, .int .u32 0, .int .u32 0, .int .u32 0, .int .u32 0] 83)).drew) (below_drew (below_alloc HB.out _)) HB.out.size
  generalize hVV : (W.alloc (Obj.cells #[.int .u32 0, .int .u32 0, .int .u32 0, .int .u32 0, .int .u32 0, .int .u32 0, .int .u32 0, .int .u32 0] 83)).drew.setRow W.heap.size #[.int .u32 (f 0), .int .u32 (f 1), .int .u32 (f 2), .int .u32 (f 3), .int .u32 (f 4), .int .u32 (f 5), .int .u32 (f 6), .int .u32 0] = V at hV1 hV2 hV3 hV4 ⊢
  generalize hHH : W.heap.size = H at hV1 hlt hVV ⊢
  clear hVV hHeld HS HB HQ Hb
  have c7 : V.cell? ⟨H, 7, none⟩ = some (.int .u32 0) := blk_cell hV1 7
  have z7 := frozen_of_row V H 7 _ _ hV1
  have hU1 : (V.setCell ⟨H, 7, none⟩ (.int .u32 (f 7))).heap[H]? = some (.cells #[.int .u32 (f 0), .int .u32 (f 1), .int .u32 (f 2), .int .u32 (f 3), .int .u32 (f 4), .int .u32 (f 5), .int .u32 (f 6), .int .u32 (f 7)] 83 (0, 0)) := blk_set hV1 7 (.int .u32 (f 7))
  have hU2 : (V.setCell ⟨H, 7, none⟩ (.int .u32 (f 7))).heap[w.heap.size]? = some (.cells #[.int .u32 0, .int .u32 0, .int .u32 0, .int .u32 0, .int .u32 0, .int .u32 0, .int .u32 0, .int .u32 0] 83 (0, 0)) := blk_far hV2 (by show w.heap.size ≠ H; omega) _
  have hU4 : Below w.heap.size w (V.setCell ⟨H, 7, none⟩ (.int .u32 (f 7))) := below_set hV4 (by show w.heap.size ≤ H; omega)
  have hF := setRow_heap (cs := #[.int .u32 (f 0), .int .u32 (f 1), .int .u32 (f 2), .int .u32 (f 3), .int .u32 (f 4), .int .u32 (f 5), .int .u32 (f 6), .int .u32 (f 7)]) hU2
  have hG := below_setRow (cs := #[.int .u32 (f 0), .int .u32 (f 1), .int .u32 (f 2), .int .u32 (f 3), .int .u32 (f 4), .int .u32 (f 5), .int .u32 (f 6), .int .u32 (f 7)]) hU4 (Nat.le_refl _)
  have hR : (V.setCell ⟨H, 7, none⟩ (.int .u32 (f 7))).rangeAt H 0 [.int .u32 (f 0), .int .u32 (f 1), .int .u32 (f 2), .int .u32 (f 3), .int .u32 (f 4), .int .u32 (f 5), .int .u32 (f 6), .int .u32 (f 7)] := fun j v hv => by
    rw [Nat.zero_add]
    exact (blk_cell hU1 j).trans (List.getElem?_toArray.trans hv)
  have HU2 := Lib.hid hU2
  have HF := Lib.hid hF
  have HG := Lib.hid hG
  have HR := Lib.hid hR
  clear hF hG hV1 hV2 hV4 hU1 hU2 hU4 hR
  go_wp2_with (first
    | refine wpList_load_mid rfl 83 (.tmp 5) rfl H 0 rfl [.int .u32 (f 0), .int .u32 (f 1), .int .u32 (f 2), .int .u32 (f 3), .int .u32 (f 4), .int .u32 (f 5), .int .u32 (f 6), .int .u32 (f 7)] _ HR.out Tryz.underlying83 rfl (by kernel_rfl) ?_
    | refine wpList_plain rfl (fun K hK => wp_store_row 83 (.tmp 2) (.tmp 45) rfl w.heap.size #[.int .u32 (f 0), .int .u32 (f 1), .int .u32 (f 2), .int .u32 (f 3), .int .u32 (f 4), .int .u32 (f 5), .int .u32 (f 6), .int .u32 (f 7)] rfl rfl 83 #[.int .u32 0, .int .u32 0, .int .u32 0, .int .u32 0, .int .u32 0, .int .u32 0, .int .u32 0, .int .u32 0] HU2.out (by kernel_rfl) rfl (by simp [Value.oneCell']) (hK _ _ ?_)))
  try simp only [Exit.inBlock, Exit.then]
  refine bodyPost_ret (results_ct rfl _ _ w.heap.size 83 #[.int .u32 (f 0), .int .u32 (f 1), .int .u32 (f 2), .int .u32 (f 3), .int .u32 (f 4), .int .u32 (f 5), .int .u32 (f 6), .int .u32 (f 7)] (0, 0) _ rfl HF.out Tryz.underlying83 rfl (by kernel_rfl)) rfl (.mk _ rfl ⟨rfl, HG.out⟩)
set_option maxRecDepth 100000 in
set_option maxHeartbeats 4000000 in
theorem build72 (f : Nat → Int) (g : Nat) (c : Nat) (w : World) (hr : ∀ j, j < 9 → w.cell? ⟨g, j, none⟩ = some (.int .u32 (f j))) : Calls Tryz.prog 72 #[.slice (some ⟨g, 0, none⟩) 9 c] w (Ret (Built w #[.int .u32 (f 0), .int .u32 (f 1), .int .u32 (f 2), .int .u32 (f 3), .int .u32 (f 4), .int .u32 (f 5), .int .u32 (f 6), .int .u32 (f 7), .int .u32 (f 8)])) := by
  have q0 := cell_old (o := (Obj.cells #[.int .u32 0, .int .u32 0, .int .u32 0, .int .u32 0, .int .u32 0, .int .u32 0, .int .u32 0, .int .u32 0, .int .u32 0] 95)) (hr 0 (by omega))
  have q1 := cell_old (o := (Obj.cells #[.int .u32 0, .int .u32 0, .int .u32 0, .int .u32 0, .int .u32 0, .int .u32 0, .int .u32 0, .int .u32 0, .int .u32 0] 95)) (hr 1 (by omega))
  have q2 := cell_old (o := (Obj.cells #[.int .u32 0, .int .u32 0, .int .u32 0, .int .u32 0, .int .u32 0, .int .u32 0, .int .u32 0, .int .u32 0, .int .u32 0] 95)) (hr 2 (by omega))
  have q3 := cell_old (o := (Obj.cells #[.int .u32 0, .int .u32 0, .int .u32 0, .int .u32 0, .int .u32 0, .int .u32 0, .int .u32 0, .int .u32 0, .int .u32 0] 95)) (hr 3 (by omega))
  have q4 := cell_old (o := (Obj.cells #[.int .u32 0, .int .u32 0, .int .u32 0, .int .u32 0, .int .u32 0, .int .u32 0, .int .u32 0, .int .u32 0, .int .u32 0] 95)) (hr 4 (by omega))
  have q5 := cell_old (o := (Obj.cells #[.int .u32 0, .int .u32 0, .int .u32 0, .int .u32 0, .int .u32 0, .int .u32 0, .int .u32 0, .int .u32 0, .int .u32 0] 95)) (hr 5 (by omega))
  have q6 := cell_old (o := (Obj.cells #[.int .u32 0, .int .u32 0, .int .u32 0, .int .u32 0, .int .u32 0, .int .u32 0, .int .u32 0, .int .u32 0, .int .u32 0] 95)) (hr 6 (by omega))
  have q7 := cell_old (o := (Obj.cells #[.int .u32 0, .int .u32 0, .int .u32 0, .int .u32 0, .int .u32 0, .int .u32 0, .int .u32 0, .int .u32 0, .int .u32 0] 95)) (hr 7 (by omega))
  have q8 := cell_old (o := (Obj.cells #[.int .u32 0, .int .u32 0, .int .u32 0, .int .u32 0, .int .u32 0, .int .u32 0, .int .u32 0, .int .u32 0, .int .u32 0] 95)) (hr 8 (by omega))
  clear hr
  go_enter Tryz.func72, Tryz.ntmps72
  go_wp2_with fail
  have hB := below_alloc (Below.refl w.heap.size w) (Obj.cells #[.int .u32 0, .int .u32 0, .int .u32 0, .int .u32 0, .int .u32 0, .int .u32 0, .int .u32 0, .int .u32 0, .int .u32 0] 95)
  have hb := heap_alloc_new w (Obj.cells #[.int .u32 0, .int .u32 0, .int .u32 0, .int .u32 0, .int .u32 0, .int .u32 0, .int .u32 0, .int .u32 0, .int .u32 0] 95)
  generalize w.alloc (Obj.cells #[.int .u32 0, .int .u32 0, .int .u32 0, .int .u32 0, .int .u32 0, .int .u32 0, .int .u32 0, .int .u32 0, .int .u32 0] 95) = W at hB hb q0 q1 q2 q3 q4 q5 q6 q7 q8 ⊢
  have HB := Lib.hid hB
  have Hb := Lib.hid hb
  have HQ : Hid (W.cell? ⟨g, 8, none⟩ = some (.int .u32 (f 8))) := Lib.hid q8
  have HS : Hid (W.drew.cell? ⟨g, 0, none⟩ = some (.int .u32 (f 0)) ∧ W.drew.cell? ⟨g, 1, none⟩ = some (.int .u32 (f 1)) ∧ W.drew.cell? ⟨g, 2, none⟩ = some (.int .u32 (f 2)) ∧ W.drew.cell? ⟨g, 3, none⟩ = some (.int .u32 (f 3)) ∧ W.drew.cell? ⟨g, 4, none⟩ = some (.int .u32 (f 4)) ∧ W.drew.cell? ⟨g, 5, none⟩ = some (.int .u32 (f 5)) ∧ W.drew.cell? ⟨g, 6, none⟩ = some (.int .u32 (f 6)) ∧ W.drew.cell? ⟨g, 7, none⟩ = some (.int .u32 (f 7))) := Lib.hid ⟨q0, q1, q2, q3, q4, q5, q6, q7⟩
  clear hB hb q0 q1 q2 q3 q4 q5 q6 q7 q8
  refine start_ (n := 27) (S := fun w' => w'.cell? ⟨g, 0, none⟩ = some (.int .u32 (f 0)) ∧ w'.cell? ⟨g, 1, none⟩ = some (.int .u32 (f 1)) ∧ w'.cell? ⟨g, 2, none⟩ = some (.int .u32 (f 2)) ∧ w'.cell? ⟨g, 3, none⟩ = some (.int .u32 (f 3)) ∧ w'.cell? ⟨g, 4, none⟩ = some (.int .u32 (f 4)) ∧ w'.cell? ⟨g, 5, none⟩ = some (.int .u32 (f 5)) ∧ w'.cell? ⟨g, 6, none⟩ = some (.int .u32 (f 6)) ∧ w'.cell? ⟨g, 7, none⟩ = some (.int .u32 (f 7))) (ds := [26]) #[false, false, false, false, false, false, false, false, false, false, false, false, false, false, false, false, false, false, false, false, false, false, false, false, false, false, false] (by kernel_rfl) rfl rfl HS.out (fun hHeld => ?_)
  refine pure_ (i := 0) (N := some 16) (v := ?_) (a' := ?_) #[true, false, false, false, false, false, false, false, false, false, false, false, false, false, false, false, false, false, false, false, false, false, false, false, false, false, false] rfl rfl (by kernel_rfl) (fun _ _ _ h => h) (Or.inl ⟨by rfl, ?_⟩) ?_ ?_
  rotate_left
  · intro w'
    go_simp
    with_reducible rfl
  rotate_left
  · simp only [Act.put, List.setIfInBounds_toArray, List.set_cons_zero, List.set_cons_succ]
    rfl
  refine pure_ (i := 1) (N := some 17) (v := ?_) (a' := ?_) #[true, true, false, false, false, false, false, false, false, false, false, false, false, false, false, false, false, false, false, false, false, false, false, false, false, false, false] rfl rfl (by kernel_rfl) (fun _ _ _ h => h) (Or.inl ⟨by rfl, ?_⟩) ?_ ?_
  rotate_left
  · intro w'
    go_simp
    with_reducible rfl
  rotate_left
  · simp only [Act.put, List.setIfInBounds_toArray, List.set_cons_zero, List.set_cons_succ]
    rfl
  refine pure_ (i := 3) (N := some 19) (v := ?_) (a' := ?_) #[true, true, false, true, false, false, false, false, false, false, false, false, false, false, false, false, false, false, false, false, false, false, false, false, false, false, false] rfl rfl (by kernel_rfl) (fun _ _ _ h => h) (Or.inl ⟨by rfl, ?_⟩) ?_ ?_
  rotate_left
  · intro w'
    go_simp
    with_reducible rfl
  rotate_left
  · simp only [Act.put, List.setIfInBounds_toArray, List.set_cons_zero, List.set_cons_succ]
    rfl
  refine pure_ (i := 4) (N := some 20) (v := ?_) (a' := ?_) #[true, true, false, true, true, false, false, false, false, false, false, false, false, false, false, false, false, false, false, false, false, false, false, false, false, false, false] rfl rfl (by kernel_rfl) (fun _ _ _ h => h) (Or.inl ⟨by rfl, ?_⟩) ?_ ?_
  rotate_left
  · intro w'
    go_simp
    with_reducible rfl
  rotate_left
  · simp only [Act.put, List.setIfInBounds_toArray, List.set_cons_zero, List.set_cons_succ]
    rfl
  refine pure_ (i := 6) (N := some 22) (v := ?_) (a' := ?_) #[true, true, false, true, true, false, true, false, false, false, false, false, false, false, false, false, false, false, false, false, false, false, false, false, false, false, false] rfl rfl (by kernel_rfl) (fun _ _ _ h => h) (Or.inl ⟨by rfl, ?_⟩) ?_ ?_
  rotate_left
  · intro w'
    go_simp
    with_reducible rfl
  rotate_left
  · simp only [Act.put, List.setIfInBounds_toArray, List.set_cons_zero, List.set_cons_succ]
    rfl
  refine pure_ (i := 7) (N := some 23) (v := ?_) (a' := ?_) #[true, true, false, true, true, false, true, true, false, false, false, false, false, false, false, false, false, false, false, false, false, false, false, false, false, false, false] rfl rfl (by kernel_rfl) (fun _ _ _ h => h) (Or.inl ⟨by rfl, ?_⟩) ?_ ?_
  rotate_left
  · intro w'
    go_simp
    with_reducible rfl
  rotate_left
  · simp only [Act.put, List.setIfInBounds_toArray, List.set_cons_zero, List.set_cons_succ]
    rfl
  refine pure_ (i := 9) (N := some 25) (v := ?_) (a' := ?_) #[true, true, false, true, true, false, true, true, false, true, false, false, false, false, false, false, false, false, false, false, false, false, false, false, false, false, false] rfl rfl (by kernel_rfl) (fun _ _ _ h => h) (Or.inl ⟨by rfl, ?_⟩) ?_ ?_
  rotate_left
  · intro w'
    go_simp
    with_reducible rfl
  rotate_left
  · simp only [Act.put, List.setIfInBounds_toArray, List.set_cons_zero, List.set_cons_succ]
    rfl
  refine pure_ (i := 10) (N := some 26) (v := ?_) (a' := ?_) #[true, true, false, true, true, false, true, true, false, true, true, false, false, false, false, false, false, false, false, false, false, false, false, false, false, false, false] rfl rfl (by kernel_rfl) (fun _ _ _ h => h) (Or.inl ⟨by rfl, ?_⟩) ?_ ?_
  rotate_left
  · intro w'
    go_simp
    with_reducible rfl
  rotate_left
  · simp only [Act.put, List.setIfInBounds_toArray, List.set_cons_zero, List.set_cons_succ]
    rfl
  refine pure_ (i := 12) (N := some 28) (v := ?_) (a' := ?_) #[true, true, false, true, true, false, true, true, false, true, true, false, true, false, false, false, false, false, false, false, false, false, false, false, false, false, false] rfl rfl (by kernel_rfl) (fun _ _ _ h => h) (Or.inl ⟨by rfl, ?_⟩) ?_ ?_
  rotate_left
  · intro w'
    go_simp
    with_reducible rfl
  rotate_left
  · simp only [Act.put, List.setIfInBounds_toArray, List.set_cons_zero, List.set_cons_succ]
    rfl
  refine pure_ (i := 13) (N := some 29) (v := ?_) (a' := ?_) #[true, true, false, true, true, false, true, true, false, true, true, false, true, true, false, false, false, false, false, false, false, false, false, false, false, false, false] rfl rfl (by kernel_rfl) (fun _ _ _ h => h) (Or.inl ⟨by rfl, ?_⟩) ?_ ?_
  rotate_left
  · intro w'
    go_simp
    with_reducible rfl
  rotate_left
  · simp only [Act.put, List.setIfInBounds_toArray, List.set_cons_zero, List.set_cons_succ]
    rfl
  refine pure_ (i := 15) (N := some 31) (v := ?_) (a' := ?_) #[true, true, false, true, true, false, true, true, false, true, true, false, true, true, false, true, false, false, false, false, false, false, false, false, false, false, false] rfl rfl (by kernel_rfl) (fun _ _ _ h => h) (Or.inl ⟨by rfl, ?_⟩) ?_ ?_
  rotate_left
  · intro w'
    go_simp
    with_reducible rfl
  rotate_left
  · simp only [Act.put, List.setIfInBounds_toArray, List.set_cons_zero, List.set_cons_succ]
    rfl
  refine pure_ (i := 16) (N := some 32) (v := ?_) (a' := ?_) #[true, true, false, true, true, false, true, true, false, true, true, false, true, true, false, true, true, false, false, false, false, false, false, false, false, false, false] rfl rfl (by kernel_rfl) (fun _ _ _ h => h) (Or.inl ⟨by rfl, ?_⟩) ?_ ?_
  rotate_left
  · intro w'
    go_simp
    with_reducible rfl
  rotate_left
  · simp only [Act.put, List.setIfInBounds_toArray, List.set_cons_zero, List.set_cons_succ]
    rfl
  refine pure_ (i := 18) (N := some 34) (v := ?_) (a' := ?_) #[true, true, false, true, true, false, true, true, false, true, true, false, true, true, false, true, true, false, true, false, false, false, false, false, false, false, false] rfl rfl (by kernel_rfl) (fun _ _ _ h => h) (Or.inl ⟨by rfl, ?_⟩) ?_ ?_
  rotate_left
  · intro w'
    go_simp
    with_reducible rfl
  rotate_left
  · simp only [Act.put, List.setIfInBounds_toArray, List.set_cons_zero, List.set_cons_succ]
    rfl
  refine pure_ (i := 19) (N := some 35) (v := ?_) (a' := ?_) #[true, true, false, true, true, false, true, true, false, true, true, false, true, true, false, true, true, false, true, true, false, false, false, false, false, false, false] rfl rfl (by kernel_rfl) (fun _ _ _ h => h) (Or.inl ⟨by rfl, ?_⟩) ?_ ?_
  rotate_left
  · intro w'
    go_simp
    with_reducible rfl
  rotate_left
  · simp only [Act.put, List.setIfInBounds_toArray, List.set_cons_zero, List.set_cons_succ]
    rfl
  refine pure_ (i := 21) (N := some 37) (v := ?_) (a' := ?_) #[true, true, false, true, true, false, true, true, false, true, true, false, true, true, false, true, true, false, true, true, false, true, false, false, false, false, false] rfl rfl (by kernel_rfl) (fun _ _ _ h => h) (Or.inl ⟨by rfl, ?_⟩) ?_ ?_
  rotate_left
  · intro w'
    go_simp
    with_reducible rfl
  rotate_left
  · simp only [Act.put, List.setIfInBounds_toArray, List.set_cons_zero, List.set_cons_succ]
    rfl
  refine pure_ (i := 22) (N := some 38) (v := ?_) (a' := ?_) #[true, true, false, true, true, false, true, true, false, true, true, false, true, true, false, true, true, false, true, true, false, true, true, false, false, false, false] rfl rfl (by kernel_rfl) (fun _ _ _ h => h) (Or.inl ⟨by rfl, ?_⟩) ?_ ?_
  rotate_left
  · intro w'
    go_simp
    with_reducible rfl
  rotate_left
  · simp only [Act.put, List.setIfInBounds_toArray, List.set_cons_zero, List.set_cons_succ]
    rfl
  refine take_ (i := 2) (N := some 18) (v := ?_) (a' := ?_) #[true, true, true, true, true, false, true, true, false, true, true, false, true, true, false, true, true, false, true, true, false, true, true, false, false, false, false] rfl rfl (by kernel_rfl) (fun _ _ _ h => h) (Or.inl ⟨by rfl, ?_⟩) hHeld ?_ ?_
  rotate_left
  · rintro w' ⟨s0, s1, s2, s3, s4, s5, s6, s7⟩
    go_simp
    with_reducible rfl
  rotate_left
  · simp only [Act.put, List.setIfInBounds_toArray, List.set_cons_zero, List.set_cons_succ]
    rfl
  refine take_ (i := 5) (N := some 21) (v := ?_) (a' := ?_) #[true, true, true, true, true, true, true, true, false, true, true, false, true, true, false, true, true, false, true, true, false, true, true, false, false, false, false] rfl rfl (by kernel_rfl) (fun _ _ _ h => h) (Or.inl ⟨by rfl, ?_⟩) hHeld ?_ ?_
  rotate_left
  · rintro w' ⟨s0, s1, s2, s3, s4, s5, s6, s7⟩
    go_simp
    with_reducible rfl
  rotate_left
  · simp only [Act.put, List.setIfInBounds_toArray, List.set_cons_zero, List.set_cons_succ]
    rfl
  refine take_ (i := 8) (N := some 24) (v := ?_) (a' := ?_) #[true, true, true, true, true, true, true, true, true, true, true, false, true, true, false, true, true, false, true, true, false, true, true, false, false, false, false] rfl rfl (by kernel_rfl) (fun _ _ _ h => h) (Or.inl ⟨by rfl, ?_⟩) hHeld ?_ ?_
  rotate_left
  · rintro w' ⟨s0, s1, s2, s3, s4, s5, s6, s7⟩
    go_simp
    with_reducible rfl
  rotate_left
  · simp only [Act.put, List.setIfInBounds_toArray, List.set_cons_zero, List.set_cons_succ]
    rfl
  refine take_ (i := 11) (N := some 27) (v := ?_) (a' := ?_) #[true, true, true, true, true, true, true, true, true, true, true, true, true, true, false, true, true, false, true, true, false, true, true, false, false, false, false] rfl rfl (by kernel_rfl) (fun _ _ _ h => h) (Or.inl ⟨by rfl, ?_⟩) hHeld ?_ ?_
  rotate_left
  · rintro w' ⟨s0, s1, s2, s3, s4, s5, s6, s7⟩
    go_simp
    with_reducible rfl
  rotate_left
  · simp only [Act.put, List.setIfInBounds_toArray, List.set_cons_zero, List.set_cons_succ]
    rfl
  refine take_ (i := 14) (N := some 30) (v := ?_) (a' := ?_) #[true, true, true, true, true, true, true, true, true, true, true, true, true, true, true, true, true, false, true, true, false, true, true, false, false, false, false] rfl rfl (by kernel_rfl) (fun _ _ _ h => h) (Or.inl ⟨by rfl, ?_⟩) hHeld ?_ ?_
  rotate_left
  · rintro w' ⟨s0, s1, s2, s3, s4, s5, s6, s7⟩
    go_simp
    with_reducible rfl
  rotate_left
  · simp only [Act.put, List.setIfInBounds_toArray, List.set_cons_zero, List.set_cons_succ]
    rfl
  refine take_ (i := 17) (N := some 33) (v := ?_) (a' := ?_) #[true, true, true, true, true, true, true, true, true, true, true, true, true, true, true, true, true, true, true, true, false, true, true, false, false, false, false] rfl rfl (by kernel_rfl) (fun _ _ _ h => h) (Or.inl ⟨by rfl, ?_⟩) hHeld ?_ ?_
  rotate_left
  · rintro w' ⟨s0, s1, s2, s3, s4, s5, s6, s7⟩
    go_simp
    with_reducible rfl
  rotate_left
  · simp only [Act.put, List.setIfInBounds_toArray, List.set_cons_zero, List.set_cons_succ]
    rfl
  refine take_ (i := 20) (N := some 36) (v := ?_) (a' := ?_) #[true, true, true, true, true, true, true, true, true, true, true, true, true, true, true, true, true, true, true, true, true, true, true, false, false, false, false] rfl rfl (by kernel_rfl) (fun _ _ _ h => h) (Or.inl ⟨by rfl, ?_⟩) hHeld ?_ ?_
  rotate_left
  · rintro w' ⟨s0, s1, s2, s3, s4, s5, s6, s7⟩
    go_simp
    with_reducible rfl
  rotate_left
  · simp only [Act.put, List.setIfInBounds_toArray, List.set_cons_zero, List.set_cons_succ]
    rfl
  refine take_ (i := 23) (N := some 39) (v := ?_) (a' := ?_) #[true, true, true, true, true, true, true, true, true, true, true, true, true, true, true, true, true, true, true, true, true, true, true, true, false, false, false] rfl rfl (by kernel_rfl) (fun _ _ _ h => h) (Or.inl ⟨by rfl, ?_⟩) hHeld ?_ ?_
  rotate_left
  · rintro w' ⟨s0, s1, s2, s3, s4, s5, s6, s7⟩
    go_simp
    with_reducible rfl
  rotate_left
  · simp only [Act.put, List.setIfInBounds_toArray, List.set_cons_zero, List.set_cons_succ]
    rfl
  refine pure_ (i := 24) (N := some 40) (v := ?_) (a' := ?_) #[true, true, true, true, true, true, true, true, true, true, true, true, true, true, true, true, true, true, true, true, true, true, true, true, true, false, false] rfl rfl (by kernel_rfl) (fun _ _ _ h => h) (Or.inl ⟨by rfl, ?_⟩) ?_ ?_
  rotate_left
  · intro w'
    go_simp
    with_reducible rfl
  rotate_left
  · simp only [Act.put, List.setIfInBounds_toArray, List.set_cons_zero, List.set_cons_succ]
    rfl
  refine one_ (i := 25) (N := some 5) #[true, true, true, true, true, true, true, true, true, true, true, true, true, true, true, true, true, true, true, true, true, true, true, true, true, true, false] rfl rfl (by kernel_rfl) (by decide) (fun K hK => ?_)
  refine value_ (w1 := ?_) (v := ?_) (by rfl) rfl ?_ ?_
  rotate_left 2
  · go_simp
    constructor
    · rfl
    · rfl
  refine hK.out _ _ ?_ (fun hHeld => ?_)
  · exact ⟨cell_old (hHeld.1), cell_old (hHeld.2.1), cell_old (hHeld.2.2.1), cell_old (hHeld.2.2.2.1), cell_old (hHeld.2.2.2.2.1), cell_old (hHeld.2.2.2.2.2.1), cell_old (hHeld.2.2.2.2.2.2.1), cell_old (hHeld.2.2.2.2.2.2.2)⟩
  clear hK K
  refine norm_ (a' := ?_) ?_ ?_
  rotate_left
  · show Act.put _ (some 5) _ = _
    simp only [Act.put, List.setIfInBounds_toArray, List.set_cons_zero, List.set_cons_succ]
    rfl
  refine last_ (i := 26) (N := none) #[true, true, true, true, true, true, true, true, true, true, true, true, true, true, true, true, true, true, true, true, true, true, true, true, true, true, true] rfl rfl (by kernel_rfl) (by decide) (fun K hK => ?_)
  rw [if_pos (by rfl)]
  refine wp_store_row 95 (.tmp 5) (.tmp 40) rfl W.heap.size #[.int .u32 (f 0), .int .u32 (f 1), .int .u32 (f 2), .int .u32 (f 3), .int .u32 (f 4), .int .u32 (f 5), .int .u32 (f 6), .int .u32 (f 7), .int .u32 0] rfl rfl 95 #[.int .u32 0, .int .u32 0, .int .u32 0, .int .u32 0, .int .u32 0, .int .u32 0, .int .u32 0, .int .u32 0, .int .u32 0] (heap_alloc_new W.drew _) (by kernel_rfl) rfl (by simp [Value.oneCell']) ?_
  refine hK.out _ _ ?_
  clear hK K
  refine done_ (by kernel_rfl) ?_
  have hV1 : ((W.alloc (Obj.cells #[.int .u32 0, .int .u32 0, .int .u32 0, .int .u32 0, .int .u32 0, .int .u32 0, .int .u32 0, .int .u32 0, .int .u32 0] 95)).drew.setRow W.heap.size #[.int .u32 (f 0), .int .u32 (f 1), .int .u32 (f 2), .int .u32 (f 3), .int .u32 (f 4), .int .u32 (f 5), .int .u32 (f 6), .int .u32 (f 7), .int .u32 0]).heap[W.heap.size]? = some (.cells #[.int .u32 (f 0), .int .u32 (f 1), .int .u32 (f 2), .int .u32 (f 3), .int .u32 (f 4), .int .u32 (f 5), .int .u32 (f 6), .int .u32 (f 7), .int .u32 0] 95 (0, 0)) := setRow_heap (w := (W.alloc (Obj.cells #[.int .u32 0, .int .u32 0, .int .u32 0, .int .u32 0, .int .u32 0, .int .u32 0, .int .u32 0, .int .u32 0, .int .u32 0] 95)).drew) (heap_alloc_new W (Obj.cells #[.int .u32 0, .int .u32 0, .int .u32 0, .int .u32 0, .int .u32 0, .int .u32 0, .int .u32 0, .int .u32 0, .int .u32 0] 95))
  have hlt := blk_lt Hb.out
  have hV2 : ((W.alloc (Obj.cells #[.int .u32 0, .int .u32 0, .int .u32 0, .int .u32 0, .int .u32 0, .int .u32 0, .int .u32 0, .int .u32 0, .int .u32 0] 95)).drew.setRow W.heap.size #[.int .u32 (f 0), .int .u32 (f 1), .int .u32 (f 2), .int .u32 (f 3), .int .u32 (f 4), .int .u32 (f 5), .int .u32 (f 6), .int .u32 (f 7), .int .u32 0]).heap[w.heap.size]? = some (.cells #[.int .u32 0, .int .u32 0, .int .u32 0, .int .u32 0, .int .u32 0, .int .u32 0, .int .u32 0, .int .u32 0, .int .u32 0] 95 (0, 0)) := by
    simp only [World.setRow, Array.getElem?_modify]
    rw [if_neg (by omega)]
    exact (blk_old W _ _ hlt).trans Hb.out
  have hV3 : ((W.alloc (Obj.cells #[.int .u32 0, .int .u32 0, .int .u32 0, .int .u32 0, .int .u32 0, .int .u32 0, .int .u32 0, .int .u32 0, .int .u32 0] 95)).drew.setRow W.heap.size #[.int .u32 (f 0), .int .u32 (f 1), .int .u32 (f 2), .int .u32 (f 3), .int .u32 (f 4), .int .u32 (f 5), .int .u32 (f 6), .int .u32 (f 7), .int .u32 0]).cell? ⟨g, 8, none⟩ = some (.int .u32 (f 8)) := by
    have h1 := World.block_lt_of_cell? W _ HQ.out
    refine Eq.trans (World.cell?_of_block ?_) (cell_old (o := (Obj.cells #[.int .u32 0, .int .u32 0, .int .u32 0, .int .u32 0, .int .u32 0, .int .u32 0, .int .u32 0, .int .u32 0, .int .u32 0] 95)) HQ.out)
    simp only [World.setRow, Array.getElem?_modify]
    rw [if_neg (by show ¬ W.heap.size = g; exact Nat.ne_of_gt h1)]
    rfl
  have hV4 : Below w.heap.size w ((W.alloc (Obj.cells #[.int .u32 0, .int .u32 0, .int .u32 0, .int .u32 0, .int .u32 0, .int .u32 0, .int .u32 0, .int .u32 0, .int .u32 0] 95)).drew.setRow W.heap.size #[.int .u32 (f 0), .int .u32 (f 1), .int .u32 (f 2), .int .u32 (f 3), .int .u32 (f 4), .int .u32 (f 5), .int .u32 (f 6), .int .u32 (f 7), .int .u32 0]) := below_setRow (W := (W.alloc (Obj.cells #[.int .u32 0, .int .u32 0, .int .u32 0, .int .u32 0, .int .u32 0, .int .u32 0, .int .u32 0, .int .u32 0, .int .u32 0] 95)).drew) (below_drew (below_alloc HB.out _)) HB.out.size
  generalize hVV : (W.alloc (Obj.cells #[.int .u32 0, .int .u32 0, .int .u32 0, .int .u32 0, .int .u32 0, .int .u32 0, .int .u32 0, .int .u32 0, .int .u32 0] 95)).drew.setRow W.heap.size #[.int .u32 (f 0), .int .u32 (f 1), .int .u32 (f 2), .int .u32 (f 3), .int .u32 (f 4), .int .u32 (f 5), .int .u32 (f 6), .int .u32 (f 7), .int .u32 0] = V at hV1 hV2 hV3 hV4 ⊢
  generalize hHH : W.heap.size = H at hV1 hlt hVV ⊢
  clear hVV hHeld HS HB HQ Hb
  have c7 : V.cell? ⟨H, 8, none⟩ = some (.int .u32 0) := blk_cell hV1 8
  have z7 := frozen_of_row V H 8 _ _ hV1
  have hU1 : (V.setCell ⟨H, 8, none⟩ (.int .u32 (f 8))).heap[H]? = some (.cells #[.int .u32 (f 0), .int .u32 (f 1), .int .u32 (f 2), .int .u32 (f 3), .int .u32 (f 4), .int .u32 (f 5), .int .u32 (f 6), .int .u32 (f 7), .int .u32 (f 8)] 95 (0, 0)) := blk_set hV1 8 (.int .u32 (f 8))
  have hU2 : (V.setCell ⟨H, 8, none⟩ (.int .u32 (f 8))).heap[w.heap.size]? = some (.cells #[.int .u32 0, .int .u32 0, .int .u32 0, .int .u32 0, .int .u32 0, .int .u32 0, .int .u32 0, .int .u32 0, .int .u32 0] 95 (0, 0)) := blk_far hV2 (by show w.heap.size ≠ H; omega) _
  have hU4 : Below w.heap.size w (V.setCell ⟨H, 8, none⟩ (.int .u32 (f 8))) := below_set hV4 (by show w.heap.size ≤ H; omega)
  have hF := setRow_heap (cs := #[.int .u32 (f 0), .int .u32 (f 1), .int .u32 (f 2), .int .u32 (f 3), .int .u32 (f 4), .int .u32 (f 5), .int .u32 (f 6), .int .u32 (f 7), .int .u32 (f 8)]) hU2
  have hG := below_setRow (cs := #[.int .u32 (f 0), .int .u32 (f 1), .int .u32 (f 2), .int .u32 (f 3), .int .u32 (f 4), .int .u32 (f 5), .int .u32 (f 6), .int .u32 (f 7), .int .u32 (f 8)]) hU4 (Nat.le_refl _)
  have hR : (V.setCell ⟨H, 8, none⟩ (.int .u32 (f 8))).rangeAt H 0 [.int .u32 (f 0), .int .u32 (f 1), .int .u32 (f 2), .int .u32 (f 3), .int .u32 (f 4), .int .u32 (f 5), .int .u32 (f 6), .int .u32 (f 7), .int .u32 (f 8)] := fun j v hv => by
    rw [Nat.zero_add]
    exact (blk_cell hU1 j).trans (List.getElem?_toArray.trans hv)
  have HU2 := Lib.hid hU2
  have HF := Lib.hid hF
  have HG := Lib.hid hG
  have HR := Lib.hid hR
  clear hF hG hV1 hV2 hV4 hU1 hU2 hU4 hR
  go_wp2_with (first
    | refine wpList_load_mid rfl 95 (.tmp 5) rfl H 0 rfl [.int .u32 (f 0), .int .u32 (f 1), .int .u32 (f 2), .int .u32 (f 3), .int .u32 (f 4), .int .u32 (f 5), .int .u32 (f 6), .int .u32 (f 7), .int .u32 (f 8)] _ HR.out Tryz.underlying95 rfl (by kernel_rfl) ?_
    | refine wpList_plain rfl (fun K hK => wp_store_row 95 (.tmp 2) (.tmp 47) rfl w.heap.size #[.int .u32 (f 0), .int .u32 (f 1), .int .u32 (f 2), .int .u32 (f 3), .int .u32 (f 4), .int .u32 (f 5), .int .u32 (f 6), .int .u32 (f 7), .int .u32 (f 8)] rfl rfl 95 #[.int .u32 0, .int .u32 0, .int .u32 0, .int .u32 0, .int .u32 0, .int .u32 0, .int .u32 0, .int .u32 0, .int .u32 0] HU2.out (by kernel_rfl) rfl (by simp [Value.oneCell']) (hK _ _ ?_)))
  try simp only [Exit.inBlock, Exit.then]
  refine bodyPost_ret (results_ct rfl _ _ w.heap.size 95 #[.int .u32 (f 0), .int .u32 (f 1), .int .u32 (f 2), .int .u32 (f 3), .int .u32 (f 4), .int .u32 (f 5), .int .u32 (f 6), .int .u32 (f 7), .int .u32 (f 8)] (0, 0) _ rfl HF.out Tryz.underlying95 rfl (by kernel_rfl)) rfl (.mk _ rfl ⟨rfl, HG.out⟩)
end Go.Proofs.YtaniejfkbapbbaaGreatDoor
