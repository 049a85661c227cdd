/-
  Part of the proof of FnXfsNormal: the tree functions of the sections.
-/
import Derived.Test.YtaniejfkbapbbaaGreatDoorXn
namespace Go.Proofs.YtaniejfkbapbbaaGreatDoor
open Go.RowKit Go.Proofs.YtaniejfkbapbbaaGreatDoorW.PrintWords Go.Proofs.YtaniejfkbapbbaaGreatDoorW.PrintLast Go.Proofs.YtaniejfkbapbbaaGreatDoorW.PrintMore

set_option maxHeartbeats 1000000 in
theorem field64 {id b i T : Nat} {nm : ByteArray} {p : String} {n0 n1 n2 n3 n5 n6 n7 n8 n9 : Array Edge} {Q : Exit → Act → World → Prop} {a : Act} {w0 w : World} {g : Nat} {vals : Array Value} {x : Int} {name : ByteArray} {v : Value} {xs : List NT}
    (hT : ∀ (a : Act) (w : World), a.tmps[3]?.getD undef = .pointer (some ⟨g, 0, none⟩) → (execOp a.eval { dst := some (b + 2), op := .fieldAddr T (.tmp 3) i, type := 0, pos := p, after := n2, guard := none }).run Tryz.prog w = .ok (.value (.pointer (some ⟨g, i, none⟩))) w)
    (hx : vals[i]? = some (.int .u64 x)) (_ : 0 ≤ x) (_ : x < 18446744073709551616) (hb : 6 ≤ b) (hsz : b + 8 ≤ a.tmps.size) (hA : Slots a g) (hS : St w0 g T vals name v xs w) (hl : xs.length ≤ 900)
    (h : ∀ a' v' w', a'.tmps.size = a.tmps.size → Slots a' g → St w0 g T vals name v' (xs ++ [leaf nm x]) w' → Q .normal a' w') :
    (Code.region id #[{ dst := some b, op := .fieldAddr 35 (.tmp 5) 7, type := 0, pos := p, after := n0, guard := none },
      { dst := some (b + 1), op := .load 33 (.tmp b), type := 33, pos := p, after := n1, guard := none },
      { dst := some (b + 2), op := .fieldAddr T (.tmp 3) i, type := 0, pos := p, after := n2, guard := none },
      { dst := some (b + 3), op := .load 31 (.tmp (b + 2)), type := 31, pos := p, after := n3, guard := none },
      { dst := some (b + 4), op := .build 35 #[(0, .const (.string nm)), (1, .const (.int .i64 3)), (4, .tmp (b + 3))], type := 35, pos := p, after := n5, guard := none },
      { dst := some (b + 5), op := .buildSlice 33 1 #[(0, .tmp (b + 4))], type := 33, pos := p, after := n6, guard := none },
      { dst := some (b + 6), op := .call { callee := .builtin .append, args := #[.tmp (b + 1), .tmp (b + 5)], argTypes := #[33, 33] }, type := 33, pos := p, after := n7, guard := none },
      { dst := some (b + 7), op := .fieldAddr 35 (.tmp 5) 7, type := 0, pos := p, after := n8, guard := none },
      { dst := none, op := .store 33 (.tmp (b + 7)) (.tmp (b + 6)), type := 0, pos := p, after := n9, guard := none }] false).wp Tryz.prog Q a w := by
  refine wp_region_lit ?_
  refine val_go rfl rfl (by omega) (run_fa5 _ _ _ _ _ _ (g + 2) 5 hA.s5) (fun a1 p1 => ?_)
  have A1 := hA.to p1 (by omega)
  refine val_go rfl rfl (by rw [p1.1]; omega) (run_ld33 _ _ _ _ _ _ (g + 2) 7 b v p1.2.1 (blk_cell hS.b5 7)) (fun a2 p2 => ?_)
  have A2 := A1.to p2 (by omega)
  refine val_go rfl rfl (by rw [p2.1, p1.1]; omega) (hT _ _ A2.s3) (fun a3 p3 => ?_)
  have A3 := A2.to p3 (by omega)
  refine val_go rfl rfl (by rw [p3.1, p2.1, p1.1]; omega) (run_ld31 _ _ _ _ _ _ g i (b + 2) (.int .u64 x) p3.2.1 ((blk_cell hS.b3 i).trans hx)) (fun a4 p4 => ?_)
  have A4 := A3.to p4 (by omega)
  refine val_go rfl rfl (by rw [p4.1, p3.1, p2.1, p1.1]; omega) (run_bd _ _ _ _ _ _ (b + 3) x nm p4.2.1) (fun a6 p6 => ?_)
  have A6 := A4.to p6 (by omega)
  refine val_go rfl rfl (by rw [p6.1, p4.1, p3.1, p2.1, p1.1]; omega) (run_bs _ _ _ _ _ _ (b + 4) nm x p6.2.1) (fun a7 p7 => ?_)
  have A7 := A6.to p7 (by omega)
  have hv : a7.tmps[b + 1]?.getD undef = v := by
    rw [p7.2.2.1 _ (by omega), p6.2.2.1 _ (by omega), p4.2.2.1 _ (by omega), p3.2.2.1 _ (by omega)]
    exact p2.2.1
  have hs7 : a7.tmps.size = a.tmps.size := by rw [p7.1, p6.1, p4.1, p3.1, p2.1, p1.1]
  have hgw : g + 3 ≤ w.heap.size := Nat.succ_le_of_lt (blk_lt hS.b5)
  refine Kd.R_append (kn 35 1) (w0 := w) (W := w) (g + 3) rfl (.tmp (b + 1)) (.tmp (b + 5)) 33 35 (.agg zeroN) 96 rfl Tryz.underlying33 info35 rfl (by show 0 < 8; decide) (by omega) v xs (leaf nm x) (leafCells nm x) (fun _ => True) (fun _ => False) (ev_tmp hv) (ev_tmp p7.2.1) (kn_mkM w (g + 3) _ (leaf nm x) (Kd.R_nil _ _ _ _ _)) (fun _ h => h.elim) (fun _ _ => trivial) hS.R (Below.refl _ _) hgw (by omega) ?_
  intro v1 w1 hR1 hB1 _ _
  obtain ⟨A0, c0, rfl⟩ := Kd.R_slice hR1
  have p8 : Puts a7 (a7.put (some (b + 6)) _) (b + 6) (.slice A0 (xs ++ [leaf nm x]).length c0) := puts_put (by omega)
  generalize a7.put (some (b + 6)) (.slice A0 (xs ++ [leaf nm x]).length c0) = a8 at p8
  have A8 := A7.to p8 (by omega)
  refine val_go rfl rfl (by rw [p8.1]; omega) (run_fa5 _ _ _ _ _ _ (g + 2) 5 A8.s5) (fun a9 p9 => ?_)
  have A9 := A8.to p9 (by omega)
  have k5 : w1.heap[g + 2]? = _ := (hB1.block (g + 2) (by omega)).trans hS.b5
  have k4 : w1.heap[g + 1]? = _ := (hB1.block (g + 1) (by omega)).trans hS.b4
  have k3 : w1.heap[g]? = _ := (hB1.block g (by omega)).trans hS.b3
  refine skip_step rfl (run_st _ _ _ _ _ _ (g + 2) 7 (b + 7) (b + 6) A0 (xs ++ [leaf nm x]).length c0 v p9.2.1 ((p9.2.2.1 _ (by omega)).trans p8.2.1) (blk_cell k5 7) (frozen_of_row w1 (g + 2) 7 _ _ k5)) ?_
  refine h a9 (.slice A0 (xs ++ [leaf nm x]).length c0) _ (by rw [p9.1, p8.1, hs7]) A9 ⟨hS.hg, ?_, ?_, ?_, ?_, ?_⟩
  · exact blk_far k3 (by show g ≠ g + 2; omega) _
  · exact blk_far k4 (by show g + 1 ≠ g + 2; omega) _
  · exact blk_set k5 7 _
  · exact Kd.R_mono (Kd.R_far (Kd.R_mono (Kd.R_bound hR1) (fun k hk => hk.2.1)) (p := ⟨g + 2, 7, none⟩) (fun k hk => by show k ≠ g + 2; omega) _) (fun _ _ => trivial)
  · have hg := hS.hg
    exact below_set (hS.B.trans (hB1.mono (by omega))) (by omega)

def kids78 (f : Nat → Int) : List NT := [leaf ⟨#[69, 120, 116, 101, 110, 116, 115, 65, 108, 108, 111, 99, 97, 116, 101, 100]⟩ (f 0), leaf ⟨#[66, 108, 111, 99, 107, 115, 65, 108, 108, 111, 99, 97, 116, 101, 100]⟩ (f 1), leaf ⟨#[69, 120, 116, 101, 110, 116, 115, 70, 114, 101, 101, 100]⟩ (f 2), leaf ⟨#[66, 108, 111, 99, 107, 115, 70, 114, 101, 101, 100]⟩ (f 3)]
set_option maxRecDepth 100000 in
theorem tree78 (f : Nat → Int) (hf : ∀ j, 0 ≤ f j ∧ f j < 4294967296) (name : ByteArray) (w : World) : Calls Tryz.prog 78 #[.string name, .agg #[.int .u32 (f 0), .int .u32 (f 1), .int .u32 (f 2), .int .u32 (f 3)]] w (Ret (SomeNode 35 1 (.mk name 8 0 ⟨#[]⟩ (kids78 f)) w)) := by
  go_enter Tryz.func78, Tryz.ntmps78
  refine tree_start (T := 63) (vals := #[.int .u32 (f 0), .int .u32 (f 1), .int .u32 (f 2), .int .u32 (f 3)]) (name := name) (fun a w h => by go_simp) (by simp) rfl rfl rfl (fun a2 w2 y2 A2 S2 => ?_)
  have z2 : a2.tmps.size = 45 := y2
  refine wp_seq (field32 (b := 8) (i := 0) (T := 63) (x := f 0) (fun a w h => by go_simp) rfl (hf 0).1 (hf 0).2 (by omega) (by omega) A2 S2 (by simp) (fun a3 v3 w3 y3 A3 S3 => ?_))
  have z3 := y3.trans z2
  refine wp_seq (field32 (b := 17) (i := 1) (T := 63) (x := f 1) (fun a w h => by go_simp) rfl (hf 1).1 (hf 1).2 (by omega) (by omega) A3 S3 (by simp) (fun a4 v4 w4 y4 A4 S4 => ?_))
  have z4 := y4.trans z3
  refine wp_seq (field32 (b := 26) (i := 2) (T := 63) (x := f 2) (fun a w h => by go_simp) rfl (hf 2).1 (hf 2).2 (by omega) (by omega) A4 S4 (by simp) (fun a5 v5 w5 y5 A5 S5 => ?_))
  have z5 := y5.trans z4
  refine wp_seq (field32 (b := 35) (i := 3) (T := 63) (x := f 3) (fun a w h => by go_simp) rfl (hf 3).1 (hf 3).2 (by omega) (by omega) A5 S5 (by simp) (fun a6 v6 w6 y6 A6 S6 => ?_))
  have z6 := y6.trans z5
  exact tree_end (d := 0) (c := 44) rfl (by omega) (by omega) A6 S6 S6.R
def kids79 (f : Nat → Int) : List NT := [leaf ⟨#[76, 111, 111, 107, 117, 112, 115]⟩ (f 0), leaf ⟨#[67, 111, 109, 112, 97, 114, 101, 115]⟩ (f 1), leaf ⟨#[82, 101, 99, 111, 114, 100, 115, 73, 110, 115, 101, 114, 116, 101, 100]⟩ (f 2), leaf ⟨#[82, 101, 99, 111, 114, 100, 115, 68, 101, 108, 101, 116, 101, 100]⟩ (f 3)]
set_option maxRecDepth 100000 in
theorem tree79 (f : Nat → Int) (hf : ∀ j, 0 ≤ f j ∧ f j < 4294967296) (name : ByteArray) (w : World) : Calls Tryz.prog 79 #[.string name, .agg #[.int .u32 (f 0), .int .u32 (f 1), .int .u32 (f 2), .int .u32 (f 3)]] w (Ret (SomeNode 35 1 (.mk name 8 0 ⟨#[]⟩ (kids79 f)) w)) := by
  go_enter Tryz.func79, Tryz.ntmps79
  refine tree_start (T := 65) (vals := #[.int .u32 (f 0), .int .u32 (f 1), .int .u32 (f 2), .int .u32 (f 3)]) (name := name) (fun a w h => by go_simp) (by simp) rfl rfl rfl (fun a2 w2 y2 A2 S2 => ?_)
  have z2 : a2.tmps.size = 45 := y2
  refine wp_seq (field32 (b := 8) (i := 0) (T := 65) (x := f 0) (fun a w h => by go_simp) rfl (hf 0).1 (hf 0).2 (by omega) (by omega) A2 S2 (by simp) (fun a3 v3 w3 y3 A3 S3 => ?_))
  have z3 := y3.trans z2
  refine wp_seq (field32 (b := 17) (i := 1) (T := 65) (x := f 1) (fun a w h => by go_simp) rfl (hf 1).1 (hf 1).2 (by omega) (by omega) A3 S3 (by simp) (fun a4 v4 w4 y4 A4 S4 => ?_))
  have z4 := y4.trans z3
  refine wp_seq (field32 (b := 26) (i := 2) (T := 65) (x := f 2) (fun a w h => by go_simp) rfl (hf 2).1 (hf 2).2 (by omega) (by omega) A4 S4 (by simp) (fun a5 v5 w5 y5 A5 S5 => ?_))
  have z5 := y5.trans z4
  refine wp_seq (field32 (b := 35) (i := 3) (T := 65) (x := f 3) (fun a w h => by go_simp) rfl (hf 3).1 (hf 3).2 (by omega) (by omega) A5 S5 (by simp) (fun a6 v6 w6 y6 A6 S6 => ?_))
  have z6 := y6.trans z5
  exact tree_end (d := 0) (c := 44) rfl (by omega) (by omega) A6 S6 S6.R
def kids80 (f : Nat → Int) : List NT := [leaf ⟨#[82, 101, 97, 100, 115]⟩ (f 0), leaf ⟨#[87, 114, 105, 116, 101, 115]⟩ (f 1), leaf ⟨#[85, 110, 109, 97, 112, 115]⟩ (f 2), leaf ⟨#[69, 120, 116, 101, 110, 116, 76, 105, 115, 116, 73, 110, 115, 101, 114, 116, 105, 111, 110, 115]⟩ (f 3), leaf ⟨#[69, 120, 116, 101, 110, 116, 76, 105, 115, 116, 68, 101, 108, 101, 116, 105, 111, 110, 115]⟩ (f 4), leaf ⟨#[69, 120, 116, 101, 110, 116, 76, 105, 115, 116, 76, 111, 111, 107, 117, 112, 115]⟩ (f 5), leaf ⟨#[69, 120, 116, 101, 110, 116, 76, 105, 115, 116, 67, 111, 109, 112, 97, 114, 101, 115]⟩ (f 6)]
set_option maxRecDepth 100000 in
theorem tree80 (f : Nat → Int) (hf : ∀ j, 0 ≤ f j ∧ f j < 4294967296) (name : ByteArray) (w : World) : Calls Tryz.prog 80 #[.string name, .agg #[.int .u32 (f 0), .int .u32 (f 1), .int .u32 (f 2), .int .u32 (f 3), .int .u32 (f 4), .int .u32 (f 5), .int .u32 (f 6)]] w (Ret (SomeNode 35 1 (.mk name 8 0 ⟨#[]⟩ (kids80 f)) w)) := by
  go_enter Tryz.func80, Tryz.ntmps80
  refine tree_start (T := 67) (vals := #[.int .u32 (f 0), .int .u32 (f 1), .int .u32 (f 2), .int .u32 (f 3), .int .u32 (f 4), .int .u32 (f 5), .int .u32 (f 6)]) (name := name) (fun a w h => by go_simp) (by simp) rfl rfl rfl (fun a2 w2 y2 A2 S2 => ?_)
  have z2 : a2.tmps.size = 72 := y2
  refine wp_seq (field32 (b := 8) (i := 0) (T := 67) (x := f 0) (fun a w h => by go_simp) rfl (hf 0).1 (hf 0).2 (by omega) (by omega) A2 S2 (by simp) (fun a3 v3 w3 y3 A3 S3 => ?_))
  have z3 := y3.trans z2
  refine wp_seq (field32 (b := 17) (i := 1) (T := 67) (x := f 1) (fun a w h => by go_simp) rfl (hf 1).1 (hf 1).2 (by omega) (by omega) A3 S3 (by simp) (fun a4 v4 w4 y4 A4 S4 => ?_))
  have z4 := y4.trans z3
  refine wp_seq (field32 (b := 26) (i := 2) (T := 67) (x := f 2) (fun a w h => by go_simp) rfl (hf 2).1 (hf 2).2 (by omega) (by omega) A4 S4 (by simp) (fun a5 v5 w5 y5 A5 S5 => ?_))
  have z5 := y5.trans z4
  refine wp_seq (field32 (b := 35) (i := 3) (T := 67) (x := f 3) (fun a w h => by go_simp) rfl (hf 3).1 (hf 3).2 (by omega) (by omega) A5 S5 (by simp) (fun a6 v6 w6 y6 A6 S6 => ?_))
  have z6 := y6.trans z5
  refine wp_seq (field32 (b := 44) (i := 4) (T := 67) (x := f 4) (fun a w h => by go_simp) rfl (hf 4).1 (hf 4).2 (by omega) (by omega) A6 S6 (by simp) (fun a7 v7 w7 y7 A7 S7 => ?_))
  have z7 := y7.trans z6
  refine wp_seq (field32 (b := 53) (i := 5) (T := 67) (x := f 5) (fun a w h => by go_simp) rfl (hf 5).1 (hf 5).2 (by omega) (by omega) A7 S7 (by simp) (fun a8 v8 w8 y8 A8 S8 => ?_))
  have z8 := y8.trans z7
  refine wp_seq (field32 (b := 62) (i := 6) (T := 67) (x := f 6) (fun a w h => by go_simp) rfl (hf 6).1 (hf 6).2 (by omega) (by omega) A8 S8 (by simp) (fun a9 v9 w9 y9 A9 S9 => ?_))
  have z9 := y9.trans z8
  exact tree_end (d := 0) (c := 71) rfl (by omega) (by omega) A9 S9 S9.R
def kids81 (f : Nat → Int) : List NT := [leaf ⟨#[76, 111, 111, 107, 117, 112, 115]⟩ (f 0), leaf ⟨#[67, 114, 101, 97, 116, 101, 115]⟩ (f 1), leaf ⟨#[82, 101, 109, 111, 118, 101, 115]⟩ (f 2), leaf ⟨#[71, 101, 116, 100, 101, 110, 116, 115]⟩ (f 3)]
set_option maxRecDepth 100000 in
theorem tree81 (f : Nat → Int) (hf : ∀ j, 0 ≤ f j ∧ f j < 4294967296) (name : ByteArray) (w : World) : Calls Tryz.prog 81 #[.string name, .agg #[.int .u32 (f 0), .int .u32 (f 1), .int .u32 (f 2), .int .u32 (f 3)]] w (Ret (SomeNode 35 1 (.mk name 8 0 ⟨#[]⟩ (kids81 f)) w)) := by
  go_enter Tryz.func81, Tryz.ntmps81
  refine tree_start (T := 69) (vals := #[.int .u32 (f 0), .int .u32 (f 1), .int .u32 (f 2), .int .u32 (f 3)]) (name := name) (fun a w h => by go_simp) (by simp) rfl rfl rfl (fun a2 w2 y2 A2 S2 => ?_)
  have z2 : a2.tmps.size = 45 := y2
  refine wp_seq (field32 (b := 8) (i := 0) (T := 69) (x := f 0) (fun a w h => by go_simp) rfl (hf 0).1 (hf 0).2 (by omega) (by omega) A2 S2 (by simp) (fun a3 v3 w3 y3 A3 S3 => ?_))
  have z3 := y3.trans z2
  refine wp_seq (field32 (b := 17) (i := 1) (T := 69) (x := f 1) (fun a w h => by go_simp) rfl (hf 1).1 (hf 1).2 (by omega) (by omega) A3 S3 (by simp) (fun a4 v4 w4 y4 A4 S4 => ?_))
  have z4 := y4.trans z3
  refine wp_seq (field32 (b := 26) (i := 2) (T := 69) (x := f 2) (fun a w h => by go_simp) rfl (hf 2).1 (hf 2).2 (by omega) (by omega) A4 S4 (by simp) (fun a5 v5 w5 y5 A5 S5 => ?_))
  have z5 := y5.trans z4
  refine wp_seq (field32 (b := 35) (i := 3) (T := 69) (x := f 3) (fun a w h => by go_simp) rfl (hf 3).1 (hf 3).2 (by omega) (by omega) A5 S5 (by simp) (fun a6 v6 w6 y6 A6 S6 => ?_))
  have z6 := y6.trans z5
  exact tree_end (d := 0) (c := 44) rfl (by omega) (by omega) A6 S6 S6.R
def kids82 (f : Nat → Int) : List NT := [leaf ⟨#[83, 121, 110, 99]⟩ (f 0), leaf ⟨#[65, 115, 121, 110, 99]⟩ (f 1), leaf ⟨#[69, 109, 112, 116, 121]⟩ (f 2)]
set_option maxRecDepth 100000 in
theorem tree82 (f : Nat → Int) (hf : ∀ j, 0 ≤ f j ∧ f j < 4294967296) (name : ByteArray) (w : World) : Calls Tryz.prog 82 #[.string name, .agg #[.int .u32 (f 0), .int .u32 (f 1), .int .u32 (f 2)]] w (Ret (SomeNode 35 1 (.mk name 8 0 ⟨#[]⟩ (kids82 f)) w)) := by
  go_enter Tryz.func82, Tryz.ntmps82
  refine tree_start (T := 71) (vals := #[.int .u32 (f 0), .int .u32 (f 1), .int .u32 (f 2)]) (name := name) (fun a w h => by go_simp) (by simp) rfl rfl rfl (fun a2 w2 y2 A2 S2 => ?_)
  have z2 : a2.tmps.size = 36 := y2
  refine wp_seq (field32 (b := 8) (i := 0) (T := 71) (x := f 0) (fun a w h => by go_simp) rfl (hf 0).1 (hf 0).2 (by omega) (by omega) A2 S2 (by simp) (fun a3 v3 w3 y3 A3 S3 => ?_))
  have z3 := y3.trans z2
  refine wp_seq (field32 (b := 17) (i := 1) (T := 71) (x := f 1) (fun a w h => by go_simp) rfl (hf 1).1 (hf 1).2 (by omega) (by omega) A3 S3 (by simp) (fun a4 v4 w4 y4 A4 S4 => ?_))
  have z4 := y4.trans z3
  refine wp_seq (field32 (b := 26) (i := 2) (T := 71) (x := f 2) (fun a w h => by go_simp) rfl (hf 2).1 (hf 2).2 (by omega) (by omega) A4 S4 (by simp) (fun a5 v5 w5 y5 A5 S5 => ?_))
  have z5 := y5.trans z4
  exact tree_end (d := 0) (c := 35) rfl (by omega) (by omega) A5 S5 S5.R
def kids83 (f : Nat → Int) : List NT := [leaf ⟨#[65, 116, 116, 101, 109, 112, 116, 115]⟩ (f 0), leaf ⟨#[70, 111, 117, 110, 100]⟩ (f 1), leaf ⟨#[82, 101, 99, 121, 99, 108, 101]⟩ (f 2), leaf ⟨#[77, 105, 115, 115, 101, 100]⟩ (f 3), leaf ⟨#[68, 117, 112, 108, 105, 99, 97, 116, 101]⟩ (f 4), leaf ⟨#[82, 101, 99, 108, 97, 105, 109, 115]⟩ (f 5), leaf ⟨#[65, 116, 116, 114, 105, 98, 117, 116, 101, 67, 104, 97, 110, 103, 101]⟩ (f 6)]
set_option maxRecDepth 100000 in
theorem tree83 (f : Nat → Int) (hf : ∀ j, 0 ≤ f j ∧ f j < 4294967296) (name : ByteArray) (w : World) : Calls Tryz.prog 83 #[.string name, .agg #[.int .u32 (f 0), .int .u32 (f 1), .int .u32 (f 2), .int .u32 (f 3), .int .u32 (f 4), .int .u32 (f 5), .int .u32 (f 6)]] w (Ret (SomeNode 35 1 (.mk name 8 0 ⟨#[]⟩ (kids83 f)) w)) := by
  go_enter Tryz.func83, Tryz.ntmps83
  refine tree_start (T := 73) (vals := #[.int .u32 (f 0), .int .u32 (f 1), .int .u32 (f 2), .int .u32 (f 3), .int .u32 (f 4), .int .u32 (f 5), .int .u32 (f 6)]) (name := name) (fun a w h => by go_simp) (by simp) rfl rfl rfl (fun a2 w2 y2 A2 S2 => ?_)
  have z2 : a2.tmps.size = 72 := y2
  refine wp_seq (field32 (b := 8) (i := 0) (T := 73) (x := f 0) (fun a w h => by go_simp) rfl (hf 0).1 (hf 0).2 (by omega) (by omega) A2 S2 (by simp) (fun a3 v3 w3 y3 A3 S3 => ?_))
  have z3 := y3.trans z2
  refine wp_seq (field32 (b := 17) (i := 1) (T := 73) (x := f 1) (fun a w h => by go_simp) rfl (hf 1).1 (hf 1).2 (by omega) (by omega) A3 S3 (by simp) (fun a4 v4 w4 y4 A4 S4 => ?_))
  have z4 := y4.trans z3
  refine wp_seq (field32 (b := 26) (i := 2) (T := 73) (x := f 2) (fun a w h => by go_simp) rfl (hf 2).1 (hf 2).2 (by omega) (by omega) A4 S4 (by simp) (fun a5 v5 w5 y5 A5 S5 => ?_))
  have z5 := y5.trans z4
  refine wp_seq (field32 (b := 35) (i := 3) (T := 73) (x := f 3) (fun a w h => by go_simp) rfl (hf 3).1 (hf 3).2 (by omega) (by omega) A5 S5 (by simp) (fun a6 v6 w6 y6 A6 S6 => ?_))
  have z6 := y6.trans z5
  refine wp_seq (field32 (b := 44) (i := 4) (T := 73) (x := f 4) (fun a w h => by go_simp) rfl (hf 4).1 (hf 4).2 (by omega) (by omega) A6 S6 (by simp) (fun a7 v7 w7 y7 A7 S7 => ?_))
  have z7 := y7.trans z6
  refine wp_seq (field32 (b := 53) (i := 5) (T := 73) (x := f 5) (fun a w h => by go_simp) rfl (hf 5).1 (hf 5).2 (by omega) (by omega) A7 S7 (by simp) (fun a8 v8 w8 y8 A8 S8 => ?_))
  have z8 := y8.trans z7
  refine wp_seq (field32 (b := 62) (i := 6) (T := 73) (x := f 6) (fun a w h => by go_simp) rfl (hf 6).1 (hf 6).2 (by omega) (by omega) A8 S8 (by simp) (fun a9 v9 w9 y9 A9 S9 => ?_))
  have z9 := y9.trans z8
  exact tree_end (d := 0) (c := 71) rfl (by omega) (by omega) A9 S9 S9.R
def kids84 (f : Nat → Int) : List NT := [leaf ⟨#[87, 114, 105, 116, 101, 115]⟩ (f 0), leaf ⟨#[66, 108, 111, 99, 107, 115]⟩ (f 1), leaf ⟨#[78, 111, 73, 110, 116, 101, 114, 110, 97, 108, 66, 117, 102, 102, 101, 114, 115]⟩ (f 2), leaf ⟨#[70, 111, 114, 99, 101]⟩ (f 3), leaf ⟨#[70, 111, 114, 99, 101, 83, 108, 101, 101, 112]⟩ (f 4)]
set_option maxRecDepth 100000 in
theorem tree84 (f : Nat → Int) (hf : ∀ j, 0 ≤ f j ∧ f j < 4294967296) (name : ByteArray) (w : World) : Calls Tryz.prog 84 #[.string name, .agg #[.int .u32 (f 0), .int .u32 (f 1), .int .u32 (f 2), .int .u32 (f 3), .int .u32 (f 4)]] w (Ret (SomeNode 35 1 (.mk name 8 0 ⟨#[]⟩ (kids84 f)) w)) := by
  go_enter Tryz.func84, Tryz.ntmps84
  refine tree_start (T := 75) (vals := #[.int .u32 (f 0), .int .u32 (f 1), .int .u32 (f 2), .int .u32 (f 3), .int .u32 (f 4)]) (name := name) (fun a w h => by go_simp) (by simp) rfl rfl rfl (fun a2 w2 y2 A2 S2 => ?_)
  have z2 : a2.tmps.size = 54 := y2
  refine wp_seq (field32 (b := 8) (i := 0) (T := 75) (x := f 0) (fun a w h => by go_simp) rfl (hf 0).1 (hf 0).2 (by omega) (by omega) A2 S2 (by simp) (fun a3 v3 w3 y3 A3 S3 => ?_))
  have z3 := y3.trans z2
  refine wp_seq (field32 (b := 17) (i := 1) (T := 75) (x := f 1) (fun a w h => by go_simp) rfl (hf 1).1 (hf 1).2 (by omega) (by omega) A3 S3 (by simp) (fun a4 v4 w4 y4 A4 S4 => ?_))
  have z4 := y4.trans z3
  refine wp_seq (field32 (b := 26) (i := 2) (T := 75) (x := f 2) (fun a w h => by go_simp) rfl (hf 2).1 (hf 2).2 (by omega) (by omega) A4 S4 (by simp) (fun a5 v5 w5 y5 A5 S5 => ?_))
  have z5 := y5.trans z4
  refine wp_seq (field32 (b := 35) (i := 3) (T := 75) (x := f 3) (fun a w h => by go_simp) rfl (hf 3).1 (hf 3).2 (by omega) (by omega) A5 S5 (by simp) (fun a6 v6 w6 y6 A6 S6 => ?_))
  have z6 := y6.trans z5
  refine wp_seq (field32 (b := 44) (i := 4) (T := 75) (x := f 4) (fun a w h => by go_simp) rfl (hf 4).1 (hf 4).2 (by omega) (by omega) A6 S6 (by simp) (fun a7 v7 w7 y7 A7 S7 => ?_))
  have z7 := y7.trans z6
  exact tree_end (d := 0) (c := 53) rfl (by omega) (by omega) A7 S7 S7.R
def kids85 (f : Nat → Int) : List NT := [leaf ⟨#[87, 114, 105, 116, 101]⟩ (f 0), leaf ⟨#[82, 101, 97, 100]⟩ (f 1)]
set_option maxRecDepth 100000 in
theorem tree85 (f : Nat → Int) (hf : ∀ j, 0 ≤ f j ∧ f j < 4294967296) (name : ByteArray) (w : World) : Calls Tryz.prog 85 #[.string name, .agg #[.int .u32 (f 0), .int .u32 (f 1)]] w (Ret (SomeNode 35 1 (.mk name 8 0 ⟨#[]⟩ (kids85 f)) w)) := by
  go_enter Tryz.func85, Tryz.ntmps85
  refine tree_start (T := 77) (vals := #[.int .u32 (f 0), .int .u32 (f 1)]) (name := name) (fun a w h => by go_simp) (by simp) rfl rfl rfl (fun a2 w2 y2 A2 S2 => ?_)
  have z2 : a2.tmps.size = 27 := y2
  refine wp_seq (field32 (b := 8) (i := 0) (T := 77) (x := f 0) (fun a w h => by go_simp) rfl (hf 0).1 (hf 0).2 (by omega) (by omega) A2 S2 (by simp) (fun a3 v3 w3 y3 A3 S3 => ?_))
  have z3 := y3.trans z2
  refine wp_seq (field32 (b := 17) (i := 1) (T := 77) (x := f 1) (fun a w h => by go_simp) rfl (hf 1).1 (hf 1).2 (by omega) (by omega) A3 S3 (by simp) (fun a4 v4 w4 y4 A4 S4 => ?_))
  have z4 := y4.trans z3
  exact tree_end (d := 0) (c := 26) rfl (by omega) (by omega) A4 S4 S4.R
def kids86 (f : Nat → Int) : List NT := [leaf ⟨#[71, 101, 116]⟩ (f 0), leaf ⟨#[83, 101, 116]⟩ (f 1), leaf ⟨#[82, 101, 109, 111, 118, 101]⟩ (f 2), leaf ⟨#[76, 105, 115, 116]⟩ (f 3)]
set_option maxRecDepth 100000 in
theorem tree86 (f : Nat → Int) (hf : ∀ j, 0 ≤ f j ∧ f j < 4294967296) (name : ByteArray) (w : World) : Calls Tryz.prog 86 #[.string name, .agg #[.int .u32 (f 0), .int .u32 (f 1), .int .u32 (f 2), .int .u32 (f 3)]] w (Ret (SomeNode 35 1 (.mk name 8 0 ⟨#[]⟩ (kids86 f)) w)) := by
  go_enter Tryz.func86, Tryz.ntmps86
  refine tree_start (T := 79) (vals := #[.int .u32 (f 0), .int .u32 (f 1), .int .u32 (f 2), .int .u32 (f 3)]) (name := name) (fun a w h => by go_simp) (by simp) rfl rfl rfl (fun a2 w2 y2 A2 S2 => ?_)
  have z2 : a2.tmps.size = 45 := y2
  refine wp_seq (field32 (b := 8) (i := 0) (T := 79) (x := f 0) (fun a w h => by go_simp) rfl (hf 0).1 (hf 0).2 (by omega) (by omega) A2 S2 (by simp) (fun a3 v3 w3 y3 A3 S3 => ?_))
  have z3 := y3.trans z2
  refine wp_seq (field32 (b := 17) (i := 1) (T := 79) (x := f 1) (fun a w h => by go_simp) rfl (hf 1).1 (hf 1).2 (by omega) (by omega) A3 S3 (by simp) (fun a4 v4 w4 y4 A4 S4 => ?_))
  have z4 := y4.trans z3
  refine wp_seq (field32 (b := 26) (i := 2) (T := 79) (x := f 2) (fun a w h => by go_simp) rfl (hf 2).1 (hf 2).2 (by omega) (by omega) A4 S4 (by simp) (fun a5 v5 w5 y5 A5 S5 => ?_))
  have z5 := y5.trans z4
  refine wp_seq (field32 (b := 35) (i := 3) (T := 79) (x := f 3) (fun a w h => by go_simp) rfl (hf 3).1 (hf 3).2 (by omega) (by omega) A5 S5 (by simp) (fun a6 v6 w6 y6 A6 S6 => ?_))
  have z6 := y6.trans z5
  exact tree_end (d := 0) (c := 44) rfl (by omega) (by omega) A6 S6 S6.R
def kids87 (f : Nat → Int) : List NT := [leaf ⟨#[73, 102, 108, 117, 115, 104]⟩ (f 0), leaf ⟨#[70, 108, 117, 115, 104]⟩ (f 1), leaf ⟨#[70, 108, 117, 115, 104, 73, 110, 111, 100, 101]⟩ (f 2)]
set_option maxRecDepth 100000 in
theorem tree87 (f : Nat → Int) (hf : ∀ j, 0 ≤ f j ∧ f j < 4294967296) (name : ByteArray) (w : World) : Calls Tryz.prog 87 #[.string name, .agg #[.int .u32 (f 0), .int .u32 (f 1), .int .u32 (f 2)]] w (Ret (SomeNode 35 1 (.mk name 8 0 ⟨#[]⟩ (kids87 f)) w)) := by
  go_enter Tryz.func87, Tryz.ntmps87
  refine tree_start (T := 81) (vals := #[.int .u32 (f 0), .int .u32 (f 1), .int .u32 (f 2)]) (name := name) (fun a w h => by go_simp) (by simp) rfl rfl rfl (fun a2 w2 y2 A2 S2 => ?_)
  have z2 : a2.tmps.size = 36 := y2
  refine wp_seq (field32 (b := 8) (i := 0) (T := 81) (x := f 0) (fun a w h => by go_simp) rfl (hf 0).1 (hf 0).2 (by omega) (by omega) A2 S2 (by simp) (fun a3 v3 w3 y3 A3 S3 => ?_))
  have z3 := y3.trans z2
  refine wp_seq (field32 (b := 17) (i := 1) (T := 81) (x := f 1) (fun a w h => by go_simp) rfl (hf 1).1 (hf 1).2 (by omega) (by omega) A3 S3 (by simp) (fun a4 v4 w4 y4 A4 S4 => ?_))
  have z4 := y4.trans z3
  refine wp_seq (field32 (b := 26) (i := 2) (T := 81) (x := f 2) (fun a w h => by go_simp) rfl (hf 2).1 (hf 2).2 (by omega) (by omega) A4 S4 (by simp) (fun a5 v5 w5 y5 A5 S5 => ?_))
  have z5 := y5.trans z4
  exact tree_end (d := 0) (c := 35) rfl (by omega) (by omega) A5 S5 S5.R
def kids88 (f : Nat → Int) : List NT := [leaf ⟨#[65, 99, 116, 105, 118, 101]⟩ (f 0), leaf ⟨#[65, 108, 108, 111, 99, 97, 116, 101]⟩ (f 1), leaf ⟨#[71, 101, 116]⟩ (f 2), leaf ⟨#[72, 111, 108, 100]⟩ (f 3), leaf ⟨#[82, 101, 108, 101, 97, 115, 101]⟩ (f 4), leaf ⟨#[82, 101, 99, 108, 97, 105, 109]⟩ (f 5), leaf ⟨#[82, 101, 109, 111, 118, 101]⟩ (f 6), leaf ⟨#[70, 114, 101, 101]⟩ (f 7)]
set_option maxRecDepth 100000 in
theorem tree88 (f : Nat → Int) (hf : ∀ j, 0 ≤ f j ∧ f j < 4294967296) (name : ByteArray) (w : World) : Calls Tryz.prog 88 #[.string name, .agg #[.int .u32 (f 0), .int .u32 (f 1), .int .u32 (f 2), .int .u32 (f 3), .int .u32 (f 4), .int .u32 (f 5), .int .u32 (f 6), .int .u32 (f 7)]] w (Ret (SomeNode 35 1 (.mk name 8 0 ⟨#[]⟩ (kids88 f)) w)) := by
  go_enter Tryz.func88, Tryz.ntmps88
  refine tree_start (T := 83) (vals := #[.int .u32 (f 0), .int .u32 (f 1), .int .u32 (f 2), .int .u32 (f 3), .int .u32 (f 4), .int .u32 (f 5), .int .u32 (f 6), .int .u32 (f 7)]) (name := name) (fun a w h => by go_simp) (by simp) rfl rfl rfl (fun a2 w2 y2 A2 S2 => ?_)
  have z2 : a2.tmps.size = 81 := y2
  refine wp_seq (field32 (b := 8) (i := 0) (T := 83) (x := f 0) (fun a w h => by go_simp) rfl (hf 0).1 (hf 0).2 (by omega) (by omega) A2 S2 (by simp) (fun a3 v3 w3 y3 A3 S3 => ?_))
  have z3 := y3.trans z2
  refine wp_seq (field32 (b := 17) (i := 1) (T := 83) (x := f 1) (fun a w h => by go_simp) rfl (hf 1).1 (hf 1).2 (by omega) (by omega) A3 S3 (by simp) (fun a4 v4 w4 y4 A4 S4 => ?_))
  have z4 := y4.trans z3
  refine wp_seq (field32 (b := 26) (i := 2) (T := 83) (x := f 2) (fun a w h => by go_simp) rfl (hf 2).1 (hf 2).2 (by omega) (by omega) A4 S4 (by simp) (fun a5 v5 w5 y5 A5 S5 => ?_))
  have z5 := y5.trans z4
  refine wp_seq (field32 (b := 35) (i := 3) (T := 83) (x := f 3) (fun a w h => by go_simp) rfl (hf 3).1 (hf 3).2 (by omega) (by omega) A5 S5 (by simp) (fun a6 v6 w6 y6 A6 S6 => ?_))
  have z6 := y6.trans z5
  refine wp_seq (field32 (b := 44) (i := 4) (T := 83) (x := f 4) (fun a w h => by go_simp) rfl (hf 4).1 (hf 4).2 (by omega) (by omega) A6 S6 (by simp) (fun a7 v7 w7 y7 A7 S7 => ?_))
  have z7 := y7.trans z6
  refine wp_seq (field32 (b := 53) (i := 5) (T := 83) (x := f 5) (fun a w h => by go_simp) rfl (hf 5).1 (hf 5).2 (by omega) (by omega) A7 S7 (by simp) (fun a8 v8 w8 y8 A8 S8 => ?_))
  have z8 := y8.trans z7
  refine wp_seq (field32 (b := 62) (i := 6) (T := 83) (x := f 6) (fun a w h => by go_simp) rfl (hf 6).1 (hf 6).2 (by omega) (by omega) A8 S8 (by simp) (fun a9 v9 w9 y9 A9 S9 => ?_))
  have z9 := y9.trans z8
  refine wp_seq (field32 (b := 71) (i := 7) (T := 83) (x := f 7) (fun a w h => by go_simp) rfl (hf 7).1 (hf 7).2 (by omega) (by omega) A9 S9 (by simp) (fun a10 v10 w10 y10 A10 S10 => ?_))
  have z10 := y10.trans z9
  exact tree_end (d := 0) (c := 80) rfl (by omega) (by omega) A10 S10 S10.R
def kids89 (f : Nat → Int) : List NT := [leaf ⟨#[71, 101, 116]⟩ (f 0), leaf ⟨#[67, 114, 101, 97, 116, 101]⟩ (f 1), leaf ⟨#[71, 101, 116, 76, 111, 99, 107, 101, 100]⟩ (f 2), leaf ⟨#[71, 101, 116, 76, 111, 99, 107, 101, 100, 87, 97, 105, 116, 101, 100]⟩ (f 3), leaf ⟨#[66, 117, 115, 121, 76, 111, 99, 107, 101, 100]⟩ (f 4), leaf ⟨#[77, 105, 115, 115, 76, 111, 99, 107, 101, 100]⟩ (f 5), leaf ⟨#[80, 97, 103, 101, 82, 101, 116, 114, 105, 101, 115]⟩ (f 6), leaf ⟨#[80, 97, 103, 101, 70, 111, 117, 110, 100]⟩ (f 7), leaf ⟨#[71, 101, 116, 82, 101, 97, 100]⟩ (f 8)]
set_option maxRecDepth 100000 in
theorem tree89 (f : Nat → Int) (hf : ∀ j, 0 ≤ f j ∧ f j < 4294967296) (name : ByteArray) (w : World) : Calls Tryz.prog 89 #[.string name, .agg #[.int .u32 (f 0), .int .u32 (f 1), .int .u32 (f 2), .int .u32 (f 3), .int .u32 (f 4), .int .u32 (f 5), .int .u32 (f 6), .int .u32 (f 7), .int .u32 (f 8)]] w (Ret (SomeNode 35 1 (.mk name 8 0 ⟨#[]⟩ (kids89 f)) w)) := by
  go_enter Tryz.func89, Tryz.ntmps89
  refine tree_start (T := 85) (vals := #[.int .u32 (f 0), .int .u32 (f 1), .int .u32 (f 2), .int .u32 (f 3), .int .u32 (f 4), .int .u32 (f 5), .int .u32 (f 6), .int .u32 (f 7), .int .u32 (f 8)]) (name := name) (fun a w h => by go_simp) (by simp) rfl rfl rfl (fun a2 w2 y2 A2 S2 => ?_)
  have z2 : a2.tmps.size = 90 := y2
  refine wp_seq (field32 (b := 8) (i := 0) (T := 85) (x := f 0) (fun a w h => by go_simp) rfl (hf 0).1 (hf 0).2 (by omega) (by omega) A2 S2 (by simp) (fun a3 v3 w3 y3 A3 S3 => ?_))
  have z3 := y3.trans z2
  refine wp_seq (field32 (b := 17) (i := 1) (T := 85) (x := f 1) (fun a w h => by go_simp) rfl (hf 1).1 (hf 1).2 (by omega) (by omega) A3 S3 (by simp) (fun a4 v4 w4 y4 A4 S4 => ?_))
  have z4 := y4.trans z3
  refine wp_seq (field32 (b := 26) (i := 2) (T := 85) (x := f 2) (fun a w h => by go_simp) rfl (hf 2).1 (hf 2).2 (by omega) (by omega) A4 S4 (by simp) (fun a5 v5 w5 y5 A5 S5 => ?_))
  have z5 := y5.trans z4
  refine wp_seq (field32 (b := 35) (i := 3) (T := 85) (x := f 3) (fun a w h => by go_simp) rfl (hf 3).1 (hf 3).2 (by omega) (by omega) A5 S5 (by simp) (fun a6 v6 w6 y6 A6 S6 => ?_))
  have z6 := y6.trans z5
  refine wp_seq (field32 (b := 44) (i := 4) (T := 85) (x := f 4) (fun a w h => by go_simp) rfl (hf 4).1 (hf 4).2 (by omega) (by omega) A6 S6 (by simp) (fun a7 v7 w7 y7 A7 S7 => ?_))
  have z7 := y7.trans z6
  refine wp_seq (field32 (b := 53) (i := 5) (T := 85) (x := f 5) (fun a w h => by go_simp) rfl (hf 5).1 (hf 5).2 (by omega) (by omega) A7 S7 (by simp) (fun a8 v8 w8 y8 A8 S8 => ?_))
  have z8 := y8.trans z7
  refine wp_seq (field32 (b := 62) (i := 6) (T := 85) (x := f 6) (fun a w h => by go_simp) rfl (hf 6).1 (hf 6).2 (by omega) (by omega) A8 S8 (by simp) (fun a9 v9 w9 y9 A9 S9 => ?_))
  have z9 := y9.trans z8
  refine wp_seq (field32 (b := 71) (i := 7) (T := 85) (x := f 7) (fun a w h => by go_simp) rfl (hf 7).1 (hf 7).2 (by omega) (by omega) A9 S9 (by simp) (fun a10 v10 w10 y10 A10 S10 => ?_))
  have z10 := y10.trans z9
  refine wp_seq (field32 (b := 80) (i := 8) (T := 85) (x := f 8) (fun a w h => by go_simp) rfl (hf 8).1 (hf 8).2 (by omega) (by omega) A10 S10 (by simp) (fun a11 v11 w11 y11 A11 S11 => ?_))
  have z11 := y11.trans z10
  exact tree_end (d := 0) (c := 89) rfl (by omega) (by omega) A11 S11 S11.R
def kids90 (f : Nat → Int) : List NT := [leaf ⟨#[70, 108, 117, 115, 104, 66, 121, 116, 101, 115]⟩ (f 0), leaf ⟨#[87, 114, 105, 116, 101, 66, 121, 116, 101, 115]⟩ (f 1), leaf ⟨#[82, 101, 97, 100, 66, 121, 116, 101, 115]⟩ (f 2)]
set_option maxRecDepth 100000 in
theorem tree90 (f : Nat → Int) (hf : ∀ j, 0 ≤ f j ∧ f j < 18446744073709551616) (name : ByteArray) (w : World) : Calls Tryz.prog 90 #[.string name, .agg #[.int .u64 (f 0), .int .u64 (f 1), .int .u64 (f 2)]] w (Ret (SomeNode 35 1 (.mk name 8 0 ⟨#[]⟩ (kids90 f)) w)) := by
  go_enter Tryz.func90, Tryz.ntmps90
  refine tree_start (T := 87) (vals := #[.int .u64 (f 0), .int .u64 (f 1), .int .u64 (f 2)]) (name := name) (fun a w h => by go_simp) (by simp) rfl rfl rfl (fun a2 w2 y2 A2 S2 => ?_)
  have z2 : a2.tmps.size = 33 := y2
  refine wp_seq (field64 (b := 8) (i := 0) (T := 87) (x := f 0) (fun a w h => by go_simp) rfl (hf 0).1 (hf 0).2 (by omega) (by omega) A2 S2 (by simp) (fun a3 v3 w3 y3 A3 S3 => ?_))
  have z3 := y3.trans z2
  refine wp_seq (field64 (b := 16) (i := 1) (T := 87) (x := f 1) (fun a w h => by go_simp) rfl (hf 1).1 (hf 1).2 (by omega) (by omega) A3 S3 (by simp) (fun a4 v4 w4 y4 A4 S4 => ?_))
  have z4 := y4.trans z3
  refine wp_seq (field64 (b := 24) (i := 2) (T := 87) (x := f 2) (fun a w h => by go_simp) rfl (hf 2).1 (hf 2).2 (by omega) (by omega) A4 S4 (by simp) (fun a5 v5 w5 y5 A5 S5 => ?_))
  have z5 := y5.trans z4
  exact tree_end (d := 0) (c := 32) rfl (by omega) (by omega) A5 S5 S5.R
def kids91 (f : Nat → Int) : List NT := [leaf ⟨#[81, 117, 105, 99, 107]⟩ (f 0), leaf ⟨#[83, 112, 108, 105, 116]⟩ (f 1)]
set_option maxRecDepth 100000 in
theorem tree91 (f : Nat → Int) (hf : ∀ j, 0 ≤ f j ∧ f j < 4294967296) (name : ByteArray) (w : World) : Calls Tryz.prog 91 #[.string name, .agg #[.int .u32 (f 0), .int .u32 (f 1)]] w (Ret (SomeNode 35 1 (.mk name 8 0 ⟨#[]⟩ (kids91 f)) w)) := by
  go_enter Tryz.func91, Tryz.ntmps91
  refine tree_start (T := 89) (vals := #[.int .u32 (f 0), .int .u32 (f 1)]) (name := name) (fun a w h => by go_simp) (by simp) rfl rfl rfl (fun a2 w2 y2 A2 S2 => ?_)
  have z2 : a2.tmps.size = 27 := y2
  refine wp_seq (field32 (b := 8) (i := 0) (T := 89) (x := f 0) (fun a w h => by go_simp) rfl (hf 0).1 (hf 0).2 (by omega) (by omega) A2 S2 (by simp) (fun a3 v3 w3 y3 A3 S3 => ?_))
  have z3 := y3.trans z2
  refine wp_seq (field32 (b := 17) (i := 1) (T := 89) (x := f 1) (fun a w h => by go_simp) rfl (hf 1).1 (hf 1).2 (by omega) (by omega) A3 S3 (by simp) (fun a4 v4 w4 y4 A4 S4 => ?_))
  have z4 := y4.trans z3
  exact tree_end (d := 0) (c := 26) rfl (by omega) (by omega) A4 S4 S4.R
def kids92 (f : Nat → Int) : List NT := [leaf ⟨#[84, 114, 121, 76, 111, 103, 115, 112, 97, 99, 101]⟩ (f 0), leaf ⟨#[83, 108, 101, 101, 112, 76, 111, 103, 115, 112, 97, 99, 101]⟩ (f 1), leaf ⟨#[80, 117, 115, 104, 101, 115]⟩ (f 2), leaf ⟨#[83, 117, 99, 99, 101, 115, 115]⟩ (f 3), leaf ⟨#[80, 117, 115, 104, 66, 117, 102]⟩ (f 4), leaf ⟨#[80, 105, 110, 110, 101, 100]⟩ (f 5), leaf ⟨#[76, 111, 99, 107, 101, 100]⟩ (f 6), leaf ⟨#[70, 108, 117, 115, 104, 105, 110, 103]⟩ (f 7), leaf ⟨#[82, 101, 115, 116, 97, 114, 116, 115]⟩ (f 8), leaf ⟨#[70, 108, 117, 115, 104]⟩ (f 9)]
set_option maxRecDepth 100000 in
theorem tree92 (f : Nat → Int) (hf : ∀ j, 0 ≤ f j ∧ f j < 4294967296) (name : ByteArray) (w : World) : Calls Tryz.prog 92 #[.string name, .agg #[.int .u32 (f 0), .int .u32 (f 1), .int .u32 (f 2), .int .u32 (f 3), .int .u32 (f 4), .int .u32 (f 5), .int .u32 (f 6), .int .u32 (f 7), .int .u32 (f 8), .int .u32 (f 9)]] w (Ret (SomeNode 35 1 (.mk name 8 0 ⟨#[]⟩ (kids92 f)) w)) := by
  go_enter Tryz.func92, Tryz.ntmps92
  refine tree_start (T := 91) (vals := #[.int .u32 (f 0), .int .u32 (f 1), .int .u32 (f 2), .int .u32 (f 3), .int .u32 (f 4), .int .u32 (f 5), .int .u32 (f 6), .int .u32 (f 7), .int .u32 (f 8), .int .u32 (f 9)]) (name := name) (fun a w h => by go_simp) (by simp) rfl rfl rfl (fun a2 w2 y2 A2 S2 => ?_)
  have z2 : a2.tmps.size = 99 := y2
  refine wp_seq (field32 (b := 8) (i := 0) (T := 91) (x := f 0) (fun a w h => by go_simp) rfl (hf 0).1 (hf 0).2 (by omega) (by omega) A2 S2 (by simp) (fun a3 v3 w3 y3 A3 S3 => ?_))
  have z3 := y3.trans z2
  refine wp_seq (field32 (b := 17) (i := 1) (T := 91) (x := f 1) (fun a w h => by go_simp) rfl (hf 1).1 (hf 1).2 (by omega) (by omega) A3 S3 (by simp) (fun a4 v4 w4 y4 A4 S4 => ?_))
  have z4 := y4.trans z3
  refine wp_seq (field32 (b := 26) (i := 2) (T := 91) (x := f 2) (fun a w h => by go_simp) rfl (hf 2).1 (hf 2).2 (by omega) (by omega) A4 S4 (by simp) (fun a5 v5 w5 y5 A5 S5 => ?_))
  have z5 := y5.trans z4
  refine wp_seq (field32 (b := 35) (i := 3) (T := 91) (x := f 3) (fun a w h => by go_simp) rfl (hf 3).1 (hf 3).2 (by omega) (by omega) A5 S5 (by simp) (fun a6 v6 w6 y6 A6 S6 => ?_))
  have z6 := y6.trans z5
  refine wp_seq (field32 (b := 44) (i := 4) (T := 91) (x := f 4) (fun a w h => by go_simp) rfl (hf 4).1 (hf 4).2 (by omega) (by omega) A6 S6 (by simp) (fun a7 v7 w7 y7 A7 S7 => ?_))
  have z7 := y7.trans z6
  refine wp_seq (field32 (b := 53) (i := 5) (T := 91) (x := f 5) (fun a w h => by go_simp) rfl (hf 5).1 (hf 5).2 (by omega) (by omega) A7 S7 (by simp) (fun a8 v8 w8 y8 A8 S8 => ?_))
  have z8 := y8.trans z7
  refine wp_seq (field32 (b := 62) (i := 6) (T := 91) (x := f 6) (fun a w h => by go_simp) rfl (hf 6).1 (hf 6).2 (by omega) (by omega) A8 S8 (by simp) (fun a9 v9 w9 y9 A9 S9 => ?_))
  have z9 := y9.trans z8
  refine wp_seq (field32 (b := 71) (i := 7) (T := 91) (x := f 7) (fun a w h => by go_simp) rfl (hf 7).1 (hf 7).2 (by omega) (by omega) A9 S9 (by simp) (fun a10 v10 w10 y10 A10 S10 => ?_))
  have z10 := y10.trans z9
  refine wp_seq (field32 (b := 80) (i := 8) (T := 91) (x := f 8) (fun a w h => by go_simp) rfl (hf 8).1 (hf 8).2 (by omega) (by omega) A10 S10 (by simp) (fun a11 v11 w11 y11 A11 S11 => ?_))
  have z11 := y11.trans z10
  refine wp_seq (field32 (b := 89) (i := 9) (T := 91) (x := f 9) (fun a w h => by go_simp) rfl (hf 9).1 (hf 9).2 (by omega) (by omega) A11 S11 (by simp) (fun a12 v12 w12 y12 A12 S12 => ?_))
  have z12 := y12.trans z11
  exact tree_end (d := 0) (c := 98) rfl (by omega) (by omega) A12 S12 S12.R
def kids93 (f : Nat → Int) : List NT := [leaf ⟨#[69, 110, 97, 98, 108, 101, 100]⟩ (f 0)]
set_option maxRecDepth 100000 in
theorem tree93 (f : Nat → Int) (hf : ∀ j, 0 ≤ f j ∧ f j < 4294967296) (name : ByteArray) (w : World) : Calls Tryz.prog 93 #[.string name, .agg #[.int .u32 (f 0)]] w (Ret (SomeNode 35 1 (.mk name 8 0 ⟨#[]⟩ (kids93 f)) w)) := by
  go_enter Tryz.func93, Tryz.ntmps93
  refine tree_start (T := 93) (vals := #[.int .u32 (f 0)]) (name := name) (fun a w h => by go_simp) (by simp) rfl rfl rfl (fun a2 w2 y2 A2 S2 => ?_)
  have z2 : a2.tmps.size = 18 := y2
  refine wp_seq (field32 (b := 8) (i := 0) (T := 93) (x := f 0) (fun a w h => by go_simp) rfl (hf 0).1 (hf 0).2 (by omega) (by omega) A2 S2 (by simp) (fun a3 v3 w3 y3 A3 S3 => ?_))
  have z3 := y3.trans z2
  exact tree_end (d := 0) (c := 17) rfl (by omega) (by omega) A3 S3 S3.R
def kids94 (f : Nat → Int) : List NT := [leaf ⟨#[82, 101, 99, 108, 97, 105, 109, 115]⟩ (f 0), leaf ⟨#[82, 101, 99, 108, 97, 105, 109, 77, 105, 115, 115, 101, 115]⟩ (f 1), leaf ⟨#[68, 113, 117, 111, 116, 101, 68, 117, 112, 115]⟩ (f 2), leaf ⟨#[67, 97, 99, 104, 101, 77, 105, 115, 115, 101, 115]⟩ (f 3), leaf ⟨#[67, 97, 99, 104, 101, 72, 105, 116, 115]⟩ (f 4), leaf ⟨#[87, 97, 110, 116, 115]⟩ (f 5), leaf ⟨#[83, 104, 97, 107, 101, 82, 101, 99, 108, 97, 105, 109, 115]⟩ (f 6), leaf ⟨#[73, 110, 97, 99, 116, 82, 101, 99, 108, 97, 105, 109, 115]⟩ (f 7), leaf ⟨#[85, 110, 117, 115, 101, 100]⟩ (f 8)]
set_option maxRecDepth 100000 in
theorem tree94 (f : Nat → Int) (hf : ∀ j, 0 ≤ f j ∧ f j < 4294967296) (name : ByteArray) (w : World) : Calls Tryz.prog 94 #[.string name, .agg #[.int .u32 (f 0), .int .u32 (f 1), .int .u32 (f 2), .int .u32 (f 3), .int .u32 (f 4), .int .u32 (f 5), .int .u32 (f 6), .int .u32 (f 7), .int .u32 (f 8)]] w (Ret (SomeNode 35 1 (.mk name 8 0 ⟨#[]⟩ (kids94 f)) w)) := by
  go_enter Tryz.func94, Tryz.ntmps94
  refine tree_start (T := 95) (vals := #[.int .u32 (f 0), .int .u32 (f 1), .int .u32 (f 2), .int .u32 (f 3), .int .u32 (f 4), .int .u32 (f 5), .int .u32 (f 6), .int .u32 (f 7), .int .u32 (f 8)]) (name := name) (fun a w h => by go_simp) (by simp) rfl rfl rfl (fun a2 w2 y2 A2 S2 => ?_)
  have z2 : a2.tmps.size = 90 := y2
  refine wp_seq (field32 (b := 8) (i := 0) (T := 95) (x := f 0) (fun a w h => by go_simp) rfl (hf 0).1 (hf 0).2 (by omega) (by omega) A2 S2 (by simp) (fun a3 v3 w3 y3 A3 S3 => ?_))
  have z3 := y3.trans z2
  refine wp_seq (field32 (b := 17) (i := 1) (T := 95) (x := f 1) (fun a w h => by go_simp) rfl (hf 1).1 (hf 1).2 (by omega) (by omega) A3 S3 (by simp) (fun a4 v4 w4 y4 A4 S4 => ?_))
  have z4 := y4.trans z3
  refine wp_seq (field32 (b := 26) (i := 2) (T := 95) (x := f 2) (fun a w h => by go_simp) rfl (hf 2).1 (hf 2).2 (by omega) (by omega) A4 S4 (by simp) (fun a5 v5 w5 y5 A5 S5 => ?_))
  have z5 := y5.trans z4
  refine wp_seq (field32 (b := 35) (i := 3) (T := 95) (x := f 3) (fun a w h => by go_simp) rfl (hf 3).1 (hf 3).2 (by omega) (by omega) A5 S5 (by simp) (fun a6 v6 w6 y6 A6 S6 => ?_))
  have z6 := y6.trans z5
  refine wp_seq (field32 (b := 44) (i := 4) (T := 95) (x := f 4) (fun a w h => by go_simp) rfl (hf 4).1 (hf 4).2 (by omega) (by omega) A6 S6 (by simp) (fun a7 v7 w7 y7 A7 S7 => ?_))
  have z7 := y7.trans z6
  refine wp_seq (field32 (b := 53) (i := 5) (T := 95) (x := f 5) (fun a w h => by go_simp) rfl (hf 5).1 (hf 5).2 (by omega) (by omega) A7 S7 (by simp) (fun a8 v8 w8 y8 A8 S8 => ?_))
  have z8 := y8.trans z7
  refine wp_seq (field32 (b := 62) (i := 6) (T := 95) (x := f 6) (fun a w h => by go_simp) rfl (hf 6).1 (hf 6).2 (by omega) (by omega) A8 S8 (by simp) (fun a9 v9 w9 y9 A9 S9 => ?_))
  have z9 := y9.trans z8
  refine wp_seq (field32 (b := 71) (i := 7) (T := 95) (x := f 7) (fun a w h => by go_simp) rfl (hf 7).1 (hf 7).2 (by omega) (by omega) A9 S9 (by simp) (fun a10 v10 w10 y10 A10 S10 => ?_))
  have z10 := y10.trans z9
  refine wp_seq (field32 (b := 80) (i := 8) (T := 95) (x := f 8) (fun a w h => by go_simp) rfl (hf 8).1 (hf 8).2 (by omega) (by omega) A10 S10 (by simp) (fun a11 v11 w11 y11 A11 S11 => ?_))
  have z11 := y11.trans z10
  exact tree_end (d := 0) (c := 89) rfl (by omega) (by omega) A11 S11 S11.R
def kids95 (f : Nat → Int) : List NT := [leaf ⟨#[76, 111, 111, 107, 117, 112]⟩ (f 0), leaf ⟨#[67, 111, 109, 112, 97, 114, 101]⟩ (f 1), leaf ⟨#[73, 110, 115, 114, 101, 99]⟩ (f 2), leaf ⟨#[68, 101, 108, 114, 101, 99]⟩ (f 3), leaf ⟨#[78, 101, 119, 82, 111, 111, 116]⟩ (f 4), leaf ⟨#[75, 105, 108, 108, 82, 111, 111, 116]⟩ (f 5), leaf ⟨#[73, 110, 99, 114, 101, 109, 101, 110, 116]⟩ (f 6), leaf ⟨#[68, 101, 99, 114, 101, 109, 101, 110, 116]⟩ (f 7), leaf ⟨#[76, 115, 104, 105, 102, 116]⟩ (f 8), leaf ⟨#[82, 115, 104, 105, 102, 116]⟩ (f 9), leaf ⟨#[83, 112, 108, 105, 116]⟩ (f 10), leaf ⟨#[74, 111, 105, 110]⟩ (f 11), leaf ⟨#[65, 108, 108, 111, 99]⟩ (f 12), leaf ⟨#[70, 114, 101, 101]⟩ (f 13), leaf ⟨#[77, 111, 118, 101, 115]⟩ (f 14)]
set_option maxRecDepth 100000 in
theorem tree95 (f : Nat → Int) (hf : ∀ j, 0 ≤ f j ∧ f j < 4294967296) (name : ByteArray) (w : World) : Calls Tryz.prog 95 #[.string name, .agg #[.int .u32 (f 0), .int .u32 (f 1), .int .u32 (f 2), .int .u32 (f 3), .int .u32 (f 4), .int .u32 (f 5), .int .u32 (f 6), .int .u32 (f 7), .int .u32 (f 8), .int .u32 (f 9), .int .u32 (f 10), .int .u32 (f 11), .int .u32 (f 12), .int .u32 (f 13), .int .u32 (f 14)]] w (Ret (SomeNode 35 1 (.mk name 8 0 ⟨#[]⟩ (kids95 f)) w)) := by
  go_enter Tryz.func95, Tryz.ntmps95
  refine tree_start (T := 97) (vals := #[.int .u32 (f 0), .int .u32 (f 1), .int .u32 (f 2), .int .u32 (f 3), .int .u32 (f 4), .int .u32 (f 5), .int .u32 (f 6), .int .u32 (f 7), .int .u32 (f 8), .int .u32 (f 9), .int .u32 (f 10), .int .u32 (f 11), .int .u32 (f 12), .int .u32 (f 13), .int .u32 (f 14)]) (name := name) (fun a w h => by go_simp) (by simp) rfl rfl rfl (fun a2 w2 y2 A2 S2 => ?_)
  have z2 : a2.tmps.size = 144 := y2
  refine wp_seq (field32 (b := 8) (i := 0) (T := 97) (x := f 0) (fun a w h => by go_simp) rfl (hf 0).1 (hf 0).2 (by omega) (by omega) A2 S2 (by simp) (fun a3 v3 w3 y3 A3 S3 => ?_))
  have z3 := y3.trans z2
  refine wp_seq (field32 (b := 17) (i := 1) (T := 97) (x := f 1) (fun a w h => by go_simp) rfl (hf 1).1 (hf 1).2 (by omega) (by omega) A3 S3 (by simp) (fun a4 v4 w4 y4 A4 S4 => ?_))
  have z4 := y4.trans z3
  refine wp_seq (field32 (b := 26) (i := 2) (T := 97) (x := f 2) (fun a w h => by go_simp) rfl (hf 2).1 (hf 2).2 (by omega) (by omega) A4 S4 (by simp) (fun a5 v5 w5 y5 A5 S5 => ?_))
  have z5 := y5.trans z4
  refine wp_seq (field32 (b := 35) (i := 3) (T := 97) (x := f 3) (fun a w h => by go_simp) rfl (hf 3).1 (hf 3).2 (by omega) (by omega) A5 S5 (by simp) (fun a6 v6 w6 y6 A6 S6 => ?_))
  have z6 := y6.trans z5
  refine wp_seq (field32 (b := 44) (i := 4) (T := 97) (x := f 4) (fun a w h => by go_simp) rfl (hf 4).1 (hf 4).2 (by omega) (by omega) A6 S6 (by simp) (fun a7 v7 w7 y7 A7 S7 => ?_))
  have z7 := y7.trans z6
  refine wp_seq (field32 (b := 53) (i := 5) (T := 97) (x := f 5) (fun a w h => by go_simp) rfl (hf 5).1 (hf 5).2 (by omega) (by omega) A7 S7 (by simp) (fun a8 v8 w8 y8 A8 S8 => ?_))
  have z8 := y8.trans z7
  refine wp_seq (field32 (b := 62) (i := 6) (T := 97) (x := f 6) (fun a w h => by go_simp) rfl (hf 6).1 (hf 6).2 (by omega) (by omega) A8 S8 (by simp) (fun a9 v9 w9 y9 A9 S9 => ?_))
  have z9 := y9.trans z8
  refine wp_seq (field32 (b := 71) (i := 7) (T := 97) (x := f 7) (fun a w h => by go_simp) rfl (hf 7).1 (hf 7).2 (by omega) (by omega) A9 S9 (by simp) (fun a10 v10 w10 y10 A10 S10 => ?_))
  have z10 := y10.trans z9
  refine wp_seq (field32 (b := 80) (i := 8) (T := 97) (x := f 8) (fun a w h => by go_simp) rfl (hf 8).1 (hf 8).2 (by omega) (by omega) A10 S10 (by simp) (fun a11 v11 w11 y11 A11 S11 => ?_))
  have z11 := y11.trans z10
  refine wp_seq (field32 (b := 89) (i := 9) (T := 97) (x := f 9) (fun a w h => by go_simp) rfl (hf 9).1 (hf 9).2 (by omega) (by omega) A11 S11 (by simp) (fun a12 v12 w12 y12 A12 S12 => ?_))
  have z12 := y12.trans z11
  refine wp_seq (field32 (b := 98) (i := 10) (T := 97) (x := f 10) (fun a w h => by go_simp) rfl (hf 10).1 (hf 10).2 (by omega) (by omega) A12 S12 (by simp) (fun a13 v13 w13 y13 A13 S13 => ?_))
  have z13 := y13.trans z12
  refine wp_seq (field32 (b := 107) (i := 11) (T := 97) (x := f 11) (fun a w h => by go_simp) rfl (hf 11).1 (hf 11).2 (by omega) (by omega) A13 S13 (by simp) (fun a14 v14 w14 y14 A14 S14 => ?_))
  have z14 := y14.trans z13
  refine wp_seq (field32 (b := 116) (i := 12) (T := 97) (x := f 12) (fun a w h => by go_simp) rfl (hf 12).1 (hf 12).2 (by omega) (by omega) A14 S14 (by simp) (fun a15 v15 w15 y15 A15 S15 => ?_))
  have z15 := y15.trans z14
  refine wp_seq (field32 (b := 125) (i := 13) (T := 97) (x := f 13) (fun a w h => by go_simp) rfl (hf 13).1 (hf 13).2 (by omega) (by omega) A15 S15 (by simp) (fun a16 v16 w16 y16 A16 S16 => ?_))
  have z16 := y16.trans z15
  refine wp_seq (field32 (b := 134) (i := 14) (T := 97) (x := f 14) (fun a w h => by go_simp) rfl (hf 14).1 (hf 14).2 (by omega) (by omega) A16 S16 (by simp) (fun a17 v17 w17 y17 A17 S17 => ?_))
  have z17 := y17.trans z16
  exact tree_end (d := 0) (c := 143) rfl (by omega) (by omega) A17 S17 S17.R
def kids96 (f : Nat → Int) : List NT := [leaf ⟨#[76, 111, 111, 107, 117, 112]⟩ (f 0), leaf ⟨#[67, 111, 109, 112, 97, 114, 101]⟩ (f 1), leaf ⟨#[73, 110, 115, 114, 101, 99]⟩ (f 2), leaf ⟨#[68, 101, 108, 114, 101, 99]⟩ (f 3), leaf ⟨#[78, 101, 119, 82, 111, 111, 116]⟩ (f 4), leaf ⟨#[75, 105, 108, 108, 82, 111, 111, 116]⟩ (f 5), leaf ⟨#[73, 110, 99, 114, 101, 109, 101, 110, 116]⟩ (f 6), leaf ⟨#[68, 101, 99, 114, 101, 109, 101, 110, 116]⟩ (f 7), leaf ⟨#[76, 115, 104, 105, 102, 116]⟩ (f 8), leaf ⟨#[82, 115, 104, 105, 102, 116]⟩ (f 9), leaf ⟨#[83, 112, 108, 105, 116]⟩ (f 10), leaf ⟨#[74, 111, 105, 110]⟩ (f 11), leaf ⟨#[65, 108, 108, 111, 99]⟩ (f 12), leaf ⟨#[70, 114, 101, 101]⟩ (f 13), leaf ⟨#[77, 111, 118, 101, 115]⟩ (f 14)]
set_option maxRecDepth 100000 in
theorem tree96 (f : Nat → Int) (hf : ∀ j, 0 ≤ f j ∧ f j < 4294967296) (name : ByteArray) (w : World) : Calls Tryz.prog 96 #[.string name, .agg #[.int .u32 (f 0), .int .u32 (f 1), .int .u32 (f 2), .int .u32 (f 3), .int .u32 (f 4), .int .u32 (f 5), .int .u32 (f 6), .int .u32 (f 7), .int .u32 (f 8), .int .u32 (f 9), .int .u32 (f 10), .int .u32 (f 11), .int .u32 (f 12), .int .u32 (f 13), .int .u32 (f 14)]] w (Ret (SomeNode 35 1 (.mk name 8 0 ⟨#[]⟩ (kids96 f)) w)) := by
  go_enter Tryz.func96, Tryz.ntmps96
  refine tree_start (T := 98) (vals := #[.int .u32 (f 0), .int .u32 (f 1), .int .u32 (f 2), .int .u32 (f 3), .int .u32 (f 4), .int .u32 (f 5), .int .u32 (f 6), .int .u32 (f 7), .int .u32 (f 8), .int .u32 (f 9), .int .u32 (f 10), .int .u32 (f 11), .int .u32 (f 12), .int .u32 (f 13), .int .u32 (f 14)]) (name := name) (fun a w h => by go_simp) (by simp) rfl rfl rfl (fun a2 w2 y2 A2 S2 => ?_)
  have z2 : a2.tmps.size = 144 := y2
  refine wp_seq (field32 (b := 8) (i := 0) (T := 98) (x := f 0) (fun a w h => by go_simp) rfl (hf 0).1 (hf 0).2 (by omega) (by omega) A2 S2 (by simp) (fun a3 v3 w3 y3 A3 S3 => ?_))
  have z3 := y3.trans z2
  refine wp_seq (field32 (b := 17) (i := 1) (T := 98) (x := f 1) (fun a w h => by go_simp) rfl (hf 1).1 (hf 1).2 (by omega) (by omega) A3 S3 (by simp) (fun a4 v4 w4 y4 A4 S4 => ?_))
  have z4 := y4.trans z3
  refine wp_seq (field32 (b := 26) (i := 2) (T := 98) (x := f 2) (fun a w h => by go_simp) rfl (hf 2).1 (hf 2).2 (by omega) (by omega) A4 S4 (by simp) (fun a5 v5 w5 y5 A5 S5 => ?_))
  have z5 := y5.trans z4
  refine wp_seq (field32 (b := 35) (i := 3) (T := 98) (x := f 3) (fun a w h => by go_simp) rfl (hf 3).1 (hf 3).2 (by omega) (by omega) A5 S5 (by simp) (fun a6 v6 w6 y6 A6 S6 => ?_))
  have z6 := y6.trans z5
  refine wp_seq (field32 (b := 44) (i := 4) (T := 98) (x := f 4) (fun a w h => by go_simp) rfl (hf 4).1 (hf 4).2 (by omega) (by omega) A6 S6 (by simp) (fun a7 v7 w7 y7 A7 S7 => ?_))
  have z7 := y7.trans z6
  refine wp_seq (field32 (b := 53) (i := 5) (T := 98) (x := f 5) (fun a w h => by go_simp) rfl (hf 5).1 (hf 5).2 (by omega) (by omega) A7 S7 (by simp) (fun a8 v8 w8 y8 A8 S8 => ?_))
  have z8 := y8.trans z7
  refine wp_seq (field32 (b := 62) (i := 6) (T := 98) (x := f 6) (fun a w h => by go_simp) rfl (hf 6).1 (hf 6).2 (by omega) (by omega) A8 S8 (by simp) (fun a9 v9 w9 y9 A9 S9 => ?_))
  have z9 := y9.trans z8
  refine wp_seq (field32 (b := 71) (i := 7) (T := 98) (x := f 7) (fun a w h => by go_simp) rfl (hf 7).1 (hf 7).2 (by omega) (by omega) A9 S9 (by simp) (fun a10 v10 w10 y10 A10 S10 => ?_))
  have z10 := y10.trans z9
  refine wp_seq (field32 (b := 80) (i := 8) (T := 98) (x := f 8) (fun a w h => by go_simp) rfl (hf 8).1 (hf 8).2 (by omega) (by omega) A10 S10 (by simp) (fun a11 v11 w11 y11 A11 S11 => ?_))
  have z11 := y11.trans z10
  refine wp_seq (field32 (b := 89) (i := 9) (T := 98) (x := f 9) (fun a w h => by go_simp) rfl (hf 9).1 (hf 9).2 (by omega) (by omega) A11 S11 (by simp) (fun a12 v12 w12 y12 A12 S12 => ?_))
  have z12 := y12.trans z11
  refine wp_seq (field32 (b := 98) (i := 10) (T := 98) (x := f 10) (fun a w h => by go_simp) rfl (hf 10).1 (hf 10).2 (by omega) (by omega) A12 S12 (by simp) (fun a13 v13 w13 y13 A13 S13 => ?_))
  have z13 := y13.trans z12
  refine wp_seq (field32 (b := 107) (i := 11) (T := 98) (x := f 11) (fun a w h => by go_simp) rfl (hf 11).1 (hf 11).2 (by omega) (by omega) A13 S13 (by simp) (fun a14 v14 w14 y14 A14 S14 => ?_))
  have z14 := y14.trans z13
  refine wp_seq (field32 (b := 116) (i := 12) (T := 98) (x := f 12) (fun a w h => by go_simp) rfl (hf 12).1 (hf 12).2 (by omega) (by omega) A14 S14 (by simp) (fun a15 v15 w15 y15 A15 S15 => ?_))
  have z15 := y15.trans z14
  refine wp_seq (field32 (b := 125) (i := 13) (T := 98) (x := f 13) (fun a w h => by go_simp) rfl (hf 13).1 (hf 13).2 (by omega) (by omega) A15 S15 (by simp) (fun a16 v16 w16 y16 A16 S16 => ?_))
  have z16 := y16.trans z15
  refine wp_seq (field32 (b := 134) (i := 14) (T := 98) (x := f 14) (fun a w h => by go_simp) rfl (hf 14).1 (hf 14).2 (by omega) (by omega) A16 S16 (by simp) (fun a17 v17 w17 y17 A17 S17 => ?_))
  have z17 := y17.trans z16
  exact tree_end (d := 0) (c := 143) rfl (by omega) (by omega) A17 S17 S17.R
def kids97 (f : Nat → Int) : List NT := [leaf ⟨#[76, 111, 111, 107, 117, 112]⟩ (f 0), leaf ⟨#[67, 111, 109, 112, 97, 114, 101]⟩ (f 1), leaf ⟨#[73, 110, 115, 114, 101, 99]⟩ (f 2), leaf ⟨#[68, 101, 108, 114, 101, 99]⟩ (f 3), leaf ⟨#[78, 101, 119, 82, 111, 111, 116]⟩ (f 4), leaf ⟨#[75, 105, 108, 108, 82, 111, 111, 116]⟩ (f 5), leaf ⟨#[73, 110, 99, 114, 101, 109, 101, 110, 116]⟩ (f 6), leaf ⟨#[68, 101, 99, 114, 101, 109, 101, 110, 116]⟩ (f 7), leaf ⟨#[76, 115, 104, 105, 102, 116]⟩ (f 8), leaf ⟨#[82, 115, 104, 105, 102, 116]⟩ (f 9), leaf ⟨#[83, 112, 108, 105, 116]⟩ (f 10), leaf ⟨#[74, 111, 105, 110]⟩ (f 11), leaf ⟨#[65, 108, 108, 111, 99]⟩ (f 12), leaf ⟨#[70, 114, 101, 101]⟩ (f 13), leaf ⟨#[77, 111, 118, 101, 115]⟩ (f 14)]
set_option maxRecDepth 100000 in
theorem tree97 (f : Nat → Int) (hf : ∀ j, 0 ≤ f j ∧ f j < 4294967296) (name : ByteArray) (w : World) : Calls Tryz.prog 97 #[.string name, .agg #[.int .u32 (f 0), .int .u32 (f 1), .int .u32 (f 2), .int .u32 (f 3), .int .u32 (f 4), .int .u32 (f 5), .int .u32 (f 6), .int .u32 (f 7), .int .u32 (f 8), .int .u32 (f 9), .int .u32 (f 10), .int .u32 (f 11), .int .u32 (f 12), .int .u32 (f 13), .int .u32 (f 14)]] w (Ret (SomeNode 35 1 (.mk name 8 0 ⟨#[]⟩ (kids97 f)) w)) := by
  go_enter Tryz.func97, Tryz.ntmps97
  refine tree_start (T := 99) (vals := #[.int .u32 (f 0), .int .u32 (f 1), .int .u32 (f 2), .int .u32 (f 3), .int .u32 (f 4), .int .u32 (f 5), .int .u32 (f 6), .int .u32 (f 7), .int .u32 (f 8), .int .u32 (f 9), .int .u32 (f 10), .int .u32 (f 11), .int .u32 (f 12), .int .u32 (f 13), .int .u32 (f 14)]) (name := name) (fun a w h => by go_simp) (by simp) rfl rfl rfl (fun a2 w2 y2 A2 S2 => ?_)
  have z2 : a2.tmps.size = 144 := y2
  refine wp_seq (field32 (b := 8) (i := 0) (T := 99) (x := f 0) (fun a w h => by go_simp) rfl (hf 0).1 (hf 0).2 (by omega) (by omega) A2 S2 (by simp) (fun a3 v3 w3 y3 A3 S3 => ?_))
  have z3 := y3.trans z2
  refine wp_seq (field32 (b := 17) (i := 1) (T := 99) (x := f 1) (fun a w h => by go_simp) rfl (hf 1).1 (hf 1).2 (by omega) (by omega) A3 S3 (by simp) (fun a4 v4 w4 y4 A4 S4 => ?_))
  have z4 := y4.trans z3
  refine wp_seq (field32 (b := 26) (i := 2) (T := 99) (x := f 2) (fun a w h => by go_simp) rfl (hf 2).1 (hf 2).2 (by omega) (by omega) A4 S4 (by simp) (fun a5 v5 w5 y5 A5 S5 => ?_))
  have z5 := y5.trans z4
  refine wp_seq (field32 (b := 35) (i := 3) (T := 99) (x := f 3) (fun a w h => by go_simp) rfl (hf 3).1 (hf 3).2 (by omega) (by omega) A5 S5 (by simp) (fun a6 v6 w6 y6 A6 S6 => ?_))
  have z6 := y6.trans z5
  refine wp_seq (field32 (b := 44) (i := 4) (T := 99) (x := f 4) (fun a w h => by go_simp) rfl (hf 4).1 (hf 4).2 (by omega) (by omega) A6 S6 (by simp) (fun a7 v7 w7 y7 A7 S7 => ?_))
  have z7 := y7.trans z6
  refine wp_seq (field32 (b := 53) (i := 5) (T := 99) (x := f 5) (fun a w h => by go_simp) rfl (hf 5).1 (hf 5).2 (by omega) (by omega) A7 S7 (by simp) (fun a8 v8 w8 y8 A8 S8 => ?_))
  have z8 := y8.trans z7
  refine wp_seq (field32 (b := 62) (i := 6) (T := 99) (x := f 6) (fun a w h => by go_simp) rfl (hf 6).1 (hf 6).2 (by omega) (by omega) A8 S8 (by simp) (fun a9 v9 w9 y9 A9 S9 => ?_))
  have z9 := y9.trans z8
  refine wp_seq (field32 (b := 71) (i := 7) (T := 99) (x := f 7) (fun a w h => by go_simp) rfl (hf 7).1 (hf 7).2 (by omega) (by omega) A9 S9 (by simp) (fun a10 v10 w10 y10 A10 S10 => ?_))
  have z10 := y10.trans z9
  refine wp_seq (field32 (b := 80) (i := 8) (T := 99) (x := f 8) (fun a w h => by go_simp) rfl (hf 8).1 (hf 8).2 (by omega) (by omega) A10 S10 (by simp) (fun a11 v11 w11 y11 A11 S11 => ?_))
  have z11 := y11.trans z10
  refine wp_seq (field32 (b := 89) (i := 9) (T := 99) (x := f 9) (fun a w h => by go_simp) rfl (hf 9).1 (hf 9).2 (by omega) (by omega) A11 S11 (by simp) (fun a12 v12 w12 y12 A12 S12 => ?_))
  have z12 := y12.trans z11
  refine wp_seq (field32 (b := 98) (i := 10) (T := 99) (x := f 10) (fun a w h => by go_simp) rfl (hf 10).1 (hf 10).2 (by omega) (by omega) A12 S12 (by simp) (fun a13 v13 w13 y13 A13 S13 => ?_))
  have z13 := y13.trans z12
  refine wp_seq (field32 (b := 107) (i := 11) (T := 99) (x := f 11) (fun a w h => by go_simp) rfl (hf 11).1 (hf 11).2 (by omega) (by omega) A13 S13 (by simp) (fun a14 v14 w14 y14 A14 S14 => ?_))
  have z14 := y14.trans z13
  refine wp_seq (field32 (b := 116) (i := 12) (T := 99) (x := f 12) (fun a w h => by go_simp) rfl (hf 12).1 (hf 12).2 (by omega) (by omega) A14 S14 (by simp) (fun a15 v15 w15 y15 A15 S15 => ?_))
  have z15 := y15.trans z14
  refine wp_seq (field32 (b := 125) (i := 13) (T := 99) (x := f 13) (fun a w h => by go_simp) rfl (hf 13).1 (hf 13).2 (by omega) (by omega) A15 S15 (by simp) (fun a16 v16 w16 y16 A16 S16 => ?_))
  have z16 := y16.trans z15
  refine wp_seq (field32 (b := 134) (i := 14) (T := 99) (x := f 14) (fun a w h => by go_simp) rfl (hf 14).1 (hf 14).2 (by omega) (by omega) A16 S16 (by simp) (fun a17 v17 w17 y17 A17 S17 => ?_))
  have z17 := y17.trans z16
  exact tree_end (d := 0) (c := 143) rfl (by omega) (by omega) A17 S17 S17.R
def kids98 (f : Nat → Int) : List NT := [leaf ⟨#[76, 111, 111, 107, 117, 112]⟩ (f 0), leaf ⟨#[67, 111, 109, 112, 97, 114, 101]⟩ (f 1), leaf ⟨#[73, 110, 115, 114, 101, 99]⟩ (f 2), leaf ⟨#[68, 101, 108, 114, 101, 99]⟩ (f 3), leaf ⟨#[78, 101, 119, 82, 111, 111, 116]⟩ (f 4), leaf ⟨#[75, 105, 108, 108, 82, 111, 111, 116]⟩ (f 5), leaf ⟨#[73, 110, 99, 114, 101, 109, 101, 110, 116]⟩ (f 6), leaf ⟨#[68, 101, 99, 114, 101, 109, 101, 110, 116]⟩ (f 7), leaf ⟨#[76, 115, 104, 105, 102, 116]⟩ (f 8), leaf ⟨#[82, 115, 104, 105, 102, 116]⟩ (f 9), leaf ⟨#[83, 112, 108, 105, 116]⟩ (f 10), leaf ⟨#[74, 111, 105, 110]⟩ (f 11), leaf ⟨#[65, 108, 108, 111, 99]⟩ (f 12), leaf ⟨#[70, 114, 101, 101]⟩ (f 13), leaf ⟨#[77, 111, 118, 101, 115]⟩ (f 14)]
set_option maxRecDepth 100000 in
theorem tree98 (f : Nat → Int) (hf : ∀ j, 0 ≤ f j ∧ f j < 4294967296) (name : ByteArray) (w : World) : Calls Tryz.prog 98 #[.string name, .agg #[.int .u32 (f 0), .int .u32 (f 1), .int .u32 (f 2), .int .u32 (f 3), .int .u32 (f 4), .int .u32 (f 5), .int .u32 (f 6), .int .u32 (f 7), .int .u32 (f 8), .int .u32 (f 9), .int .u32 (f 10), .int .u32 (f 11), .int .u32 (f 12), .int .u32 (f 13), .int .u32 (f 14)]] w (Ret (SomeNode 35 1 (.mk name 8 0 ⟨#[]⟩ (kids98 f)) w)) := by
  go_enter Tryz.func98, Tryz.ntmps98
  refine tree_start (T := 100) (vals := #[.int .u32 (f 0), .int .u32 (f 1), .int .u32 (f 2), .int .u32 (f 3), .int .u32 (f 4), .int .u32 (f 5), .int .u32 (f 6), .int .u32 (f 7), .int .u32 (f 8), .int .u32 (f 9), .int .u32 (f 10), .int .u32 (f 11), .int .u32 (f 12), .int .u32 (f 13), .int .u32 (f 14)]) (name := name) (fun a w h => by go_simp) (by simp) rfl rfl rfl (fun a2 w2 y2 A2 S2 => ?_)
  have z2 : a2.tmps.size = 144 := y2
  refine wp_seq (field32 (b := 8) (i := 0) (T := 100) (x := f 0) (fun a w h => by go_simp) rfl (hf 0).1 (hf 0).2 (by omega) (by omega) A2 S2 (by simp) (fun a3 v3 w3 y3 A3 S3 => ?_))
  have z3 := y3.trans z2
  refine wp_seq (field32 (b := 17) (i := 1) (T := 100) (x := f 1) (fun a w h => by go_simp) rfl (hf 1).1 (hf 1).2 (by omega) (by omega) A3 S3 (by simp) (fun a4 v4 w4 y4 A4 S4 => ?_))
  have z4 := y4.trans z3
  refine wp_seq (field32 (b := 26) (i := 2) (T := 100) (x := f 2) (fun a w h => by go_simp) rfl (hf 2).1 (hf 2).2 (by omega) (by omega) A4 S4 (by simp) (fun a5 v5 w5 y5 A5 S5 => ?_))
  have z5 := y5.trans z4
  refine wp_seq (field32 (b := 35) (i := 3) (T := 100) (x := f 3) (fun a w h => by go_simp) rfl (hf 3).1 (hf 3).2 (by omega) (by omega) A5 S5 (by simp) (fun a6 v6 w6 y6 A6 S6 => ?_))
  have z6 := y6.trans z5
  refine wp_seq (field32 (b := 44) (i := 4) (T := 100) (x := f 4) (fun a w h => by go_simp) rfl (hf 4).1 (hf 4).2 (by omega) (by omega) A6 S6 (by simp) (fun a7 v7 w7 y7 A7 S7 => ?_))
  have z7 := y7.trans z6
  refine wp_seq (field32 (b := 53) (i := 5) (T := 100) (x := f 5) (fun a w h => by go_simp) rfl (hf 5).1 (hf 5).2 (by omega) (by omega) A7 S7 (by simp) (fun a8 v8 w8 y8 A8 S8 => ?_))
  have z8 := y8.trans z7
  refine wp_seq (field32 (b := 62) (i := 6) (T := 100) (x := f 6) (fun a w h => by go_simp) rfl (hf 6).1 (hf 6).2 (by omega) (by omega) A8 S8 (by simp) (fun a9 v9 w9 y9 A9 S9 => ?_))
  have z9 := y9.trans z8
  refine wp_seq (field32 (b := 71) (i := 7) (T := 100) (x := f 7) (fun a w h => by go_simp) rfl (hf 7).1 (hf 7).2 (by omega) (by omega) A9 S9 (by simp) (fun a10 v10 w10 y10 A10 S10 => ?_))
  have z10 := y10.trans z9
  refine wp_seq (field32 (b := 80) (i := 8) (T := 100) (x := f 8) (fun a w h => by go_simp) rfl (hf 8).1 (hf 8).2 (by omega) (by omega) A10 S10 (by simp) (fun a11 v11 w11 y11 A11 S11 => ?_))
  have z11 := y11.trans z10
  refine wp_seq (field32 (b := 89) (i := 9) (T := 100) (x := f 9) (fun a w h => by go_simp) rfl (hf 9).1 (hf 9).2 (by omega) (by omega) A11 S11 (by simp) (fun a12 v12 w12 y12 A12 S12 => ?_))
  have z12 := y12.trans z11
  refine wp_seq (field32 (b := 98) (i := 10) (T := 100) (x := f 10) (fun a w h => by go_simp) rfl (hf 10).1 (hf 10).2 (by omega) (by omega) A12 S12 (by simp) (fun a13 v13 w13 y13 A13 S13 => ?_))
  have z13 := y13.trans z12
  refine wp_seq (field32 (b := 107) (i := 11) (T := 100) (x := f 11) (fun a w h => by go_simp) rfl (hf 11).1 (hf 11).2 (by omega) (by omega) A13 S13 (by simp) (fun a14 v14 w14 y14 A14 S14 => ?_))
  have z14 := y14.trans z13
  refine wp_seq (field32 (b := 116) (i := 12) (T := 100) (x := f 12) (fun a w h => by go_simp) rfl (hf 12).1 (hf 12).2 (by omega) (by omega) A14 S14 (by simp) (fun a15 v15 w15 y15 A15 S15 => ?_))
  have z15 := y15.trans z14
  refine wp_seq (field32 (b := 125) (i := 13) (T := 100) (x := f 13) (fun a w h => by go_simp) rfl (hf 13).1 (hf 13).2 (by omega) (by omega) A15 S15 (by simp) (fun a16 v16 w16 y16 A16 S16 => ?_))
  have z16 := y16.trans z15
  refine wp_seq (field32 (b := 134) (i := 14) (T := 100) (x := f 14) (fun a w h => by go_simp) rfl (hf 14).1 (hf 14).2 (by omega) (by omega) A16 S16 (by simp) (fun a17 v17 w17 y17 A17 S17 => ?_))
  have z17 := y17.trans z16
  exact tree_end (d := 0) (c := 143) rfl (by omega) (by omega) A17 S17 S17.R
def kids99 (f : Nat → Int) : List NT := [leaf ⟨#[76, 111, 111, 107, 117, 112]⟩ (f 0), leaf ⟨#[67, 111, 109, 112, 97, 114, 101]⟩ (f 1), leaf ⟨#[73, 110, 115, 114, 101, 99]⟩ (f 2), leaf ⟨#[68, 101, 108, 114, 101, 99]⟩ (f 3), leaf ⟨#[78, 101, 119, 82, 111, 111, 116]⟩ (f 4), leaf ⟨#[75, 105, 108, 108, 82, 111, 111, 116]⟩ (f 5), leaf ⟨#[73, 110, 99, 114, 101, 109, 101, 110, 116]⟩ (f 6), leaf ⟨#[68, 101, 99, 114, 101, 109, 101, 110, 116]⟩ (f 7), leaf ⟨#[76, 115, 104, 105, 102, 116]⟩ (f 8), leaf ⟨#[82, 115, 104, 105, 102, 116]⟩ (f 9), leaf ⟨#[83, 112, 108, 105, 116]⟩ (f 10), leaf ⟨#[74, 111, 105, 110]⟩ (f 11), leaf ⟨#[65, 108, 108, 111, 99]⟩ (f 12), leaf ⟨#[70, 114, 101, 101]⟩ (f 13), leaf ⟨#[77, 111, 118, 101, 115]⟩ (f 14)]
set_option maxRecDepth 100000 in
theorem tree99 (f : Nat → Int) (hf : ∀ j, 0 ≤ f j ∧ f j < 4294967296) (name : ByteArray) (w : World) : Calls Tryz.prog 99 #[.string name, .agg #[.int .u32 (f 0), .int .u32 (f 1), .int .u32 (f 2), .int .u32 (f 3), .int .u32 (f 4), .int .u32 (f 5), .int .u32 (f 6), .int .u32 (f 7), .int .u32 (f 8), .int .u32 (f 9), .int .u32 (f 10), .int .u32 (f 11), .int .u32 (f 12), .int .u32 (f 13), .int .u32 (f 14)]] w (Ret (SomeNode 35 1 (.mk name 8 0 ⟨#[]⟩ (kids99 f)) w)) := by
  go_enter Tryz.func99, Tryz.ntmps99
  refine tree_start (T := 101) (vals := #[.int .u32 (f 0), .int .u32 (f 1), .int .u32 (f 2), .int .u32 (f 3), .int .u32 (f 4), .int .u32 (f 5), .int .u32 (f 6), .int .u32 (f 7), .int .u32 (f 8), .int .u32 (f 9), .int .u32 (f 10), .int .u32 (f 11), .int .u32 (f 12), .int .u32 (f 13), .int .u32 (f 14)]) (name := name) (fun a w h => by go_simp) (by simp) rfl rfl rfl (fun a2 w2 y2 A2 S2 => ?_)
  have z2 : a2.tmps.size = 144 := y2
  refine wp_seq (field32 (b := 8) (i := 0) (T := 101) (x := f 0) (fun a w h => by go_simp) rfl (hf 0).1 (hf 0).2 (by omega) (by omega) A2 S2 (by simp) (fun a3 v3 w3 y3 A3 S3 => ?_))
  have z3 := y3.trans z2
  refine wp_seq (field32 (b := 17) (i := 1) (T := 101) (x := f 1) (fun a w h => by go_simp) rfl (hf 1).1 (hf 1).2 (by omega) (by omega) A3 S3 (by simp) (fun a4 v4 w4 y4 A4 S4 => ?_))
  have z4 := y4.trans z3
  refine wp_seq (field32 (b := 26) (i := 2) (T := 101) (x := f 2) (fun a w h => by go_simp) rfl (hf 2).1 (hf 2).2 (by omega) (by omega) A4 S4 (by simp) (fun a5 v5 w5 y5 A5 S5 => ?_))
  have z5 := y5.trans z4
  refine wp_seq (field32 (b := 35) (i := 3) (T := 101) (x := f 3) (fun a w h => by go_simp) rfl (hf 3).1 (hf 3).2 (by omega) (by omega) A5 S5 (by simp) (fun a6 v6 w6 y6 A6 S6 => ?_))
  have z6 := y6.trans z5
  refine wp_seq (field32 (b := 44) (i := 4) (T := 101) (x := f 4) (fun a w h => by go_simp) rfl (hf 4).1 (hf 4).2 (by omega) (by omega) A6 S6 (by simp) (fun a7 v7 w7 y7 A7 S7 => ?_))
  have z7 := y7.trans z6
  refine wp_seq (field32 (b := 53) (i := 5) (T := 101) (x := f 5) (fun a w h => by go_simp) rfl (hf 5).1 (hf 5).2 (by omega) (by omega) A7 S7 (by simp) (fun a8 v8 w8 y8 A8 S8 => ?_))
  have z8 := y8.trans z7
  refine wp_seq (field32 (b := 62) (i := 6) (T := 101) (x := f 6) (fun a w h => by go_simp) rfl (hf 6).1 (hf 6).2 (by omega) (by omega) A8 S8 (by simp) (fun a9 v9 w9 y9 A9 S9 => ?_))
  have z9 := y9.trans z8
  refine wp_seq (field32 (b := 71) (i := 7) (T := 101) (x := f 7) (fun a w h => by go_simp) rfl (hf 7).1 (hf 7).2 (by omega) (by omega) A9 S9 (by simp) (fun a10 v10 w10 y10 A10 S10 => ?_))
  have z10 := y10.trans z9
  refine wp_seq (field32 (b := 80) (i := 8) (T := 101) (x := f 8) (fun a w h => by go_simp) rfl (hf 8).1 (hf 8).2 (by omega) (by omega) A10 S10 (by simp) (fun a11 v11 w11 y11 A11 S11 => ?_))
  have z11 := y11.trans z10
  refine wp_seq (field32 (b := 89) (i := 9) (T := 101) (x := f 9) (fun a w h => by go_simp) rfl (hf 9).1 (hf 9).2 (by omega) (by omega) A11 S11 (by simp) (fun a12 v12 w12 y12 A12 S12 => ?_))
  have z12 := y12.trans z11
  refine wp_seq (field32 (b := 98) (i := 10) (T := 101) (x := f 10) (fun a w h => by go_simp) rfl (hf 10).1 (hf 10).2 (by omega) (by omega) A12 S12 (by simp) (fun a13 v13 w13 y13 A13 S13 => ?_))
  have z13 := y13.trans z12
  refine wp_seq (field32 (b := 107) (i := 11) (T := 101) (x := f 11) (fun a w h => by go_simp) rfl (hf 11).1 (hf 11).2 (by omega) (by omega) A13 S13 (by simp) (fun a14 v14 w14 y14 A14 S14 => ?_))
  have z14 := y14.trans z13
  refine wp_seq (field32 (b := 116) (i := 12) (T := 101) (x := f 12) (fun a w h => by go_simp) rfl (hf 12).1 (hf 12).2 (by omega) (by omega) A14 S14 (by simp) (fun a15 v15 w15 y15 A15 S15 => ?_))
  have z15 := y15.trans z14
  refine wp_seq (field32 (b := 125) (i := 13) (T := 101) (x := f 13) (fun a w h => by go_simp) rfl (hf 13).1 (hf 13).2 (by omega) (by omega) A15 S15 (by simp) (fun a16 v16 w16 y16 A16 S16 => ?_))
  have z16 := y16.trans z15
  refine wp_seq (field32 (b := 134) (i := 14) (T := 101) (x := f 14) (fun a w h => by go_simp) rfl (hf 14).1 (hf 14).2 (by omega) (by omega) A16 S16 (by simp) (fun a17 v17 w17 y17 A17 S17 => ?_))
  have z17 := y17.trans z16
  exact tree_end (d := 0) (c := 143) rfl (by omega) (by omega) A17 S17 S17.R
def kids100 (f : Nat → Int) : List NT := [leaf ⟨#[76, 111, 111, 107, 117, 112]⟩ (f 0), leaf ⟨#[67, 111, 109, 112, 97, 114, 101]⟩ (f 1), leaf ⟨#[73, 110, 115, 114, 101, 99]⟩ (f 2), leaf ⟨#[68, 101, 108, 114, 101, 99]⟩ (f 3), leaf ⟨#[78, 101, 119, 82, 111, 111, 116]⟩ (f 4), leaf ⟨#[75, 105, 108, 108, 82, 111, 111, 116]⟩ (f 5), leaf ⟨#[73, 110, 99, 114, 101, 109, 101, 110, 116]⟩ (f 6), leaf ⟨#[68, 101, 99, 114, 101, 109, 101, 110, 116]⟩ (f 7), leaf ⟨#[76, 115, 104, 105, 102, 116]⟩ (f 8), leaf ⟨#[82, 115, 104, 105, 102, 116]⟩ (f 9), leaf ⟨#[83, 112, 108, 105, 116]⟩ (f 10), leaf ⟨#[74, 111, 105, 110]⟩ (f 11), leaf ⟨#[65, 108, 108, 111, 99]⟩ (f 12), leaf ⟨#[70, 114, 101, 101]⟩ (f 13), leaf ⟨#[77, 111, 118, 101, 115]⟩ (f 14)]
set_option maxRecDepth 100000 in
theorem tree100 (f : Nat → Int) (hf : ∀ j, 0 ≤ f j ∧ f j < 4294967296) (name : ByteArray) (w : World) : Calls Tryz.prog 100 #[.string name, .agg #[.int .u32 (f 0), .int .u32 (f 1), .int .u32 (f 2), .int .u32 (f 3), .int .u32 (f 4), .int .u32 (f 5), .int .u32 (f 6), .int .u32 (f 7), .int .u32 (f 8), .int .u32 (f 9), .int .u32 (f 10), .int .u32 (f 11), .int .u32 (f 12), .int .u32 (f 13), .int .u32 (f 14)]] w (Ret (SomeNode 35 1 (.mk name 8 0 ⟨#[]⟩ (kids100 f)) w)) := by
  go_enter Tryz.func100, Tryz.ntmps100
  refine tree_start (T := 102) (vals := #[.int .u32 (f 0), .int .u32 (f 1), .int .u32 (f 2), .int .u32 (f 3), .int .u32 (f 4), .int .u32 (f 5), .int .u32 (f 6), .int .u32 (f 7), .int .u32 (f 8), .int .u32 (f 9), .int .u32 (f 10), .int .u32 (f 11), .int .u32 (f 12), .int .u32 (f 13), .int .u32 (f 14)]) (name := name) (fun a w h => by go_simp) (by simp) rfl rfl rfl (fun a2 w2 y2 A2 S2 => ?_)
  have z2 : a2.tmps.size = 144 := y2
  refine wp_seq (field32 (b := 8) (i := 0) (T := 102) (x := f 0) (fun a w h => by go_simp) rfl (hf 0).1 (hf 0).2 (by omega) (by omega) A2 S2 (by simp) (fun a3 v3 w3 y3 A3 S3 => ?_))
  have z3 := y3.trans z2
  refine wp_seq (field32 (b := 17) (i := 1) (T := 102) (x := f 1) (fun a w h => by go_simp) rfl (hf 1).1 (hf 1).2 (by omega) (by omega) A3 S3 (by simp) (fun a4 v4 w4 y4 A4 S4 => ?_))
  have z4 := y4.trans z3
  refine wp_seq (field32 (b := 26) (i := 2) (T := 102) (x := f 2) (fun a w h => by go_simp) rfl (hf 2).1 (hf 2).2 (by omega) (by omega) A4 S4 (by simp) (fun a5 v5 w5 y5 A5 S5 => ?_))
  have z5 := y5.trans z4
  refine wp_seq (field32 (b := 35) (i := 3) (T := 102) (x := f 3) (fun a w h => by go_simp) rfl (hf 3).1 (hf 3).2 (by omega) (by omega) A5 S5 (by simp) (fun a6 v6 w6 y6 A6 S6 => ?_))
  have z6 := y6.trans z5
  refine wp_seq (field32 (b := 44) (i := 4) (T := 102) (x := f 4) (fun a w h => by go_simp) rfl (hf 4).1 (hf 4).2 (by omega) (by omega) A6 S6 (by simp) (fun a7 v7 w7 y7 A7 S7 => ?_))
  have z7 := y7.trans z6
  refine wp_seq (field32 (b := 53) (i := 5) (T := 102) (x := f 5) (fun a w h => by go_simp) rfl (hf 5).1 (hf 5).2 (by omega) (by omega) A7 S7 (by simp) (fun a8 v8 w8 y8 A8 S8 => ?_))
  have z8 := y8.trans z7
  refine wp_seq (field32 (b := 62) (i := 6) (T := 102) (x := f 6) (fun a w h => by go_simp) rfl (hf 6).1 (hf 6).2 (by omega) (by omega) A8 S8 (by simp) (fun a9 v9 w9 y9 A9 S9 => ?_))
  have z9 := y9.trans z8
  refine wp_seq (field32 (b := 71) (i := 7) (T := 102) (x := f 7) (fun a w h => by go_simp) rfl (hf 7).1 (hf 7).2 (by omega) (by omega) A9 S9 (by simp) (fun a10 v10 w10 y10 A10 S10 => ?_))
  have z10 := y10.trans z9
  refine wp_seq (field32 (b := 80) (i := 8) (T := 102) (x := f 8) (fun a w h => by go_simp) rfl (hf 8).1 (hf 8).2 (by omega) (by omega) A10 S10 (by simp) (fun a11 v11 w11 y11 A11 S11 => ?_))
  have z11 := y11.trans z10
  refine wp_seq (field32 (b := 89) (i := 9) (T := 102) (x := f 9) (fun a w h => by go_simp) rfl (hf 9).1 (hf 9).2 (by omega) (by omega) A11 S11 (by simp) (fun a12 v12 w12 y12 A12 S12 => ?_))
  have z12 := y12.trans z11
  refine wp_seq (field32 (b := 98) (i := 10) (T := 102) (x := f 10) (fun a w h => by go_simp) rfl (hf 10).1 (hf 10).2 (by omega) (by omega) A12 S12 (by simp) (fun a13 v13 w13 y13 A13 S13 => ?_))
  have z13 := y13.trans z12
  refine wp_seq (field32 (b := 107) (i := 11) (T := 102) (x := f 11) (fun a w h => by go_simp) rfl (hf 11).1 (hf 11).2 (by omega) (by omega) A13 S13 (by simp) (fun a14 v14 w14 y14 A14 S14 => ?_))
  have z14 := y14.trans z13
  refine wp_seq (field32 (b := 116) (i := 12) (T := 102) (x := f 12) (fun a w h => by go_simp) rfl (hf 12).1 (hf 12).2 (by omega) (by omega) A14 S14 (by simp) (fun a15 v15 w15 y15 A15 S15 => ?_))
  have z15 := y15.trans z14
  refine wp_seq (field32 (b := 125) (i := 13) (T := 102) (x := f 13) (fun a w h => by go_simp) rfl (hf 13).1 (hf 13).2 (by omega) (by omega) A15 S15 (by simp) (fun a16 v16 w16 y16 A16 S16 => ?_))
  have z16 := y16.trans z15
  refine wp_seq (field32 (b := 134) (i := 14) (T := 102) (x := f 14) (fun a w h => by go_simp) rfl (hf 14).1 (hf 14).2 (by omega) (by omega) A16 S16 (by simp) (fun a17 v17 w17 y17 A17 S17 => ?_))
  have z17 := y17.trans z16
  exact tree_end (d := 0) (c := 143) rfl (by omega) (by omega) A17 S17 S17.R
def kids101 (f : Nat → Int) : List NT := [leaf ⟨#[76, 111, 111, 107, 117, 112]⟩ (f 0), leaf ⟨#[67, 111, 109, 112, 97, 114, 101]⟩ (f 1), leaf ⟨#[73, 110, 115, 114, 101, 99]⟩ (f 2), leaf ⟨#[68, 101, 108, 114, 101, 99]⟩ (f 3), leaf ⟨#[78, 101, 119, 82, 111, 111, 116]⟩ (f 4), leaf ⟨#[75, 105, 108, 108, 82, 111, 111, 116]⟩ (f 5), leaf ⟨#[73, 110, 99, 114, 101, 109, 101, 110, 116]⟩ (f 6), leaf ⟨#[68, 101, 99, 114, 101, 109, 101, 110, 116]⟩ (f 7), leaf ⟨#[76, 115, 104, 105, 102, 116]⟩ (f 8), leaf ⟨#[82, 115, 104, 105, 102, 116]⟩ (f 9), leaf ⟨#[83, 112, 108, 105, 116]⟩ (f 10), leaf ⟨#[74, 111, 105, 110]⟩ (f 11), leaf ⟨#[65, 108, 108, 111, 99]⟩ (f 12), leaf ⟨#[70, 114, 101, 101]⟩ (f 13), leaf ⟨#[77, 111, 118, 101, 115]⟩ (f 14)]
set_option maxRecDepth 100000 in
theorem tree101 (f : Nat → Int) (hf : ∀ j, 0 ≤ f j ∧ f j < 4294967296) (name : ByteArray) (w : World) : Calls Tryz.prog 101 #[.string name, .agg #[.int .u32 (f 0), .int .u32 (f 1), .int .u32 (f 2), .int .u32 (f 3), .int .u32 (f 4), .int .u32 (f 5), .int .u32 (f 6), .int .u32 (f 7), .int .u32 (f 8), .int .u32 (f 9), .int .u32 (f 10), .int .u32 (f 11), .int .u32 (f 12), .int .u32 (f 13), .int .u32 (f 14)]] w (Ret (SomeNode 35 1 (.mk name 8 0 ⟨#[]⟩ (kids101 f)) w)) := by
  go_enter Tryz.func101, Tryz.ntmps101
  refine tree_start (T := 103) (vals := #[.int .u32 (f 0), .int .u32 (f 1), .int .u32 (f 2), .int .u32 (f 3), .int .u32 (f 4), .int .u32 (f 5), .int .u32 (f 6), .int .u32 (f 7), .int .u32 (f 8), .int .u32 (f 9), .int .u32 (f 10), .int .u32 (f 11), .int .u32 (f 12), .int .u32 (f 13), .int .u32 (f 14)]) (name := name) (fun a w h => by go_simp) (by simp) rfl rfl rfl (fun a2 w2 y2 A2 S2 => ?_)
  have z2 : a2.tmps.size = 144 := y2
  refine wp_seq (field32 (b := 8) (i := 0) (T := 103) (x := f 0) (fun a w h => by go_simp) rfl (hf 0).1 (hf 0).2 (by omega) (by omega) A2 S2 (by simp) (fun a3 v3 w3 y3 A3 S3 => ?_))
  have z3 := y3.trans z2
  refine wp_seq (field32 (b := 17) (i := 1) (T := 103) (x := f 1) (fun a w h => by go_simp) rfl (hf 1).1 (hf 1).2 (by omega) (by omega) A3 S3 (by simp) (fun a4 v4 w4 y4 A4 S4 => ?_))
  have z4 := y4.trans z3
  refine wp_seq (field32 (b := 26) (i := 2) (T := 103) (x := f 2) (fun a w h => by go_simp) rfl (hf 2).1 (hf 2).2 (by omega) (by omega) A4 S4 (by simp) (fun a5 v5 w5 y5 A5 S5 => ?_))
  have z5 := y5.trans z4
  refine wp_seq (field32 (b := 35) (i := 3) (T := 103) (x := f 3) (fun a w h => by go_simp) rfl (hf 3).1 (hf 3).2 (by omega) (by omega) A5 S5 (by simp) (fun a6 v6 w6 y6 A6 S6 => ?_))
  have z6 := y6.trans z5
  refine wp_seq (field32 (b := 44) (i := 4) (T := 103) (x := f 4) (fun a w h => by go_simp) rfl (hf 4).1 (hf 4).2 (by omega) (by omega) A6 S6 (by simp) (fun a7 v7 w7 y7 A7 S7 => ?_))
  have z7 := y7.trans z6
  refine wp_seq (field32 (b := 53) (i := 5) (T := 103) (x := f 5) (fun a w h => by go_simp) rfl (hf 5).1 (hf 5).2 (by omega) (by omega) A7 S7 (by simp) (fun a8 v8 w8 y8 A8 S8 => ?_))
  have z8 := y8.trans z7
  refine wp_seq (field32 (b := 62) (i := 6) (T := 103) (x := f 6) (fun a w h => by go_simp) rfl (hf 6).1 (hf 6).2 (by omega) (by omega) A8 S8 (by simp) (fun a9 v9 w9 y9 A9 S9 => ?_))
  have z9 := y9.trans z8
  refine wp_seq (field32 (b := 71) (i := 7) (T := 103) (x := f 7) (fun a w h => by go_simp) rfl (hf 7).1 (hf 7).2 (by omega) (by omega) A9 S9 (by simp) (fun a10 v10 w10 y10 A10 S10 => ?_))
  have z10 := y10.trans z9
  refine wp_seq (field32 (b := 80) (i := 8) (T := 103) (x := f 8) (fun a w h => by go_simp) rfl (hf 8).1 (hf 8).2 (by omega) (by omega) A10 S10 (by simp) (fun a11 v11 w11 y11 A11 S11 => ?_))
  have z11 := y11.trans z10
  refine wp_seq (field32 (b := 89) (i := 9) (T := 103) (x := f 9) (fun a w h => by go_simp) rfl (hf 9).1 (hf 9).2 (by omega) (by omega) A11 S11 (by simp) (fun a12 v12 w12 y12 A12 S12 => ?_))
  have z12 := y12.trans z11
  refine wp_seq (field32 (b := 98) (i := 10) (T := 103) (x := f 10) (fun a w h => by go_simp) rfl (hf 10).1 (hf 10).2 (by omega) (by omega) A12 S12 (by simp) (fun a13 v13 w13 y13 A13 S13 => ?_))
  have z13 := y13.trans z12
  refine wp_seq (field32 (b := 107) (i := 11) (T := 103) (x := f 11) (fun a w h => by go_simp) rfl (hf 11).1 (hf 11).2 (by omega) (by omega) A13 S13 (by simp) (fun a14 v14 w14 y14 A14 S14 => ?_))
  have z14 := y14.trans z13
  refine wp_seq (field32 (b := 116) (i := 12) (T := 103) (x := f 12) (fun a w h => by go_simp) rfl (hf 12).1 (hf 12).2 (by omega) (by omega) A14 S14 (by simp) (fun a15 v15 w15 y15 A15 S15 => ?_))
  have z15 := y15.trans z14
  refine wp_seq (field32 (b := 125) (i := 13) (T := 103) (x := f 13) (fun a w h => by go_simp) rfl (hf 13).1 (hf 13).2 (by omega) (by omega) A15 S15 (by simp) (fun a16 v16 w16 y16 A16 S16 => ?_))
  have z16 := y16.trans z15
  refine wp_seq (field32 (b := 134) (i := 14) (T := 103) (x := f 14) (fun a w h => by go_simp) rfl (hf 14).1 (hf 14).2 (by omega) (by omega) A16 S16 (by simp) (fun a17 v17 w17 y17 A17 S17 => ?_))
  have z17 := y17.trans z16
  exact tree_end (d := 0) (c := 143) rfl (by omega) (by omega) A17 S17 S17.R
def kids102 (f : Nat → Int) : List NT := [leaf ⟨#[76, 111, 111, 107, 117, 112]⟩ (f 0), leaf ⟨#[67, 111, 109, 112, 97, 114, 101]⟩ (f 1), leaf ⟨#[73, 110, 115, 114, 101, 99]⟩ (f 2), leaf ⟨#[68, 101, 108, 114, 101, 99]⟩ (f 3), leaf ⟨#[78, 101, 119, 82, 111, 111, 116]⟩ (f 4), leaf ⟨#[75, 105, 108, 108, 82, 111, 111, 116]⟩ (f 5), leaf ⟨#[73, 110, 99, 114, 101, 109, 101, 110, 116]⟩ (f 6), leaf ⟨#[68, 101, 99, 114, 101, 109, 101, 110, 116]⟩ (f 7), leaf ⟨#[76, 115, 104, 105, 102, 116]⟩ (f 8), leaf ⟨#[82, 115, 104, 105, 102, 116]⟩ (f 9), leaf ⟨#[83, 112, 108, 105, 116]⟩ (f 10), leaf ⟨#[74, 111, 105, 110]⟩ (f 11), leaf ⟨#[65, 108, 108, 111, 99]⟩ (f 12), leaf ⟨#[70, 114, 101, 101]⟩ (f 13), leaf ⟨#[77, 111, 118, 101, 115]⟩ (f 14)]
set_option maxRecDepth 100000 in
theorem tree102 (f : Nat → Int) (hf : ∀ j, 0 ≤ f j ∧ f j < 4294967296) (name : ByteArray) (w : World) : Calls Tryz.prog 102 #[.string name, .agg #[.int .u32 (f 0), .int .u32 (f 1), .int .u32 (f 2), .int .u32 (f 3), .int .u32 (f 4), .int .u32 (f 5), .int .u32 (f 6), .int .u32 (f 7), .int .u32 (f 8), .int .u32 (f 9), .int .u32 (f 10), .int .u32 (f 11), .int .u32 (f 12), .int .u32 (f 13), .int .u32 (f 14)]] w (Ret (SomeNode 35 1 (.mk name 8 0 ⟨#[]⟩ (kids102 f)) w)) := by
  go_enter Tryz.func102, Tryz.ntmps102
  refine tree_start (T := 104) (vals := #[.int .u32 (f 0), .int .u32 (f 1), .int .u32 (f 2), .int .u32 (f 3), .int .u32 (f 4), .int .u32 (f 5), .int .u32 (f 6), .int .u32 (f 7), .int .u32 (f 8), .int .u32 (f 9), .int .u32 (f 10), .int .u32 (f 11), .int .u32 (f 12), .int .u32 (f 13), .int .u32 (f 14)]) (name := name) (fun a w h => by go_simp) (by simp) rfl rfl rfl (fun a2 w2 y2 A2 S2 => ?_)
  have z2 : a2.tmps.size = 144 := y2
  refine wp_seq (field32 (b := 8) (i := 0) (T := 104) (x := f 0) (fun a w h => by go_simp) rfl (hf 0).1 (hf 0).2 (by omega) (by omega) A2 S2 (by simp) (fun a3 v3 w3 y3 A3 S3 => ?_))
  have z3 := y3.trans z2
  refine wp_seq (field32 (b := 17) (i := 1) (T := 104) (x := f 1) (fun a w h => by go_simp) rfl (hf 1).1 (hf 1).2 (by omega) (by omega) A3 S3 (by simp) (fun a4 v4 w4 y4 A4 S4 => ?_))
  have z4 := y4.trans z3
  refine wp_seq (field32 (b := 26) (i := 2) (T := 104) (x := f 2) (fun a w h => by go_simp) rfl (hf 2).1 (hf 2).2 (by omega) (by omega) A4 S4 (by simp) (fun a5 v5 w5 y5 A5 S5 => ?_))
  have z5 := y5.trans z4
  refine wp_seq (field32 (b := 35) (i := 3) (T := 104) (x := f 3) (fun a w h => by go_simp) rfl (hf 3).1 (hf 3).2 (by omega) (by omega) A5 S5 (by simp) (fun a6 v6 w6 y6 A6 S6 => ?_))
  have z6 := y6.trans z5
  refine wp_seq (field32 (b := 44) (i := 4) (T := 104) (x := f 4) (fun a w h => by go_simp) rfl (hf 4).1 (hf 4).2 (by omega) (by omega) A6 S6 (by simp) (fun a7 v7 w7 y7 A7 S7 => ?_))
  have z7 := y7.trans z6
  refine wp_seq (field32 (b := 53) (i := 5) (T := 104) (x := f 5) (fun a w h => by go_simp) rfl (hf 5).1 (hf 5).2 (by omega) (by omega) A7 S7 (by simp) (fun a8 v8 w8 y8 A8 S8 => ?_))
  have z8 := y8.trans z7
  refine wp_seq (field32 (b := 62) (i := 6) (T := 104) (x := f 6) (fun a w h => by go_simp) rfl (hf 6).1 (hf 6).2 (by omega) (by omega) A8 S8 (by simp) (fun a9 v9 w9 y9 A9 S9 => ?_))
  have z9 := y9.trans z8
  refine wp_seq (field32 (b := 71) (i := 7) (T := 104) (x := f 7) (fun a w h => by go_simp) rfl (hf 7).1 (hf 7).2 (by omega) (by omega) A9 S9 (by simp) (fun a10 v10 w10 y10 A10 S10 => ?_))
  have z10 := y10.trans z9
  refine wp_seq (field32 (b := 80) (i := 8) (T := 104) (x := f 8) (fun a w h => by go_simp) rfl (hf 8).1 (hf 8).2 (by omega) (by omega) A10 S10 (by simp) (fun a11 v11 w11 y11 A11 S11 => ?_))
  have z11 := y11.trans z10
  refine wp_seq (field32 (b := 89) (i := 9) (T := 104) (x := f 9) (fun a w h => by go_simp) rfl (hf 9).1 (hf 9).2 (by omega) (by omega) A11 S11 (by simp) (fun a12 v12 w12 y12 A12 S12 => ?_))
  have z12 := y12.trans z11
  refine wp_seq (field32 (b := 98) (i := 10) (T := 104) (x := f 10) (fun a w h => by go_simp) rfl (hf 10).1 (hf 10).2 (by omega) (by omega) A12 S12 (by simp) (fun a13 v13 w13 y13 A13 S13 => ?_))
  have z13 := y13.trans z12
  refine wp_seq (field32 (b := 107) (i := 11) (T := 104) (x := f 11) (fun a w h => by go_simp) rfl (hf 11).1 (hf 11).2 (by omega) (by omega) A13 S13 (by simp) (fun a14 v14 w14 y14 A14 S14 => ?_))
  have z14 := y14.trans z13
  refine wp_seq (field32 (b := 116) (i := 12) (T := 104) (x := f 12) (fun a w h => by go_simp) rfl (hf 12).1 (hf 12).2 (by omega) (by omega) A14 S14 (by simp) (fun a15 v15 w15 y15 A15 S15 => ?_))
  have z15 := y15.trans z14
  refine wp_seq (field32 (b := 125) (i := 13) (T := 104) (x := f 13) (fun a w h => by go_simp) rfl (hf 13).1 (hf 13).2 (by omega) (by omega) A15 S15 (by simp) (fun a16 v16 w16 y16 A16 S16 => ?_))
  have z16 := y16.trans z15
  refine wp_seq (field32 (b := 134) (i := 14) (T := 104) (x := f 14) (fun a w h => by go_simp) rfl (hf 14).1 (hf 14).2 (by omega) (by omega) A16 S16 (by simp) (fun a17 v17 w17 y17 A17 S17 => ?_))
  have z17 := y17.trans z16
  exact tree_end (d := 0) (c := 143) rfl (by omega) (by omega) A17 S17 S17.R
def kids103 (f : Nat → Int) : List NT := [leaf ⟨#[76, 111, 111, 107, 117, 112]⟩ (f 0), leaf ⟨#[67, 111, 109, 112, 97, 114, 101]⟩ (f 1), leaf ⟨#[73, 110, 115, 114, 101, 99]⟩ (f 2), leaf ⟨#[68, 101, 108, 114, 101, 99]⟩ (f 3), leaf ⟨#[78, 101, 119, 82, 111, 111, 116]⟩ (f 4), leaf ⟨#[75, 105, 108, 108, 82, 111, 111, 116]⟩ (f 5), leaf ⟨#[73, 110, 99, 114, 101, 109, 101, 110, 116]⟩ (f 6), leaf ⟨#[68, 101, 99, 114, 101, 109, 101, 110, 116]⟩ (f 7), leaf ⟨#[76, 115, 104, 105, 102, 116]⟩ (f 8), leaf ⟨#[82, 115, 104, 105, 102, 116]⟩ (f 9), leaf ⟨#[83, 112, 108, 105, 116]⟩ (f 10), leaf ⟨#[74, 111, 105, 110]⟩ (f 11), leaf ⟨#[65, 108, 108, 111, 99]⟩ (f 12), leaf ⟨#[70, 114, 101, 101]⟩ (f 13), leaf ⟨#[77, 111, 118, 101, 115]⟩ (f 14)]
set_option maxRecDepth 100000 in
theorem tree103 (f : Nat → Int) (hf : ∀ j, 0 ≤ f j ∧ f j < 4294967296) (name : ByteArray) (w : World) : Calls Tryz.prog 103 #[.string name, .agg #[.int .u32 (f 0), .int .u32 (f 1), .int .u32 (f 2), .int .u32 (f 3), .int .u32 (f 4), .int .u32 (f 5), .int .u32 (f 6), .int .u32 (f 7), .int .u32 (f 8), .int .u32 (f 9), .int .u32 (f 10), .int .u32 (f 11), .int .u32 (f 12), .int .u32 (f 13), .int .u32 (f 14)]] w (Ret (SomeNode 35 1 (.mk name 8 0 ⟨#[]⟩ (kids103 f)) w)) := by
  go_enter Tryz.func103, Tryz.ntmps103
  refine tree_start (T := 105) (vals := #[.int .u32 (f 0), .int .u32 (f 1), .int .u32 (f 2), .int .u32 (f 3), .int .u32 (f 4), .int .u32 (f 5), .int .u32 (f 6), .int .u32 (f 7), .int .u32 (f 8), .int .u32 (f 9), .int .u32 (f 10), .int .u32 (f 11), .int .u32 (f 12), .int .u32 (f 13), .int .u32 (f 14)]) (name := name) (fun a w h => by go_simp) (by simp) rfl rfl rfl (fun a2 w2 y2 A2 S2 => ?_)
  have z2 : a2.tmps.size = 144 := y2
  refine wp_seq (field32 (b := 8) (i := 0) (T := 105) (x := f 0) (fun a w h => by go_simp) rfl (hf 0).1 (hf 0).2 (by omega) (by omega) A2 S2 (by simp) (fun a3 v3 w3 y3 A3 S3 => ?_))
  have z3 := y3.trans z2
  refine wp_seq (field32 (b := 17) (i := 1) (T := 105) (x := f 1) (fun a w h => by go_simp) rfl (hf 1).1 (hf 1).2 (by omega) (by omega) A3 S3 (by simp) (fun a4 v4 w4 y4 A4 S4 => ?_))
  have z4 := y4.trans z3
  refine wp_seq (field32 (b := 26) (i := 2) (T := 105) (x := f 2) (fun a w h => by go_simp) rfl (hf 2).1 (hf 2).2 (by omega) (by omega) A4 S4 (by simp) (fun a5 v5 w5 y5 A5 S5 => ?_))
  have z5 := y5.trans z4
  refine wp_seq (field32 (b := 35) (i := 3) (T := 105) (x := f 3) (fun a w h => by go_simp) rfl (hf 3).1 (hf 3).2 (by omega) (by omega) A5 S5 (by simp) (fun a6 v6 w6 y6 A6 S6 => ?_))
  have z6 := y6.trans z5
  refine wp_seq (field32 (b := 44) (i := 4) (T := 105) (x := f 4) (fun a w h => by go_simp) rfl (hf 4).1 (hf 4).2 (by omega) (by omega) A6 S6 (by simp) (fun a7 v7 w7 y7 A7 S7 => ?_))
  have z7 := y7.trans z6
  refine wp_seq (field32 (b := 53) (i := 5) (T := 105) (x := f 5) (fun a w h => by go_simp) rfl (hf 5).1 (hf 5).2 (by omega) (by omega) A7 S7 (by simp) (fun a8 v8 w8 y8 A8 S8 => ?_))
  have z8 := y8.trans z7
  refine wp_seq (field32 (b := 62) (i := 6) (T := 105) (x := f 6) (fun a w h => by go_simp) rfl (hf 6).1 (hf 6).2 (by omega) (by omega) A8 S8 (by simp) (fun a9 v9 w9 y9 A9 S9 => ?_))
  have z9 := y9.trans z8
  refine wp_seq (field32 (b := 71) (i := 7) (T := 105) (x := f 7) (fun a w h => by go_simp) rfl (hf 7).1 (hf 7).2 (by omega) (by omega) A9 S9 (by simp) (fun a10 v10 w10 y10 A10 S10 => ?_))
  have z10 := y10.trans z9
  refine wp_seq (field32 (b := 80) (i := 8) (T := 105) (x := f 8) (fun a w h => by go_simp) rfl (hf 8).1 (hf 8).2 (by omega) (by omega) A10 S10 (by simp) (fun a11 v11 w11 y11 A11 S11 => ?_))
  have z11 := y11.trans z10
  refine wp_seq (field32 (b := 89) (i := 9) (T := 105) (x := f 9) (fun a w h => by go_simp) rfl (hf 9).1 (hf 9).2 (by omega) (by omega) A11 S11 (by simp) (fun a12 v12 w12 y12 A12 S12 => ?_))
  have z12 := y12.trans z11
  refine wp_seq (field32 (b := 98) (i := 10) (T := 105) (x := f 10) (fun a w h => by go_simp) rfl (hf 10).1 (hf 10).2 (by omega) (by omega) A12 S12 (by simp) (fun a13 v13 w13 y13 A13 S13 => ?_))
  have z13 := y13.trans z12
  refine wp_seq (field32 (b := 107) (i := 11) (T := 105) (x := f 11) (fun a w h => by go_simp) rfl (hf 11).1 (hf 11).2 (by omega) (by omega) A13 S13 (by simp) (fun a14 v14 w14 y14 A14 S14 => ?_))
  have z14 := y14.trans z13
  refine wp_seq (field32 (b := 116) (i := 12) (T := 105) (x := f 12) (fun a w h => by go_simp) rfl (hf 12).1 (hf 12).2 (by omega) (by omega) A14 S14 (by simp) (fun a15 v15 w15 y15 A15 S15 => ?_))
  have z15 := y15.trans z14
  refine wp_seq (field32 (b := 125) (i := 13) (T := 105) (x := f 13) (fun a w h => by go_simp) rfl (hf 13).1 (hf 13).2 (by omega) (by omega) A15 S15 (by simp) (fun a16 v16 w16 y16 A16 S16 => ?_))
  have z16 := y16.trans z15
  refine wp_seq (field32 (b := 134) (i := 14) (T := 105) (x := f 14) (fun a w h => by go_simp) rfl (hf 14).1 (hf 14).2 (by omega) (by omega) A16 S16 (by simp) (fun a17 v17 w17 y17 A17 S17 => ?_))
  have z17 := y17.trans z16
  exact tree_end (d := 0) (c := 143) rfl (by omega) (by omega) A17 S17 S17.R
def kids104 (f : Nat → Int) : List NT := [leaf ⟨#[76, 111, 111, 107, 117, 112]⟩ (f 0), leaf ⟨#[67, 111, 109, 112, 97, 114, 101]⟩ (f 1), leaf ⟨#[73, 110, 115, 114, 101, 99]⟩ (f 2), leaf ⟨#[68, 101, 108, 114, 101, 99]⟩ (f 3), leaf ⟨#[78, 101, 119, 82, 111, 111, 116]⟩ (f 4), leaf ⟨#[75, 105, 108, 108, 82, 111, 111, 116]⟩ (f 5), leaf ⟨#[73, 110, 99, 114, 101, 109, 101, 110, 116]⟩ (f 6), leaf ⟨#[68, 101, 99, 114, 101, 109, 101, 110, 116]⟩ (f 7), leaf ⟨#[76, 115, 104, 105, 102, 116]⟩ (f 8), leaf ⟨#[82, 115, 104, 105, 102, 116]⟩ (f 9), leaf ⟨#[83, 112, 108, 105, 116]⟩ (f 10), leaf ⟨#[74, 111, 105, 110]⟩ (f 11), leaf ⟨#[65, 108, 108, 111, 99]⟩ (f 12), leaf ⟨#[70, 114, 101, 101]⟩ (f 13), leaf ⟨#[77, 111, 118, 101, 115]⟩ (f 14)]
set_option maxRecDepth 100000 in
theorem tree104 (f : Nat → Int) (hf : ∀ j, 0 ≤ f j ∧ f j < 4294967296) (name : ByteArray) (w : World) : Calls Tryz.prog 104 #[.string name, .agg #[.int .u32 (f 0), .int .u32 (f 1), .int .u32 (f 2), .int .u32 (f 3), .int .u32 (f 4), .int .u32 (f 5), .int .u32 (f 6), .int .u32 (f 7), .int .u32 (f 8), .int .u32 (f 9), .int .u32 (f 10), .int .u32 (f 11), .int .u32 (f 12), .int .u32 (f 13), .int .u32 (f 14)]] w (Ret (SomeNode 35 1 (.mk name 8 0 ⟨#[]⟩ (kids104 f)) w)) := by
  go_enter Tryz.func104, Tryz.ntmps104
  refine tree_start (T := 106) (vals := #[.int .u32 (f 0), .int .u32 (f 1), .int .u32 (f 2), .int .u32 (f 3), .int .u32 (f 4), .int .u32 (f 5), .int .u32 (f 6), .int .u32 (f 7), .int .u32 (f 8), .int .u32 (f 9), .int .u32 (f 10), .int .u32 (f 11), .int .u32 (f 12), .int .u32 (f 13), .int .u32 (f 14)]) (name := name) (fun a w h => by go_simp) (by simp) rfl rfl rfl (fun a2 w2 y2 A2 S2 => ?_)
  have z2 : a2.tmps.size = 144 := y2
  refine wp_seq (field32 (b := 8) (i := 0) (T := 106) (x := f 0) (fun a w h => by go_simp) rfl (hf 0).1 (hf 0).2 (by omega) (by omega) A2 S2 (by simp) (fun a3 v3 w3 y3 A3 S3 => ?_))
  have z3 := y3.trans z2
  refine wp_seq (field32 (b := 17) (i := 1) (T := 106) (x := f 1) (fun a w h => by go_simp) rfl (hf 1).1 (hf 1).2 (by omega) (by omega) A3 S3 (by simp) (fun a4 v4 w4 y4 A4 S4 => ?_))
  have z4 := y4.trans z3
  refine wp_seq (field32 (b := 26) (i := 2) (T := 106) (x := f 2) (fun a w h => by go_simp) rfl (hf 2).1 (hf 2).2 (by omega) (by omega) A4 S4 (by simp) (fun a5 v5 w5 y5 A5 S5 => ?_))
  have z5 := y5.trans z4
  refine wp_seq (field32 (b := 35) (i := 3) (T := 106) (x := f 3) (fun a w h => by go_simp) rfl (hf 3).1 (hf 3).2 (by omega) (by omega) A5 S5 (by simp) (fun a6 v6 w6 y6 A6 S6 => ?_))
  have z6 := y6.trans z5
  refine wp_seq (field32 (b := 44) (i := 4) (T := 106) (x := f 4) (fun a w h => by go_simp) rfl (hf 4).1 (hf 4).2 (by omega) (by omega) A6 S6 (by simp) (fun a7 v7 w7 y7 A7 S7 => ?_))
  have z7 := y7.trans z6
  refine wp_seq (field32 (b := 53) (i := 5) (T := 106) (x := f 5) (fun a w h => by go_simp) rfl (hf 5).1 (hf 5).2 (by omega) (by omega) A7 S7 (by simp) (fun a8 v8 w8 y8 A8 S8 => ?_))
  have z8 := y8.trans z7
  refine wp_seq (field32 (b := 62) (i := 6) (T := 106) (x := f 6) (fun a w h => by go_simp) rfl (hf 6).1 (hf 6).2 (by omega) (by omega) A8 S8 (by simp) (fun a9 v9 w9 y9 A9 S9 => ?_))
  have z9 := y9.trans z8
  refine wp_seq (field32 (b := 71) (i := 7) (T := 106) (x := f 7) (fun a w h => by go_simp) rfl (hf 7).1 (hf 7).2 (by omega) (by omega) A9 S9 (by simp) (fun a10 v10 w10 y10 A10 S10 => ?_))
  have z10 := y10.trans z9
  refine wp_seq (field32 (b := 80) (i := 8) (T := 106) (x := f 8) (fun a w h => by go_simp) rfl (hf 8).1 (hf 8).2 (by omega) (by omega) A10 S10 (by simp) (fun a11 v11 w11 y11 A11 S11 => ?_))
  have z11 := y11.trans z10
  refine wp_seq (field32 (b := 89) (i := 9) (T := 106) (x := f 9) (fun a w h => by go_simp) rfl (hf 9).1 (hf 9).2 (by omega) (by omega) A11 S11 (by simp) (fun a12 v12 w12 y12 A12 S12 => ?_))
  have z12 := y12.trans z11
  refine wp_seq (field32 (b := 98) (i := 10) (T := 106) (x := f 10) (fun a w h => by go_simp) rfl (hf 10).1 (hf 10).2 (by omega) (by omega) A12 S12 (by simp) (fun a13 v13 w13 y13 A13 S13 => ?_))
  have z13 := y13.trans z12
  refine wp_seq (field32 (b := 107) (i := 11) (T := 106) (x := f 11) (fun a w h => by go_simp) rfl (hf 11).1 (hf 11).2 (by omega) (by omega) A13 S13 (by simp) (fun a14 v14 w14 y14 A14 S14 => ?_))
  have z14 := y14.trans z13
  refine wp_seq (field32 (b := 116) (i := 12) (T := 106) (x := f 12) (fun a w h => by go_simp) rfl (hf 12).1 (hf 12).2 (by omega) (by omega) A14 S14 (by simp) (fun a15 v15 w15 y15 A15 S15 => ?_))
  have z15 := y15.trans z14
  refine wp_seq (field32 (b := 125) (i := 13) (T := 106) (x := f 13) (fun a w h => by go_simp) rfl (hf 13).1 (hf 13).2 (by omega) (by omega) A15 S15 (by simp) (fun a16 v16 w16 y16 A16 S16 => ?_))
  have z16 := y16.trans z15
  refine wp_seq (field32 (b := 134) (i := 14) (T := 106) (x := f 14) (fun a w h => by go_simp) rfl (hf 14).1 (hf 14).2 (by omega) (by omega) A16 S16 (by simp) (fun a17 v17 w17 y17 A17 S17 => ?_))
  have z17 := y17.trans z16
  exact tree_end (d := 0) (c := 143) rfl (by omega) (by omega) A17 S17 S17.R
def kids105 (f : Nat → Int) : List NT := [leaf ⟨#[76, 111, 111, 107, 117, 112]⟩ (f 0), leaf ⟨#[67, 111, 109, 112, 97, 114, 101]⟩ (f 1), leaf ⟨#[73, 110, 115, 114, 101, 99]⟩ (f 2), leaf ⟨#[68, 101, 108, 114, 101, 99]⟩ (f 3), leaf ⟨#[78, 101, 119, 82, 111, 111, 116]⟩ (f 4), leaf ⟨#[75, 105, 108, 108, 82, 111, 111, 116]⟩ (f 5), leaf ⟨#[73, 110, 99, 114, 101, 109, 101, 110, 116]⟩ (f 6), leaf ⟨#[68, 101, 99, 114, 101, 109, 101, 110, 116]⟩ (f 7), leaf ⟨#[76, 115, 104, 105, 102, 116]⟩ (f 8), leaf ⟨#[82, 115, 104, 105, 102, 116]⟩ (f 9), leaf ⟨#[83, 112, 108, 105, 116]⟩ (f 10), leaf ⟨#[74, 111, 105, 110]⟩ (f 11), leaf ⟨#[65, 108, 108, 111, 99]⟩ (f 12), leaf ⟨#[70, 114, 101, 101]⟩ (f 13), leaf ⟨#[77, 111, 118, 101, 115]⟩ (f 14)]
set_option maxRecDepth 100000 in
theorem tree105 (f : Nat → Int) (hf : ∀ j, 0 ≤ f j ∧ f j < 4294967296) (name : ByteArray) (w : World) : Calls Tryz.prog 105 #[.string name, .agg #[.int .u32 (f 0), .int .u32 (f 1), .int .u32 (f 2), .int .u32 (f 3), .int .u32 (f 4), .int .u32 (f 5), .int .u32 (f 6), .int .u32 (f 7), .int .u32 (f 8), .int .u32 (f 9), .int .u32 (f 10), .int .u32 (f 11), .int .u32 (f 12), .int .u32 (f 13), .int .u32 (f 14)]] w (Ret (SomeNode 35 1 (.mk name 8 0 ⟨#[]⟩ (kids105 f)) w)) := by
  go_enter Tryz.func105, Tryz.ntmps105
  refine tree_start (T := 107) (vals := #[.int .u32 (f 0), .int .u32 (f 1), .int .u32 (f 2), .int .u32 (f 3), .int .u32 (f 4), .int .u32 (f 5), .int .u32 (f 6), .int .u32 (f 7), .int .u32 (f 8), .int .u32 (f 9), .int .u32 (f 10), .int .u32 (f 11), .int .u32 (f 12), .int .u32 (f 13), .int .u32 (f 14)]) (name := name) (fun a w h => by go_simp) (by simp) rfl rfl rfl (fun a2 w2 y2 A2 S2 => ?_)
  have z2 : a2.tmps.size = 144 := y2
  refine wp_seq (field32 (b := 8) (i := 0) (T := 107) (x := f 0) (fun a w h => by go_simp) rfl (hf 0).1 (hf 0).2 (by omega) (by omega) A2 S2 (by simp) (fun a3 v3 w3 y3 A3 S3 => ?_))
  have z3 := y3.trans z2
  refine wp_seq (field32 (b := 17) (i := 1) (T := 107) (x := f 1) (fun a w h => by go_simp) rfl (hf 1).1 (hf 1).2 (by omega) (by omega) A3 S3 (by simp) (fun a4 v4 w4 y4 A4 S4 => ?_))
  have z4 := y4.trans z3
  refine wp_seq (field32 (b := 26) (i := 2) (T := 107) (x := f 2) (fun a w h => by go_simp) rfl (hf 2).1 (hf 2).2 (by omega) (by omega) A4 S4 (by simp) (fun a5 v5 w5 y5 A5 S5 => ?_))
  have z5 := y5.trans z4
  refine wp_seq (field32 (b := 35) (i := 3) (T := 107) (x := f 3) (fun a w h => by go_simp) rfl (hf 3).1 (hf 3).2 (by omega) (by omega) A5 S5 (by simp) (fun a6 v6 w6 y6 A6 S6 => ?_))
  have z6 := y6.trans z5
  refine wp_seq (field32 (b := 44) (i := 4) (T := 107) (x := f 4) (fun a w h => by go_simp) rfl (hf 4).1 (hf 4).2 (by omega) (by omega) A6 S6 (by simp) (fun a7 v7 w7 y7 A7 S7 => ?_))
  have z7 := y7.trans z6
  refine wp_seq (field32 (b := 53) (i := 5) (T := 107) (x := f 5) (fun a w h => by go_simp) rfl (hf 5).1 (hf 5).2 (by omega) (by omega) A7 S7 (by simp) (fun a8 v8 w8 y8 A8 S8 => ?_))
  have z8 := y8.trans z7
  refine wp_seq (field32 (b := 62) (i := 6) (T := 107) (x := f 6) (fun a w h => by go_simp) rfl (hf 6).1 (hf 6).2 (by omega) (by omega) A8 S8 (by simp) (fun a9 v9 w9 y9 A9 S9 => ?_))
  have z9 := y9.trans z8
  refine wp_seq (field32 (b := 71) (i := 7) (T := 107) (x := f 7) (fun a w h => by go_simp) rfl (hf 7).1 (hf 7).2 (by omega) (by omega) A9 S9 (by simp) (fun a10 v10 w10 y10 A10 S10 => ?_))
  have z10 := y10.trans z9
  refine wp_seq (field32 (b := 80) (i := 8) (T := 107) (x := f 8) (fun a w h => by go_simp) rfl (hf 8).1 (hf 8).2 (by omega) (by omega) A10 S10 (by simp) (fun a11 v11 w11 y11 A11 S11 => ?_))
  have z11 := y11.trans z10
  refine wp_seq (field32 (b := 89) (i := 9) (T := 107) (x := f 9) (fun a w h => by go_simp) rfl (hf 9).1 (hf 9).2 (by omega) (by omega) A11 S11 (by simp) (fun a12 v12 w12 y12 A12 S12 => ?_))
  have z12 := y12.trans z11
  refine wp_seq (field32 (b := 98) (i := 10) (T := 107) (x := f 10) (fun a w h => by go_simp) rfl (hf 10).1 (hf 10).2 (by omega) (by omega) A12 S12 (by simp) (fun a13 v13 w13 y13 A13 S13 => ?_))
  have z13 := y13.trans z12
  refine wp_seq (field32 (b := 107) (i := 11) (T := 107) (x := f 11) (fun a w h => by go_simp) rfl (hf 11).1 (hf 11).2 (by omega) (by omega) A13 S13 (by simp) (fun a14 v14 w14 y14 A14 S14 => ?_))
  have z14 := y14.trans z13
  refine wp_seq (field32 (b := 116) (i := 12) (T := 107) (x := f 12) (fun a w h => by go_simp) rfl (hf 12).1 (hf 12).2 (by omega) (by omega) A14 S14 (by simp) (fun a15 v15 w15 y15 A15 S15 => ?_))
  have z15 := y15.trans z14
  refine wp_seq (field32 (b := 125) (i := 13) (T := 107) (x := f 13) (fun a w h => by go_simp) rfl (hf 13).1 (hf 13).2 (by omega) (by omega) A15 S15 (by simp) (fun a16 v16 w16 y16 A16 S16 => ?_))
  have z16 := y16.trans z15
  refine wp_seq (field32 (b := 134) (i := 14) (T := 107) (x := f 14) (fun a w h => by go_simp) rfl (hf 14).1 (hf 14).2 (by omega) (by omega) A16 S16 (by simp) (fun a17 v17 w17 y17 A17 S17 => ?_))
  have z17 := y17.trans z16
  exact tree_end (d := 0) (c := 143) rfl (by omega) (by omega) A17 S17 S17.R
def kids106 (f : Nat → Int) : List NT := [leaf ⟨#[76, 111, 111, 107, 117, 112]⟩ (f 0), leaf ⟨#[67, 111, 109, 112, 97, 114, 101]⟩ (f 1), leaf ⟨#[73, 110, 115, 114, 101, 99]⟩ (f 2), leaf ⟨#[68, 101, 108, 114, 101, 99]⟩ (f 3), leaf ⟨#[78, 101, 119, 82, 111, 111, 116]⟩ (f 4), leaf ⟨#[75, 105, 108, 108, 82, 111, 111, 116]⟩ (f 5), leaf ⟨#[73, 110, 99, 114, 101, 109, 101, 110, 116]⟩ (f 6), leaf ⟨#[68, 101, 99, 114, 101, 109, 101, 110, 116]⟩ (f 7), leaf ⟨#[76, 115, 104, 105, 102, 116]⟩ (f 8), leaf ⟨#[82, 115, 104, 105, 102, 116]⟩ (f 9), leaf ⟨#[83, 112, 108, 105, 116]⟩ (f 10), leaf ⟨#[74, 111, 105, 110]⟩ (f 11), leaf ⟨#[65, 108, 108, 111, 99]⟩ (f 12), leaf ⟨#[70, 114, 101, 101]⟩ (f 13), leaf ⟨#[77, 111, 118, 101, 115]⟩ (f 14)]
set_option maxRecDepth 100000 in
theorem tree106 (f : Nat → Int) (hf : ∀ j, 0 ≤ f j ∧ f j < 4294967296) (name : ByteArray) (w : World) : Calls Tryz.prog 106 #[.string name, .agg #[.int .u32 (f 0), .int .u32 (f 1), .int .u32 (f 2), .int .u32 (f 3), .int .u32 (f 4), .int .u32 (f 5), .int .u32 (f 6), .int .u32 (f 7), .int .u32 (f 8), .int .u32 (f 9), .int .u32 (f 10), .int .u32 (f 11), .int .u32 (f 12), .int .u32 (f 13), .int .u32 (f 14)]] w (Ret (SomeNode 35 1 (.mk name 8 0 ⟨#[]⟩ (kids106 f)) w)) := by
  go_enter Tryz.func106, Tryz.ntmps106
  refine tree_start (T := 108) (vals := #[.int .u32 (f 0), .int .u32 (f 1), .int .u32 (f 2), .int .u32 (f 3), .int .u32 (f 4), .int .u32 (f 5), .int .u32 (f 6), .int .u32 (f 7), .int .u32 (f 8), .int .u32 (f 9), .int .u32 (f 10), .int .u32 (f 11), .int .u32 (f 12), .int .u32 (f 13), .int .u32 (f 14)]) (name := name) (fun a w h => by go_simp) (by simp) rfl rfl rfl (fun a2 w2 y2 A2 S2 => ?_)
  have z2 : a2.tmps.size = 144 := y2
  refine wp_seq (field32 (b := 8) (i := 0) (T := 108) (x := f 0) (fun a w h => by go_simp) rfl (hf 0).1 (hf 0).2 (by omega) (by omega) A2 S2 (by simp) (fun a3 v3 w3 y3 A3 S3 => ?_))
  have z3 := y3.trans z2
  refine wp_seq (field32 (b := 17) (i := 1) (T := 108) (x := f 1) (fun a w h => by go_simp) rfl (hf 1).1 (hf 1).2 (by omega) (by omega) A3 S3 (by simp) (fun a4 v4 w4 y4 A4 S4 => ?_))
  have z4 := y4.trans z3
  refine wp_seq (field32 (b := 26) (i := 2) (T := 108) (x := f 2) (fun a w h => by go_simp) rfl (hf 2).1 (hf 2).2 (by omega) (by omega) A4 S4 (by simp) (fun a5 v5 w5 y5 A5 S5 => ?_))
  have z5 := y5.trans z4
  refine wp_seq (field32 (b := 35) (i := 3) (T := 108) (x := f 3) (fun a w h => by go_simp) rfl (hf 3).1 (hf 3).2 (by omega) (by omega) A5 S5 (by simp) (fun a6 v6 w6 y6 A6 S6 => ?_))
  have z6 := y6.trans z5
  refine wp_seq (field32 (b := 44) (i := 4) (T := 108) (x := f 4) (fun a w h => by go_simp) rfl (hf 4).1 (hf 4).2 (by omega) (by omega) A6 S6 (by simp) (fun a7 v7 w7 y7 A7 S7 => ?_))
  have z7 := y7.trans z6
  refine wp_seq (field32 (b := 53) (i := 5) (T := 108) (x := f 5) (fun a w h => by go_simp) rfl (hf 5).1 (hf 5).2 (by omega) (by omega) A7 S7 (by simp) (fun a8 v8 w8 y8 A8 S8 => ?_))
  have z8 := y8.trans z7
  refine wp_seq (field32 (b := 62) (i := 6) (T := 108) (x := f 6) (fun a w h => by go_simp) rfl (hf 6).1 (hf 6).2 (by omega) (by omega) A8 S8 (by simp) (fun a9 v9 w9 y9 A9 S9 => ?_))
  have z9 := y9.trans z8
  refine wp_seq (field32 (b := 71) (i := 7) (T := 108) (x := f 7) (fun a w h => by go_simp) rfl (hf 7).1 (hf 7).2 (by omega) (by omega) A9 S9 (by simp) (fun a10 v10 w10 y10 A10 S10 => ?_))
  have z10 := y10.trans z9
  refine wp_seq (field32 (b := 80) (i := 8) (T := 108) (x := f 8) (fun a w h => by go_simp) rfl (hf 8).1 (hf 8).2 (by omega) (by omega) A10 S10 (by simp) (fun a11 v11 w11 y11 A11 S11 => ?_))
  have z11 := y11.trans z10
  refine wp_seq (field32 (b := 89) (i := 9) (T := 108) (x := f 9) (fun a w h => by go_simp) rfl (hf 9).1 (hf 9).2 (by omega) (by omega) A11 S11 (by simp) (fun a12 v12 w12 y12 A12 S12 => ?_))
  have z12 := y12.trans z11
  refine wp_seq (field32 (b := 98) (i := 10) (T := 108) (x := f 10) (fun a w h => by go_simp) rfl (hf 10).1 (hf 10).2 (by omega) (by omega) A12 S12 (by simp) (fun a13 v13 w13 y13 A13 S13 => ?_))
  have z13 := y13.trans z12
  refine wp_seq (field32 (b := 107) (i := 11) (T := 108) (x := f 11) (fun a w h => by go_simp) rfl (hf 11).1 (hf 11).2 (by omega) (by omega) A13 S13 (by simp) (fun a14 v14 w14 y14 A14 S14 => ?_))
  have z14 := y14.trans z13
  refine wp_seq (field32 (b := 116) (i := 12) (T := 108) (x := f 12) (fun a w h => by go_simp) rfl (hf 12).1 (hf 12).2 (by omega) (by omega) A14 S14 (by simp) (fun a15 v15 w15 y15 A15 S15 => ?_))
  have z15 := y15.trans z14
  refine wp_seq (field32 (b := 125) (i := 13) (T := 108) (x := f 13) (fun a w h => by go_simp) rfl (hf 13).1 (hf 13).2 (by omega) (by omega) A15 S15 (by simp) (fun a16 v16 w16 y16 A16 S16 => ?_))
  have z16 := y16.trans z15
  refine wp_seq (field32 (b := 134) (i := 14) (T := 108) (x := f 14) (fun a w h => by go_simp) rfl (hf 14).1 (hf 14).2 (by omega) (by omega) A16 S16 (by simp) (fun a17 v17 w17 y17 A17 S17 => ?_))
  have z17 := y17.trans z16
  exact tree_end (d := 0) (c := 143) rfl (by omega) (by omega) A17 S17 S17.R
def kids107 (f : Nat → Int) : List NT := [leaf ⟨#[71, 99, 82, 101, 97, 100, 67, 97, 108, 108, 115]⟩ (f 0), leaf ⟨#[71, 99, 87, 114, 105, 116, 101, 67, 97, 108, 108, 115]⟩ (f 1), leaf ⟨#[71, 99, 90, 111, 110, 101, 82, 101, 115, 101, 116, 67, 97, 108, 108, 115]⟩ (f 2)]
set_option maxRecDepth 100000 in
theorem tree107 (f : Nat → Int) (hf : ∀ j, 0 ≤ f j ∧ f j < 4294967296) (name : ByteArray) (w : World) : Calls Tryz.prog 107 #[.string name, .agg #[.int .u32 (f 0), .int .u32 (f 1), .int .u32 (f 2)]] w (Ret (SomeNode 35 1 (.mk name 8 0 ⟨#[]⟩ (kids107 f)) w)) := by
  go_enter Tryz.func107, Tryz.ntmps107
  refine tree_start (T := 110) (vals := #[.int .u32 (f 0), .int .u32 (f 1), .int .u32 (f 2)]) (name := name) (fun a w h => by go_simp) (by simp) rfl rfl rfl (fun a2 w2 y2 A2 S2 => ?_)
  have z2 : a2.tmps.size = 36 := y2
  refine wp_seq (field32 (b := 8) (i := 0) (T := 110) (x := f 0) (fun a w h => by go_simp) rfl (hf 0).1 (hf 0).2 (by omega) (by omega) A2 S2 (by simp) (fun a3 v3 w3 y3 A3 S3 => ?_))
  have z3 := y3.trans z2
  refine wp_seq (field32 (b := 17) (i := 1) (T := 110) (x := f 1) (fun a w h => by go_simp) rfl (hf 1).1 (hf 1).2 (by omega) (by omega) A3 S3 (by simp) (fun a4 v4 w4 y4 A4 S4 => ?_))
  have z4 := y4.trans z3
  refine wp_seq (field32 (b := 26) (i := 2) (T := 110) (x := f 2) (fun a w h => by go_simp) rfl (hf 2).1 (hf 2).2 (by omega) (by omega) A4 S4 (by simp) (fun a5 v5 w5 y5 A5 S5 => ?_))
  have z5 := y5.trans z4
  exact tree_end (d := 0) (c := 35) rfl (by omega) (by omega) A5 S5 S5.R
def kids108 (f : Nat → Int) : List NT := [leaf ⟨#[73, 110, 111, 100, 101, 115]⟩ (f 0)]
set_option maxRecDepth 100000 in
theorem tree108 (f : Nat → Int) (hf : ∀ j, 0 ≤ f j ∧ f j < 4294967296) (name : ByteArray) (w : World) : Calls Tryz.prog 108 #[.string name, .agg #[.int .u32 (f 0)]] w (Ret (SomeNode 35 1 (.mk name 8 0 ⟨#[]⟩ (kids108 f)) w)) := by
  go_enter Tryz.func108, Tryz.ntmps108
  refine tree_start (T := 112) (vals := #[.int .u32 (f 0)]) (name := name) (fun a w h => by go_simp) (by simp) rfl rfl rfl (fun a2 w2 y2 A2 S2 => ?_)
  have z2 : a2.tmps.size = 18 := y2
  refine wp_seq (field32 (b := 8) (i := 0) (T := 112) (x := f 0) (fun a w h => by go_simp) rfl (hf 0).1 (hf 0).2 (by omega) (by omega) A2 S2 (by simp) (fun a3 v3 w3 y3 A3 S3 => ?_))
  have z3 := y3.trans z2
  exact tree_end (d := 0) (c := 17) rfl (by omega) (by omega) A3 S3 S3.R
def kids109 (f : Nat → Int) : List NT := [leaf ⟨#[67, 111, 117, 110, 116]⟩ (f 0)]
set_option maxRecDepth 100000 in
theorem tree109 (f : Nat → Int) (hf : ∀ j, 0 ≤ f j ∧ f j < 18446744073709551616) (name : ByteArray) (w : World) : Calls Tryz.prog 109 #[.string name, .agg #[.int .u64 (f 0)]] w (Ret (SomeNode 35 1 (.mk name 8 0 ⟨#[]⟩ (kids109 f)) w)) := by
  go_enter Tryz.func109, Tryz.ntmps109
  refine tree_start (T := 114) (vals := #[.int .u64 (f 0)]) (name := name) (fun a w h => by go_simp) (by simp) rfl rfl rfl (fun a2 w2 y2 A2 S2 => ?_)
  have z2 : a2.tmps.size = 17 := y2
  refine wp_seq (field64 (b := 8) (i := 0) (T := 114) (x := f 0) (fun a w h => by go_simp) rfl (hf 0).1 (hf 0).2 (by omega) (by omega) A2 S2 (by simp) (fun a3 v3 w3 y3 A3 S3 => ?_))
  have z3 := y3.trans z2
  exact tree_end (d := 0) (c := 16) rfl (by omega) (by omega) A3 S3 S3.R
def kids110 (f : Nat → Int) : List NT := [leaf ⟨#[66, 121, 116, 101, 115]⟩ (f 0)]
set_option maxRecDepth 100000 in
theorem tree110 (f : Nat → Int) (hf : ∀ j, 0 ≤ f j ∧ f j < 18446744073709551616) (name : ByteArray) (w : World) : Calls Tryz.prog 110 #[.string name, .agg #[.int .u64 (f 0)]] w (Ret (SomeNode 35 1 (.mk name 8 0 ⟨#[]⟩ (kids110 f)) w)) := by
  go_enter Tryz.func110, Tryz.ntmps110
  refine tree_start (T := 116) (vals := #[.int .u64 (f 0)]) (name := name) (fun a w h => by go_simp) (by simp) rfl rfl rfl (fun a2 w2 y2 A2 S2 => ?_)
  have z2 : a2.tmps.size = 17 := y2
  refine wp_seq (field64 (b := 8) (i := 0) (T := 116) (x := f 0) (fun a w h => by go_simp) rfl (hf 0).1 (hf 0).2 (by omega) (by omega) A2 S2 (by simp) (fun a3 v3 w3 y3 A3 S3 => ?_))
  have z3 := y3.trans z2
  exact tree_end (d := 0) (c := 16) rfl (by omega) (by omega) A3 S3 S3.R
end Go.Proofs.YtaniejfkbapbbaaGreatDoor
