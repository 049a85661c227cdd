/-
  Part of the proof of FnXfsNormal: lives returns true.
-/
import Derived.Test.YtaniejfkbapbbaaGreatDoorXg
import Derived.WalkLawsBesides
import Derived.Test.YtaniejfkbapbbaaGreatDoorWApart
import Derived.Test.YtaniejfkbapbbaaGreatDoorXn
namespace Go.Proofs.YtaniejfkbapbbaaGreatDoor
open Go.RowKit Go.Proofs.YtaniejfkbapbbaaGreatDoorW.PrintWords Go.Proofs.YtaniejfkbapbbaaGreatDoorW.PrintLast Go.Proofs.YtaniejfkbapbbaaGreatDoorW.PrintMore

/-- The frame that a run has come to. -/
def frameOf : Stepped → Frame
  | .next m => ((m.gs[0]?).map (·.frame)).getD default
  | _ => default
/-- A call that reads and writes no memory, by its run. -/
theorem calls_by_run {P : Program} {f n : Nat} {fn : Func} {args : Array Value} {v : Value} {w : World} (hf : P.funcs[f]? = some fn)
    (h : ∀ cs, runN P n (lone (Frame.enter P f args .normal) cs w) = .next (lone (frameOf (runN P n (lone (Frame.enter P f args .normal) cs w))) cs w))
    (hr : ∀ cs, (frameOf (runN P n (lone (Frame.enter P f args .normal) cs w))).fn = f ∧ (frameOf (runN P n (lone (Frame.enter P f args .normal) cs w))).mode = .returning ∧ (frameOf (runN P n (lone (Frame.enter P f args .normal) cs w))).defers = [] ∧
      (frameOf (runN P n (lone (Frame.enter P f args .normal) cs w))).kind = .normal ∧ (results fn (frameOf (runN P n (lone (Frame.enter P f args .normal) cs w))).tmps).run P w = .ok v w) : Calls P f args w (Ret (fun u w' => u = v ∧ w' = w)) := by
  intro cs
  obtain ⟨h1, h2, h3, h4, h5⟩ := hr cs
  exact ⟨.returned v, w, _, .mk _ rfl ⟨rfl, rfl⟩, ⟨n, h cs⟩, h1, h2, h3, h4, fn, by rw [h1]; exact hf, h5⟩
def s05 : ByteArray := ⟨#[48, 46, 53]⟩
def s025 : ByteArray := ⟨#[48, 46, 50, 53]⟩
def s075 : ByteArray := ⟨#[48, 46, 55, 53]⟩
set_option maxRecDepth 100000 in
theorem special05 (w : World) : Calls Tryz.prog 150 #[.string s05] w (Ret (fun u w' => u = .tuple #[.float .f64 0, .int .i64 0, .bool false] ∧ w' = w)) :=
  calls_by_run (n := 86) Tryz.func150 (fun cs => by kernel_rfl) (fun cs => ⟨by kernel_rfl, by kernel_rfl, by kernel_rfl, by kernel_rfl, by kernel_rfl⟩)
set_option maxRecDepth 100000 in
theorem special025 (w : World) : Calls Tryz.prog 150 #[.string s025] w (Ret (fun u w' => u = .tuple #[.float .f64 0, .int .i64 0, .bool false] ∧ w' = w)) :=
  calls_by_run (n := 86) Tryz.func150 (fun cs => by kernel_rfl) (fun cs => ⟨by kernel_rfl, by kernel_rfl, by kernel_rfl, by kernel_rfl, by kernel_rfl⟩)
set_option maxRecDepth 100000 in
theorem special075 (w : World) : Calls Tryz.prog 150 #[.string s075] w (Ret (fun u w' => u = .tuple #[.float .f64 0, .int .i64 0, .bool false] ∧ w' = w)) :=
  calls_by_run (n := 86) Tryz.func150 (fun cs => by kernel_rfl) (fun cs => ⟨by kernel_rfl, by kernel_rfl, by kernel_rfl, by kernel_rfl, by kernel_rfl⟩)
set_option maxRecDepth 100000 in
theorem readFloat05 (w : World) : Calls Tryz.prog 151 #[.string s05] w (Ret (fun u w' => u = .tuple #[.int .u64 5, .int .i64 (-1), .bool false, .bool false, .bool false, .int .i64 3, .bool true] ∧ w' = w)) :=
  calls_by_run (n := 455) Tryz.func151 (fun cs => by kernel_rfl) (fun cs => ⟨by kernel_rfl, by kernel_rfl, by kernel_rfl, by kernel_rfl, by kernel_rfl⟩)
set_option maxRecDepth 100000 in
theorem readFloat025 (w : World) : Calls Tryz.prog 151 #[.string s025] w (Ret (fun u w' => u = .tuple #[.int .u64 25, .int .i64 (-2), .bool false, .bool false, .bool false, .int .i64 4, .bool true] ∧ w' = w)) :=
  calls_by_run (n := 562) Tryz.func151 (fun cs => by kernel_rfl) (fun cs => ⟨by kernel_rfl, by kernel_rfl, by kernel_rfl, by kernel_rfl, by kernel_rfl⟩)
set_option maxRecDepth 100000 in
theorem readFloat075 (w : World) : Calls Tryz.prog 151 #[.string s075] w (Ret (fun u w' => u = .tuple #[.int .u64 75, .int .i64 (-2), .bool false, .bool false, .bool false, .int .i64 4, .bool true] ∧ w' = w)) :=
  calls_by_run (n := 562) Tryz.func151 (fun cs => by kernel_rfl) (fun cs => ⟨by kernel_rfl, by kernel_rfl, by kernel_rfl, by kernel_rfl, by kernel_rfl⟩)
end Go.Proofs.YtaniejfkbapbbaaGreatDoor
namespace Go.Proofs.YtaniejfkbapbbaaGreatDoor
open Go.RowKit Go.Proofs.YtaniejfkbapbbaaGreatDoorW.PrintWords Go.Proofs.YtaniejfkbapbbaaGreatDoorW.PrintLast Go.Proofs.YtaniejfkbapbbaaGreatDoorW.PrintMore

/-- What the library's tables of numbers hold. -/
structure Flt (w : World) (pb : Nat) : Prop where
  opt : w.cell? ⟨6, 0, none⟩ = some (.bool true)
  inf : w.cell? ⟨7, 0, none⟩ = some (.int .u64 52)
  tab : ∃ po cap, w.cell? ⟨10, 0, none⟩ = some (.slice (some ⟨pb, po, none⟩) 23 cap) ∧ w.cell? ⟨pb, po + 1, none⟩ = some (.float .f64 4621819117588971520) ∧ w.cell? ⟨pb, po + 2, none⟩ = some (.float .f64 4636737291354636288)
set_option maxRecDepth 100000 in
theorem exact05 (w : World) (pb : Nat) (h : Flt w pb) : Calls Tryz.prog 161 #[.int .u64 5, .int .i64 (-1), .bool false] w (Ret (fun v w' => v = .tuple #[.float .f64 4602678819172646912, .bool true] ∧ w' = w)) := by
  obtain ⟨h6, h7, po, cap, h10, hp1, hp2⟩ := h
  have hq : ∀ w, (binOp .quo 32 (.float .f64 (floatOfInt .f64 5)) (.float .f64 4621819117588971520)).run Tryz.prog w = .ok (.float .f64 4602678819172646912) w := fun w => by kernel_rfl
  go_enter Tryz.func161, Tryz.ntmps161
  go_wp2
  go_ret2
  exact .mk _ rfl ⟨rfl, rfl⟩
set_option maxRecDepth 100000 in
theorem exact025 (w : World) (pb : Nat) (h : Flt w pb) : Calls Tryz.prog 161 #[.int .u64 25, .int .i64 (-2), .bool false] w (Ret (fun v w' => v = .tuple #[.float .f64 4598175219545276416, .bool true] ∧ w' = w)) := by
  obtain ⟨h6, h7, po, cap, h10, hp1, hp2⟩ := h
  have hq : ∀ w, (binOp .quo 32 (.float .f64 (floatOfInt .f64 25)) (.float .f64 4636737291354636288)).run Tryz.prog w = .ok (.float .f64 4598175219545276416) w := fun w => by kernel_rfl
  go_enter Tryz.func161, Tryz.ntmps161
  go_wp2
  go_ret2
  exact .mk _ rfl ⟨rfl, rfl⟩
set_option maxRecDepth 100000 in
theorem exact075 (w : World) (pb : Nat) (h : Flt w pb) : Calls Tryz.prog 161 #[.int .u64 75, .int .i64 (-2), .bool false] w (Ret (fun v w' => v = .tuple #[.float .f64 4604930618986332160, .bool true] ∧ w' = w)) := by
  obtain ⟨h6, h7, po, cap, h10, hp1, hp2⟩ := h
  have hq : ∀ w, (binOp .quo 32 (.float .f64 (floatOfInt .f64 75)) (.float .f64 4636737291354636288)).run Tryz.prog w = .ok (.float .f64 4604930618986332160) w := fun w => by kernel_rfl
  go_enter Tryz.func161, Tryz.ntmps161
  go_wp2
  go_ret2
  exact .mk _ rfl ⟨rfl, rfl⟩
set_option maxRecDepth 100000 in
theorem atof05 (w : World) (pb : Nat) (h : Flt w pb) : Calls Tryz.prog 148 #[.string s05] w (Ret (fun v w' => v = .tuple #[.float .f64 4602678819172646912, .int .i64 3, .nilIface] ∧ w' = w)) := by
  have h6 := h.opt
  have HF := Lib.hid h
  clear h
  go_enter Tryz.func148, Tryz.ntmps148
  go_wp2_with (first
    | (go_at_call 150; refine (special05 _).mono ?_; rintro e w1 ⟨v, rfl, rfl, rfl⟩)
    | (go_at_call 151; refine (readFloat05 _).mono ?_; rintro e w1 ⟨v, rfl, rfl, rfl⟩)
    | (go_at_call 161; refine (exact05 _ pb HF.out).mono ?_; rintro e w1 ⟨v, rfl, rfl, rfl⟩)
    | go_in)
  go_ret3
  exact .mk _ rfl ⟨rfl, rfl⟩
set_option maxRecDepth 100000 in
theorem prefix05 (w : World) (pb : Nat) (h : Flt w pb) : Calls Tryz.prog 145 #[.string s05, .int .i64 64] w (Ret (fun v w' => v = .tuple #[.float .f64 4602678819172646912, .int .i64 3, .nilIface] ∧ w' = w)) := by
  have HF := Lib.hid h
  clear h
  go_enter Tryz.func145, Tryz.ntmps145
  go_wp2_with (go_at_call 148; refine (atof05 w pb HF.out).mono ?_; rintro e w1 ⟨v, rfl, rfl, rfl⟩)
  go_ret3
  exact .mk _ rfl ⟨rfl, rfl⟩
set_option maxRecDepth 100000 in
theorem inner05 (w : World) (pb : Nat) (h : Flt w pb) : Calls Tryz.prog 142 #[.string s05, .int .i64 64] w (Ret (fun v w' => v = .tuple #[.float .f64 4602678819172646912, .nilIface] ∧ w' = w)) := by
  have HF := Lib.hid h
  clear h
  have hs : s05.size = 3 := rfl
  go_enter Tryz.func142, Tryz.ntmps142
  go_wp2_with (go_at_call 145; refine (prefix05 w pb HF.out).mono ?_; rintro e w1 ⟨v, rfl, rfl, rfl⟩)
  go_ret2
  exact .mk _ rfl ⟨rfl, rfl⟩
set_option maxRecDepth 100000 in
theorem parse05 (w : World) (pb : Nat) (h : Flt w pb) : Calls Tryz.prog 132 #[.string s05, .int .i64 64] w (Ret (fun v w' => v = .tuple #[.float .f64 4602678819172646912, .nilIface] ∧ w' = w)) := by
  have HF := Lib.hid h
  clear h
  go_enter Tryz.func132, Tryz.ntmps132
  go_wp2_with (go_at_call 142; refine (inner05 w pb HF.out).mono ?_; rintro e w1 ⟨v, rfl, rfl, rfl⟩)
  go_ret2
  exact .mk _ rfl ⟨rfl, rfl⟩
set_option maxRecDepth 100000 in
theorem atof025 (w : World) (pb : Nat) (h : Flt w pb) : Calls Tryz.prog 148 #[.string s025] w (Ret (fun v w' => v = .tuple #[.float .f64 4598175219545276416, .int .i64 4, .nilIface] ∧ w' = w)) := by
  have h6 := h.opt
  have HF := Lib.hid h
  clear h
  go_enter Tryz.func148, Tryz.ntmps148
  go_wp2_with (first
    | (go_at_call 150; refine (special025 _).mono ?_; rintro e w1 ⟨v, rfl, rfl, rfl⟩)
    | (go_at_call 151; refine (readFloat025 _).mono ?_; rintro e w1 ⟨v, rfl, rfl, rfl⟩)
    | (go_at_call 161; refine (exact025 _ pb HF.out).mono ?_; rintro e w1 ⟨v, rfl, rfl, rfl⟩)
    | go_in)
  go_ret3
  exact .mk _ rfl ⟨rfl, rfl⟩
set_option maxRecDepth 100000 in
theorem prefix025 (w : World) (pb : Nat) (h : Flt w pb) : Calls Tryz.prog 145 #[.string s025, .int .i64 64] w (Ret (fun v w' => v = .tuple #[.float .f64 4598175219545276416, .int .i64 4, .nilIface] ∧ w' = w)) := by
  have HF := Lib.hid h
  clear h
  go_enter Tryz.func145, Tryz.ntmps145
  go_wp2_with (go_at_call 148; refine (atof025 w pb HF.out).mono ?_; rintro e w1 ⟨v, rfl, rfl, rfl⟩)
  go_ret3
  exact .mk _ rfl ⟨rfl, rfl⟩
set_option maxRecDepth 100000 in
theorem inner025 (w : World) (pb : Nat) (h : Flt w pb) : Calls Tryz.prog 142 #[.string s025, .int .i64 64] w (Ret (fun v w' => v = .tuple #[.float .f64 4598175219545276416, .nilIface] ∧ w' = w)) := by
  have HF := Lib.hid h
  clear h
  have hs : s025.size = 4 := rfl
  go_enter Tryz.func142, Tryz.ntmps142
  go_wp2_with (go_at_call 145; refine (prefix025 w pb HF.out).mono ?_; rintro e w1 ⟨v, rfl, rfl, rfl⟩)
  go_ret2
  exact .mk _ rfl ⟨rfl, rfl⟩
set_option maxRecDepth 100000 in
theorem parse025 (w : World) (pb : Nat) (h : Flt w pb) : Calls Tryz.prog 132 #[.string s025, .int .i64 64] w (Ret (fun v w' => v = .tuple #[.float .f64 4598175219545276416, .nilIface] ∧ w' = w)) := by
  have HF := Lib.hid h
  clear h
  go_enter Tryz.func132, Tryz.ntmps132
  go_wp2_with (go_at_call 142; refine (inner025 w pb HF.out).mono ?_; rintro e w1 ⟨v, rfl, rfl, rfl⟩)
  go_ret2
  exact .mk _ rfl ⟨rfl, rfl⟩
set_option maxRecDepth 100000 in
theorem atof075 (w : World) (pb : Nat) (h : Flt w pb) : Calls Tryz.prog 148 #[.string s075] w (Ret (fun v w' => v = .tuple #[.float .f64 4604930618986332160, .int .i64 4, .nilIface] ∧ w' = w)) := by
  have h6 := h.opt
  have HF := Lib.hid h
  clear h
  go_enter Tryz.func148, Tryz.ntmps148
  go_wp2_with (first
    | (go_at_call 150; refine (special075 _).mono ?_; rintro e w1 ⟨v, rfl, rfl, rfl⟩)
    | (go_at_call 151; refine (readFloat075 _).mono ?_; rintro e w1 ⟨v, rfl, rfl, rfl⟩)
    | (go_at_call 161; refine (exact075 _ pb HF.out).mono ?_; rintro e w1 ⟨v, rfl, rfl, rfl⟩)
    | go_in)
  go_ret3
  exact .mk _ rfl ⟨rfl, rfl⟩
set_option maxRecDepth 100000 in
theorem prefix075 (w : World) (pb : Nat) (h : Flt w pb) : Calls Tryz.prog 145 #[.string s075, .int .i64 64] w (Ret (fun v w' => v = .tuple #[.float .f64 4604930618986332160, .int .i64 4, .nilIface] ∧ w' = w)) := by
  have HF := Lib.hid h
  clear h
  go_enter Tryz.func145, Tryz.ntmps145
  go_wp2_with (go_at_call 148; refine (atof075 w pb HF.out).mono ?_; rintro e w1 ⟨v, rfl, rfl, rfl⟩)
  go_ret3
  exact .mk _ rfl ⟨rfl, rfl⟩
set_option maxRecDepth 100000 in
theorem inner075 (w : World) (pb : Nat) (h : Flt w pb) : Calls Tryz.prog 142 #[.string s075, .int .i64 64] w (Ret (fun v w' => v = .tuple #[.float .f64 4604930618986332160, .nilIface] ∧ w' = w)) := by
  have HF := Lib.hid h
  clear h
  have hs : s075.size = 4 := rfl
  go_enter Tryz.func142, Tryz.ntmps142
  go_wp2_with (go_at_call 145; refine (prefix075 w pb HF.out).mono ?_; rintro e w1 ⟨v, rfl, rfl, rfl⟩)
  go_ret2
  exact .mk _ rfl ⟨rfl, rfl⟩
set_option maxRecDepth 100000 in
theorem parse075 (w : World) (pb : Nat) (h : Flt w pb) : Calls Tryz.prog 132 #[.string s075, .int .i64 64] w (Ret (fun v w' => v = .tuple #[.float .f64 4604930618986332160, .nilIface] ∧ w' = w)) := by
  have HF := Lib.hid h
  clear h
  go_enter Tryz.func132, Tryz.ntmps132
  go_wp2_with (go_at_call 142; refine (inner075 w pb HF.out).mono ?_; rintro e w1 ⟨v, rfl, rfl, rfl⟩)
  go_ret2
  exact .mk _ rfl ⟨rfl, rfl⟩
end Go.Proofs.YtaniejfkbapbbaaGreatDoor
namespace Go.Proofs.YtaniejfkbapbbaaGreatDoor
open Go.RowKit Go.Proofs.YtaniejfkbapbbaaGreatDoorW.PrintWords Go.Proofs.YtaniejfkbapbbaaGreatDoorW.PrintLast Go.Proofs.YtaniejfkbapbbaaGreatDoorW.PrintMore

/-- The text that lives reads, its words. -/
def tL : ByteArray := ⟨#[48, 46, 53, 32, 48, 46, 50, 53, 32, 48, 46, 55, 53, 32, 49, 47, 52, 57, 55, 32, 49, 49, 57, 52, 55, 10]⟩
def wL : List (List UInt8) := [[48, 46, 53], [48, 46, 50, 53], [48, 46, 55, 53], [49, 47, 52, 57, 55], [49, 49, 57, 52, 55]]
theorem fieldsL : Lib.fields tL.data.toList = wL := by decide
def wordsL : Array Value := (wL.map fun l => Value.string ⟨l.toArray⟩).toArray
def rowL (k : Nat) : Array Value := #[.float .f64 (if 0 < k then 4602678819172646912 else 0), .float .f64 (if 1 < k then 4598175219545276416 else 0), .float .f64 (if 2 < k then 4604930618986332160 else 0)]
theorem Flt.keep {w w1 : World} {pb : Nat} (h : Flt w pb) (hb : Below w.heap.size w w1) : Flt w1 pb := by
  obtain ⟨h1, h2, po, cap, h3, h4, h5⟩ := h
  exact ⟨cell_keep hb h1, cell_keep hb h2, po, cap, cell_keep hb h3, cell_keep hb h4, cell_keep hb h5⟩
theorem info32 : (Tryz.prog.info? 32).map (fun i => (i.zero, i.size, i.bytes)) = some (some (.float .f64 0), 1, 8) := by kernel_rfl
theorem wordsL_c (w : World) (hw : Spc w) : Calls Tryz.prog 39 #[.string tL] w (Ret (fun v w' => v = .slice (some ⟨w.heap.size, 0, none⟩) 5 5 ∧ w' = w.alloc (.cells wordsL 9))) := by
  refine (Go.Proofs.Any.strings_Fields_core Tryz.lays157 (by kernel_rfl) tL w (by decide) (fun j b hb => ?_) hw).mono ?_
  · have : ∀ b ∈ tL.data.toList, b.toNat < 128 := by decide
    exact this b (List.mem_of_getElem? hb)
  rintro e w' ⟨rfl, rfl⟩
  rw [fieldsL]
  exact .mk _ rfl ⟨rfl, rfl⟩
section
variable (a : Act) (ty : TypeId) (p : String) (nd : Array Edge) (dst : Option Tmp) (w : World)
theorem run_mk282 : (execOp a.eval { dst := dst, op := .makeSlice 282 (.const (.int .i64 3)) (.const (.int .i64 3)), type := ty, pos := p, after := nd, guard := none }).run Tryz.prog w = .ok (.value (.slice (some ⟨w.heap.size, 0, none⟩) 3 3)) (w.alloc (.cells (rowL 0) 32)) := by
  obtain ⟨i, hi, hzz⟩ := Option.map_eq_some_iff.1 info32
  simp only [Prod.mk.injEq] at hzz
  obtain ⟨hz, hs, hb⟩ := hzz
  have hm := run_make (P := Tryz.prog) w 282 32 i (.float .f64 0) Tryz.underlying282 hi hz .i64 .i64 3 3 (by omega) (by omega) (by rw [hb]; omega) (by omega)
  rw [hs] at hm
  have hc : madeCells (Value.float .f64 0).cells (Int.toNat 3 * 1) = rowL 0 := by kernel_rfl
  rw [hc] at hm
  have hm' : (Instr.makeSlice 282 (.int .i64 3) (.int .i64 3)).run Tryz.prog w = .ok (.slice (some ⟨w.heap.size, 0, none⟩) 3 3) (w.alloc (.cells (rowL 0) 32)) := hm
  generalize rowL 0 = Z at hm' ⊢
  simp [execOp, hm', Act.eval, Result.andThen]
theorem run_iaf (n j L : Nat) (h : a.tmps[n]?.getD undef = .slice (some ⟨L, 0, none⟩) 3 3) (hj : j < 3) :
    (execOp a.eval { dst := dst, op := .indexAddr 282 (.tmp n) (.const (.int .i64 (j : Int))), type := ty, pos := p, after := nd, guard := none }).run Tryz.prog w = .ok (.value (.pointer (some ⟨L, j, none⟩))) w := by
  have h1 : ¬ (j : Int) < 0 := by omega
  have h2 : (j : Int) < 3 := by omega
  go_simp
theorem run_iat (n n' j L : Nat) (h : a.tmps[n]?.getD undef = .slice (some ⟨L, 0, none⟩) 3 3) (h' : a.tmps[n']?.getD undef = .int .i64 (j : Int)) (hj : j < 3) :
    (execOp a.eval { dst := dst, op := .indexAddr 282 (.tmp n) (.tmp n'), type := ty, pos := p, after := nd, guard := none }).run Tryz.prog w = .ok (.value (.pointer (some ⟨L, j, none⟩))) w := by
  have h1 : ¬ (j : Int) < 0 := by omega
  have h2 : (j : Int) < 3 := by omega
  go_simp
theorem run_ldf (n : Nat) (ad : Addr) (v : Value) (h : a.tmps[n]?.getD undef = .pointer (some ad)) (hc : w.cell? ad = some v) :
    (execOp a.eval { dst := dst, op := .load 32 (.tmp n), type := ty, pos := p, after := nd, guard := none }).run Tryz.prog w = .ok (.value v) w := by
  go_simp
theorem run_bd252 (n1 n2 n3 : Nat) (u v x : Nat) (h : a.tmps[n1]?.getD undef = .float .f64 u) (h' : a.tmps[n2]?.getD undef = .float .f64 v) (h'' : a.tmps[n3]?.getD undef = .float .f64 x) :
    (execOp a.eval { dst := dst, op := .build 252 #[(0, .tmp n1), (1, .tmp n2), (2, .tmp n3)], type := ty, pos := p, after := nd, guard := none }).run Tryz.prog w = .ok (.value (.agg #[.float .f64 u, .float .f64 v, .float .f64 x])) w := by
  go_simp
theorem run_box252 (n : Nat) (vals : Array Value) (h : a.tmps[n]?.getD undef = .agg vals) :
    (execOp a.eval { dst := dst, op := .box 252 (.tmp n), type := ty, pos := p, after := nd, guard := none }).run Tryz.prog w = .ok (.value (.pointer (some ⟨w.heap.size, 0, none⟩))) (w.alloc (.cells vals 252)) := by
  simp [execOp, h, go_sem]
theorem run_sl03 (n g : Nat) (h : a.tmps[n]?.getD undef = .slice (some ⟨g, 0, none⟩) 5 5) :
    (execOp a.eval { dst := dst, op := .slice 44 (.tmp n) (some (.const (.int .i64 0))) (some (.const (.int .i64 3))) none, type := ty, pos := p, after := nd, guard := none }).run Tryz.prog w = .ok (.value (.slice (some ⟨g, 0, none⟩) 3 5)) w := by
  go_simp
theorem run_lss3 (n n' : Nat) (x y : Int) (h : a.tmps[n]?.getD undef = .int .i64 x) (h' : a.tmps[n']?.getD undef = .int .i64 y) (t : Bool) (ht : decide (x < y) = t) :
    (execOp a.eval { dst := dst, op := .binOp .lss 3 (.tmp n) (.tmp n') 3, type := ty, pos := p, after := nd, guard := none }).run Tryz.prog w = .ok (.value (.bool t)) w := by
  subst ht
  go_simp
theorem run_lss3c (n : Nat) (x : Int) (h : a.tmps[n]?.getD undef = .int .i64 x) (hx : ¬ x < 3) :
    (execOp a.eval { dst := dst, op := .binOp .lss 3 (.tmp n) (.const (.int .i64 3)) 3, type := ty, pos := p, after := nd, guard := none }).run Tryz.prog w = .ok (.value (.bool false)) w := by
  go_simp
theorem run_ia44 (n n' j g : Nat) (h : a.tmps[n]?.getD undef = .slice (some ⟨g, 0, none⟩) 3 5) (h' : a.tmps[n']?.getD undef = .int .i64 (j : Int)) (hj : j < 3) :
    (execOp a.eval { dst := dst, op := .indexAddr 44 (.tmp n) (.tmp n'), type := ty, pos := p, after := nd, guard := none }).run Tryz.prog w = .ok (.value (.pointer (some ⟨g, j, none⟩))) w := by
  have h1 : ¬ (j : Int) < 0 := by omega
  have h2 : (j : Int) < 3 := by omega
  go_simp
theorem run_mvc (v : Value) :
    (execOp a.eval { dst := dst, op := .move (.const v), type := ty, pos := p, after := nd, guard := none }).run Tryz.prog w = .ok (.value v) w := by
  go_simp
theorem run_inc (n : Nat) (j : Nat) (h : a.tmps[n]?.getD undef = .int .i64 (j : Int)) (hj : j < 3) :
    (execOp a.eval { dst := dst, op := .binOp .add 3 (.tmp n) (.const (.int .i64 1)) 3, type := ty, pos := p, after := nd, guard := none }).run Tryz.prog w = .ok (.value (.int .i64 ((j + 1 : Nat) : Int))) w := by
  have hw : IntKind.i64.wrap ((j : Int) + 1) = ((j + 1 : Nat) : Int) := by rw [IntKind.wrap_i64]; omega
  go_simp
theorem run_call2k (n k t t' : Nat) (u v : Value) (hen : ∀ args w, (callFunc k args).run Tryz.prog w = .ok (.enter k args) w) (h : a.tmps[n]?.getD undef = u) :
    (execOp a.eval { dst := dst, op := .call { callee := .value (.func k), args := #[.tmp n, .const v], argTypes := #[t, t'] }, type := ty, pos := p, after := nd, guard := none }).run Tryz.prog w = .ok (.enter k #[u, v]) w := by
  subst h
  go_simp
theorem run_stf (n n' g j : Nat) (x : Nat) (v : Value) (h : a.tmps[n]?.getD undef = .pointer (some ⟨g, j, none⟩)) (h' : a.tmps[n']?.getD undef = .float .f64 x) (hc : w.cell? ⟨g, j, none⟩ = some v) (hz : w.frozen? ⟨g, j, none⟩ = false) :
    (execOp a.eval { dst := dst, op := .store 32 (.tmp n) (.tmp n'), type := ty, pos := p, after := nd, guard := none }).run Tryz.prog w = .ok .skip (w.setCell ⟨g, j, none⟩ (.float .f64 x)) := by
  have hsf := run_store_float x
  go_simp
end
theorem rowL_next (k : Nat) (hk : k < 3) : ∃ b, (rowL k).setIfInBounds k (.float .f64 b) = rowL (k + 1) ∧ ∀ (w : World) (pb : Nat), Flt w pb → Calls Tryz.prog 132 #[.string ⟨(wL.getD k []).toArray⟩, .int .i64 64] w (Ret (fun v w' => v = .tuple #[.float .f64 b, .nilIface] ∧ w' = w)) := by
  match k, hk with
  | 0, _ => exact ⟨4602678819172646912, rfl, fun w pb h => parse05 w pb h⟩
  | 1, _ => exact ⟨4598175219545276416, rfl, fun w pb h => parse025 w pb h⟩
  | 2, _ => exact ⟨4604930618986332160, rfl, fun w pb h => parse075 w pb h⟩
theorem wordsL_at (k : Nat) (hk : k < 3) : wordsL[k]? = some (.string ⟨(wL.getD k []).toArray⟩) := by
  match k, hk with
  | 0, _ => rfl
  | 1, _ => rfl
  | 2, _ => rfl
theorem rowL_some (k : Nat) (hk : k < 3) : ∃ u, (rowL k)[k]? = some u := by
  match k, hk with
  | 0, _ => exact ⟨_, rfl⟩
  | 1, _ => exact ⟨_, rfl⟩
  | 2, _ => exact ⟨_, rfl⟩
structure Rp (a : Act) (L wb k : Nat) : Prop where
  z : a.tmps.size = 48
  df : a.defers = []
  t4 : a.tmps[4]?.getD undef = .slice (some ⟨L, 0, none⟩) 3 3
  t18 : a.tmps[18]?.getD undef = .slice (some ⟨wb, 0, none⟩) 3 5
  t19 : a.tmps[19]?.getD undef = .int .i64 3
  t20 : a.tmps[20]?.getD undef = .int .i64 (k : Int)
set_option maxRecDepth 100000 in
set_option maxHeartbeats 2000000 in
theorem parseLoad_c (b c pb : Nat) (w : World) (hF : Flt w pb) (hp : Spc w) (hc : ∀ i, i < tL.size → w.cell? ⟨b, 0 + i, none⟩ = some (.int .u8 ((tL.data.toList.map fun x => (x.toNat : Int)).getD i 0))) :
    Calls Tryz.prog 127 #[.slice (some ⟨b, 0, none⟩) tL.size c] w (Ret (fun v w' => ∃ m, v = .tuple #[.pointer (some ⟨m, 0, none⟩), .nilIface] ∧ w'.heap[m]? = some (.cells (rowL 3) 252 (0, 0)) ∧ Below w.heap.size w w')) := by
  go_enter Tryz.func127, Tryz.ntmps127
  refine from_act _ (fun a => a.tmps.size = 48 ∧ a.tmps[0]?.getD undef = .slice (some ⟨b, 0, none⟩) tL.size c ∧ a.defers = []) ⟨rfl, rfl, rfl⟩ ?_
  rintro a ⟨hz, h0, hdf⟩
  refine wp_seq (wp_region_lit ?_)
  refine val_go rfl rfl (by omega) (run_asc _ _ _ _ _ _ _) (fun a1 q1 => ?_)
  have z1 := q1.1.trans hz
  refine val_go rfl rfl (by omega) (run_asc _ _ _ _ _ _ _) (fun a2 q2 => ?_)
  have z2 := q2.1.trans z1
  refine wp_seq (wp_region_lit ?_)
  refine val_go rfl rfl (by omega) (run_mk282 _ _ _ _ _ _) (fun a3 q3 => ?_)
  have z3 := q3.1.trans z2
  refine val_go rfl rfl (by omega) (run_as _ _ _ _ _ _ 9 _ q3.2.1) (fun a4 q4 => ?_)
  have z4 := q4.1.trans z3
  have hB1 := below_alloc (Below.refl w.heap.size w) (.cells (rowL 0) 32)
  have hL1 := heap_alloc_new w (.cells (rowL 0) 32)
  have hs1 : (w.alloc (.cells (rowL 0) 32)).heap.size = w.heap.size + 1 := by simp
  have hLe : ∃ L, L = w.heap.size := ⟨_, rfl⟩
  obtain ⟨L, hLL⟩ := hLe
  rw [← hLL] at hL1 q4
  generalize w.alloc (.cells (rowL 0) 32) = w1 at hB1 hL1 hs1 ⊢
  refine wp_seq (wp_region_lit ?_)
  refine val_go rfl rfl (by omega) (run_mv _ _ _ _ _ _ 0 _ ((q4.2.2.1 0 (by omega)).trans ((q3.2.2.1 0 (by omega)).trans ((q2.2.2.1 0 (by omega)).trans ((q1.2.2.1 0 (by omega)).trans h0))))) (fun a5 q5 => ?_)
  have z5 := q5.1.trans z4
  refine val_go rfl rfl (by omega) (run_conv _ _ _ _ _ _ 10 b c tL q5.2.1 (fun i hi => cell_keep hB1 (hc i hi))) (fun a6 q6 => ?_)
  have z6 := q6.1.trans z5
  refine call_go rfl rfl (by omega) (run_call1 _ _ _ _ _ _ 11 39 _ _ (enters_of Tryz.func39 (by kernel_rfl) rfl) q6.2.1) (wordsL_c w1 (hp.keep hB1)) ?_
  rintro v w2 a7 ⟨rfl, rfl⟩ q7
  have z7 := q7.1.trans z6
  refine val_go rfl rfl (by omega) (run_as _ _ _ _ _ _ 12 _ q7.2.1) (fun a8 q8 => ?_)
  have z8 := q8.1.trans z7
  have hB2 := below_alloc hB1 (.cells wordsL 9)
  have hW2 := heap_alloc_new w1 (.cells wordsL 9)
  have hL2 := (blk_old w1 (.cells wordsL 9) _ (blk_lt hL1)).trans hL1
  generalize w1.alloc (.cells wordsL 9) = w2 at hB2 hW2 hL2 ⊢
  have hne : L ≠ w1.heap.size := Nat.ne_of_lt (blk_lt hL1)
  generalize w1.heap.size = wb at q7 q8 hW2 hne
  refine wp_seq (wp_seq (wp_region_lit ?_))
  refine val_go rfl rfl (by omega) (run_mv _ _ _ _ _ _ 5 _ q8.2.1) (fun a9 q9 => ?_)
  have z9 := q9.1.trans z8
  refine val_go rfl rfl (by omega) (run_len44 _ _ _ _ _ _ 13 wb 5 5 q9.2.1) (fun a10 q10 => ?_)
  have z10 := q10.1.trans z9
  refine val_go rfl rfl (by omega) (run_lss3c _ _ _ _ _ _ 14 _ q10.2.1 (by omega)) (fun a11 q11 => ?_)
  have z11 := q11.1.trans z10
  refine wp_cond_false (ev_tmp q11.2.1) (wp_skip ?_)
  refine wp_seq (wp_region_lit ?_)
  refine val_go rfl rfl (by omega) (run_asc _ _ _ _ _ _ _) (fun a12 q12 => ?_)
  have z12 := q12.1.trans z11
  have t5 : a12.tmps[5]?.getD undef = .slice (some ⟨wb, 0, none⟩) 5 5 := by
    rw [q12.2.2.1 _ (by omega), q11.2.2.1 _ (by omega), q10.2.2.1 _ (by omega), q9.2.2.1 _ (by omega)]; exact q8.2.1
  refine wp_seq (wp_seq (wp_region_lit ?_))
  refine val_go rfl rfl (by omega) (run_mv _ _ _ _ _ _ 5 _ t5) (fun a13 q13 => ?_)
  have z13 := q13.1.trans z12
  refine val_go rfl rfl (by omega) (run_sl03 _ _ _ _ _ _ 17 wb q13.2.1) (fun a14 q14 => ?_)
  have z14 := q14.1.trans z13
  refine val_go rfl rfl (by omega) (run_len44 _ _ _ _ _ _ 18 wb 3 5 q14.2.1) (fun a15 q15 => ?_)
  have z15 := q15.1.trans z14
  refine val_go rfl rfl (by omega) (run_mvc _ _ _ _ _ _ _) (fun a16 q16 => ?_)
  have z16 := q16.1.trans z15
  have t4 : a16.tmps[4]?.getD undef = .slice (some ⟨L, 0, none⟩) 3 3 := by
    rw [q16.2.2.1 _ (by omega), q15.2.2.1 _ (by omega), q14.2.2.1 _ (by omega), q13.2.2.1 _ (by omega), q12.2.2.1 _ (by omega), q11.2.2.1 _ (by omega), q10.2.2.1 _ (by omega), q9.2.2.1 _ (by omega), q8.2.2.1 _ (by omega), q7.2.2.1 _ (by omega), q6.2.2.1 _ (by omega), q5.2.2.1 _ (by omega)]; exact q4.2.1
  have R0 : Rp a16 L wb 0 := ⟨z16, by rw [q16.2.2.2, q15.2.2.2, q14.2.2.2, q13.2.2.2, q12.2.2.2, q11.2.2.2, q10.2.2.2, q9.2.2.2, q8.2.2.2, q7.2.2.2, q6.2.2.2, q5.2.2.2, q4.2.2.2, q3.2.2.2, q2.2.2.2, q1.2.2.2]; exact hdf, t4,
    by rw [q16.2.2.1 _ (by omega), q15.2.2.1 _ (by omega)]; exact q14.2.1, (q16.2.2.1 _ (by omega)).trans q15.2.1, q16.2.1⟩
  clear q1 q2 q3 q4 q5 q6 q7 q8 q9 q10 q11 q12 q13 q14 q15 q16 z1 z2 z3 z4 z5 z6 z7 z8 z9 z10 z11 z12 z13 z14 z15 z16 t4 t5 hz h0 hdf
  refine wp_block ?_
  refine wp_loop_ghost (fun n a' w' => ∃ k, k ≤ 3 ∧ n = 3 - k ∧ Rp a' L wb k ∧ w'.heap[L]? = some (.cells (rowL k) 32 (0, 0)) ∧ w'.heap[wb]? = some (.cells wordsL 9 (0, 0)) ∧ Below w.heap.size w w') 3 ⟨0, by omega, rfl, R0, hL2, hW2, hB2⟩ ?_
  clear R0 hL2 hW2 hB2 hB1 hL1 hs1 w1 w2 a1 a2 a3 a4 a5 a6 a7 a8 a9 a10 a11 a12 a13 a14 a15 a16 a
  rintro n a w3 ⟨k, hk, rfl, R, hL, hW, hB⟩
  have hz := R.z
  by_cases hlt : k < 3
  · obtain ⟨x, hx1, hx2⟩ := rowL_next k hlt
    have hcw : w3.cell? ⟨wb, k, none⟩ = some (.string ⟨(wL.getD k []).toArray⟩) := by
      exact (blk_cell hW k).trans (wordsL_at k hlt)
    refine wp_seq (wp_region_lit ?_)
    refine val_go rfl rfl (by omega) (run_lss3 _ _ _ _ _ _ 20 19 _ _ R.t20 R.t19 true (by simp; omega)) (fun a1 q1 => ?_)
    have z1 := q1.1.trans hz
    have o1 : ∀ j, j < 21 → a1.tmps[j]?.getD undef = a.tmps[j]?.getD undef := fun j hj => q1.2.2.1 j (by omega)
    refine wp_seq (wp_cond_true (ev_tmp q1.2.1) (wp_skip ?_))
    refine wp_seq (wp_block ?_)
    refine wp_seq (wp_region_lit ?_)
    refine val_go rfl rfl (by omega) (run_mv _ _ _ _ _ _ 20 _ ((o1 20 (by omega)).trans R.t20)) (fun a2 q2 => ?_)
    have z2 := q2.1.trans z1
    refine val_go rfl rfl (by omega) (run_ia44 _ _ _ _ _ _ 18 20 k wb ((q2.2.2.1 18 (by omega)).trans ((o1 18 (by omega)).trans R.t18)) ((q2.2.2.1 20 (by omega)).trans ((o1 20 (by omega)).trans R.t20)) hlt) (fun a3 q3 => ?_)
    have z3 := q3.1.trans z2
    refine val_go rfl rfl (by omega) (run_ld9 _ _ _ _ _ _ 23 _ _ q3.2.1 hcw) (fun a4 q4 => ?_)
    have z4 := q4.1.trans z3
    refine val_go rfl rfl (by omega) (run_as _ _ _ _ _ _ 22 _ ((q4.2.2.1 22 (by omega)).trans ((q3.2.2.1 22 (by omega)).trans q2.2.1))) (fun a5 q5 => ?_)
    have z5 := q5.1.trans z4
    refine val_go rfl rfl (by omega) (run_as _ _ _ _ _ _ 24 _ ((q5.2.2.1 24 (by omega)).trans q4.2.1)) (fun a6 q6 => ?_)
    have z6 := q6.1.trans z5
    have o6 : ∀ j, j < 21 → j ≠ 7 → j ≠ 8 → a6.tmps[j]?.getD undef = a.tmps[j]?.getD undef := fun j h1 h2 h3 => by
      rw [q6.2.2.1 j (by omega), q5.2.2.1 j (by omega), q4.2.2.1 j (by omega), q3.2.2.1 j (by omega), q2.2.2.1 j (by omega)]; exact o1 j h1
    refine wp_seq (wp_region_lit ?_)
    refine val_go rfl rfl (by omega) (run_mv _ _ _ _ _ _ 4 _ ((o6 4 (by omega) (by omega) (by omega)).trans R.t4)) (fun a7 q7 => ?_)
    have z7 := q7.1.trans z6
    refine val_go rfl rfl (by omega) (run_mv _ _ _ _ _ _ 7 _ ((q7.2.2.1 7 (by omega)).trans ((q6.2.2.1 7 (by omega)).trans q5.2.1))) (fun a8 q8 => ?_)
    have z8 := q8.1.trans z7
    refine val_go rfl rfl (by omega) (run_mv _ _ _ _ _ _ 8 _ ((q8.2.2.1 8 (by omega)).trans ((q7.2.2.1 8 (by omega)).trans q6.2.1))) (fun a9 q9 => ?_)
    have z9 := q9.1.trans z8
    refine call_go rfl rfl (by omega) (run_call2k _ _ _ _ _ _ 28 132 _ _ _ (.int .i64 64) (enters_of Tryz.func132 (by kernel_rfl) rfl) q9.2.1) (hx2 w3 pb (hF.keep hB)) ?_
    rintro v w4 a10 ⟨rfl, rfl⟩ q10
    have z10 := q10.1.trans z9
    refine val_go rfl rfl (by omega) (run_mv _ _ _ _ _ _ 29 _ q10.2.1) (fun a11 q11 => ?_)
    have z11 := q11.1.trans z10
    refine val_go rfl rfl (by omega) (run_ex0 _ _ _ _ _ _ 25 _ _ q11.2.1) (fun a12 q12 => ?_)
    have z12 := q12.1.trans z11
    refine val_go rfl rfl (by omega) (run_ex1 _ _ _ _ _ _ 25 _ _ ((q12.2.2.1 25 (by omega)).trans q11.2.1)) (fun a13 q13 => ?_)
    have z13 := q13.1.trans z12
    have t26 : a13.tmps[26]?.getD undef = .slice (some ⟨L, 0, none⟩) 3 3 := by
      rw [q13.2.2.1 _ (by omega), q12.2.2.1 _ (by omega), q11.2.2.1 _ (by omega), q10.2.2.1 _ (by omega), q9.2.2.1 _ (by omega), q8.2.2.1 _ (by omega)]; exact q7.2.1
    have t27 : a13.tmps[27]?.getD undef = .int .i64 (k : Int) := by
      rw [q13.2.2.1 _ (by omega), q12.2.2.1 _ (by omega), q11.2.2.1 _ (by omega), q10.2.2.1 _ (by omega), q9.2.2.1 _ (by omega)]; exact q8.2.1
    refine val_go rfl rfl (by omega) (run_iat _ _ _ _ _ _ 26 27 k L t26 t27 hlt) (fun a14 q14 => ?_)
    have z14 := q14.1.trans z13
    have t30 := (q14.2.2.1 30 (by omega)).trans ((q13.2.2.1 30 (by omega)).trans q12.2.1)
    obtain ⟨u, hu1⟩ := rowL_some k hlt
    have hu := (blk_cell hL k).trans hu1
    refine skip_step rfl (run_stf _ _ _ _ _ _ 32 30 L k x u q14.2.1 t30 hu (frozen_of_row w4 L k _ _ hL)) ?_
    refine val_go (a := a14) rfl rfl (by omega) (run_as _ _ _ _ _ _ 31 _ ((q14.2.2.1 31 (by omega)).trans q13.2.1)) (fun a15 q15 => ?_)
    have z15 := q15.1.trans z14
    have o15 : ∀ j, j < 21 → j ≠ 6 → j ≠ 7 → j ≠ 8 → a15.tmps[j]?.getD undef = a.tmps[j]?.getD undef := fun j h1 h2 h3 h4 => by
      rw [q15.2.2.1 j (by omega), q14.2.2.1 j (by omega), q13.2.2.1 j (by omega), q12.2.2.1 j (by omega), q11.2.2.1 j (by omega), q10.2.2.1 j (by omega), q9.2.2.1 j (by omega), q8.2.2.1 j (by omega), q7.2.2.1 j (by omega)]
      exact o6 j h1 h3 h4
    have d15 : a15.defers = [] := by
      rw [q15.2.2.2, q14.2.2.2, q13.2.2.2, q12.2.2.2, q11.2.2.2, q10.2.2.2, q9.2.2.2, q8.2.2.2, q7.2.2.2, q6.2.2.2, q5.2.2.2, q4.2.2.2, q3.2.2.2, q2.2.2.2, q1.2.2.2]; exact R.df
    have hL5 := blk_set hL k (.float .f64 x)
    rw [hx1] at hL5
    have hW5 : (w4.setCell ⟨L, k, none⟩ (.float .f64 x)).heap[wb]? = _ := blk_far hW (by show wb ≠ L; exact fun e => hne e.symm) _
    have hB5 : Below w.heap.size w (w4.setCell ⟨L, k, none⟩ (.float .f64 x)) := below_set hB (by omega)
    refine err_no (b := 33) q15.2.1 (by omega) (fun a16 f16 => ?_)
    have z16 := f16.sz.trans z15
    refine wp_region_lit ?_
    refine val_go rfl rfl (by omega) (run_inc _ _ _ _ _ _ 20 k ((f16.at_ 20 (by omega) (by omega)).trans ((o15 20 (by omega) (by omega) (by omega) (by omega)).trans R.t20)) hlt) (fun a17 q17 => ?_)
    have z17 := q17.1.trans z16
    refine val_go rfl rfl (by omega) (run_mv _ _ _ _ _ _ 36 _ q17.2.1) (fun a18 q18 => ?_)
    have o18 : ∀ j, j < 20 → j ≠ 6 → j ≠ 7 → j ≠ 8 → a18.tmps[j]?.getD undef = a.tmps[j]?.getD undef := fun j h1 h2 h3 h4 => by
      rw [q18.2.2.1 j (by omega), q17.2.2.1 j (by omega), f16.at_ j (by omega) (by omega)]
      exact o15 j (by omega) h2 h3 h4
    exact ⟨3 - (k + 1), by omega, k + 1, by omega, rfl, ⟨q18.1.trans z17, by rw [q18.2.2.2, q17.2.2.2, f16.df]; exact d15, (o18 4 (by omega) (by omega) (by omega) (by omega)).trans R.t4, (o18 18 (by omega) (by omega) (by omega) (by omega)).trans R.t18, (o18 19 (by omega) (by omega) (by omega) (by omega)).trans R.t19, q18.2.1⟩, hL5, hW5, hB5⟩
  · obtain rfl : k = 3 := by omega
    refine wp_seq (wp_region_lit ?_)
    refine val_go rfl rfl (by omega) (run_lss3 _ _ _ _ _ _ 20 19 _ _ R.t20 R.t19 false (by simp)) (fun a1 q1 => ?_)
    have z1 := q1.1.trans hz
    refine wp_seq (wp_cond_false (ev_tmp q1.2.1) (wp_exit ?_))
    have T4 := (q1.2.2.1 4 (by omega)).trans R.t4
    have d1 := q1.2.2.2.trans R.df
    show Code.wp Tryz.prog (Code.seq _ _) _ a1 w3
    have hL0 : w3.drew.heap[L]? = some (.cells (rowL 3) 32 (0, 0)) := hL
    have hB0 : Below w.heap.size w w3.drew := below_drew hB
    refine wp_seq ?_
    refine start_ (n := 13) (S := fun w' => w'.heap[L]? = some (.cells (rowL 3) 32 (0, 0))) (ds := []) #[false, false, false, false, false, false, false, false, false, false, false, false, false] (by kernel_rfl) rfl rfl hL0 (fun _ => ?_)
    generalize w3.drew = W at hL0 hB0 ⊢
    refine pure_ (i := 0) (N := some 37) (v := .slice (some ⟨L, 0, none⟩) 3 3) #[true, false, false, false, false, false, false, false, false, false, false, false, false] rfl rfl (by kernel_rfl) (fun _ _ _ h => h) (Or.inl ⟨by rfl, fun w' => run_mv _ _ _ _ _ _ 4 _ T4⟩) rfl ?_
    have e0 : Puts a1 (a1.put (some 37) (.slice (some ⟨L, 0, none⟩) 3 3)) 37 (.slice (some ⟨L, 0, none⟩) 3 3) := puts_put (by omega)
    generalize a1.put (some 37) (.slice (some ⟨L, 0, none⟩) 3 3) = b1 at e0 ⊢
    have zb1 := e0.1.trans z1
    refine pure_ (i := 1) (N := some 38) (v := .pointer (some ⟨L, 0, none⟩)) #[true, true, false, false, false, false, false, false, false, false, false, false, false] rfl rfl (by kernel_rfl) (fun _ _ _ h => h) (Or.inl ⟨by rfl, fun w' => run_iaf _ _ _ _ _ _ 37 0 L e0.2.1 (by omega)⟩) rfl ?_
    have e1 : Puts b1 (b1.put (some 38) (.pointer (some ⟨L, 0, none⟩))) 38 (.pointer (some ⟨L, 0, none⟩)) := puts_put (by omega)
    generalize b1.put (some 38) (.pointer (some ⟨L, 0, none⟩)) = b2 at e1 ⊢
    have zb2 := e1.1.trans zb1
    refine take_ (i := 2) (N := some 39) (v := .float .f64 4602678819172646912) #[true, true, true, false, false, false, false, false, false, false, false, false, false] rfl rfl (by kernel_rfl) (fun _ _ _ h => h) (Or.inl ⟨by rfl, fun w' hw' => run_ldf _ _ _ _ _ _ 38 _ _ e1.2.1 (blk_cell hw' 0)⟩) hL0 rfl ?_
    have e2 : Puts b2 (b2.put (some 39) (.float .f64 4602678819172646912)) 39 (.float .f64 4602678819172646912) := puts_put (by omega)
    generalize b2.put (some 39) (.float .f64 4602678819172646912) = b3 at e2 ⊢
    have zb3 := e2.1.trans zb2
    refine pure_ (i := 3) (N := some 40) (v := .slice (some ⟨L, 0, none⟩) 3 3) #[true, true, true, true, false, false, false, false, false, false, false, false, false] rfl rfl (by kernel_rfl) (fun _ _ _ h => h) (Or.inl ⟨by rfl, fun w' => run_mv _ _ _ _ _ _ 4 _ ((e2.2.2.1 4 (by omega)).trans ((e1.2.2.1 4 (by omega)).trans ((e0.2.2.1 4 (by omega)).trans (T4))))⟩) rfl ?_
    have e3 : Puts b3 (b3.put (some 40) (.slice (some ⟨L, 0, none⟩) 3 3)) 40 (.slice (some ⟨L, 0, none⟩) 3 3) := puts_put (by omega)
    generalize b3.put (some 40) (.slice (some ⟨L, 0, none⟩) 3 3) = b4 at e3 ⊢
    have zb4 := e3.1.trans zb3
    refine pure_ (i := 4) (N := some 41) (v := .pointer (some ⟨L, 1, none⟩)) #[true, true, true, true, true, false, false, false, false, false, false, false, false] rfl rfl (by kernel_rfl) (fun _ _ _ h => h) (Or.inl ⟨by rfl, fun w' => run_iaf _ _ _ _ _ _ 40 1 L e3.2.1 (by omega)⟩) rfl ?_
    have e4 : Puts b4 (b4.put (some 41) (.pointer (some ⟨L, 1, none⟩))) 41 (.pointer (some ⟨L, 1, none⟩)) := puts_put (by omega)
    generalize b4.put (some 41) (.pointer (some ⟨L, 1, none⟩)) = b5 at e4 ⊢
    have zb5 := e4.1.trans zb4
    refine take_ (i := 5) (N := some 42) (v := .float .f64 4598175219545276416) #[true, true, true, true, true, true, false, false, false, false, false, false, false] rfl rfl (by kernel_rfl) (fun _ _ _ h => h) (Or.inl ⟨by rfl, fun w' hw' => run_ldf _ _ _ _ _ _ 41 _ _ e4.2.1 (blk_cell hw' 1)⟩) hL0 rfl ?_
    have e5 : Puts b5 (b5.put (some 42) (.float .f64 4598175219545276416)) 42 (.float .f64 4598175219545276416) := puts_put (by omega)
    generalize b5.put (some 42) (.float .f64 4598175219545276416) = b6 at e5 ⊢
    have zb6 := e5.1.trans zb5
    refine pure_ (i := 6) (N := some 43) (v := .slice (some ⟨L, 0, none⟩) 3 3) #[true, true, true, true, true, true, true, false, false, false, false, false, false] rfl rfl (by kernel_rfl) (fun _ _ _ h => h) (Or.inl ⟨by rfl, fun w' => run_mv _ _ _ _ _ _ 4 _ ((e5.2.2.1 4 (by omega)).trans ((e4.2.2.1 4 (by omega)).trans ((e3.2.2.1 4 (by omega)).trans ((e2.2.2.1 4 (by omega)).trans ((e1.2.2.1 4 (by omega)).trans ((e0.2.2.1 4 (by omega)).trans (T4)))))))⟩) rfl ?_
    have e6 : Puts b6 (b6.put (some 43) (.slice (some ⟨L, 0, none⟩) 3 3)) 43 (.slice (some ⟨L, 0, none⟩) 3 3) := puts_put (by omega)
    generalize b6.put (some 43) (.slice (some ⟨L, 0, none⟩) 3 3) = b7 at e6 ⊢
    have zb7 := e6.1.trans zb6
    refine pure_ (i := 7) (N := some 44) (v := .pointer (some ⟨L, 2, none⟩)) #[true, true, true, true, true, true, true, true, false, false, false, false, false] rfl rfl (by kernel_rfl) (fun _ _ _ h => h) (Or.inl ⟨by rfl, fun w' => run_iaf _ _ _ _ _ _ 43 2 L e6.2.1 (by omega)⟩) rfl ?_
    have e7 : Puts b7 (b7.put (some 44) (.pointer (some ⟨L, 2, none⟩))) 44 (.pointer (some ⟨L, 2, none⟩)) := puts_put (by omega)
    generalize b7.put (some 44) (.pointer (some ⟨L, 2, none⟩)) = b8 at e7 ⊢
    have zb8 := e7.1.trans zb7
    refine take_ (i := 8) (N := some 45) (v := .float .f64 4604930618986332160) #[true, true, true, true, true, true, true, true, true, false, false, false, false] rfl rfl (by kernel_rfl) (fun _ _ _ h => h) (Or.inl ⟨by rfl, fun w' hw' => run_ldf _ _ _ _ _ _ 44 _ _ e7.2.1 (blk_cell hw' 2)⟩) hL0 rfl ?_
    have e8 : Puts b8 (b8.put (some 45) (.float .f64 4604930618986332160)) 45 (.float .f64 4604930618986332160) := puts_put (by omega)
    generalize b8.put (some 45) (.float .f64 4604930618986332160) = b9 at e8 ⊢
    have zb9 := e8.1.trans zb8
    refine pure_ (i := 9) (N := some 46) (v := .agg (rowL 3)) #[true, true, true, true, true, true, true, true, true, true, false, false, false] rfl rfl (by kernel_rfl) (fun _ _ _ h => h) (Or.inl ⟨by rfl, fun w' => run_bd252 _ _ _ _ _ _ 39 42 45 _ _ _ ((e8.2.2.1 39 (by omega)).trans ((e7.2.2.1 39 (by omega)).trans ((e6.2.2.1 39 (by omega)).trans ((e5.2.2.1 39 (by omega)).trans ((e4.2.2.1 39 (by omega)).trans ((e3.2.2.1 39 (by omega)).trans e2.2.1)))))) ((e8.2.2.1 42 (by omega)).trans ((e7.2.2.1 42 (by omega)).trans ((e6.2.2.1 42 (by omega)).trans e5.2.1))) e8.2.1⟩) rfl ?_
    have e9 : Puts b9 (b9.put (some 46) (.agg (rowL 3))) 46 (.agg (rowL 3)) := puts_put (by omega)
    generalize b9.put (some 46) (.agg (rowL 3)) = b10 at e9 ⊢
    have zb10 := e9.1.trans zb9
    refine one_ (i := 10) (N := some 47) #[true, true, true, true, true, true, true, true, true, true, true, false, false] rfl rfl (by kernel_rfl) (by decide) (fun K hK => ?_)
    refine value_ (by rfl) rfl (run_box252 _ _ _ _ _ _ 46 _ e9.2.1) ?_
    refine hK.out _ _ ((blk_old W _ _ (blk_lt hL0)).trans hL0) (fun _ => ?_)
    clear hK K
    have e10 : Puts b10 (b10.put (some 47) (.pointer (some ⟨W.heap.size, 0, none⟩))) 47 (.pointer (some ⟨W.heap.size, 0, none⟩)) := puts_put (by omega)
    generalize b10.put (some 47) (.pointer (some ⟨W.heap.size, 0, none⟩)) = b11 at e10 ⊢
    have zb11 := e10.1.trans zb10
    refine pure_ (i := 11) (N := some 2) (v := .pointer (some ⟨W.heap.size, 0, none⟩)) #[true, true, true, true, true, true, true, true, true, true, true, true, false] rfl rfl (by kernel_rfl) (fun _ _ _ h => h) (Or.inl ⟨by rfl, fun w' => run_as _ _ _ _ _ _ 47 _ e10.2.1⟩) rfl ?_
    have e11 : Puts b11 (b11.put (some 2) (.pointer (some ⟨W.heap.size, 0, none⟩))) 2 (.pointer (some ⟨W.heap.size, 0, none⟩)) := puts_put (by omega)
    generalize b11.put (some 2) (.pointer (some ⟨W.heap.size, 0, none⟩)) = b12 at e11 ⊢
    have zb12 := e11.1.trans zb11
    refine pure_ (i := 12) (N := some 3) (v := .nilIface) #[true, true, true, true, true, true, true, true, true, true, true, true, true] rfl rfl (by kernel_rfl) (fun _ _ _ h => h) (Or.inl ⟨by rfl, fun w' => run_asc _ _ _ _ _ _ _⟩) rfl ?_
    have e12 : Puts b12 (b12.put (some 3) .nilIface) 3 .nilIface := puts_put (by omega)
    generalize b12.put (some 3) .nilIface = b13 at e12 ⊢
    refine done_ (by kernel_rfl) ?_
    have hd13 : b13.defers = [] := by
      rw [e12.2.2.2, e11.2.2.2, e10.2.2.2, e9.2.2.2, e8.2.2.2, e7.2.2.2, e6.2.2.2, e5.2.2.2, e4.2.2.2, e3.2.2.2, e2.2.2.2, e1.2.2.2, e0.2.2.2]; exact d1
    have r2 := (e12.2.2.1 2 (by omega)).trans e11.2.1
    refine wp_ret ?_
    refine bodyPost_ret (results_tmp2 rfl _ _ _) hd13 (.mk _ rfl ⟨W.heap.size, ?_, heap_alloc_new W _, below_alloc hB0 _⟩)
    simp only [Array.getD_eq_getD_getElem?, r2, e12.2.1]
end Go.Proofs.YtaniejfkbapbbaaGreatDoor
namespace Go.Proofs.YtaniejfkbapbbaaGreatDoor
open Go.RowKit Go.Proofs.YtaniejfkbapbbaaGreatDoorW.PrintWords Go.Proofs.YtaniejfkbapbbaaGreatDoorW.PrintLast Go.Proofs.YtaniejfkbapbbaaGreatDoorW.PrintMore

theorem R_row {α : Type} {d : Kd α} {e b b' g : Nat} {V : Value} {xs : List α} {w1 : World} {X : Array Value} (h : Kd.R d e w1 b (fun _ => True) V xs) (hg : g < b) (hb : b' ≤ b) : Kd.R d e (w1.setRow g X) b' (fun _ => True) V xs := by
  have h1 : Kd.R d e (w1.setRow g X) b (fun k => b ≤ k) V xs := Kd.R_move (Kd.R_mono (Kd.R_bound h) (fun k hk => hk.2.1)) (fun k hk => setRow_far (by omega))
  exact Kd.R_mono (Kd.R_lower h1 hb) (fun _ _ => trivial)
theorem R_cell {α : Type} {d : Kd α} {e b b' : Nat} {V : Value} {xs : List α} {w1 : World} {p : Addr} {u : Value} (h : Kd.R d e w1 b (fun _ => True) V xs) (hg : p.block < b) (hb : b' ≤ b) : Kd.R d e (w1.setCell p u) b' (fun _ => True) V xs := by
  have h1 : Kd.R d e (w1.setCell p u) b (fun k => b ≤ k) V xs := Kd.R_move (Kd.R_mono (Kd.R_bound h) (fun k hk => hk.2.1)) (fun k hk => Below.heap_setCell _ p _ k (by omega))
  exact Kd.R_mono (Kd.R_lower h1 hb) (fun _ _ => trivial)
def leafL (nm : ByteArray) (x : Nat) : List Value := [.string nm, .int .i64 4, .bool false, .int .i64 0, .int .u64 0, .float .f64 x, .string ⟨#[]⟩, .slice none 0 0]
def kidsL : List (List Value) := [leafL ⟨#[76, 111, 97, 100, 49]⟩ 4602678819172646912, leafL ⟨#[76, 111, 97, 100, 53]⟩ 4598175219545276416, leafL ⟨#[76, 111, 97, 100, 49, 53]⟩ 4604930618986332160]
/-- The tree of the three numbers. -/
def SomeLoad (w : World) (v : Value) (w' : World) : Prop := ∃ (A : Option Addr) (c : Nat), v = .agg (secCells ⟨#[]⟩ (.slice A 3 c)) ∧ Kd.R (Kd.raw 8) 35 w' w.heap.size (fun _ => True) (.slice A 3 c) kidsL ∧ Below w.heap.size w w'
section
variable (a : Act) (ty : TypeId) (p : String) (nd : Array Edge) (dst : Option Tmp) (w : World)
theorem run_bd4 (n : Nat) (x : Nat) (nm : ByteArray) (h : a.tmps[n]?.getD undef = .float .f64 x) :
    (execOp a.eval { dst := dst, op := .build 35 #[(0, .const (.string nm)), (1, .const (.int .i64 4)), (5, .tmp n)], type := ty, pos := p, after := nd, guard := none }).run Tryz.prog w = .ok (.value (.agg (leafL nm x).toArray)) w := by
  simp only [leafL]
  go_simp
theorem run_cv9 (n : Nat) (s : ByteArray) (h : a.tmps[n]?.getD undef = .string s) :
    ∃ c, (execOp a.eval { dst := dst, op := .convert 9 137 (.tmp n), type := ty, pos := p, after := nd, guard := none }).run Tryz.prog w = .ok (.value (.slice (some ⟨w.heap.size, 0, none⟩) s.size c)) (Lib.bytesWorld w 5 s) := by
  have hcv := Lib.run_convert_string_bytes (P := Tryz.prog) w 9 137 5 s Tryz.underlying9 Tryz.underlying137 Tryz.underlying5
  refine ⟨grownCap w s.size 0 5, ?_⟩
  simp only [execOp, ev_tmp h, Sem.run_bind, hcv, Result.andThen, Sem.run_pure]
theorem run_lenS (n : Nat) (s : ByteArray) (h : a.tmps[n]?.getD undef = .string s) :
    (execOp a.eval { dst := dst, op := .call { callee := .builtin .len, args := #[.tmp n], argTypes := #[9] }, type := ty, pos := p, after := nd, guard := none }).run Tryz.prog w = .ok (.value (.int .i64 s.size)) w := by
  go_simp
theorem run_gtr (n : Nat) (x y : Int) (t : Bool) (h : a.tmps[n]?.getD undef = .int .i64 x) (ht : decide (y < x) = t) :
    (execOp a.eval { dst := dst, op := .binOp .gtr 3 (.tmp n) (.const (.int .i64 y)) 3, type := ty, pos := p, after := nd, guard := none }).run Tryz.prog w = .ok (.value (.bool t)) w := by
  subst ht
  go_simp
theorem run_box248 (n : Nat) (s : ByteArray) (h : a.tmps[n]?.getD undef = .agg #[.string s]) :
    (execOp a.eval { dst := dst, op := .box 248 (.tmp n), type := ty, pos := p, after := nd, guard := none }).run Tryz.prog w = .ok (.value (.pointer (some ⟨w.heap.size, 0, none⟩))) (w.alloc (.cells #[.string s] 248)) := by
  go_simp
theorem run_fa248 (n g : Nat) (h : a.tmps[n]?.getD undef = .pointer (some ⟨g, 0, none⟩)) :
    (execOp a.eval { dst := dst, op := .fieldAddr 248 (.tmp n) 0, type := ty, pos := p, after := nd, guard := none }).run Tryz.prog w = .ok (.value (.pointer (some ⟨g, 0, none⟩))) w := by
  go_simp
theorem run_ld57 (n : Nat) (ad : Addr) (v : Value) (h : a.tmps[n]?.getD undef = .pointer (some ad)) (hc : w.cell? ad = some v) :
    (execOp a.eval { dst := dst, op := .load 57 (.tmp n), type := ty, pos := p, after := nd, guard := none }).run Tryz.prog w = .ok (.value v) w := by
  go_simp
theorem run_bs1 (s : ByteArray) :
    (execOp a.eval { dst := dst, op := .buildSlice 44 1 #[(0, .const (.string s))], type := ty, pos := p, after := nd, guard := none }).run Tryz.prog w = .ok (.value (.slice (some ⟨w.heap.size, 0, none⟩) 1 1)) (w.alloc (.cells #[.string s] 9)) := by
  go_simp
theorem run_call2t (n n' k t t' : Nat) (u v : Value) (hen : ∀ args w, (callFunc k args).run Tryz.prog w = .ok (.enter k args) w) (h : a.tmps[n]?.getD undef = u) (h' : a.tmps[n']?.getD undef = v) :
    (execOp a.eval { dst := dst, op := .call { callee := .value (.func k), args := #[.tmp n, .tmp n'], argTypes := #[t, t'] }, type := ty, pos := p, after := nd, guard := none }).run Tryz.prog w = .ok (.enter k #[u, v]) w := by
  subst h
  subst h'
  go_simp
theorem run_pnil' (n t : Nat) (ad : Addr) (h : a.tmps[n]?.getD undef = .pointer (some ad)) (ht : Tryz.prog.underlying 245 = some (.pointer t)) :
    (execOp a.eval { dst := dst, op := .binOp .eql 245 (.tmp n) (.const (.pointer none)) 245, type := ty, pos := p, after := nd, guard := none }).run Tryz.prog w = .ok (.value (.bool false)) w := by
  go_simp
theorem run_fa252 (i g : Nat) (h : a.tmps[3]?.getD undef = .pointer (some ⟨g, 0, none⟩)) (hi : i < 3) :
    (execOp a.eval { dst := dst, op := .fieldAddr 252 (.tmp 3) i, type := ty, pos := p, after := nd, guard := none }).run Tryz.prog w = .ok (.value (.pointer (some ⟨g, i, none⟩))) w := by
  match i, hi with
  | 0, _ => go_simp
  | 1, _ => go_simp
  | 2, _ => go_simp
theorem run_callr (n k : Nat) (r : Value) (hen : ∀ args w, (callFunc k args).run Tryz.prog w = .ok (.enter k args) w) (h : a.tmps[n]?.getD undef = .func (.func k) #[r] #[]) :
    (execOp a.eval { dst := dst, op := .call { callee := .value (.tmp n), args := #[], argTypes := #[] }, type := ty, pos := p, after := nd, guard := none }).run Tryz.prog w = .ok (.enter k #[r]) w := by
  go_simp
theorem run_mfr (n k : Nat) (u : Value) (h : a.tmps[n]?.getD undef = u) :
    (execOp a.eval { dst := dst, op := .makeFunc (.func k) #[.tmp n] #[], type := ty, pos := p, after := nd, guard := none }).run Tryz.prog w = .ok (.value (.func (.func k) #[u] #[])) w := by
  subst h
  have hmf : ∀ (fn : Fn) (first cap : Array Value) (w : World), (Instr.makeFunc fn first cap).run Tryz.prog w = .ok (.func fn first cap) w := fun _ _ _ _ => rfl
  go_simp
end
theorem load_cells (A : Option Addr) (c : Nat) : (secCells ⟨#[]⟩ (.slice A 3 c)).all (·.oneCell') = true := by
  simp [secCells, Value.oneCell']
theorem store_load {ops : Array Oper} {Q : Exit → Act → World → Prop} {a : Act} {w : World} {rest : List Oper} (ty : TypeId) (p : String) (nd : Array Edge) {n n' g : Nat} {A : Option Addr} {c : Nat} {old : Array Value} (ht : a.tmps[n]?.getD undef = .pointer (some ⟨g, 0, none⟩)) (ht' : a.tmps[n']?.getD undef = .agg (secCells ⟨#[]⟩ (.slice A 3 c))) (hg : w.heap[g]? = some (.cells old 35 (0, 0))) (ho : old.size = 8)
    (h : wpList Tryz.prog ops Q rest a (w.setRow g (secCells ⟨#[]⟩ (.slice A 3 c)))) :
    wpList Tryz.prog ops Q ({ dst := none, op := .store 35 (.tmp n) (.tmp n'), type := ty, pos := p, after := nd, guard := none } :: rest) a w :=
  wpList_plain rfl (fun K hK' => wp_store_row 35 (.tmp n) (.tmp n') rfl g (secCells ⟨#[]⟩ (.slice A 3 c)) (ev_tmp ht) (ev_tmp ht') 35 old hg (by kernel_rfl) (by rw [ho]; rfl) (load_cells A c) (hK' _ _ h))
theorem load_back {g b : Nat} {A : Option Addr} {c : Nat} {w w1 : World} {a : Act} {fn : Func} {p : Tmp} (hfn : fn.results = #[.cell p 35]) (hp : a.tmps[p]?.getD undef = .pointer (some ⟨g, 0, none⟩)) (hd : a.defers = []) (hg : g = w.heap.size) (hM : Kd.R (Kd.raw 8) 35 w1 b (fun _ => True) (.slice A 3 c) kidsL) (hb : g < b) (hB : Below w.heap.size w w1)
    {old : Array Value} (ho : w1.heap[g]? = some (.cells old 35 (0, 0))) : bodyPost Tryz.prog fn (Ret (SomeLoad w)) .ret a (w1.setRow g (secCells ⟨#[]⟩ (.slice A 3 c))) :=
  bodyPost_ret (results_cell1 hfn _ _ g 35 (secCells ⟨#[]⟩ (.slice A 3 c)) (0, 0) _ (by rw [Array.getD_eq_getD_getElem?]; exact hp) (setRow_heap ho) Tryz.underlying35 (by kernel_rfl)) hd (.mk _ rfl ⟨A, c, rfl, R_row hM hb (by omega), below_setRow hB (by omega)⟩)
theorem Path_c (s : ByteArray) (u : Value) (w : World) : Calls Tryz.prog 125 #[.string s, u] w (Ret (fun v w' => v = .string s ∧ w' = w)) := by
  go_enter Tryz.func125, Tryz.ntmps125
  go_wp2
  go_ret
  exact .mk _ rfl ⟨rfl, rfl⟩
set_option maxRecDepth 100000 in
theorem Read_c (s : ByteArray) (w : World) (hs : s.size ≤ 1048576) : Calls Tryz.prog 126 #[.string s] w (Ret (fun v w' => ∃ b c, v = .tuple #[.slice (some ⟨b, 0, none⟩) s.size c, .nilIface] ∧ (∀ i, i < s.size → w'.cell? ⟨b, 0 + i, none⟩ = some (.int .u8 ((s.data.toList.map fun x => (x.toNat : Int)).getD i 0))) ∧ Below w.heap.size w w')) := by
  go_enter Tryz.func126, Tryz.ntmps126
  refine from_act _ (fun a => a.tmps.size = 11 ∧ a.tmps[0]?.getD undef = .string s ∧ a.defers = []) ⟨rfl, rfl, rfl⟩ ?_
  rintro a ⟨hz, h0, hdf⟩
  refine wp_seq (wp_region_lit ?_)
  refine val_go rfl rfl (by omega) (run_asc _ _ _ _ _ _ _) (fun a1 q1 => ?_)
  have z1 := q1.1.trans hz
  refine val_go rfl rfl (by omega) (run_asc _ _ _ _ _ _ _) (fun a2 q2 => ?_)
  have z2 := q2.1.trans z1
  refine wp_seq (wp_seq (wp_region_lit ?_))
  have t0 := (q2.2.2.1 0 (by omega)).trans ((q1.2.2.1 0 (by omega)).trans h0)
  refine val_go rfl rfl (by omega) (run_mv _ _ _ _ _ _ 0 _ t0) (fun a3 q3 => ?_)
  have z3 := q3.1.trans z2
  refine val_go rfl rfl (by omega) (run_lenS _ _ _ _ _ _ 4 s q3.2.1) (fun a4 q4 => ?_)
  have z4 := q4.1.trans z3
  refine val_go rfl rfl (by omega) (run_gtr _ _ _ _ _ _ 5 _ 1048576 false q4.2.1 (by simp; omega)) (fun a5 q5 => ?_)
  have z5 := q5.1.trans z4
  refine wp_cond_false (ev_tmp q5.2.1) (wp_skip ?_)
  refine wp_seq (wp_region_lit ?_)
  refine val_go rfl rfl (by omega) (run_mv _ _ _ _ _ _ 0 _ ((q5.2.2.1 0 (by omega)).trans ((q4.2.2.1 0 (by omega)).trans ((q3.2.2.1 0 (by omega)).trans t0)))) (fun a6 q6 => ?_)
  have z6 := q6.1.trans z5
  obtain ⟨c, hc⟩ := run_cv9 a6 _ _ _ _ w 9 s q6.2.1
  refine val_go rfl rfl (by omega) hc (fun a7 q7 => ?_)
  have z7 := q7.1.trans z6
  refine val_go rfl rfl (by omega) (run_as _ _ _ _ _ _ 10 _ q7.2.1) (fun a8 q8 => ?_)
  have z8 := q8.1.trans z7
  refine val_go rfl rfl (by omega) (run_asc _ _ _ _ _ _ _) (fun a9 q9 => ?_)
  have r2 := (q9.2.2.1 2 (by omega)).trans q8.2.1
  refine wp_ret ?_
  refine bodyPost_ret (results_tmp2 rfl _ _ _) ?_ (.mk _ rfl ⟨w.heap.size, c, ?_, fun i hi => ?_, below_bytes' w 5 s⟩)
  · rw [q9.2.2.2, q8.2.2.2, q7.2.2.2, q6.2.2.2, q5.2.2.2, q4.2.2.2, q3.2.2.2, q2.2.2.2, q1.2.2.2]; exact hdf
  · simp only [Array.getD_eq_getD_getElem?, r2, q9.2.1]
  · rw [Nat.zero_add, getD_bytes s.data.toList i]
    exact Lib.bytesWorld_cell w 5 s i hi
theorem TextFS_c (s : ByteArray) (w : World) : Calls Tryz.prog 112 #[.string s] w (Ret (fun v w' => v = .agg #[.string s] ∧ Below w.heap.size w w')) := by
  have c0 := heap_alloc_new w (.cells #[.string s] 248)
  have hB := below_alloc (Below.refl w.heap.size w) (.cells #[.string s] 248)
  have HB := Lib.hid hB
  have HC := Lib.hid c0
  clear hB c0
  go_enter Tryz.func112, Tryz.ntmps112
  go_wp2
  refine bodyPost_ret (results_cell1 rfl _ _ w.heap.size 248 #[.string s] (0, 0) _ rfl HC.out Tryz.underlying248 (by kernel_rfl)) rfl (.mk _ rfl ⟨rfl, HB.out⟩)
structure Sl (w0 : World) (g : Nat) (v : Value) (xs : List (List Value)) (w : World) : Prop where
  hg : g = w0.heap.size
  b3 : w.heap[g]? = some (.cells (rowL 3) 252 (0, 0))
  b4 : w.heap[g + 1]? = some (.cells zeroN 35 (0, 0))
  b5 : w.heap[g + 2]? = some (.cells (secCells ⟨#[]⟩ v) 35 (0, 0))
  R : Kd.R (Kd.raw 8) 35 w (g + 3) (fun _ => True) v xs
  B : Below w0.heap.size w0 w
section
variable {id b i bx : Nat} {y0 y1 y2 y3 y4 y5 y6 y7 y8 : TypeId} {p0 p1 p2 p3 p4 p5 p6 p7 p8 : String} {n0 n1 n2 n3 n4 n5 n6 n7 n8 : Array Edge} {Q : Exit → Act → World → Prop} {a : Act} {w0 w : World} {g : Nat} {nm : ByteArray} {v : Value} {xs : List (List Value)}
set_option maxHeartbeats 1000000 in
theorem load_reg (hb : 6 ≤ b) (hsz : b + 8 ≤ a.tmps.size) (hA : Slots a g) (hS : Sl w0 g v xs w) (hl : xs.length ≤ 900)
    (hi : i < 3) (hx : (rowL 3)[i]? = some (.float .f64 bx))
    (h : ∀ a' v' w', a'.tmps.size = a.tmps.size → Slots a' g → Sl w0 g v' (xs ++ [leafL nm bx]) w' → Q .normal a' w') :
    (Code.region id #[{ dst := some b, op := .fieldAddr 35 (.tmp 5) 7, type := y0, pos := p0, after := n0, guard := none },
      { dst := some (b + 1), op := .load 33 (.tmp b), type := y1, pos := p1, after := n1, guard := none },
      { dst := some (b + 2), op := .fieldAddr 252 (.tmp 3) i, type := y2, pos := p2, after := n2, guard := none },
      { dst := some (b + 3), op := .load 32 (.tmp (b + 2)), type := y3, pos := p3, after := n3, guard := none },
      { dst := some (b + 4), op := .build 35 #[(0, .const (.string nm)), (1, .const (.int .i64 4)), (5, .tmp (b + 3))], type := y4, pos := p4, after := n4, guard := none },
      { dst := some (b + 5), op := .buildSlice 33 1 #[(0, .tmp (b + 4))], type := y5, pos := p5, after := n5, guard := none },
      { dst := some (b + 6), op := .call { callee := .builtin .append, args := #[.tmp (b + 1), .tmp (b + 5)], argTypes := #[33, 33] }, type := y6, pos := p6, after := n6, guard := none },
      { dst := some (b + 7), op := .fieldAddr 35 (.tmp 5) 7, type := y7, pos := p7, after := n7, guard := none },
      { dst := none, op := .store 33 (.tmp (b + 7)) (.tmp (b + 6)), type := y8, pos := p8, after := n8, guard := none }] false).wp Tryz.prog Q a w := by
  refine wp_region_lit ?_
  refine val_go rfl rfl (by omega) (run_fa5 _ _ _ _ _ _ (g + 2) 5 hA.s5) (fun a1 p1 => ?_)
  have A1 := hA.to p1 (by omega)
  refine val_go rfl rfl (by rw [p1.1]; omega) (run_ld33 _ _ _ _ _ _ (g + 2) 7 b v p1.2.1 (blk_cell hS.b5 7)) (fun a2 p2 => ?_)
  have A2 := A1.to p2 (by omega)
  refine val_go rfl rfl (by rw [p2.1, p1.1]; omega) (run_fa252 _ _ _ _ _ _ i g A2.s3 hi) (fun a3 p3 => ?_)
  have A3 := A2.to p3 (by omega)
  have hc0 : w.cell? ⟨g, i, none⟩ = some (.float .f64 bx) := (blk_cell hS.b3 i).trans hx
  refine val_go rfl rfl (by rw [p3.1, p2.1, p1.1]; omega) (run_ldf _ _ _ _ _ _ (b + 2) _ _ p3.2.1 hc0) (fun a4 p4 => ?_)
  have A4 := A3.to p4 (by omega)
  have z4 : a4.tmps.size = a.tmps.size := by rw [p4.1, p3.1, p2.1, p1.1]
  refine val_go rfl rfl (by rw [z4]; omega) (run_bd4 _ _ _ _ _ _ (b + 3) bx nm p4.2.1) (fun a5 p5 => ?_)
  have A5 := A4.to p5 (by omega)
  refine val_go rfl rfl (by rw [p5.1, z4]; omega) (run_bsN _ _ _ _ _ _ (b + 4) (leafL nm bx) rfl p5.2.1) (fun a6 p6 => ?_)
  have A6 := A5.to p6 (by omega)
  have z6 : a6.tmps.size = a.tmps.size := by rw [p6.1, p5.1, z4]
  have hv : a6.tmps[b + 1]?.getD undef = v := by
    rw [p6.2.2.1 _ (by omega), p5.2.2.1 _ (by omega), p4.2.2.1 _ (by omega), p3.2.2.1 _ (by omega)]
    exact p2.2.1
  have hgw : g + 3 ≤ w.heap.size := Nat.succ_le_of_lt (blk_lt hS.b5)
  refine Kd.R_append (Kd.raw 8) (w0 := w) (W := w) (g + 3) rfl (.tmp (b + 1)) (.tmp (b + 5)) 33 35 (.agg zeroN) 96 rfl Tryz.underlying33 info35 rfl (by show 0 < 8; decide) (by omega) v xs (leafL nm bx) (leafL nm bx) (fun _ => True) (fun _ => False) (ev_tmp hv) (ev_tmp p6.2.1) ⟨rfl, rfl, by simp [leafL, Value.oneCell']⟩ (fun _ h => h.elim) (fun _ _ => trivial) hS.R (Below.refl _ _) hgw (by omega) ?_
  intro v1 w1 hR1 hB1 _ _
  obtain ⟨A0, c0, rfl⟩ := Kd.R_slice hR1
  have p7 : Puts a6 (a6.put (some (b + 6)) _) (b + 6) (.slice A0 (xs ++ [leafL nm bx]).length c0) := puts_put (by omega)
  generalize a6.put (some (b + 6)) (.slice A0 (xs ++ [leafL nm bx]).length c0) = a7 at p7
  have A7 := A6.to p7 (by omega)
  refine val_go rfl rfl (by rw [p7.1]; omega) (run_fa5 _ _ _ _ _ _ (g + 2) 5 A7.s5) (fun a8 p8 => ?_)
  have A8 := A7.to p8 (by omega)
  have k5 : w1.heap[g + 2]? = _ := (hB1.block (g + 2) (by omega)).trans hS.b5
  have k4 : w1.heap[g + 1]? = _ := (hB1.block (g + 1) (by omega)).trans hS.b4
  have k3 : w1.heap[g]? = _ := (hB1.block g (by omega)).trans hS.b3
  refine skip_step rfl (run_st _ _ _ _ _ _ (g + 2) 7 (b + 7) (b + 6) A0 (xs ++ [leafL nm bx]).length c0 v p8.2.1 ((p8.2.2.1 _ (by omega)).trans p7.2.1) (blk_cell k5 7) (frozen_of_row w1 (g + 2) 7 _ _ k5)) ?_
  refine h a8 (.slice A0 (xs ++ [leafL nm bx]).length c0) _ (by rw [p8.1, p7.1, z6]) A8 ⟨hS.hg, ?_, ?_, ?_, ?_, ?_⟩
  · exact blk_far k3 (by show g ≠ g + 2; omega) _
  · exact blk_far k4 (by show g + 1 ≠ g + 2; omega) _
  · exact blk_set k5 7 _
  · exact Kd.R_mono (Kd.R_far (Kd.R_mono (Kd.R_bound hR1) (fun k hk => hk.2.1)) (p := ⟨g + 2, 7, none⟩) (fun k hk => by show k ≠ g + 2; omega) _) (fun _ _ => trivial)
  · have hg := hS.hg
    exact below_set (hS.B.trans (hB1.mono (by omega))) (by omega)
set_option maxHeartbeats 2000000 in
theorem load_end {c : Nat} {fn : Func} (hfn : fn.results = #[.cell 4 35]) (hc : 6 ≤ c) (hsz : c < a.tmps.size) (hA : Slots a g) (hS : Sl w0 g v kidsL w) :
    (Code.seq (Code.region id #[{ dst := some c, op := .load 35 (.tmp 5), type := y0, pos := p0, after := n0, guard := none }, { dst := none, op := .store 35 (.tmp 4) (.tmp c), type := y1, pos := p1, after := n1, guard := none }] false) Code.ret).wp Tryz.prog
      (bodyPost Tryz.prog fn (Ret (SomeLoad w0))) a w := by
  obtain ⟨A0, c0, rfl⟩ := Kd.R_slice hS.R
  refine wp_seq (wp_region_lit ?_)
  refine val_go rfl rfl hsz (run_ld35 _ _ _ _ _ _ (g + 2) 5 ⟨#[]⟩ (.slice A0 kidsL.length c0) hA.s5 hS.b5) (fun a1 p1 => ?_)
  have A1 := hA.to p1 hc
  refine store_load _ _ _ A1.s4 p1.2.1 hS.b4 rfl ?_
  have hg := hS.hg
  show Code.ret.wp _ _ _ _
  refine wp_ret ?_
  refine bodyPost_ret (results_cell1 hfn _ _ (g + 1) 35 (secCells ⟨#[]⟩ (.slice A0 3 c0)) (0, 0) _ (by rw [Array.getD_eq_getD_getElem?]; exact A1.s4) (setRow_heap hS.b4) Tryz.underlying35 (by kernel_rfl)) A1.df (.mk _ rfl ⟨A0, c0, rfl, R_row hS.R (by omega) (by omega), below_setRow hS.B (by omega)⟩)
end
set_option maxRecDepth 100000 in
theorem procLoad_c (w : World) : Calls Tryz.prog 116 #[.string ⟨#[]⟩, .agg (rowL 3)] w (Ret (SomeLoad w)) := by
  go_enter Tryz.func116, Tryz.ntmps116
  refine tree_start (T := 252) (vals := rowL 3) (name := ⟨#[]⟩) (fun a w h => run_box252 _ _ _ _ _ _ 1 _ h) (by simp) rfl rfl rfl (fun a2 w2 y2 A2 S2 => ?_)
  have z2 : a2.tmps.size = 33 := y2
  have X2 : Sl w w.heap.size (.slice none 0 0) [] w2 := ⟨rfl, S2.b3, S2.b4, S2.b5, Kd.R_nil _ _ _ _ _, S2.B⟩
  refine wp_seq (load_reg (b := 8) (i := 0) (bx := 4602678819172646912) (by omega) (by omega) A2 X2 (by simp) (by omega) rfl (fun a3 v3 w3 y3 A3 X3 => ?_))
  have z3 := y3.trans z2
  refine wp_seq (load_reg (b := 16) (i := 1) (bx := 4598175219545276416) (by omega) (by omega) A3 X3 (by simp) (by omega) rfl (fun a4 v4 w4 y4 A4 X4 => ?_))
  have z4 := y4.trans z3
  refine wp_seq (load_reg (b := 24) (i := 2) (bx := 4604930618986332160) (by omega) (by omega) A4 X4 (by simp) (by omega) rfl (fun a5 v5 w5 y5 A5 X5 => ?_))
  have z5 := y5.trans z4
  exact load_end (c := 32) rfl (by omega) (by omega) A5 X5
set_option maxRecDepth 100000 in
theorem pointerL_c (m : Nat) (w : World) (hb : w.heap[m]? = some (.cells (rowL 3) 252 (0, 0))) : Calls Tryz.prog 115 #[.string ⟨#[]⟩, .pointer (some ⟨m, 0, none⟩), .func (.func 116) #[] #[]] w (Ret (SomeLoad w)) := by
  go_enter Tryz.func115, Tryz.ntmps115
  refine from_act _ (fun a => a.tmps.size = 17 ∧ a.tmps[0]?.getD undef = .string ⟨#[]⟩ ∧ a.tmps[1]?.getD undef = .pointer (some ⟨m, 0, none⟩) ∧ a.tmps[2]?.getD undef = .func (.func 116) #[] #[] ∧ a.defers = []) ⟨rfl, rfl, rfl, rfl, rfl⟩ ?_
  rintro a ⟨hz, h0, h1, h2, hdf⟩
  refine wp_seq (wp_region_lit ?_)
  refine val_go rfl rfl (by omega) (run_al35 _ _ _ _ _ _) (fun a1 q1 => ?_)
  have z1 := q1.1.trans hz
  refine wp_seq (wp_seq (wp_region_lit ?_))
  refine val_go rfl rfl (by omega) (run_mv _ _ _ _ _ _ 1 _ ((q1.2.2.1 1 (by omega)).trans h1)) (fun a2 q2 => ?_)
  have z2 := q2.1.trans z1
  refine val_go rfl rfl (by omega) (run_pnil' _ _ _ _ _ _ 7 252 _ q2.2.1 Tryz.underlying245) (fun a3 q3 => ?_)
  have z3 := q3.1.trans z2
  refine wp_cond_false (ev_tmp q3.2.1) (wp_skip ?_)
  have o : ∀ j, j < 6 → a3.tmps[j]?.getD undef = a.tmps[j]?.getD undef := fun j hj => (q3.2.2.1 j (by omega)).trans ((q2.2.2.1 j (by omega)).trans (q1.2.2.1 j (by omega)))
  refine wp_seq (wp_region_lit ?_)
  refine val_go rfl rfl (by omega) (run_mv _ _ _ _ _ _ 2 _ ((o 2 (by omega)).trans h2)) (fun a4 q4 => ?_)
  have z4 := q4.1.trans z3
  refine val_go rfl rfl (by omega) (run_mv _ _ _ _ _ _ 0 _ ((q4.2.2.1 0 (by omega)).trans ((o 0 (by omega)).trans h0))) (fun a5 q5 => ?_)
  have z5 := q5.1.trans z4
  refine val_go rfl rfl (by omega) (run_mv _ _ _ _ _ _ 1 _ ((q5.2.2.1 1 (by omega)).trans ((q4.2.2.1 1 (by omega)).trans ((o 1 (by omega)).trans h1)))) (fun a6 q6 => ?_)
  have z6 := q6.1.trans z5
  refine val_go rfl rfl (by omega) (run_nilck _ _ _ _ _ _ 13 _ q6.2.1) (fun a7 q7 => ?_)
  have z7 := q7.1.trans z6
  have hbw : (w.alloc (.cells zeroN 35)).heap[m]? = some (.cells (rowL 3) 252 (0, 0)) := blk_keep (below_alloc (Below.refl _ _) _) hb
  refine val_go rfl rfl (by omega) (run_ldR _ _ _ _ _ _ 14 m 0 252 (rowL 3).toList _ q7.2.1 (fun j u hj => by rw [Nat.zero_add]; exact (blk_cell hbw j).trans (Array.getElem?_toList.symm.trans hj)) Tryz.underlying252 rfl (by kernel_rfl)) (fun a8 q8 => ?_)
  have z8 := q8.1.trans z7
  refine call_go rfl rfl (by omega) (run_callv2 _ _ _ _ _ _ 11 12 15 116 _ _ (.string ⟨#[]⟩) (.agg (rowL 3)) (enters_of Tryz.func116 (by kernel_rfl) rfl) ?_ ?_ q8.2.1) (procLoad_c _) ?_
  · rw [q8.2.2.1 _ (by omega), q7.2.2.1 _ (by omega), q6.2.2.1 _ (by omega), q5.2.2.1 _ (by omega)]; exact q4.2.1
  · rw [q8.2.2.1 _ (by omega), q7.2.2.1 _ (by omega), q6.2.2.1 _ (by omega)]; exact q5.2.1
  rintro v w1 a9 ⟨A0, c0, rfl, hM, hB⟩ q9
  have hs1 : (w.alloc (.cells zeroN 35)).heap.size = w.heap.size + 1 := by simp
  have t6 : a9.tmps[6]?.getD undef = .pointer (some ⟨w.heap.size, 0, none⟩) := by
    rw [q9.2.2.1 _ (by omega), q8.2.2.1 _ (by omega), q7.2.2.1 _ (by omega), q6.2.2.1 _ (by omega), q5.2.2.1 _ (by omega), q4.2.2.1 _ (by omega), q3.2.2.1 _ (by omega), q2.2.2.1 _ (by omega)]; exact q1.2.1
  have hg : w1.heap[w.heap.size]? = some (.cells zeroN 35 (0, 0)) := (hB.block _ (by omega)).trans (heap_alloc_new w _)
  refine store_load _ _ _ t6 q9.2.1 hg rfl ?_
  refine wp_ret ?_
  refine load_back rfl t6 ?_ rfl hM (by omega) ((below_alloc (Below.refl w.heap.size w) _).trans (hB.mono (by omega))) hg
  rw [q9.2.2.2, q8.2.2.2, q7.2.2.2, q6.2.2.2, q5.2.2.2, q4.2.2.2, q3.2.2.2, q2.2.2.2, q1.2.2.2]; exact hdf
set_option maxRecDepth 100000 in
theorem backL_c (m : Nat) (w : World) (hb : w.heap[m]? = some (.cells (rowL 3) 252 (0, 0))) : Calls Tryz.prog 114 #[.pointer (some ⟨m, 0, none⟩)] w (Ret (SomeLoad w)) := by
  go_enter Tryz.func114, Tryz.ntmps114
  refine from_act _ (fun a => a.tmps.size = 5 ∧ a.tmps[0]?.getD undef = .pointer (some ⟨m, 0, none⟩) ∧ a.defers = []) ⟨rfl, rfl, rfl⟩ ?_
  rintro a ⟨hz, h0, hdf⟩
  refine wp_seq (wp_region_lit ?_)
  refine val_go rfl rfl (by omega) (run_al35 _ _ _ _ _ _) (fun a1 q1 => ?_)
  have z1 := q1.1.trans hz
  refine wp_seq (wp_region_lit ?_)
  refine val_go rfl rfl (by omega) (run_mv _ _ _ _ _ _ 0 _ ((q1.2.2.1 0 (by omega)).trans h0)) (fun a2 q2 => ?_)
  have z2 := q2.1.trans z1
  have hbw : (w.alloc (.cells zeroN 35)).heap[m]? = some (.cells (rowL 3) 252 (0, 0)) := blk_keep (below_alloc (Below.refl _ _) _) hb
  refine call_go rfl rfl (by omega) (run_call3f _ _ _ _ _ _ 3 115 116 _ _ _ (.string ⟨#[]⟩) _ (enters_of Tryz.func115 (by kernel_rfl) rfl) q2.2.1) (pointerL_c m _ hbw) ?_
  rintro v w1 a3 ⟨A0, c0, rfl, hM, hB⟩ q3
  have hs1 : (w.alloc (.cells zeroN 35)).heap.size = w.heap.size + 1 := by simp
  have t2 : a3.tmps[2]?.getD undef = .pointer (some ⟨w.heap.size, 0, none⟩) := by
    rw [q3.2.2.1 _ (by omega), q2.2.2.1 _ (by omega)]; exact q1.2.1
  have hg : w1.heap[w.heap.size]? = some (.cells zeroN 35 (0, 0)) := (hB.block _ (by omega)).trans (heap_alloc_new w _)
  refine store_load _ _ _ t2 q3.2.1 hg rfl ?_
  refine wp_ret ?_
  refine load_back rfl t2 ?_ rfl hM (by omega) ((below_alloc (Below.refl w.heap.size w) _).trans (hB.mono (by omega))) hg
  rw [q3.2.2.2, q2.2.2.2, q1.2.2.2]; exact hdf
set_option maxRecDepth 100000 in
theorem LoadAvg_c (pb : Nat) (w : World) (hF : Flt w pb) (hp : Spc w) : Calls Tryz.prog 113 #[.agg #[.string tL]] w (Ret (fun v w' => ∃ m, v = .tuple #[.pointer (some ⟨m, 0, none⟩), .nilIface] ∧ w'.heap[m]? = some (.cells (rowL 3) 252 (0, 0)) ∧ Below w.heap.size w w')) := by
  go_enter Tryz.func113, Tryz.ntmps113
  refine from_act _ (fun a => a.tmps.size = 23 ∧ a.tmps[0]?.getD undef = .agg #[.string tL] ∧ a.defers = []) ⟨rfl, rfl, rfl⟩ ?_
  rintro a ⟨hz, h0, hdf⟩
  refine wp_seq (wp_region_lit ?_)
  refine val_go rfl rfl (by omega) (run_box248 _ _ _ _ _ _ 0 _ h0) (fun a1 q1 => ?_)
  have z1 := q1.1.trans hz
  have hB1 := below_alloc (Below.refl w.heap.size w) (.cells #[.string tL] 248)
  have hc1 := heap_alloc_new w (.cells #[.string tL] 248)
  generalize w.alloc (.cells #[.string tL] 248) = w1 at hB1 hc1 ⊢
  refine val_go rfl rfl (by omega) (run_asc _ _ _ _ _ _ _) (fun a2 q2 => ?_)
  have z2 := q2.1.trans z1
  refine val_go rfl rfl (by omega) (run_asc _ _ _ _ _ _ _) (fun a3 q3 => ?_)
  have z3 := q3.1.trans z2
  refine wp_seq (wp_region_lit ?_)
  refine val_go rfl rfl (by omega) (run_fa248 _ _ _ _ _ _ 1 w.heap.size ((q3.2.2.1 1 (by omega)).trans ((q2.2.2.1 1 (by omega)).trans q1.2.1))) (fun a4 q4 => ?_)
  have z4 := q4.1.trans z3
  refine val_go rfl rfl (by omega) (run_ld57 _ _ _ _ _ _ 7 _ _ q4.2.1 (blk_cell hc1 0)) (fun a5 q5 => ?_)
  have z5 := q5.1.trans z4
  refine val_go rfl rfl (by omega) (run_bs1 _ _ _ _ _ _ _) (fun a6 q6 => ?_)
  have z6 := q6.1.trans z5
  have hB2 := below_alloc hB1 (.cells #[.string ⟨#[108, 111, 97, 100, 97, 118, 103]⟩] 9)
  refine call_go rfl rfl (by omega) (run_call2t _ _ _ _ _ _ 8 9 125 _ _ (.string tL) _ (enters_of Tryz.func125 (by kernel_rfl) rfl) ((q6.2.2.1 8 (by omega)).trans q5.2.1) q6.2.1) (Path_c tL _ _) ?_
  rintro v w2 a7 ⟨rfl, rfl⟩ q7
  have z7 := q7.1.trans z6
  refine val_go rfl rfl (by omega) (run_as _ _ _ _ _ _ 10 _ q7.2.1) (fun a8 q8 => ?_)
  have z8 := q8.1.trans z7
  generalize w1.alloc (.cells #[.string ⟨#[108, 111, 97, 100, 97, 118, 103]⟩] 9) = w2 at hB2 ⊢
  refine wp_seq (wp_region_lit ?_)
  refine val_go rfl rfl (by omega) (run_mv _ _ _ _ _ _ 4 _ q8.2.1) (fun a9 q9 => ?_)
  have z9 := q9.1.trans z8
  refine call_go rfl rfl (by omega) (run_call1 _ _ _ _ _ _ 12 126 _ _ (enters_of Tryz.func126 (by kernel_rfl) rfl) q9.2.1) (Read_c tL w2 (by decide)) ?_
  rintro v w3 a10 ⟨vb, vc, rfl, hc, hB⟩ q10
  have hB3 := hB2.trans (hB.mono hB2.size)
  have z10 := q10.1.trans z9
  refine val_go rfl rfl (by omega) (run_mv _ _ _ _ _ _ 13 _ q10.2.1) (fun a11 q11 => ?_)
  have z11 := q11.1.trans z10
  refine val_go rfl rfl (by omega) (run_ex0 _ _ _ _ _ _ 11 _ _ q11.2.1) (fun a12 q12 => ?_)
  have z12 := q12.1.trans z11
  refine val_go rfl rfl (by omega) (run_ex1 _ _ _ _ _ _ 11 _ _ ((q12.2.2.1 11 (by omega)).trans q11.2.1)) (fun a13 q13 => ?_)
  have z13 := q13.1.trans z12
  refine val_go rfl rfl (by omega) (run_as _ _ _ _ _ _ 14 _ ((q13.2.2.1 14 (by omega)).trans q12.2.1)) (fun a14 q14 => ?_)
  have z14 := q14.1.trans z13
  refine val_go rfl rfl (by omega) (run_as _ _ _ _ _ _ 15 _ ((q14.2.2.1 15 (by omega)).trans q13.2.1)) (fun a15 q15 => ?_)
  have z15 := q15.1.trans z14
  have t5 := (q15.2.2.1 5 (by omega)).trans q14.2.1
  refine wp_seq (err_no (b := 16) q15.2.1 (by omega) (fun a16 f16 => ?_))
  have z16 := f16.sz.trans z15
  refine wp_seq (wp_region_lit ?_)
  refine val_go rfl rfl (by omega) (run_mv _ _ _ _ _ _ 5 _ ((f16.at_ 5 (by omega) (by omega)).trans t5)) (fun a17 q17 => ?_)
  have z17 := q17.1.trans z16
  refine call_go rfl rfl (by omega) (run_call1 _ _ _ _ _ _ 19 127 _ _ (enters_of Tryz.func127 (by kernel_rfl) rfl) q17.2.1) (parseLoad_c vb vc pb w3 (hF.keep hB3) (hp.keep hB3) hc) ?_
  rintro v w4 a18 ⟨m, rfl, hm, hB4⟩ q18
  have z18 := q18.1.trans z17
  refine val_go rfl rfl (by omega) (run_ex0 _ _ _ _ _ _ 20 _ _ q18.2.1) (fun a19 q19 => ?_)
  have z19 := q19.1.trans z18
  refine val_go rfl rfl (by omega) (run_ex1 _ _ _ _ _ _ 20 _ _ ((q19.2.2.1 20 (by omega)).trans q18.2.1)) (fun a20 q20 => ?_)
  have z20 := q20.1.trans z19
  refine val_go rfl rfl (by omega) (run_as _ _ _ _ _ _ 21 _ ((q20.2.2.1 21 (by omega)).trans q19.2.1)) (fun a21 q21 => ?_)
  have z21 := q21.1.trans z20
  refine val_go rfl rfl (by omega) (run_as _ _ _ _ _ _ 22 _ ((q21.2.2.1 22 (by omega)).trans q20.2.1)) (fun a22 q22 => ?_)
  have r2 := (q22.2.2.1 2 (by omega)).trans q21.2.1
  refine wp_ret ?_
  refine bodyPost_ret (results_tmp2 rfl _ _ _) ?_ (.mk _ rfl ⟨m, ?_, hm, hB3.trans (hB4.mono hB3.size)⟩)
  · rw [q22.2.2.2, q21.2.2.2, q20.2.2.2, q19.2.2.2, q18.2.2.2, q17.2.2.2, f16.df, q15.2.2.2, q14.2.2.2, q13.2.2.2, q12.2.2.2, q11.2.2.2, q10.2.2.2, q9.2.2.2, q8.2.2.2, q7.2.2.2, q6.2.2.2, q5.2.2.2, q4.2.2.2, q3.2.2.2, q2.2.2.2, q1.2.2.2]; exact hdf
  · simp only [Array.getD_eq_getD_getElem?, r2, q22.2.1]
end Go.Proofs.YtaniejfkbapbbaaGreatDoor
namespace Go.Proofs.YtaniejfkbapbbaaGreatDoor
open Go.RowKit Go.Proofs.YtaniejfkbapbbaaGreatDoorW.PrintWords Go.Proofs.YtaniejfkbapbbaaGreatDoorW.PrintLast Go.Proofs.YtaniejfkbapbbaaGreatDoorW.PrintMore

theorem idle124 (p q : Value) (w : World) : CallsD Tryz.prog 124 #[p, q] .returning w fun e u' w' => e = .returned (.tuple #[]) ∧ u' = .returning ∧ w' = w := by
  refine callsD_of_wpS Tryz.func124 rfl fun c₀ cs hu => ?_
  apply wpS_seq
  apply wpS_region
  simp [wpOpsS, go_sem, recoverD, hu, Tryz.ntmps124, Exit.thenS]
  refine wpS_cond (t := false) (by simp [Act.eval, Array.replicate]) ?_
  simp only [Bool.false_eq_true, if_false]
  refine wpS_of_wp (wp_skip ?_)
  cases c₀
  simp_all [bodyPostS, results, Tryz.results124]
/-- The tree of the three numbers and no fault. -/
def LoadTree (w : World) (v : Value) (w' : World) : Prop := ∃ (A : Option Addr) (c : Nat), v = .tuple #[.agg (secCells ⟨#[]⟩ (.slice A 3 c)), .int .i64 0] ∧ Kd.R (Kd.raw 8) 35 w' w.heap.size (fun _ => True) (.slice A 3 c) kidsL ∧ Below w.heap.size w w'
set_option maxRecDepth 100000 in
theorem tree111_c (pb : Nat) (w : World) (hF : Flt w pb) (hp : Spc w) :
    Calls Tryz.prog 111 #[.func (.func 113) #[.agg #[.string tL]] #[], .func (.func 114) #[] #[]] w (Ret (LoadTree w)) := by
  go_enter_defers Tryz.func111, Tryz.ntmps111
  refine from_act _ (fun a => a.tmps.size = 20 ∧ a.tmps[0]?.getD undef = .func (.func 113) #[.agg #[.string tL]] #[] ∧ a.tmps[1]?.getD undef = .func (.func 114) #[] #[] ∧ a.defers = []) ⟨rfl, rfl, rfl, rfl⟩ ?_
  rintro a ⟨hz, h0, h1, hdf⟩
  refine wp_seq (wp_region_lit ?_)
  refine val_go rfl rfl (by omega) (run_al35 _ _ _ _ _ _) (fun a1 q1 => ?_)
  have z1 := q1.1.trans hz
  refine val_go rfl rfl (by omega) (run_al3 _ _ _ _ _ _) (fun a2 q2 => ?_)
  have z2 := q2.1.trans z1
  have hs1 : (w.alloc (.cells zeroN 35)).heap.size = w.heap.size + 1 := by simp
  rw [hs1] at q2
  have t4 := (q2.2.2.1 4 (by omega)).trans q1.2.1
  refine wp_seq (wp_region_lit ?_)
  refine val_go rfl rfl (by omega) (run_mf2 _ _ _ _ _ _ 4 5 124 _ _ t4 q2.2.1) (fun a3 q3 => ?_)
  have z3 := q3.1.trans z2
  refine defer_go rfl rfl (run_dfr _ _ _ _ _ 8 124 _ _ q3.2.1) (fun a4 e4 d4 => ?_)
  have z4 : a4.tmps.size = 20 := by rw [e4]; exact z3
  have o4 : ∀ j, j ≠ 8 → a4.tmps[j]?.getD undef = a2.tmps[j]?.getD undef := fun j hj => by rw [e4]; exact q3.2.2.1 j hj
  have hB0 : Below w.heap.size w ((w.alloc (.cells zeroN 35)).alloc (.cells #[.int .i64 0] 3)) := below_alloc (below_alloc (Below.refl _ _) _) _
  have hg0 : ((w.alloc (.cells zeroN 35)).alloc (.cells #[.int .i64 0] 3)).heap[w.heap.size]? = some (.cells zeroN 35 (0, 0)) := (blk_old _ _ _ (by omega)).trans (heap_alloc_new w _)
  have hi0 : ((w.alloc (.cells zeroN 35)).alloc (.cells #[.int .i64 0] 3)).heap[w.heap.size + 1]? = some (.cells #[.int .i64 0] 3 (0, 0)) := by
    have := heap_alloc_new (w.alloc (.cells zeroN 35)) (.cells #[.int .i64 0] 3)
    rw [hs1] at this
    exact this
  generalize (w.alloc (.cells zeroN 35)).alloc (.cells #[.int .i64 0] 3) = W at hB0 hg0 hi0 ⊢
  have hW : w.heap.size + 1 < W.heap.size := blk_lt hi0
  refine wp_seq (wp_region_lit ?_)
  refine val_go rfl rfl (by omega) (run_mv _ _ _ _ _ _ 0 _ ((o4 0 (by omega)).trans ((q2.2.2.1 0 (by omega)).trans ((q1.2.2.1 0 (by omega)).trans h0)))) (fun a5 q5 => ?_)
  have z5 := q5.1.trans z4
  refine call_go rfl rfl (by omega) (run_callr _ _ _ _ _ _ 10 113 _ (enters_of Tryz.func113 (by kernel_rfl) rfl) q5.2.1) (LoadAvg_c pb W (hF.keep hB0) (hp.keep hB0)) ?_
  rintro v w1 a6 ⟨m, rfl, hb, hB⟩ q6
  have z6 := q6.1.trans z5
  refine val_go rfl rfl (by omega) (run_mv _ _ _ _ _ _ 11 _ q6.2.1) (fun a7 q7 => ?_)
  have z7 := q7.1.trans z6
  refine val_go rfl rfl (by omega) (run_ex0 _ _ _ _ _ _ 9 _ _ q7.2.1) (fun a8 q8 => ?_)
  have z8 := q8.1.trans z7
  refine val_go rfl rfl (by omega) (run_ex1 _ _ _ _ _ _ 9 _ _ ((q8.2.2.1 9 (by omega)).trans q7.2.1)) (fun a9 q9 => ?_)
  have z9 := q9.1.trans z8
  refine val_go rfl rfl (by omega) (run_as _ _ _ _ _ _ 12 _ ((q9.2.2.1 12 (by omega)).trans q8.2.1)) (fun a10 q10 => ?_)
  have z10 := q10.1.trans z9
  refine val_go rfl rfl (by omega) (run_as _ _ _ _ _ _ 13 _ ((q10.2.2.1 13 (by omega)).trans q9.2.1)) (fun a11 q11 => ?_)
  have z11 := q11.1.trans z10
  have t6 := (q11.2.2.1 6 (by omega)).trans q10.2.1
  have o11 : ∀ j, j < 6 → a11.tmps[j]?.getD undef = a2.tmps[j]?.getD undef := fun j hj => by
    rw [q11.2.2.1 j (by omega), q10.2.2.1 j (by omega), q9.2.2.1 j (by omega), q8.2.2.1 j (by omega), q7.2.2.1 j (by omega), q6.2.2.1 j (by omega), q5.2.2.1 j (by omega)]
    exact o4 j (by omega)
  have d11 : a11.defers = a4.defers := by rw [q11.2.2.2, q10.2.2.2, q9.2.2.2, q8.2.2.2, q7.2.2.2, q6.2.2.2, q5.2.2.2]
  refine wp_seq (err_no (b := 14) q11.2.1 (by omega) (fun a12 f12 => ?_))
  refine wp_seq (wp_region_lit ?_)
  have z12 := f12.sz.trans z11
  refine val_go rfl rfl (by omega) (run_mv _ _ _ _ _ _ 1 _ ((f12.at_ 1 (by omega) (by omega)).trans ((o11 1 (by omega)).trans ((q2.2.2.1 1 (by omega)).trans ((q1.2.2.1 1 (by omega)).trans h1))))) (fun a13 q13 => ?_)
  have z13 := q13.1.trans z12
  refine val_go rfl rfl (by omega) (run_mv _ _ _ _ _ _ 6 _ ((q13.2.2.1 6 (by omega)).trans ((f12.at_ 6 (by omega) (by omega)).trans t6))) (fun a14 q14 => ?_)
  have z14 := q14.1.trans z13
  refine call_go rfl rfl (by omega) (run_callv1 _ _ _ _ _ _ 17 18 114 _ _ (enters_of Tryz.func114 (by kernel_rfl) rfl) ((q14.2.2.1 17 (by omega)).trans q13.2.1) q14.2.1) (backL_c m w1 hb) ?_
  rintro v w2 a15 ⟨A0, c0, rfl, hM, hB2⟩ q15
  have o15 : ∀ j, j < 6 → a15.tmps[j]?.getD undef = a2.tmps[j]?.getD undef := fun j hj => by
    rw [q15.2.2.1 j (by omega), q14.2.2.1 j (by omega), q13.2.2.1 j (by omega), f12.at_ j (by omega) (by omega)]
    exact o11 j hj
  have T4 := (o15 4 (by omega)).trans t4
  have T5 := (o15 5 (by omega)).trans q2.2.1
  have hB3 : Below W.heap.size W w2 := hB.trans (hB2.mono hB.size)
  have hg2 := (hB3.block _ (by omega)).trans hg0
  have hi2 := (hB3.block _ (by omega)).trans hi0
  refine store_load _ _ _ T4 q15.2.1 hg2 rfl ?_
  have hi3 : (w2.setRow w.heap.size (secCells ⟨#[]⟩ (.slice A0 3 c0))).heap[w.heap.size + 1]? = some (.cells #[.int .i64 0] 3 (0, 0)) := (setRow_far (by omega)).trans hi2
  refine skip_step rfl (run_st3 _ _ _ _ _ _ 5 (w.heap.size + 1) 0 0 T5 (blk_cell hi3 0) (frozen_of_row _ _ 0 _ _ hi3)) ?_
  refine wp_ret ?_
  have hw1 := hB.size
  have hM3 := R_row (X := (secCells ⟨#[]⟩ (.slice A0 3 c0))) hM (show w.heap.size < w1.heap.size by omega) (Nat.le_refl _)
  have hB4 : Below w.heap.size w (w2.setRow w.heap.size (secCells ⟨#[]⟩ (.slice A0 3 c0))) := below_setRow (hB0.trans (hB3.mono (by omega))) (Nat.le_refl _)
  have hg4 : ((w2.setRow w.heap.size (secCells ⟨#[]⟩ (.slice A0 3 c0))).setCell ⟨w.heap.size + 1, 0, none⟩ (.int .i64 0)).heap[w.heap.size]? = some (.cells (secCells ⟨#[]⟩ (.slice A0 3 c0)) 35 (0, 0)) := blk_far (setRow_heap hg2) (by show w.heap.size ≠ w.heap.size + 1; omega) _
  have hi4 := blk_set hi3 0 (.int .i64 0)
  have hM4 := R_cell (p := ⟨w.heap.size + 1, 0, none⟩) (u := .int .i64 0) hM3 (show w.heap.size + 1 < w1.heap.size by omega) (show w.heap.size ≤ w1.heap.size by omega)
  have hB5 := below_set (j := 0) (v := .int .i64 0) hB4 (show w.heap.size ≤ w.heap.size + 1 by omega)
  have hdd : a15.defers = [{ target := .fn (.func 124) #[.pointer (some ⟨w.heap.size, 0, none⟩), .pointer (some ⟨w.heap.size + 1, 0, none⟩)], args := #[] }] := by
    rw [q15.2.2.2, q14.2.2.2, q13.2.2.2, f12.df, d11, d4, q3.2.2.2, q2.2.2.2, q1.2.2.2, hdf]
  show Leaves Tryz.prog Tryz.f111 a15.tmps _ a15.defers .returning _
  rw [hdd]
  refine leaves_cons (f := 124) (args := #[.pointer (some ⟨w.heap.size, 0, none⟩), .pointer (some ⟨w.heap.size + 1, 0, none⟩)]) (by simp) (by simp [go_sem]) ?_
  refine (idle124 _ _ _).mono ?_
  rintro e u' w'' ⟨rfl, rfl, rfl⟩
  exact ⟨_, results_ci rfl _ _ _ _ _ _ T4 hg4 (by kernel_rfl) T5 (blk_cell hi4 0), .mk _ rfl ⟨A0, c0, rfl, hM4, hB5⟩⟩
set_option maxRecDepth 100000 in
theorem Loadavg_c (pb : Nat) (w : World) (hF : Flt w pb) (hp : Spc w) : Calls Tryz.prog 22 #[.string tL] w (Ret (LoadTree w)) := by
  go_enter Tryz.func22, Tryz.ntmps22
  refine from_act _ (fun a => a.tmps.size = 10 ∧ a.tmps[0]?.getD undef = .string tL ∧ a.defers = []) ⟨rfl, rfl, rfl⟩ ?_
  rintro a ⟨hz, h0, hdf⟩
  refine wp_seq (wp_region_lit ?_)
  refine val_go rfl rfl (by omega) (run_al35 _ _ _ _ _ _) (fun a1 q1 => ?_)
  have z1 := q1.1.trans hz
  have hB1 := below_alloc (Below.refl w.heap.size w) (.cells zeroN 35)
  have hg1 := heap_alloc_new w (.cells zeroN 35)
  generalize w.alloc (.cells zeroN 35) = w1 at hB1 hg1 ⊢
  have hlt1 := blk_lt hg1
  refine val_go rfl rfl (by omega) (run_asc _ _ _ _ _ _ _) (fun a2 q2 => ?_)
  have z2 := q2.1.trans z1
  refine wp_seq (wp_region_lit ?_)
  refine val_go rfl rfl (by omega) (run_mv _ _ _ _ _ _ 0 _ ((q2.2.2.1 0 (by omega)).trans ((q1.2.2.1 0 (by omega)).trans h0))) (fun a3 q3 => ?_)
  have z3 := q3.1.trans z2
  refine call_go rfl rfl (by omega) (run_call1 _ _ _ _ _ _ 4 112 _ _ (enters_of Tryz.func112 (by kernel_rfl) rfl) q3.2.1) (TextFS_c tL w1) ?_
  rintro v w2 a4 ⟨rfl, hB2⟩ q4
  have z4 := q4.1.trans z3
  have hB12 := hB1.trans (hB2.mono hB1.size)
  refine val_go rfl rfl (by omega) (run_mfr _ _ _ _ _ _ 5 113 _ q4.2.1) (fun a5 q5 => ?_)
  have z5 := q5.1.trans z4
  refine call_go rfl rfl (by omega) (run_call2f _ _ _ _ _ _ 6 111 114 _ _ _ (enters_of Tryz.func111 (by kernel_rfl) rfl) q5.2.1) (tree111_c pb w2 (hF.keep hB12) (hp.keep hB12)) ?_
  rintro v w3 a6 ⟨A0, c0, rfl, hM, hB3⟩ q6
  have z6 := q6.1.trans z5
  refine val_go rfl rfl (by omega) (run_ex0 _ _ _ _ _ _ 7 _ _ q6.2.1) (fun a7 q7 => ?_)
  have z7 := q7.1.trans z6
  refine val_go rfl rfl (by omega) (run_ex1 _ _ _ _ _ _ 7 _ _ ((q7.2.2.1 7 (by omega)).trans q6.2.1)) (fun a8 q8 => ?_)
  have z8 := q8.1.trans z7
  have t2 : a8.tmps[2]?.getD undef = .pointer (some ⟨w.heap.size, 0, none⟩) := by
    rw [q8.2.2.1 _ (by omega), q7.2.2.1 _ (by omega), q6.2.2.1 _ (by omega), q5.2.2.1 _ (by omega), q4.2.2.1 _ (by omega), q3.2.2.1 _ (by omega), q2.2.2.1 _ (by omega)]; exact q1.2.1
  have hs2 := hB2.size
  have hg3 := (hB3.block _ (by omega)).trans ((hB2.block _ hlt1).trans hg1)
  refine store_load _ _ _ t2 ((q8.2.2.1 8 (by omega)).trans q7.2.1) hg3 rfl ?_
  refine val_go (a := a8) rfl rfl (by omega) (run_as _ _ _ _ _ _ 9 _ q8.2.1) (fun a9 q9 => ?_)
  refine wp_ret ?_
  refine bodyPost_ret (results_ct rfl _ _ w.heap.size 35 (secCells ⟨#[]⟩ (.slice A0 3 c0)) (0, 0) _ (by rw [Array.getD_eq_getD_getElem?]; exact (q9.2.2.1 2 (by omega)).trans t2) (setRow_heap hg3) Tryz.underlying35 rfl (by kernel_rfl)) ?_ (.mk _ rfl ⟨A0, c0, ?_, R_row hM (by omega) (by omega), below_setRow (hB12.trans (hB3.mono hB12.size)) (Nat.le_refl _)⟩)
  · rw [q9.2.2.2, q8.2.2.2, q7.2.2.2, q6.2.2.2, q5.2.2.2, q4.2.2.2, q3.2.2.2, q2.2.2.2, q1.2.2.2]; exact hdf
  · rw [Array.getD_eq_getD_getElem?, q9.2.1]
theorem load_at {w : World} {b c : Nat} {A : Option Addr} {ok : Nat → Prop} (h : Kd.R (Kd.raw 8) 35 w b ok (.slice A 3 c) kidsL) : ∃ K, A = some ⟨K, 0, none⟩ ∧ 3 ≤ c ∧ w.cell? ⟨K, 5, none⟩ = some (.float .f64 4602678819172646912) ∧ w.cell? ⟨K, 13, none⟩ = some (.float .f64 4598175219545276416) ∧ w.cell? ⟨K, 21, none⟩ = some (.float .f64 4604930618986332160) := by
  have h1 : ∃ K, A = some ⟨K, 0, none⟩ := by
    obtain ⟨_, inner, ho, _⟩ := h
    rcases ho.2 with ⟨h0, _⟩ | ⟨K, cap, cur, hv, _⟩
    · injection h0 with h0 h1; cases h1
    · injection hv with hv; exact ⟨K, hv⟩
  obtain ⟨K, rfl⟩ := h1
  obtain ⟨A1, c1, hv, hc1, hC⟩ := Kd.R_reads h
  injection hv with e1 _ e3
  subst e1
  subst e3
  obtain ⟨ad, had, hk⟩ := hC.2.2 (by decide)
  injection had with had
  subst had
  have key : ∀ j p i u, kidsL[j]? = some p → p[i]? = some u → w.cell? ⟨K, j * 8 + i, none⟩ = some u := by
    intro j p i u hj hi
    obtain ⟨cs, _, hp, hcc⟩ := hk j p hj
    have := hcc i u (by rw [hp.1]; exact hi)
    rw [Addr.add_mid, Nat.zero_add] at this
    exact this
  exact ⟨K, rfl, hc1, key 0 _ 5 _ rfl rfl, key 1 _ 5 _ rfl rfl, key 2 _ 5 _ rfl rfl⟩
set_option maxRecDepth 100000 in
set_option maxHeartbeats 4000000 in
theorem lives_c (pb : Nat) (w : World) (hF : Flt w pb) (hp : Spc w) : Calls Tryz.prog 8 #[] w (Ret (IsTrue w)) := by
  have HF := Lib.hid hF
  have HP := Lib.hid hp
  clear hF hp
  have hsf := run_store_float 0
  have o1 : FloatKind.f64.format.order 4602678819172646912 4602678819172646912 = some .eq := by kernel_rfl
  have o2 : FloatKind.f64.format.order 4598175219545276416 4598175219545276416 = some .eq := by kernel_rfl
  have o3 : FloatKind.f64.format.order 4604930618986332160 4604930618986332160 = some .eq := by kernel_rfl
  go_enter Tryz.func8, Tryz.ntmps8
  go_wp2_with (go_at_call 22; refine (Loadavg_c pb _ HF.out HP.out).mono ?_; rintro e w1 ⟨v, rfl, A0, c0, rfl, hM, hB⟩; obtain ⟨K, rfl, hc0, c5, c13, c21⟩ := load_at hM; have d5 := cell_old (o := Obj.cells (secCells ⟨#[]⟩ (.slice (some ⟨K, 0, none⟩) 3 c0)) 35) c5; have d13 := cell_old (o := Obj.cells (secCells ⟨#[]⟩ (.slice (some ⟨K, 0, none⟩) 3 c0)) 35) c13; have d21 := cell_old (o := Obj.cells (secCells ⟨#[]⟩ (.slice (some ⟨K, 0, none⟩) 3 c0)) 35) c21; have hB2 := Lib.hid (below_alloc hB (Obj.cells (secCells ⟨#[]⟩ (.slice (some ⟨K, 0, none⟩) 3 c0)) 35)); unfold secCells at d5 d13 d21 hB2 ⊢; clear c5 c13 c21 hM hB)
  go_ret
  exact .mk _ rfl ⟨rfl, hB2.out⟩
end Go.Proofs.YtaniejfkbapbbaaGreatDoor
