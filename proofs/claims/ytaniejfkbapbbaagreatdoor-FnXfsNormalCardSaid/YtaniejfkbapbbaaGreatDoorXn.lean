/-
  Part of the proof of FnXfsNormal: two readings of one tree are the same; one step of a tree function.
-/
import Derived.Test.YtaniejfkbapbbaaGreatDoorXa
namespace Go.Proofs.YtaniejfkbapbbaaGreatDoor
open Go.RowKit Go.Proofs.YtaniejfkbapbbaaGreatDoorW.PrintWords Go.Proofs.YtaniejfkbapbbaaGreatDoorW.PrintLast Go.Proofs.YtaniejfkbapbbaaGreatDoorW.PrintMore

/-- A tree of what is read: a name, a kind, a number, a text, parts. -/
inductive NT where
  | mk (name : ByteArray) (kind u : Int) (s : ByteArray) (kids : List NT)
namespace NT
def name : NT → ByteArray | mk n _ _ _ _ => n
def kind : NT → Int | mk _ k _ _ _ => k
def u : NT → Int | mk _ _ u _ _ => u
def s : NT → ByteArray | mk _ _ _ s _ => s
def kids : NT → List NT | mk _ _ _ _ l => l
end NT
def kF : Kd Unit := Kd.scalar (fun _ => .bool false) (fun _ => rfl)
def kI : Kd Unit := Kd.scalar (fun _ => .int .i64 0) (fun _ => rfl)
def kR : Kd Unit := Kd.scalar (fun _ => .float .f64 0) (fun _ => rfl)
/-- How a tree of depth at most d lies: elements of type e. -/
def kn (e : Nat) : Nat → Kd NT
  | 0 => Kd.iso Kd.string NT.name
  | d + 1 => Kd.iso (Kd.pair Kd.string (Kd.pair (Kd.int .i64) (Kd.pair kF (Kd.pair kI (Kd.pair (Kd.int .u64) (Kd.pair kR (Kd.pair Kd.string (Kd.slice e (kn e d)))))))))
      (fun x => (x.name, x.kind, (), (), x.u, (), x.s, x.kids))
/-- The depth is enough. -/
def Deep : Nat → NT → Prop
  | 0, _ => False
  | d + 1, x => x.kids.length ≤ 1000 ∧ ∀ k ∈ x.kids, Deep d k
theorem kn_sz (e d : Nat) : (kn e (d + 1)).sz = 8 := rfl
def heads (x : NT) (v : Value) : List Value := [.string x.name, .int .i64 x.kind, .bool false, .int .i64 0, .int .u64 x.u, .float .f64 0, .string x.s, v]
theorem kn_open {e d : Nat} {w : World} {x : NT} {cs : List Value} (h : (kn e (d + 1)).K w x cs) : ∃ A c, cs = heads x (.slice A x.kids.length c) ∧ x.kids.length ≤ c ∧ (kn e d).C w A x.kids.length x.kids := by
  obtain ⟨_, _, rfl, rfl, ⟨_, _, rfl, rfl, ⟨_, _, rfl, rfl, ⟨_, _, rfl, rfl, ⟨_, _, rfl, rfl, ⟨_, _, rfl, rfl, ⟨_, _, rfl, rfl, ⟨A, c, rfl, l1, g1⟩⟩⟩⟩⟩⟩⟩⟩ := h
  exact ⟨A, c, rfl, l1, g1⟩
theorem kn_mkM {e d : Nat} (w : World) (base : Nat) (ok : Nat → Prop) (x : NT) {v : Value} (g : (kn e d).R e w base ok v x.kids) : (kn e (d + 1)).M w base ok x (heads x v) :=
  ⟨[_], _, rfl, rfl, ⟨[_], _, rfl, rfl, ⟨[_], _, rfl, rfl, ⟨[_], _, rfl, rfl, ⟨[_], _, rfl, rfl, ⟨[_], _, rfl, rfl, ⟨[_], [_], rfl, rfl, ⟨v, rfl, g⟩⟩⟩⟩⟩⟩⟩⟩
theorem kn_openM {e d : Nat} {w : World} {base : Nat} {ok : Nat → Prop} {x : NT} {cs : List Value} (h : (kn e (d + 1)).M w base ok x cs) : ∃ v, cs = heads x v ∧ (kn e d).R e w base ok v x.kids := by
  obtain ⟨_, _, rfl, rfl, ⟨_, _, rfl, rfl, ⟨_, _, rfl, rfl, ⟨_, _, rfl, rfl, ⟨_, _, rfl, rfl, ⟨_, _, rfl, rfl, ⟨_, _, rfl, rfl, ⟨v, rfl, g1⟩⟩⟩⟩⟩⟩⟩⟩ := h
  exact ⟨v, rfl, g1⟩
theorem bits_run (b : Nat) (w : World) : (callFunc 23 #[.float .f64 b]).run Tryz.prog w = .ok (.value (.int .u64 b)) w := by
  rw [run_callFunc_extern Tryz.func23 (by kernel_rfl) (by kernel_rfl) (by kernel_rfl) (show _ = some Extern.MathFloatBits.float64bits by kernel_rfl)]
  rfl
/-- Part k of a tree. -/
theorem kid_at {e d : Nat} {w : World} {A : Option Addr} {l : List NT} (h : (kn e (d + 1)).C w A l.length l) {k : Nat} (hk : k < l.length) :
    ∃ ad x B c, A = some ad ∧ l[k]? = some x ∧ x.kids.length ≤ c ∧ (kn e d).C w B x.kids.length x.kids ∧
      w.cell? (ad.add (k * 8)) = some (.string x.name) ∧ w.cell? ⟨(ad.add (k * 8)).block, (ad.add (k * 8)).off + 1, none⟩ = some (.int .i64 x.kind) ∧
      w.cell? ⟨(ad.add (k * 8)).block, (ad.add (k * 8)).off + 2, none⟩ = some (.bool false) ∧ w.cell? ⟨(ad.add (k * 8)).block, (ad.add (k * 8)).off + 3, none⟩ = some (.int .i64 0) ∧
      w.cell? ⟨(ad.add (k * 8)).block, (ad.add (k * 8)).off + 4, none⟩ = some (.int .u64 x.u) ∧ w.cell? ⟨(ad.add (k * 8)).block, (ad.add (k * 8)).off + 5, none⟩ = some (.float .f64 0) ∧
      w.cell? ⟨(ad.add (k * 8)).block, (ad.add (k * 8)).off + 6, none⟩ = some (.string x.s) ∧ w.cell? ⟨(ad.add (k * 8)).block, (ad.add (k * 8)).off + 7, none⟩ = some (.slice B x.kids.length c) := by
  obtain ⟨ad, cs, rfl, _, hK, hc⟩ := Kd.C_get h (.mk ⟨#[]⟩ 0 0 ⟨#[]⟩ []) (k : Int) (by omega) (by omega)
  have hx : l.getD k (.mk ⟨#[]⟩ 0 0 ⟨#[]⟩ []) = l[k] := by rw [List.getD_eq_getElem?_getD, List.getElem?_eq_getElem hk]; rfl
  have hK' : (kn e (d + 1)).K w l[k] cs := by rw [← hx]; exact hK
  obtain ⟨B, c, rfl, hle, hC⟩ := kn_open hK'
  have hc' : ∀ j u, (heads l[k] (.slice B l[k].kids.length c))[j]? = some u → w.cell? (ad.add (k * 8 + j)) = some u := hc
  refine ⟨ad, l[k], B, c, rfl, List.getElem?_eq_getElem hk, hle, hC, hc' 0 _ rfl, ?_, ?_, ?_, ?_, ?_, ?_, ?_⟩
  · rw [← add_field _ _ 1 (by omega)]; exact hc' 1 _ rfl
  · rw [← add_field _ _ 2 (by omega)]; exact hc' 2 _ rfl
  · rw [← add_field _ _ 3 (by omega)]; exact hc' 3 _ rfl
  · rw [← add_field _ _ 4 (by omega)]; exact hc' 4 _ rfl
  · rw [← add_field _ _ 5 (by omega)]; exact hc' 5 _ rfl
  · rw [← add_field _ _ 6 (by omega)]; exact hc' 6 _ rfl
  · rw [← add_field _ _ 7 (by omega)]; exact hc' 7 _ rfl
end Go.Proofs.YtaniejfkbapbbaaGreatDoor
namespace Go.Proofs.YtaniejfkbapbbaaGreatDoor
open Go.RowKit Go.Proofs.YtaniejfkbapbbaaGreatDoorW.PrintWords Go.Proofs.YtaniejfkbapbbaaGreatDoorW.PrintLast Go.Proofs.YtaniejfkbapbbaaGreatDoorW.PrintMore

def IsTrue (w : World) (v : Value) (w' : World) : Prop := v = .bool true ∧ Below w.heap.size w w'

def SN (d : Nat) : Prop := ∀ (x : NT) (A1 A2 : Option Addr) (c1 c2 : Nat) (w : World), Deep (d + 1) x → x.kids.length ≤ c1 → x.kids.length ≤ c2 → (kn 40 d).C w A1 x.kids.length x.kids → (kn 40 d).C w A2 x.kids.length x.kids →
    Calls Tryz.prog 9 #[.agg (heads x (.slice A1 x.kids.length c1)).toArray, .agg (heads x (.slice A2 x.kids.length c2)).toArray] w (Ret (IsTrue w))

set_option maxRecDepth 100000 in
set_option maxHeartbeats 8000000 in
theorem SameNode_step (d : Nat) (ih : ∀ d', d = d' + 1 → SN d') : SN d := by
  intro x A1 A2 c1 c2 w hd hc1 hc2 hC1 hC2
  have hx := hd.1
  have HD := Lib.hid hd
  have HC1 := Lib.hid hC1
  have HC2 := Lib.hid hC2
  have IH := Lib.hid ih
  clear hd hC1 hC2 ih
  have hbits := bits_run 0
  obtain ⟨name, hname⟩ : ∃ n, x.name = n := ⟨_, rfl⟩
  obtain ⟨kind, hkind⟩ : ∃ n, x.kind = n := ⟨_, rfl⟩
  obtain ⟨u, hu⟩ : ∃ n, x.u = n := ⟨_, rfl⟩
  obtain ⟨s, hs⟩ : ∃ n, x.s = n := ⟨_, rfl⟩
  simp only [heads, hname, hkind, hu, hs]
  go_enter Tryz.func9, Tryz.ntmps9
  go_wp2_with fail
  obtain ⟨W, hW⟩ : ∃ W, W = (w.alloc (Obj.cells #[.string name, .int .i64 kind, .bool false, .int .i64 0, .int .u64 u, .float .f64 0, .string s, .slice A1 x.kids.length c1] 40)).alloc (Obj.cells #[.string name, .int .i64 kind, .bool false, .int .i64 0, .int .u64 u, .float .f64 0, .string s, .slice A2 x.kids.length c2] 40) := ⟨_, rfl⟩
  obtain ⟨g, hg⟩ : ∃ g, g = w.heap.size := ⟨_, rfl⟩
  have hcells : W.cell? ⟨g, 0, none⟩ = some (.string name) ∧ W.cell? ⟨g, 1, none⟩ = some (.int .i64 kind) ∧ W.cell? ⟨g, 2, none⟩ = some (.bool false) ∧ W.cell? ⟨g, 3, none⟩ = some (.int .i64 0) ∧ W.cell? ⟨g, 4, none⟩ = some (.int .u64 u) ∧ W.cell? ⟨g, 5, none⟩ = some (.float .f64 0) ∧ W.cell? ⟨g, 6, none⟩ = some (.string s) ∧ W.cell? ⟨g, 7, none⟩ = some (.slice A1 x.kids.length c1) ∧ W.cell? ⟨(g + 1), 0, none⟩ = some (.string name) ∧ W.cell? ⟨(g + 1), 1, none⟩ = some (.int .i64 kind) ∧ W.cell? ⟨(g + 1), 2, none⟩ = some (.bool false) ∧ W.cell? ⟨(g + 1), 3, none⟩ = some (.int .i64 0) ∧ W.cell? ⟨(g + 1), 4, none⟩ = some (.int .u64 u) ∧ W.cell? ⟨(g + 1), 5, none⟩ = some (.float .f64 0) ∧ W.cell? ⟨(g + 1), 6, none⟩ = some (.string s) ∧ W.cell? ⟨(g + 1), 7, none⟩ = some (.slice A2 x.kids.length c2) := by
    subst hW hg
    have h1 := heap_alloc_new w (Obj.cells #[.string name, .int .i64 kind, .bool false, .int .i64 0, .int .u64 u, .float .f64 0, .string s, .slice A1 x.kids.length c1] 40)
    have h2 := heap_alloc_new (w.alloc (Obj.cells #[.string name, .int .i64 kind, .bool false, .int .i64 0, .int .u64 u, .float .f64 0, .string s, .slice A1 x.kids.length c1] 40)) (Obj.cells #[.string name, .int .i64 kind, .bool false, .int .i64 0, .int .u64 u, .float .f64 0, .string s, .slice A2 x.kids.length c2] 40)
    rw [show (w.alloc (Obj.cells #[.string name, .int .i64 kind, .bool false, .int .i64 0, .int .u64 u, .float .f64 0, .string s, .slice A1 x.kids.length c1] 40)).heap.size = w.heap.size + 1 by simp] at h2
    have h1' := (blk_old _ (Obj.cells #[.string name, .int .i64 kind, .bool false, .int .i64 0, .int .u64 u, .float .f64 0, .string s, .slice A2 x.kids.length c2] 40) _ (blk_lt h1)).trans h1
    exact ⟨blk_cell h1' 0, blk_cell h1' 1, blk_cell h1' 2, blk_cell h1' 3, blk_cell h1' 4, blk_cell h1' 5, blk_cell h1' 6, blk_cell h1' 7, blk_cell h2 0, blk_cell h2 1, blk_cell h2 2, blk_cell h2 3, blk_cell h2 4, blk_cell h2 5, blk_cell h2 6, blk_cell h2 7⟩
  have hBW : Below w.heap.size w W := hW ▸ below_alloc (below_alloc (Below.refl _ _) _) _
  rw [← hW, ← hg]
  clear hW
  have HCd : Hid (W.drew.cell? ⟨g, 0, none⟩ = some (.string name) ∧ W.drew.cell? ⟨g, 1, none⟩ = some (.int .i64 kind) ∧ W.drew.cell? ⟨g, 2, none⟩ = some (.bool false) ∧ W.drew.cell? ⟨g, 3, none⟩ = some (.int .i64 0) ∧ W.drew.cell? ⟨g, 4, none⟩ = some (.int .u64 u) ∧ W.drew.cell? ⟨g, 5, none⟩ = some (.float .f64 0) ∧ W.drew.cell? ⟨g, 6, none⟩ = some (.string s) ∧ W.drew.cell? ⟨g, 7, none⟩ = some (.slice A1 x.kids.length c1) ∧ W.drew.cell? ⟨(g + 1), 0, none⟩ = some (.string name) ∧ W.drew.cell? ⟨(g + 1), 1, none⟩ = some (.int .i64 kind) ∧ W.drew.cell? ⟨(g + 1), 2, none⟩ = some (.bool false) ∧ W.drew.cell? ⟨(g + 1), 3, none⟩ = some (.int .i64 0) ∧ W.drew.cell? ⟨(g + 1), 4, none⟩ = some (.int .u64 u) ∧ W.drew.cell? ⟨(g + 1), 5, none⟩ = some (.float .f64 0) ∧ W.drew.cell? ⟨(g + 1), 6, none⟩ = some (.string s) ∧ W.drew.cell? ⟨(g + 1), 7, none⟩ = some (.slice A2 x.kids.length c2)) := Lib.hid hcells
  have HGG := Lib.hid hg
  clear hg
  clear hcells
  go_region_held3 (fun w' => w'.cell? ⟨g, 0, none⟩ = some (.string name) ∧ w'.cell? ⟨g, 1, none⟩ = some (.int .i64 kind) ∧ w'.cell? ⟨g, 2, none⟩ = some (.bool false) ∧ w'.cell? ⟨g, 3, none⟩ = some (.int .i64 0) ∧ w'.cell? ⟨g, 4, none⟩ = some (.int .u64 u) ∧ w'.cell? ⟨g, 5, none⟩ = some (.float .f64 0) ∧ w'.cell? ⟨g, 6, none⟩ = some (.string s) ∧ w'.cell? ⟨g, 7, none⟩ = some (.slice A1 x.kids.length c1) ∧ w'.cell? ⟨(g + 1), 0, none⟩ = some (.string name) ∧ w'.cell? ⟨(g + 1), 1, none⟩ = some (.int .i64 kind) ∧ w'.cell? ⟨(g + 1), 2, none⟩ = some (.bool false) ∧ w'.cell? ⟨(g + 1), 3, none⟩ = some (.int .i64 0) ∧ w'.cell? ⟨(g + 1), 4, none⟩ = some (.int .u64 u) ∧ w'.cell? ⟨(g + 1), 5, none⟩ = some (.float .f64 0) ∧ w'.cell? ⟨(g + 1), 6, none⟩ = some (.string s) ∧ w'.cell? ⟨(g + 1), 7, none⟩ = some (.slice A2 x.kids.length c2)) (with_reducible first | assumption | exact HCd.out) (fail)
  have h7a : W.cell? ⟨g, 7, none⟩ = some (.slice A1 x.kids.length c1) := by have := HCd.out; go_split_ands; assumption
  have h7b : W.cell? ⟨g + 1, 7, none⟩ = some (.slice A2 x.kids.length c2) := by have := HCd.out; go_split_ands; assumption
  have H7a := Lib.hid h7a
  have H7b := Lib.hid h7b
  have HBW := Lib.hid hBW
  have HCW1 := Lib.hid (Kd.C_below HC1.out hBW)
  have HCW2 := Lib.hid (Kd.C_below HC2.out hBW)
  clear HCd hBW HC1 HC2 h7a h7b
  go_split_ands
  go_wp2
  have HD0 := Lib.hid (below_drew (Below.refl W.heap.size W))
  go_loopw [67] (fun i wr => ∃ (k : Nat), k ≤ x.kids.length ∧ i = .int .i64 k ∧ Hid (Below W.heap.size W wr)) (fun i _ => x.kids.length - (intOf i).toNat)
  case atStart => exact ⟨0, by omega, rfl, HD0⟩
  case round =>
    obtain ⟨k, hk, rfl, HB⟩ := hrel
    have r7a := cell_keep HB.out H7a.out
    have r7b := cell_keep HB.out H7b.out
    by_cases hlt : k < x.kids.length
    · obtain ⟨d', rfl⟩ : ∃ d', d = d' + 1 := by
        cases d with
        | succ d' => exact ⟨d', rfl⟩
        | zero => exact (HD.out.2 _ (List.getElem_mem hlt)).elim
      obtain ⟨ad1, y, B1, e1, rfl, hy, hle1, hK1, p0, p1, p2, p3, p4, p5, p6, p7⟩ := kid_at HCW1.out hlt
      obtain ⟨ad2, y', B2, e2, rfl, hy', hle2, hK2, q0, q1, q2, q3, q4, q5, q6, q7⟩ := kid_at HCW2.out hlt
      obtain rfl : y = y' := Option.some.inj (hy.symm.trans hy')
      have hd' : Deep (d' + 1) y := HD.out.2 y (List.mem_of_getElem? hy)
      replace p0 := cell_keep HB.out p0
      replace p1 := cell_keep HB.out p1
      replace p2 := cell_keep HB.out p2
      replace p3 := cell_keep HB.out p3
      replace p4 := cell_keep HB.out p4
      replace p5 := cell_keep HB.out p5
      replace p6 := cell_keep HB.out p6
      replace p7 := cell_keep HB.out p7
      replace q0 := cell_keep HB.out q0
      replace q1 := cell_keep HB.out q1
      replace q2 := cell_keep HB.out q2
      replace q3 := cell_keep HB.out q3
      replace q4 := cell_keep HB.out q4
      replace q5 := cell_keep HB.out q5
      replace q6 := cell_keep HB.out q6
      replace q7 := cell_keep HB.out q7
      have HK1 := Lib.hid (Kd.C_below hK1 HB.out)
      have HK2 := Lib.hid (Kd.C_below hK2 HB.out)
      have HDY := Lib.hid hd'
      have HL1 := Lib.hid hle1
      have HL2 := Lib.hid hle2
      clear hK1 hK2 hd' hle1 hle2
      go_wp2_with fail
      go_still_tail 10, (by kernel_rfl)
      go_wp2_with fail
      refine ((IH.out d' rfl) y B1 B2 e1 e2 _ HDY.out HL1.out HL2.out (Kd.C_below HK1.out (below_drew (Below.refl _ _))) (Kd.C_below HK2.out (below_drew (Below.refl _ _)))).mono ?_
      rintro e w2 ⟨v, rfl, rfl, hb2⟩
      go_wp2
      have HB2 := Lib.hid (below_step (below_drew HB.out) hb2)
      clear hb2
      go_roundw
      case rel => exact ⟨k + 1, by omega, by go_num, HB2⟩
      case measure => simp [intOf]; omega
    · go_wp2
      go_ret
      exact .mk _ rfl ⟨rfl, HBW.out.trans (HB.out.mono HBW.out.size)⟩
theorem SameNode_c : ∀ d, SN d
  | 0 => SameNode_step 0 (fun d' h => by omega)
  | d + 1 => SameNode_step (d + 1) (fun d' h => by
      have h' : d' = d := by omega
      rw [h']
      exact SameNode_c d)
end Go.Proofs.YtaniejfkbapbbaaGreatDoor
namespace Go.Proofs.YtaniejfkbapbbaaGreatDoor
open Go.RowKit Go.Proofs.YtaniejfkbapbbaaGreatDoorW.PrintWords Go.Proofs.YtaniejfkbapbbaaGreatDoorW.PrintLast Go.Proofs.YtaniejfkbapbbaaGreatDoorW.PrintMore

theorem info40 : (Tryz.prog.info? 40).map (fun i => (i.zero, i.size, i.bytes)) = some (some (.agg #[.string ⟨#[]⟩, .int .i64 0, .bool false, .int .i64 0, .int .u64 0, .float .f64 0, .string ⟨#[]⟩, .slice none 0 0]), 8, 96) := by kernel_rfl
theorem info35 : (Tryz.prog.info? 35).map (fun i => (i.zero, i.size, i.bytes)) = some (some (.agg #[.string ⟨#[]⟩, .int .i64 0, .bool false, .int .i64 0, .int .u64 0, .float .f64 0, .string ⟨#[]⟩, .slice none 0 0]), 8, 96) := by kernel_rfl
theorem run_store_float (b : Nat) (a : Addr) (m : Mode) (w : World) : (store a (.float .f64 b) m).run Tryz.prog w = stored Tryz.prog w a (.float .f64 b) m := run_store Tryz.prog w a _ m rfl
theorem results_cell1 {fn : Func} {p : Tmp} {ty : TypeId} (h : fn.results = #[.cell p ty]) (tmps : Array Value) {P : Program} (w : World) (g : Nat) (t : TypeId) (cs : Array Value) (fr : Nat × Nat) (fs : Array Field)
    (hp : tmps.getD p undef = .pointer (some ⟨g, 0, none⟩)) (hg : w.heap[g]? = some (.cells cs t fr))
    (hu : P.underlying ty = some (.struct fs)) (hi : (P.info? ty).map (·.size) = some cs.size) :
    (results fn tmps).run P w = .ok (.agg cs) w := by
  have hp' : tmps[p]?.getD undef = .pointer (some ⟨g, 0, none⟩) := by simpa using hp
  simp [results, h, hp', asAddr, run_loadVar_row w g t ty cs fr _ hg hu rfl hi]
theorem blk3 (w : World) (a b c : Obj) : (((w.alloc a).alloc b).alloc c).heap[w.heap.size + 2]? = some c ∧ (((w.alloc a).alloc b).alloc c).heap[w.heap.size + 1]? = some b ∧ (((w.alloc a).alloc b).alloc c).heap[w.heap.size]? = some a := by
  have h1 : (w.alloc a).heap.size = w.heap.size + 1 := by simp
  have h2 : ((w.alloc a).alloc b).heap.size = w.heap.size + 2 := by simp
  have k3 := heap_alloc_new ((w.alloc a).alloc b) c
  have k2 := heap_alloc_new (w.alloc a) b
  have k1 := heap_alloc_new w a
  rw [h2] at k3
  rw [h1] at k2
  exact ⟨k3, (blk_old _ c _ (blk_lt k2)).trans k2, (blk_old _ c _ (blk_lt ((blk_old _ b _ (blk_lt k1)).trans k1))).trans ((blk_old _ b _ (blk_lt k1)).trans k1)⟩
theorem set8 {w X : World} {m t : Nat} {c : Array Value} (a0 a1 a2 a3 a4 a5 a6 a7 : Value) (hB : Below w.heap.size w X) (hm : w.heap.size ≤ m) (k : X.heap[m]? = some (.cells c t (0, 0))) :
    ∃ V, V = ((((((((X).setCell ⟨m, 0, none⟩ a0).setCell ⟨m, 1, none⟩ a1).setCell ⟨m, 2, none⟩ a2).setCell ⟨m, 3, none⟩ a3).setCell ⟨m, 4, none⟩ a4).setCell ⟨m, 5, none⟩ a5).setCell ⟨m, 6, none⟩ a6).setCell ⟨m, 7, none⟩ a7 ∧ Below w.heap.size w V ∧ V.heap[m]? = some (.cells (((((((((c).setIfInBounds 0 a0).setIfInBounds 1 a1).setIfInBounds 2 a2).setIfInBounds 3 a3).setIfInBounds 4 a4).setIfInBounds 5 a5).setIfInBounds 6 a6).setIfInBounds 7 a7) t (0, 0)) ∧ (∀ j, j ≠ m → V.heap[j]? = X.heap[j]?) := by
  refine ⟨_, rfl, below_set (j := 7) (v := a7) (below_set (j := 6) (v := a6) (below_set (j := 5) (v := a5) (below_set (j := 4) (v := a4) (below_set (j := 3) (v := a3) (below_set (j := 2) (v := a2) (below_set (j := 1) (v := a1) (below_set (j := 0) (v := a0) (hB) hm) hm) hm) hm) hm) hm) hm) hm, blk_set (blk_set (blk_set (blk_set (blk_set (blk_set (blk_set (blk_set (k) 0 a0) 1 a1) 2 a2) 3 a3) 4 a4) 5 a5) 6 a6) 7 a7, fun j hj => ?_⟩
  exact (Below.heap_setCell _ ⟨m, 7, none⟩ _ j hj).trans ((Below.heap_setCell _ ⟨m, 6, none⟩ _ j hj).trans ((Below.heap_setCell _ ⟨m, 5, none⟩ _ j hj).trans ((Below.heap_setCell _ ⟨m, 4, none⟩ _ j hj).trans ((Below.heap_setCell _ ⟨m, 3, none⟩ _ j hj).trans ((Below.heap_setCell _ ⟨m, 2, none⟩ _ j hj).trans ((Below.heap_setCell _ ⟨m, 1, none⟩ _ j hj).trans (Below.heap_setCell _ ⟨m, 0, none⟩ _ j hj)))))))
/-- A tree as it is handed back. -/
def SomeNode (e d : Nat) (x : NT) (w : World) (v : Value) (w' : World) : Prop := ∃ cs : List Value, v = .agg cs.toArray ∧ (kn e (d + 1)).M w' w.heap.size (fun _ => True) x cs ∧ Below w.heap.size w w'
def TN (d : Nat) : Prop := ∀ (x : NT) (A1 : Option Addr) (c1 : Nat) (w : World), Deep (d + 1) x → x.kids.length ≤ c1 → (kn 35 d).C w A1 x.kids.length x.kids →
    Calls Tryz.prog 10 #[.agg (heads x (.slice A1 x.kids.length c1)).toArray] w (Ret (SomeNode 40 d x w))

set_option maxRecDepth 100000 in
set_option maxHeartbeats 8000000 in
theorem toNode_step (d : Nat) (ih : ∀ d', d = d' + 1 → TN d') : TN d := by
  intro x A1 c1 w hd hc1 hC1
  have hx := hd.1
  have HD := Lib.hid hd
  have HC1 := Lib.hid hC1
  have IH := Lib.hid ih
  clear hd hC1 ih
  obtain ⟨name, hname⟩ : ∃ n, x.name = n := ⟨_, rfl⟩
  obtain ⟨kind, hkind⟩ : ∃ n, x.kind = n := ⟨_, rfl⟩
  obtain ⟨u, hu⟩ : ∃ n, x.u = n := ⟨_, rfl⟩
  obtain ⟨s, hs⟩ : ∃ n, x.s = n := ⟨_, rfl⟩
  simp only [heads, hname, hkind, hu, hs]
  obtain ⟨g, hg⟩ : ∃ g, g = w.heap.size := ⟨_, rfl⟩
  have HG := Lib.hid hg
  clear hg
  have hsf := run_store_float 0
  go_enter Tryz.func10, Tryz.ntmps10
  go_wp2
  rw [← HG.out]
  go_loopw [24] (fun i wr => ∃ (k : Nat) (v : Value), k ≤ x.kids.length ∧ i = .int .i64 k ∧ Hid (wr.heap[g + 2]? = some (.cells #[.string name, .int .i64 kind, .bool false, .int .i64 0, .int .u64 u, .float .f64 0, .string s, v] 40 (0, 0))) ∧ Hid (wr.heap[g + 1]? = some (.cells #[.string ⟨#[]⟩, .int .i64 0, .bool false, .int .i64 0, .int .u64 0, .float .f64 0, .string ⟨#[]⟩, .slice none 0 0] 40 (0, 0))) ∧ Hid (Kd.R (kn 40 d) 40 wr (g + 3) (fun _ => True) v (x.kids.take k)) ∧ Hid (Below w.heap.size w wr)) (fun i _ => x.kids.length - (intOf i).toNat)
  case atStart =>
    refine ⟨0, .slice none 0 0, by omega, rfl, Lib.hid ?_, Lib.hid ?_, Lib.hid (Kd.R_nil _ _ _ _ _), Lib.hid (below_alloc (below_alloc (below_alloc (Below.refl _ _) _) _) _)⟩
    · rw [HG.out]; exact (blk3 w _ _ _).1
    · rw [HG.out]; exact (blk3 w _ _ _).2.1
  case round =>
    obtain ⟨k, v, hk, rfl, HBK, HBZ, HR, HB⟩ := hrel
    by_cases hlt : k < x.kids.length
    · obtain ⟨d', rfl⟩ : ∃ d', d = d' + 1 := by
        cases d with
        | succ d' => exact ⟨d', rfl⟩
        | zero => exact (HD.out.2 _ (List.getElem_mem hlt)).elim
      obtain ⟨ad1, y, B1, e1, rfl, hy, hle1, hK1, p0, p1, p2, p3, p4, p5, p6, p7⟩ := kid_at HC1.out hlt
      have HDY := Lib.hid (HD.out.2 y (List.mem_of_getElem? hy))
      have HTK : Hid (x.kids.take (k + 1) = x.kids.take k ++ [y]) := Lib.hid (by
        rw [List.take_succ_eq_append_getElem hlt]
        rw [List.getElem?_eq_getElem hlt] at hy
        rw [Option.some.inj hy])
      have HL1 := Lib.hid hle1
      have HK1 := Lib.hid (Kd.C_below hK1 HB.out)
      replace p0 := cell_keep HB.out p0
      replace p1 := cell_keep HB.out p1
      replace p2 := cell_keep HB.out p2
      replace p3 := cell_keep HB.out p3
      replace p4 := cell_keep HB.out p4
      replace p5 := cell_keep HB.out p5
      replace p6 := cell_keep HB.out p6
      replace p7 := cell_keep HB.out p7
      clear hK1 hle1 hy
      go_wp2_with fail
      clear p0 p1 p2 p3 p4 p5 p6 p7
      obtain ⟨W, hW⟩ : ∃ W, W = wr.alloc (Obj.cells #[.string y.name, .int .i64 y.kind, .bool false, .int .i64 0, .int .u64 y.u, .float .f64 0, .string y.s, .slice B1 y.kids.length e1] 35) := ⟨_, rfl⟩
      have hBW : Below wr.heap.size wr W := hW ▸ below_alloc (Below.refl _ _) _
      have HWD : Hid (Below wr.heap.size wr W.drew) := Lib.hid (below_drew hBW)
      have hbx : W.heap[wr.heap.size]? = some (.cells #[.string y.name, .int .i64 y.kind, .bool false, .int .i64 0, .int .u64 y.u, .float .f64 0, .string y.s, .slice B1 y.kids.length e1] 35 (0, 0)) := hW ▸ heap_alloc_new wr _
      have HBK1 : Hid (W.drew.heap[g + 2]? = some (.cells #[.string name, .int .i64 kind, .bool false, .int .i64 0, .int .u64 u, .float .f64 0, .string s, v] 40 (0, 0))) := Lib.hid (blk_keep HWD.out HBK.out)
      have HBZ1 : Hid (W.drew.heap[g + 1]? = some (.cells #[.string ⟨#[]⟩, .int .i64 0, .bool false, .int .i64 0, .int .u64 0, .float .f64 0, .string ⟨#[]⟩, .slice none 0 0] 40 (0, 0))) := Lib.hid (blk_keep HWD.out HBZ.out)
      have HRW := Lib.hid (Kd.R_below HR.out HWD.out)
      have hgW : g + 3 ≤ W.heap.size := Nat.succ_le_of_lt (blk_lt HBK1.out)
      have HBB := Lib.hid (HB.out.trans ((below_drew hBW).mono HB.out.size))
      rw [← hW]
      clear hW hBW HBK HBZ HR HB
      have HS : Hid (W.drew.cell? ⟨g + 2, 7, none⟩ = some v ∧ W.drew.cell? ⟨wr.heap.size, 0, none⟩ = some (.string y.name) ∧ W.drew.cell? ⟨wr.heap.size, 1, none⟩ = some (.int .i64 y.kind) ∧ W.drew.cell? ⟨wr.heap.size, 2, none⟩ = some (.bool false) ∧ W.drew.cell? ⟨wr.heap.size, 3, none⟩ = some (.int .i64 0) ∧ W.drew.cell? ⟨wr.heap.size, 4, none⟩ = some (.int .u64 y.u) ∧ W.drew.cell? ⟨wr.heap.size, 5, none⟩ = some (.float .f64 0) ∧ W.drew.cell? ⟨wr.heap.size, 6, none⟩ = some (.string y.s) ∧ W.drew.cell? ⟨wr.heap.size, 7, none⟩ = some (.slice B1 y.kids.length e1)) := Lib.hid ⟨blk_cell HBK1.out 7, blk_cell hbx 0, blk_cell hbx 1, blk_cell hbx 2, blk_cell hbx 3, blk_cell hbx 4, blk_cell hbx 5, blk_cell hbx 6, blk_cell hbx 7⟩
      clear hbx
      obtain ⟨h, hh⟩ : ∃ h, h = wr.heap.size := ⟨_, rfl⟩
      rw [← hh] at HS ⊢
      clear hh
      refine start_ (n := 8) (S := fun w' => w'.cell? ⟨g + 2, 7, none⟩ = some v ∧ w'.cell? ⟨h, 0, none⟩ = some (.string y.name) ∧ w'.cell? ⟨h, 1, none⟩ = some (.int .i64 y.kind) ∧ w'.cell? ⟨h, 2, none⟩ = some (.bool false) ∧ w'.cell? ⟨h, 3, none⟩ = some (.int .i64 0) ∧ w'.cell? ⟨h, 4, none⟩ = some (.int .u64 y.u) ∧ w'.cell? ⟨h, 5, none⟩ = some (.float .f64 0) ∧ w'.cell? ⟨h, 6, none⟩ = some (.string y.s) ∧ w'.cell? ⟨h, 7, none⟩ = some (.slice B1 y.kids.length e1)) (ds := [5, 7]) #[false, false, false, false, false, false, false, false] (by kernel_rfl) rfl rfl HS.out (fun hHeld => ?_)
      refine pure_ (i := 0) (N := some 28) (v := ?_) (a' := ?_) #[true, false, false, false, false, false, false, false] rfl rfl (by kernel_rfl) (fun _ _ _ h => h) (Or.inl ⟨by rfl, ?_⟩) ?_ ?_
      rotate_left
      · intro w'
        go_simp
        with_reducible rfl
      rotate_left
      · simp only [Act.put, List.setIfInBounds_toArray, List.set_cons_zero, List.set_cons_succ]
        rfl
      refine take_ (i := 1) (N := some 29) (v := ?_) (a' := ?_) #[true, true, false, false, false, false, false, false] rfl rfl (by kernel_rfl) (fun _ _ _ h => h) (Or.inl ⟨by rfl, ?_⟩) hHeld ?_ ?_
      rotate_left
      · rintro w' ⟨s0, s1, s2, s3, s4, s5, s6, s7, s8⟩
        go_simp
        with_reducible rfl
      rotate_left
      · simp only [Act.put, List.setIfInBounds_toArray, List.set_cons_zero, List.set_cons_succ]
        rfl
      refine take_ (i := 2) (N := some 30) (v := ?_) (a' := ?_) #[true, true, true, false, false, false, false, false] rfl rfl (by kernel_rfl) (fun _ _ _ h => h) (Or.inl ⟨by rfl, ?_⟩) hHeld ?_ ?_
      rotate_left
      · rintro w' ⟨s0, s1, s2, s3, s4, s5, s6, s7, s8⟩
        go_simp
        with_reducible rfl
      rotate_left
      · simp only [Act.put, List.setIfInBounds_toArray, List.set_cons_zero, List.set_cons_succ]
        rfl
      refine one_ (i := 3) (N := some 31) #[true, true, true, true, false, false, false, false] rfl rfl (by kernel_rfl) (by decide) (fun K hK => ?_)
      go_simp
      refine ((IH.out d' rfl) y B1 e1 _ HDY.out HL1.out (Kd.C_below HK1.out HWD.out)).mono ?_
      rintro e w2 ⟨v2, rfl, cs2, rfl, hM2, hb2⟩
      obtain ⟨vk, rfl, hRk⟩ := kn_openM hM2
      simp only [heads]
      go_wp2_with fail
      have HB2 := Lib.hid hb2
      have HM2 := Lib.hid hM2
      clear hb2 hM2 hRk
      refine hK.out _ _ ?_ (fun hHeld => ?_)
      · exact ⟨cell_keep HB2.out hHeld.1, cell_keep HB2.out hHeld.2.1, cell_keep HB2.out hHeld.2.2.1, cell_keep HB2.out hHeld.2.2.2.1, cell_keep HB2.out hHeld.2.2.2.2.1, cell_keep HB2.out hHeld.2.2.2.2.2.1, cell_keep HB2.out hHeld.2.2.2.2.2.2.1, cell_keep HB2.out hHeld.2.2.2.2.2.2.2.1, cell_keep HB2.out hHeld.2.2.2.2.2.2.2.2⟩
      clear hK K
      refine one_ (i := 4) (N := some 32) #[true, true, true, true, true, false, false, false] rfl rfl (by kernel_rfl) (by decide) (fun K hK => ?_)
      refine value_ (w1 := ?_) (v := ?_) (by rfl) rfl ?_ ?_
      rotate_left 2
      · go_simp
        constructor
        · rfl
        · rfl
      refine hK.out _ _ ?_ (fun hHeld => ?_)
      · exact ⟨cell_old hHeld.1, cell_old hHeld.2.1, cell_old hHeld.2.2.1, cell_old hHeld.2.2.2.1, cell_old hHeld.2.2.2.2.1, cell_old hHeld.2.2.2.2.2.1, cell_old hHeld.2.2.2.2.2.2.1, cell_old hHeld.2.2.2.2.2.2.2.1, cell_old hHeld.2.2.2.2.2.2.2.2⟩
      clear hK K
      refine norm_ (a' := ?_) ?_ ?_
      rotate_left
      · show Act.put _ (some 32) _ = _
        simp only [Act.put, List.setIfInBounds_toArray, List.set_cons_zero, List.set_cons_succ]
        rfl
      refine last_ (i := 5) (N := some 33) #[true, true, true, true, true, true, false, false] rfl rfl (by kernel_rfl) (by decide) (fun K hK => ?_)
      have hR2 := Kd.R_below HRW.out HB2.out
      refine Kd.R_append_step (kn 40 (d' + 1)) (w0 := w2) (W := w2) (g + 3) (by rfl) (.tmp 29) (.tmp 32) 38 40 (.agg #[.string ⟨#[]⟩, .int .i64 0, .bool false, .int .i64 0, .int .u64 0, .float .f64 0, .string ⟨#[]⟩, .slice none 0 0]) 96 rfl Tryz.underlying38 info40 rfl (by show 0 < 8; decide) (by omega) v _ y _ (fun _ => True) (fun k => W.heap.size ≤ k) rfl rfl ((kn 40 (d' + 1)).M_lower hgW ((kn 40 (d' + 1)).M_mono (fun k hk => hk.2.1) ((kn 40 (d' + 1)).M_bound HM2.out))) (fun k hk => ⟨trivial, fun he => Nat.lt_irrefl _ (Nat.lt_of_lt_of_le (Kd.R_lt HRW.out k he.symm) hk)⟩) (fun _ _ => trivial) hR2 (Below.refl _ _) (Nat.le_trans hgW HB2.out.size) (by rw [List.length_take]; omega) ?_
      intro v1 w3 hR3 hB3 _ _
      obtain ⟨A3, c3, rfl⟩ := Kd.R_slice hR3
      have hb3 : w3.heap[g + 2]? = _ := (hB3.block (g + 2) (by omega)).trans (blk_keep HB2.out HBK1.out)
      have hb3' : w3.heap[g + 1]? = _ := (hB3.block (g + 1) (by omega)).trans (blk_keep HB2.out HBZ1.out)
      have HR3 := Lib.hid hR3
      have HB3 := Lib.hid hB3
      have HBK3 := Lib.hid hb3
      have HBZ3 := Lib.hid hb3'
      clear hR3 hB3 hb3 hb3' hR2
      refine hK.out _ _ ?_
      clear hK K
      refine norm_ (a' := ?_) ?_ ?_
      rotate_left
      · show Act.put _ (some 33) _ = _
        simp only [Act.put, List.setIfInBounds_toArray, List.set_cons_zero, List.set_cons_succ]
        rfl
      refine pure_ (i := 6) (N := some 34) (v := ?_) (a' := ?_) #[true, true, true, true, true, true, true, false] rfl rfl (by kernel_rfl) (fun _ _ _ h => h) (Or.inl ⟨by rfl, ?_⟩) ?_ ?_
      rotate_left
      · intro w'
        go_simp
        with_reducible rfl
      rotate_left
      · simp only [Act.put, List.setIfInBounds_toArray, List.set_cons_zero, List.set_cons_succ]
        rfl
      refine last_ (i := 7) (N := none) #[true, true, true, true, true, true, true, true] rfl rfl (by kernel_rfl) (by decide) (fun K hK => ?_)
      have k7 := blk_cell HBK3.out 7
      have z7 := frozen_of_row w3 (g + 2) 7 _ _ HBK3.out
      change w3.cell? ⟨g + 2, 7, none⟩ = some v at k7
      go_simp
      refine hK.out _ _ ?_
      clear hK K
      refine done_ (by kernel_rfl) ?_
      have HBF := Lib.hid (below_set (j := 7) (v := .slice A3 (x.kids.take k ++ [y]).length c3) (((HBB.out.trans (HB2.out.mono HBB.out.size))).trans (HB3.out.mono (by rw [HG.out]; omega))) (g := g + 2) (by rw [HG.out]; omega))
      have HRF := Lib.hid (Kd.R_mono (ok' := fun _ => True) (Kd.R_far (Kd.R_mono (Kd.R_bound HR3.out) (fun k hk => hk.2.1)) (p := ⟨g + 2, 7, none⟩) (fun k hk => by show k ≠ g + 2; omega) (.slice A3 (x.kids.take k ++ [y]).length c3)) (fun _ _ => trivial))
      have HF1 := Lib.hid (blk_set HBK3.out 7 (.slice A3 (x.kids.take k ++ [y]).length c3))
      have HF2 := Lib.hid (blk_far HBZ3.out (p := ⟨g + 2, 7, none⟩) (by show g + 1 ≠ g + 2; omega) (.slice A3 (x.kids.take k ++ [y]).length c3))
      have hlen : (x.kids.take k ++ [y]).length = k + 1 := by rw [List.length_append, List.length_take]; simp; omega
      rw [hlen] at HBF HRF HF1 HF2
      clear HB2 HB3 HR3
      go_wp2
      go_roundw
      case rel => exact ⟨k + 1, _, by omega, by go_num, HF1, HF2, Lib.hid (by rw [HTK.out]; exact HRF.out), HBF⟩
      case measure => simp [intOf]; omega
    · obtain ⟨A0, c0, rfl⟩ := Kd.R_slice HR.out
      obtain ⟨n0, hn0⟩ : ∃ n, n = (x.kids.take k).length := ⟨_, rfl⟩
      rw [← hn0] at HBK HR
      have HN0 := Lib.hid hn0
      clear hn0
      have hgl := blk_lt HBK.out
      have hgl1 := blk_lt HBZ.out
      have a0 := blk_cell HBK.out 0
      have b0 := blk_cell HBZ.out 0
      have z0 := frozen_of_row wr (g + 1) 0 _ _ HBZ.out
      have a1 := blk_cell HBK.out 1
      have b1 := blk_cell HBZ.out 1
      have z1 := frozen_of_row wr (g + 1) 1 _ _ HBZ.out
      have a2 := blk_cell HBK.out 2
      have b2 := blk_cell HBZ.out 2
      have z2 := frozen_of_row wr (g + 1) 2 _ _ HBZ.out
      have a3 := blk_cell HBK.out 3
      have b3 := blk_cell HBZ.out 3
      have z3 := frozen_of_row wr (g + 1) 3 _ _ HBZ.out
      have a4 := blk_cell HBK.out 4
      have b4 := blk_cell HBZ.out 4
      have z4 := frozen_of_row wr (g + 1) 4 _ _ HBZ.out
      have a5 := blk_cell HBK.out 5
      have b5 := blk_cell HBZ.out 5
      have z5 := frozen_of_row wr (g + 1) 5 _ _ HBZ.out
      have a6 := blk_cell HBK.out 6
      have b6 := blk_cell HBZ.out 6
      have z6 := frozen_of_row wr (g + 1) 6 _ _ HBZ.out
      have a7 := blk_cell HBK.out 7
      have b7 := blk_cell HBZ.out 7
      have z7 := frozen_of_row wr (g + 1) 7 _ _ HBZ.out
      simp only [List.getElem?_toArray, List.getElem?_cons_zero, List.getElem?_cons_succ] at a0 a1 a2 a3 a4 a5 a6 a7 b0 b1 b2 b3 b4 b5 b6 b7
      obtain ⟨V, hV, hVB, hVk, hVo⟩ := set8 (.string name) (.int .i64 kind) (.bool false) (.int .i64 0) (.int .u64 u) (.float .f64 0) (.string s) (.slice A0 n0 c0) HB.out (m := g + 1) (by rw [HG.out]; omega) HBZ.out
      have hHR : (kn 40 d).R 40 V (g + 3) (fun k => g + 3 ≤ k) (.slice A0 n0 c0) (x.kids.take k) := Kd.R_move (Kd.R_mono (Kd.R_bound HR.out) (fun k hk => hk.2.1)) (fun j hj => hVo j (by omega))
      have HVR := Lib.hid hHR
      have HVB := Lib.hid hVB
      have HVK := Lib.hid hVk
      have HVV := Lib.hid hV
      clear hV hVB hVk hVo hHR
      go_wp2
      rw [← HVV.out]
      try simp only [Exit.inBlock, Exit.then]
      refine bodyPost_ret (results_cell1 rfl _ _ (g + 1) 40 _ (0, 0) _ rfl HVK.out Tryz.underlying40 (by kernel_rfl)) rfl (.mk _ rfl ⟨heads x (.slice A0 n0 c0), ?_, ?_, HVB.out⟩)
      · simp only [heads, hname, hkind, hu, hs]; rfl
      · refine kn_mkM _ _ _ x ?_
        have h1 := Kd.R_mono (ok' := fun _ => True) (Kd.R_lower HVR.out (base' := w.heap.size) (by rw [HG.out]; omega)) (fun _ _ => trivial)
        rw [List.take_of_length_le (show x.kids.length ≤ k by omega)] at h1
        exact h1
theorem toNode_c : ∀ d, TN d
  | 0 => toNode_step 0 (fun d' h => by omega)
  | d + 1 => toNode_step (d + 1) (fun d' h => by
      have h' : d' = d := by omega
      rw [h']
      exact toNode_c d)
end Go.Proofs.YtaniejfkbapbbaaGreatDoor
namespace Go.Proofs.YtaniejfkbapbbaaGreatDoor
open Go.RowKit Go.Proofs.YtaniejfkbapbbaaGreatDoorW.PrintWords Go.Proofs.YtaniejfkbapbbaaGreatDoorW.PrintLast Go.Proofs.YtaniejfkbapbbaaGreatDoorW.PrintMore

theorem put_ne {t : Array Value} {i j : Nat} {v : Value} (h : i ≠ j) : (t.setIfInBounds i v)[j]?.getD undef = t[j]?.getD undef := by
  rw [Array.getElem?_setIfInBounds_ne h]
theorem put_eq {t : Array Value} {i : Nat} {v : Value} (h : i < t.size) : (t.setIfInBounds i v)[i]?.getD undef = v := by
  rw [Array.getElem?_setIfInBounds_self_of_lt h]; rfl
section
variable {P : Program} {ops : Array Oper} {Q : Exit → Act → World → Prop} {a : Act} {w w1 : World} {rest : List Oper} {o : Oper}
theorem val_step {v : Value} (hg : o.guard = none) (hrun : (execOp a.eval o).run P w = .ok (.value v) w1) (h : wpList P ops Q rest (a.put o.dst v) w1) : wpList P ops Q (o :: rest) a w := by
  refine wpList_step (fun K hK => ?_)
  have hw : Region.wanted o (yielded ops a.tmps) = true := by simp [Region.wanted, hg]
  rw [if_pos hw]
  unfold Oper.wp
  rw [hrun]
  exact hK _ _ h
theorem ev_tmp {n : Nat} {v : Value} (h : a.tmps[n]?.getD undef = v) : a.eval (.tmp n) = v := by
  rw [← h]; simp [Act.eval]
/-- What is known of an act behind slot n has been written. -/
def Puts (a a' : Act) (n : Nat) (v : Value) : Prop := a'.tmps.size = a.tmps.size ∧ a'.tmps[n]?.getD undef = v ∧ (∀ j, j ≠ n → a'.tmps[j]?.getD undef = a.tmps[j]?.getD undef) ∧ a'.defers = a.defers
theorem puts_put {n : Nat} {v : Value} (hn : n < a.tmps.size) : Puts a (a.put (some n) v) n v :=
  ⟨Array.size_setIfInBounds, put_eq hn, fun _ hj => put_ne (fun h => hj h.symm), rfl⟩
theorem val_go {n : Nat} {v : Value} (hg : o.guard = none) (hd : o.dst = some n) (hn : n < a.tmps.size) (hrun : (execOp a.eval o).run P w = .ok (.value v) w1) (h : ∀ a', Puts a a' n v → wpList P ops Q rest a' w1) : wpList P ops Q (o :: rest) a w := by
  refine val_step hg hrun ?_
  rw [hd]
  exact h _ (puts_put hn)
theorem skip_step (hg : o.guard = none) (hrun : (execOp a.eval o).run P w = .ok .skip w1) (h : wpList P ops Q rest (a.put o.dst undef) w1) : wpList P ops Q (o :: rest) a w := by
  refine wpList_step (fun K hK => ?_)
  have hw : Region.wanted o (yielded ops a.tmps) = true := by simp [Region.wanted, hg]
  rw [if_pos hw]
  unfold Oper.wp
  rw [hrun]
  exact hK _ _ h
end
section
variable (a : Act) (ty : TypeId) (p : String) (nd : Array Edge) (dst : Option Tmp) (w : World)
theorem run_fa5 (m n : Nat) (h : a.tmps[n]?.getD undef = .pointer (some ⟨m, 0, none⟩)) :
    (execOp a.eval { dst := dst, op := .fieldAddr 35 (.tmp n) 7, type := ty, pos := p, after := nd, guard := none }).run Tryz.prog w = .ok (.value (.pointer (some ⟨m, 7, none⟩))) w := by
  go_simp
theorem run_ld33 (m j n : Nat) (v : Value) (h : a.tmps[n]?.getD undef = .pointer (some ⟨m, j, none⟩)) (hc : w.cell? ⟨m, j, none⟩ = some v) :
    (execOp a.eval { dst := dst, op := .load 33 (.tmp n), type := ty, pos := p, after := nd, guard := none }).run Tryz.prog w = .ok (.value v) w := by
  go_simp
theorem run_ld61 (m j n : Nat) (v : Value) (h : a.tmps[n]?.getD undef = .pointer (some ⟨m, j, none⟩)) (hc : w.cell? ⟨m, j, none⟩ = some v) :
    (execOp a.eval { dst := dst, op := .load 61 (.tmp n), type := ty, pos := p, after := nd, guard := none }).run Tryz.prog w = .ok (.value v) w := by
  go_simp
theorem run_ld31 (m j n : Nat) (v : Value) (h : a.tmps[n]?.getD undef = .pointer (some ⟨m, j, none⟩)) (hc : w.cell? ⟨m, j, none⟩ = some v) :
    (execOp a.eval { dst := dst, op := .load 31 (.tmp n), type := ty, pos := p, after := nd, guard := none }).run Tryz.prog w = .ok (.value v) w := by
  go_simp
theorem run_cv (n : Nat) (x : Int) (h : a.tmps[n]?.getD undef = .int .u32 x) (h0 : 0 ≤ x) (h1 : x < 4294967296) :
    (execOp a.eval { dst := dst, op := .convert 61 31 (.tmp n), type := ty, pos := p, after := nd, guard := none }).run Tryz.prog w = .ok (.value (.int .u64 x)) w := by
  go_simp
  rw [IntKind.wrap_u64]
  omega
def leafCells (nm : ByteArray) (x : Int) : List Value := [.string nm, .int .i64 3, .bool false, .int .i64 0, .int .u64 x, .float .f64 0, .string ⟨#[]⟩, .slice none 0 0]
theorem run_bd (n : Nat) (x : Int) (nm : ByteArray) (h : a.tmps[n]?.getD undef = .int .u64 x) :
    (execOp a.eval { dst := dst, op := .build 35 #[(0, .const (.string nm)), (1, .const (.int .i64 3)), (4, .tmp n)], type := ty, pos := p, after := nd, guard := none }).run Tryz.prog w = .ok (.value (.agg (leafCells nm x).toArray)) w := by
  simp only [leafCells]
  go_simp
theorem run_bs (n : Nat) (nm : ByteArray) (x : Int) (h : a.tmps[n]?.getD undef = .agg (leafCells nm x).toArray) :
    (execOp a.eval { dst := dst, op := .buildSlice 33 1 #[(0, .tmp n)], type := ty, pos := p, after := nd, guard := none }).run Tryz.prog w = .ok (.value (.slice (some ⟨w.heap.size, 0, none⟩) 1 1)) (w.alloc (.cells (leafCells nm x).toArray 35)) := by
  simp only [leafCells] at h ⊢
  go_simp
theorem run_st (m j n n' : Nat) (A : Option Addr) (l c : Nat) (u : Value) (h : a.tmps[n]?.getD undef = .pointer (some ⟨m, j, none⟩)) (h' : a.tmps[n']?.getD undef = .slice A l c) (hc : w.cell? ⟨m, j, none⟩ = some u) (hz : w.frozen? ⟨m, j, none⟩ = false) :
    (execOp a.eval { dst := dst, op := .store 33 (.tmp n) (.tmp n'), type := ty, pos := p, after := nd, guard := none }).run Tryz.prog w = .ok .skip (w.setCell ⟨m, j, none⟩ (.slice A l c)) := by
  go_simp
end
def zeroN : Array Value := #[.string ⟨#[]⟩, .int .i64 0, .bool false, .int .i64 0, .int .u64 0, .float .f64 0, .string ⟨#[]⟩, .slice none 0 0]
def secCells (name : ByteArray) (v : Value) : Array Value := #[.string name, .int .i64 8, .bool false, .int .i64 0, .int .u64 0, .float .f64 0, .string ⟨#[]⟩, v]
def leaf (nm : ByteArray) (x : Int) : NT := .mk nm 3 x ⟨#[]⟩ []
structure Slots (a : Act) (g : Nat) : Prop where
  s3 : a.tmps[3]?.getD undef = .pointer (some ⟨g, 0, none⟩)
  s4 : a.tmps[4]?.getD undef = .pointer (some ⟨g + 1, 0, none⟩)
  s5 : a.tmps[5]?.getD undef = .pointer (some ⟨g + 2, 0, none⟩)
  df : a.defers = []
structure St (w0 : World) (g T : Nat) (vals : Array Value) (name : ByteArray) (v : Value) (xs : List NT) (w : World) : Prop where
  hg : g = w0.heap.size
  b3 : w.heap[g]? = some (.cells vals T (0, 0))
  b4 : w.heap[g + 1]? = some (.cells zeroN 35 (0, 0))
  b5 : w.heap[g + 2]? = some (.cells (secCells name v) 35 (0, 0))
  R : Kd.R (kn 35 1) 35 w (g + 3) (fun _ => True) v xs
  B : Below w0.heap.size w0 w
theorem Slots.to {a a' : Act} {g n : Nat} {v : Value} (h : Slots a g) (hp : Puts a a' n v) (hn : 6 ≤ n) : Slots a' g :=
  ⟨(hp.2.2.1 3 (by omega)).trans h.s3, (hp.2.2.1 4 (by omega)).trans h.s4, (hp.2.2.1 5 (by omega)).trans h.s5, hp.2.2.2.trans h.df⟩

set_option maxHeartbeats 1000000 in
theorem field32 {id b i T : Nat} {nm : ByteArray} {p : String} {n0 n1 n2 n3 n4 n5 n6 n7 n8 n9 : Array Edge} {Q : Exit → Act → World → Prop} {a : Act} {w0 w : World} {g : Nat} {vals : Array Value} {x : Int} {name : ByteArray} {v : Value} {xs : List NT}
    (hT : ∀ (a : Act) (w : World), a.tmps[3]?.getD undef = .pointer (some ⟨g, 0, none⟩) → (execOp a.eval { dst := some (b + 2), op := .fieldAddr T (.tmp 3) i, type := 0, pos := p, after := n2, guard := none }).run Tryz.prog w = .ok (.value (.pointer (some ⟨g, i, none⟩))) w)
    (hx : vals[i]? = some (.int .u32 x)) (h0 : 0 ≤ x) (h1 : x < 4294967296) (hb : 6 ≤ b) (hsz : b + 9 ≤ a.tmps.size) (hA : Slots a g) (hS : St w0 g T vals name v xs w) (hl : xs.length ≤ 900)
    (h : ∀ a' v' w', a'.tmps.size = a.tmps.size → Slots a' g → St w0 g T vals name v' (xs ++ [leaf nm x]) w' → Q .normal a' w') :
    (Code.region id #[{ dst := some b, op := .fieldAddr 35 (.tmp 5) 7, type := 0, pos := p, after := n0, guard := none },
      { dst := some (b + 1), op := .load 33 (.tmp b), type := 33, pos := p, after := n1, guard := none },
      { dst := some (b + 2), op := .fieldAddr T (.tmp 3) i, type := 0, pos := p, after := n2, guard := none },
      { dst := some (b + 3), op := .load 61 (.tmp (b + 2)), type := 61, pos := p, after := n3, guard := none },
      { dst := some (b + 4), op := .convert 61 31 (.tmp (b + 3)), type := 31, pos := p, after := n4, guard := none },
      { dst := some (b + 5), op := .build 35 #[(0, .const (.string nm)), (1, .const (.int .i64 3)), (4, .tmp (b + 4))], type := 35, pos := p, after := n5, guard := none },
      { dst := some (b + 6), op := .buildSlice 33 1 #[(0, .tmp (b + 5))], type := 33, pos := p, after := n6, guard := none },
      { dst := some (b + 7), op := .call { callee := .builtin .append, args := #[.tmp (b + 1), .tmp (b + 6)], argTypes := #[33, 33] }, type := 33, pos := p, after := n7, guard := none },
      { dst := some (b + 8), op := .fieldAddr 35 (.tmp 5) 7, type := 0, pos := p, after := n8, guard := none },
      { dst := none, op := .store 33 (.tmp (b + 8)) (.tmp (b + 7)), type := 0, pos := p, after := n9, guard := none }] false).wp Tryz.prog Q a w := by
  refine wp_region_lit ?_
  refine val_go rfl rfl (by omega) (run_fa5 _ _ _ _ _ _ (g + 2) 5 hA.s5) (fun a1 p1 => ?_)
  have A1 := hA.to p1 (by omega)
  refine val_go rfl rfl (by rw [p1.1]; omega) (run_ld33 _ _ _ _ _ _ (g + 2) 7 b v p1.2.1 (blk_cell hS.b5 7)) (fun a2 p2 => ?_)
  have A2 := A1.to p2 (by omega)
  refine val_go rfl rfl (by rw [p2.1, p1.1]; omega) (hT _ _ A2.s3) (fun a3 p3 => ?_)
  have A3 := A2.to p3 (by omega)
  refine val_go rfl rfl (by rw [p3.1, p2.1, p1.1]; omega) (run_ld61 _ _ _ _ _ _ g i (b + 2) (.int .u32 x) p3.2.1 ((blk_cell hS.b3 i).trans hx)) (fun a4 p4 => ?_)
  have A4 := A3.to p4 (by omega)
  refine val_go rfl rfl (by rw [p4.1, p3.1, p2.1, p1.1]; omega) (run_cv _ _ _ _ _ _ (b + 3) x p4.2.1 h0 h1) (fun a5 p5 => ?_)
  have A5 := A4.to p5 (by omega)
  refine val_go rfl rfl (by rw [p5.1, p4.1, p3.1, p2.1, p1.1]; omega) (run_bd _ _ _ _ _ _ (b + 4) x nm p5.2.1) (fun a6 p6 => ?_)
  have A6 := A5.to p6 (by omega)
  refine val_go rfl rfl (by rw [p6.1, p5.1, p4.1, p3.1, p2.1, p1.1]; omega) (run_bs _ _ _ _ _ _ (b + 5) nm x p6.2.1) (fun a7 p7 => ?_)
  have A7 := A6.to p7 (by omega)
  have hv : a7.tmps[b + 1]?.getD undef = v := by
    rw [p7.2.2.1 _ (by omega), p6.2.2.1 _ (by omega), p5.2.2.1 _ (by omega), p4.2.2.1 _ (by omega), p3.2.2.1 _ (by omega)]
    exact p2.2.1
  have hs7 : a7.tmps.size = a.tmps.size := by rw [p7.1, p6.1, p5.1, p4.1, p3.1, p2.1, p1.1]
  have hgw : g + 3 ≤ w.heap.size := Nat.succ_le_of_lt (blk_lt hS.b5)
  refine Kd.R_append (kn 35 1) (w0 := w) (W := w) (g + 3) rfl (.tmp (b + 1)) (.tmp (b + 6)) 33 35 (.agg zeroN) 96 rfl Tryz.underlying33 info35 rfl (by show 0 < 8; decide) (by omega) v xs (leaf nm x) (leafCells nm x) (fun _ => True) (fun _ => False) (ev_tmp hv) (ev_tmp p7.2.1) (kn_mkM w (g + 3) _ (leaf nm x) (Kd.R_nil _ _ _ _ _)) (fun _ h => h.elim) (fun _ _ => trivial) hS.R (Below.refl _ _) hgw (by omega) ?_
  intro v1 w1 hR1 hB1 _ _
  obtain ⟨A0, c0, rfl⟩ := Kd.R_slice hR1
  have p8 : Puts a7 (a7.put (some (b + 7)) _) (b + 7) (.slice A0 (xs ++ [leaf nm x]).length c0) := puts_put (by omega)
  generalize a7.put (some (b + 7)) (.slice A0 (xs ++ [leaf nm x]).length c0) = a8 at p8
  have A8 := A7.to p8 (by omega)
  refine val_go rfl rfl (by rw [p8.1]; omega) (run_fa5 _ _ _ _ _ _ (g + 2) 5 A8.s5) (fun a9 p9 => ?_)
  have A9 := A8.to p9 (by omega)
  have k5 : w1.heap[g + 2]? = _ := (hB1.block (g + 2) (by omega)).trans hS.b5
  have k4 : w1.heap[g + 1]? = _ := (hB1.block (g + 1) (by omega)).trans hS.b4
  have k3 : w1.heap[g]? = _ := (hB1.block g (by omega)).trans hS.b3
  refine skip_step rfl (run_st _ _ _ _ _ _ (g + 2) 7 (b + 8) (b + 7) A0 (xs ++ [leaf nm x]).length c0 v p9.2.1 ((p9.2.2.1 _ (by omega)).trans p8.2.1) (blk_cell k5 7) (frozen_of_row w1 (g + 2) 7 _ _ k5)) ?_
  refine h a9 (.slice A0 (xs ++ [leaf nm x]).length c0) _ (by rw [p9.1, p8.1, hs7]) A9 ⟨hS.hg, ?_, ?_, ?_, ?_, ?_⟩
  · exact blk_far k3 (by show g ≠ g + 2; omega) _
  · exact blk_far k4 (by show g + 1 ≠ g + 2; omega) _
  · exact blk_set k5 7 _
  · exact Kd.R_mono (Kd.R_far (Kd.R_mono (Kd.R_bound hR1) (fun k hk => hk.2.1)) (p := ⟨g + 2, 7, none⟩) (fun k hk => by show k ≠ g + 2; omega) _) (fun _ _ => trivial)
  · have hg := hS.hg
    exact below_set (hS.B.trans (hB1.mono (by omega))) (by omega)
end Go.Proofs.YtaniejfkbapbbaaGreatDoor
namespace Go.Proofs.YtaniejfkbapbbaaGreatDoor
open Go.RowKit Go.Proofs.YtaniejfkbapbbaaGreatDoorW.PrintWords Go.Proofs.YtaniejfkbapbbaaGreatDoorW.PrintLast Go.Proofs.YtaniejfkbapbbaaGreatDoorW.PrintMore

section
variable (a : Act) (ty : TypeId) (p : String) (nd : Array Edge) (dst : Option Tmp) (w : World)
theorem run_mv (n : Nat) (v : Value) (h : a.tmps[n]?.getD undef = v) :
    (execOp a.eval { dst := dst, op := .move (.tmp n), type := ty, pos := p, after := nd, guard := none }).run Tryz.prog w = .ok (.value v) w := by
  subst h
  go_simp
theorem run_al35 : (execOp a.eval { dst := dst, op := .alloc 35, type := ty, pos := p, after := nd, guard := none }).run Tryz.prog w = .ok (.value (.pointer (some ⟨w.heap.size, 0, none⟩))) (w.alloc (.cells zeroN 35)) := by
  unfold zeroN
  go_simp
theorem run_bd8 (n : Nat) (nm : ByteArray) (h : a.tmps[n]?.getD undef = .string nm) :
    (execOp a.eval { dst := dst, op := .build 35 #[(0, .tmp n), (1, .const (.int .i64 8))], type := ty, pos := p, after := nd, guard := none }).run Tryz.prog w = .ok (.value (.agg (secCells nm (.slice none 0 0)))) w := by
  unfold secCells
  go_simp
theorem run_st0 (n n' : Nat) (nm : ByteArray) (h : a.tmps[n]?.getD undef = .pointer (some ⟨w.heap.size, 0, none⟩)) (h' : a.tmps[n']?.getD undef = .agg (secCells nm (.slice none 0 0))) :
    (execOp a.eval { dst := dst, op := .store 35 (.tmp n) (.tmp n'), type := ty, pos := p, after := nd, guard := none }).run Tryz.prog (w.alloc (.cells zeroN 35)) = .ok .skip (w.alloc (.cells (secCells nm (.slice none 0 0)) 35)) := by
  have hsf := run_store_float 0
  unfold secCells at h' ⊢
  unfold zeroN
  go_simp
theorem run_ld35 (m n : Nat) (nm : ByteArray) (v : Value) (h : a.tmps[n]?.getD undef = .pointer (some ⟨m, 0, none⟩)) (hc : w.heap[m]? = some (.cells (secCells nm v) 35 (0, 0))) :
    (execOp a.eval { dst := dst, op := .load 35 (.tmp n), type := ty, pos := p, after := nd, guard := none }).run Tryz.prog w = .ok (.value (.agg (secCells nm v))) w := by
  have c0 := blk_cell hc 0
  have c1 := blk_cell hc 1
  have c2 := blk_cell hc 2
  have c3 := blk_cell hc 3
  have c4 := blk_cell hc 4
  have c5 := blk_cell hc 5
  have c6 := blk_cell hc 6
  have c7 := blk_cell hc 7
  unfold secCells at c0 c1 c2 c3 c4 c5 c6 c7 ⊢
  simp only [List.getElem?_toArray, List.getElem?_cons_zero, List.getElem?_cons_succ] at c0 c1 c2 c3 c4 c5 c6 c7
  go_simp
theorem run_st35 (m n n' : Nat) (nm : ByteArray) (A : Option Addr) (l c : Nat) (h : a.tmps[n]?.getD undef = .pointer (some ⟨m, 0, none⟩)) (h' : a.tmps[n']?.getD undef = .agg (secCells nm (.slice A l c))) (hc : w.heap[m]? = some (.cells zeroN 35 (0, 0))) :
    (execOp a.eval { dst := dst, op := .store 35 (.tmp n) (.tmp n'), type := ty, pos := p, after := nd, guard := none }).run Tryz.prog w = .ok .skip
      ((((((((w.setCell ⟨m, 0, none⟩ (.string nm)).setCell ⟨m, 1, none⟩ (.int .i64 8)).setCell ⟨m, 2, none⟩ (.bool false)).setCell ⟨m, 3, none⟩ (.int .i64 0)).setCell ⟨m, 4, none⟩ (.int .u64 0)).setCell ⟨m, 5, none⟩ (.float .f64 0)).setCell ⟨m, 6, none⟩ (.string ⟨#[]⟩)).setCell ⟨m, 7, none⟩ (.slice A l c)) := by
  have hsf := run_store_float 0
  have c0 := blk_cell hc 0
  have c1 := blk_cell hc 1
  have c2 := blk_cell hc 2
  have c3 := blk_cell hc 3
  have c4 := blk_cell hc 4
  have c5 := blk_cell hc 5
  have c6 := blk_cell hc 6
  have c7 := blk_cell hc 7
  have z0 := frozen_of_row w m 0 _ _ hc
  have z1 := frozen_of_row w m 1 _ _ hc
  have z2 := frozen_of_row w m 2 _ _ hc
  have z3 := frozen_of_row w m 3 _ _ hc
  have z4 := frozen_of_row w m 4 _ _ hc
  have z5 := frozen_of_row w m 5 _ _ hc
  have z6 := frozen_of_row w m 6 _ _ hc
  have z7 := frozen_of_row w m 7 _ _ hc
  unfold zeroN at c0 c1 c2 c3 c4 c5 c6 c7
  simp only [List.getElem?_toArray, List.getElem?_cons_zero, List.getElem?_cons_succ] at c0 c1 c2 c3 c4 c5 c6 c7
  unfold secCells at h'
  go_simp
end
theorem tree_start {T : Nat} {p q : String} {vals : Array Value} {name : ByteArray} {m0 m1 n0 n1 n2 n3 : Array Edge} {B : Code} {Q : Exit → Act → World → Prop} {a : Act} {w : World}
    (hbox : ∀ (a : Act) (w : World), a.tmps[1]?.getD undef = .agg vals → (execOp a.eval { dst := some 3, op := .box T (.tmp 1), type := 0, pos := p, after := m0, guard := none }).run Tryz.prog w = .ok (.value (.pointer (some ⟨w.heap.size, 0, none⟩))) (w.alloc (.cells vals T)))
    (hsz : 8 ≤ a.tmps.size) (h0 : a.tmps[0]?.getD undef = .string name) (h1 : a.tmps[1]?.getD undef = .agg vals) (hd : a.defers = [])
    (h : ∀ a' w', a'.tmps.size = a.tmps.size → Slots a' w.heap.size → St w w.heap.size T vals name (.slice none 0 0) [] w' → B.wp Tryz.prog Q a' w') :
    (Code.seq (Code.region 0 #[{ dst := some 3, op := .box T (.tmp 1), type := 0, pos := p, after := m0, guard := none }, { dst := some 4, op := .alloc 35, type := 0, pos := p, after := m1, guard := none }] false)
      (Code.seq (Code.region 1 #[{ dst := some 6, op := .move (.tmp 0), type := 9, pos := q, after := n0, guard := none }, { dst := some 7, op := .build 35 #[(0, .tmp 6), (1, .const (.int .i64 8))], type := 35, pos := q, after := n1, guard := none },
        { dst := some 5, op := .alloc 35, type := 0, pos := q, after := n2, guard := none }, { dst := none, op := .store 35 (.tmp 5) (.tmp 7), type := 0, pos := q, after := n3, guard := none }] false) B)).wp Tryz.prog Q a w := by
  refine wp_seq (wp_region_lit ?_)
  refine val_go rfl rfl (by omega) (hbox _ _ h1) (fun a1 p1 => ?_)
  refine val_go rfl rfl (by rw [p1.1]; omega) (run_al35 _ _ _ _ _ _) (fun a2 p2 => ?_)
  have e1 : (w.alloc (.cells vals T)).heap.size = w.heap.size + 1 := by simp
  show (Code.seq _ _).wp _ _ _ _
  refine wp_seq (wp_region_lit ?_)
  refine val_go rfl rfl (by rw [p2.1, p1.1]; omega) (run_mv _ _ _ _ _ _ 0 (.string name) (((p2.2.2.1 0 (by omega)).trans (p1.2.2.1 0 (by omega))).trans h0)) (fun a3 p3 => ?_)
  refine val_go rfl rfl (by rw [p3.1, p2.1, p1.1]; omega) (run_bd8 _ _ _ _ _ _ 6 name p3.2.1) (fun a4 p4 => ?_)
  refine val_go rfl rfl (by rw [p4.1, p3.1, p2.1, p1.1]; omega) (run_al35 _ _ _ _ _ _) (fun a5 p5 => ?_)
  have e2 : ((w.alloc (.cells vals T)).alloc (.cells zeroN 35)).heap.size = w.heap.size + 2 := by simp
  refine skip_step rfl (run_st0 _ _ _ _ _ _ 5 7 name p5.2.1 ((p5.2.2.1 7 (by omega)).trans p4.2.1)) ?_
  show B.wp _ _ _ _
  have hb := blk3 w (.cells vals T) (.cells zeroN 35) (.cells (secCells name (.slice none 0 0)) 35)
  refine h a5 _ (by rw [p5.1, p4.1, p3.1, p2.1, p1.1]) ⟨?_, ?_, ?_, ?_⟩ ⟨rfl, hb.2.2, hb.2.1, hb.1, Kd.R_nil _ _ _ _ _, below_alloc (below_alloc (below_alloc (Below.refl _ _) _) _) _⟩
  · rw [p5.2.2.1 3 (by omega), p4.2.2.1 3 (by omega), p3.2.2.1 3 (by omega), p2.2.2.1 3 (by omega)]; exact p1.2.1
  · rw [p5.2.2.1 4 (by omega), p4.2.2.1 4 (by omega), p3.2.2.1 4 (by omega), p2.2.1, e1]
  · rw [p5.2.1, e2]
  · rw [p5.2.2.2, p4.2.2.2, p3.2.2.2, p2.2.2.2, p1.2.2.2]; exact hd
set_option maxHeartbeats 2000000 in
/-- The end of a tree function: the record is handed back. -/
theorem tree_end {id c T : Nat} {p : String} {vals : Array Value} {name : ByteArray} {n0 n1 : Array Edge} {fn : Func} {a : Act} {w0 w : World} {g : Nat} {v : Value} {xs : List NT} {d : Nat}
    (hfn : fn.results = #[.cell 4 35]) (hc : 6 ≤ c) (hsz : c < a.tmps.size) (hA : Slots a g) (hS : St w0 g T vals name v xs w) (hk : (kn 35 (d + 1)).R 35 w (g + 3) (fun _ => True) v xs) :
    (Code.seq (Code.region id #[{ dst := some c, op := .load 35 (.tmp 5), type := 35, pos := p, after := n0, guard := none }, { dst := none, op := .store 35 (.tmp 4) (.tmp c), type := 0, pos := p, after := n1, guard := none }] false) Code.ret).wp Tryz.prog
      (bodyPost Tryz.prog fn (Ret (SomeNode 35 (d + 1) (.mk name 8 0 ⟨#[]⟩ xs) w0))) a w := by
  obtain ⟨A0, c0, rfl⟩ := Kd.R_slice hS.R
  refine wp_seq (wp_region_lit ?_)
  refine val_go rfl rfl hsz (run_ld35 _ _ _ _ _ _ (g + 2) 5 name (.slice A0 xs.length c0) hA.s5 hS.b5) (fun a1 p1 => ?_)
  have A1 := hA.to p1 hc
  refine skip_step rfl (run_st35 _ _ _ _ _ _ (g + 1) 4 c name A0 xs.length c0 A1.s4 p1.2.1 hS.b4) ?_
  have hg := hS.hg
  obtain ⟨V, hV, hVB, hVk, hVo⟩ := set8 (.string name) (.int .i64 8) (.bool false) (.int .i64 0) (.int .u64 0) (.float .f64 0) (.string ⟨#[]⟩) (.slice A0 xs.length c0) hS.B (m := g + 1) (by omega) hS.b4
  rw [← hV]
  show Code.ret.wp _ _ _ _
  refine wp_ret ?_
  refine bodyPost_ret (results_cell1 hfn _ _ (g + 1) 35 (secCells name (.slice A0 xs.length c0)) (0, 0) _ ?_ hVk Tryz.underlying35 (by kernel_rfl)) A1.df (.mk _ rfl ⟨heads (.mk name 8 0 ⟨#[]⟩ xs) (.slice A0 xs.length c0), rfl, ?_, hVB⟩)
  · show (a1.put none undef).tmps.getD 4 undef = _
    have := A1.s4
    simpa [Act.put] using this
  · refine kn_mkM _ _ _ (.mk name 8 0 ⟨#[]⟩ xs) ?_
    have h1 : (kn 35 (d + 1)).R 35 V (g + 3) (fun k => g + 3 ≤ k) (.slice A0 xs.length c0) xs := Kd.R_move (Kd.R_mono (Kd.R_bound hk) (fun k hk => hk.2.1)) (fun j hj => hVo j (by omega))
    exact Kd.R_mono (Kd.R_lower h1 (by omega)) (fun _ _ => trivial)
end Go.Proofs.YtaniejfkbapbbaaGreatDoor
