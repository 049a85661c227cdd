/-
  Part of the proof of FnXfsNormal: normal and FnXfsNormal return true.
-/
import Derived.Test.YtaniejfkbapbbaaGreatDoorXl
namespace Go.Proofs.YtaniejfkbapbbaaGreatDoor
open Go.RowKit Go.Proofs.YtaniejfkbapbbaaGreatDoorW.PrintWords Go.Proofs.YtaniejfkbapbbaaGreatDoorW.PrintLast Go.Proofs.YtaniejfkbapbbaaGreatDoorW.PrintMore
open Go.Proofs.YtaniejfkbapbbaaGreatDoor.PFnXfsNormal (S50 k50 k50_mkM info5 info9 info31 info50 info126)

theorem leaves_deep {nm s : ByteArray} {k u : Int} {l : List NT} (h : l.all (fun y => y.kids.isEmpty) = true) (hl : decide (l.length ≤ 1000) = true) : Deep 2 (.mk nm k u s l) := by
  refine ⟨of_decide_eq_true hl, fun y hy => ⟨?_, ?_⟩⟩
  · have := List.all_eq_true.1 h y hy
    rw [List.isEmpty_iff.1 this]
    decide
  · have := List.all_eq_true.1 h y hy
    rw [List.isEmpty_iff.1 this]
    intro z hz
    cases hz
theorem deep_mk {nm s : ByteArray} {k u : Int} {l : List NT} {d : Nat} (h1 : l.length ≤ 1000) (h2 : ∀ y ∈ l, Deep d y) : Deep (d + 1) (.mk nm k u s l) := ⟨h1, h2⟩
theorem snoc2 {xs : List NT} {z : NT} (h : ∀ y ∈ xs, Deep 2 y) (hz : Deep 2 z) : ∀ y ∈ xs ++ [z], Deep 2 y := by
  intro y hy
  rcases List.mem_append.1 hy with hy | hy
  · exact h y hy
  · rw [List.mem_singleton.1 hy]; exact hz
theorem deep78 (g : Nat → Int) (nm : ByteArray) : Deep 2 (.mk nm 8 0 ⟨#[]⟩ (kids78 g)) := leaves_deep (by simp [kids78, leaf, NT.kids]) (by simp [kids78])
theorem deep79 (g : Nat → Int) (nm : ByteArray) : Deep 2 (.mk nm 8 0 ⟨#[]⟩ (kids79 g)) := leaves_deep (by simp [kids79, leaf, NT.kids]) (by simp [kids79])
theorem deep80 (g : Nat → Int) (nm : ByteArray) : Deep 2 (.mk nm 8 0 ⟨#[]⟩ (kids80 g)) := leaves_deep (by simp [kids80, leaf, NT.kids]) (by simp [kids80])
theorem deep81 (g : Nat → Int) (nm : ByteArray) : Deep 2 (.mk nm 8 0 ⟨#[]⟩ (kids81 g)) := leaves_deep (by simp [kids81, leaf, NT.kids]) (by simp [kids81])
theorem deep82 (g : Nat → Int) (nm : ByteArray) : Deep 2 (.mk nm 8 0 ⟨#[]⟩ (kids82 g)) := leaves_deep (by simp [kids82, leaf, NT.kids]) (by simp [kids82])
theorem deep83 (g : Nat → Int) (nm : ByteArray) : Deep 2 (.mk nm 8 0 ⟨#[]⟩ (kids83 g)) := leaves_deep (by simp [kids83, leaf, NT.kids]) (by simp [kids83])
theorem deep84 (g : Nat → Int) (nm : ByteArray) : Deep 2 (.mk nm 8 0 ⟨#[]⟩ (kids84 g)) := leaves_deep (by simp [kids84, leaf, NT.kids]) (by simp [kids84])
theorem deep85 (g : Nat → Int) (nm : ByteArray) : Deep 2 (.mk nm 8 0 ⟨#[]⟩ (kids85 g)) := leaves_deep (by simp [kids85, leaf, NT.kids]) (by simp [kids85])
theorem deep86 (g : Nat → Int) (nm : ByteArray) : Deep 2 (.mk nm 8 0 ⟨#[]⟩ (kids86 g)) := leaves_deep (by simp [kids86, leaf, NT.kids]) (by simp [kids86])
theorem deep87 (g : Nat → Int) (nm : ByteArray) : Deep 2 (.mk nm 8 0 ⟨#[]⟩ (kids87 g)) := leaves_deep (by simp [kids87, leaf, NT.kids]) (by simp [kids87])
theorem deep88 (g : Nat → Int) (nm : ByteArray) : Deep 2 (.mk nm 8 0 ⟨#[]⟩ (kids88 g)) := leaves_deep (by simp [kids88, leaf, NT.kids]) (by simp [kids88])
theorem deep89 (g : Nat → Int) (nm : ByteArray) : Deep 2 (.mk nm 8 0 ⟨#[]⟩ (kids89 g)) := leaves_deep (by simp [kids89, leaf, NT.kids]) (by simp [kids89])
theorem deep90 (g : Nat → Int) (nm : ByteArray) : Deep 2 (.mk nm 8 0 ⟨#[]⟩ (kids90 g)) := leaves_deep (by simp [kids90, leaf, NT.kids]) (by simp [kids90])
theorem deep91 (g : Nat → Int) (nm : ByteArray) : Deep 2 (.mk nm 8 0 ⟨#[]⟩ (kids91 g)) := leaves_deep (by simp [kids91, leaf, NT.kids]) (by simp [kids91])
theorem deep92 (g : Nat → Int) (nm : ByteArray) : Deep 2 (.mk nm 8 0 ⟨#[]⟩ (kids92 g)) := leaves_deep (by simp [kids92, leaf, NT.kids]) (by simp [kids92])
theorem deep93 (g : Nat → Int) (nm : ByteArray) : Deep 2 (.mk nm 8 0 ⟨#[]⟩ (kids93 g)) := leaves_deep (by simp [kids93, leaf, NT.kids]) (by simp [kids93])
theorem deep94 (g : Nat → Int) (nm : ByteArray) : Deep 2 (.mk nm 8 0 ⟨#[]⟩ (kids94 g)) := leaves_deep (by simp [kids94, leaf, NT.kids]) (by simp [kids94])
theorem deep95 (g : Nat → Int) (nm : ByteArray) : Deep 2 (.mk nm 8 0 ⟨#[]⟩ (kids95 g)) := leaves_deep (by simp [kids95, leaf, NT.kids]) (by simp [kids95])
theorem deep96 (g : Nat → Int) (nm : ByteArray) : Deep 2 (.mk nm 8 0 ⟨#[]⟩ (kids96 g)) := leaves_deep (by simp [kids96, leaf, NT.kids]) (by simp [kids96])
theorem deep97 (g : Nat → Int) (nm : ByteArray) : Deep 2 (.mk nm 8 0 ⟨#[]⟩ (kids97 g)) := leaves_deep (by simp [kids97, leaf, NT.kids]) (by simp [kids97])
theorem deep98 (g : Nat → Int) (nm : ByteArray) : Deep 2 (.mk nm 8 0 ⟨#[]⟩ (kids98 g)) := leaves_deep (by simp [kids98, leaf, NT.kids]) (by simp [kids98])
theorem deep99 (g : Nat → Int) (nm : ByteArray) : Deep 2 (.mk nm 8 0 ⟨#[]⟩ (kids99 g)) := leaves_deep (by simp [kids99, leaf, NT.kids]) (by simp [kids99])
theorem deep100 (g : Nat → Int) (nm : ByteArray) : Deep 2 (.mk nm 8 0 ⟨#[]⟩ (kids100 g)) := leaves_deep (by simp [kids100, leaf, NT.kids]) (by simp [kids100])
theorem deep101 (g : Nat → Int) (nm : ByteArray) : Deep 2 (.mk nm 8 0 ⟨#[]⟩ (kids101 g)) := leaves_deep (by simp [kids101, leaf, NT.kids]) (by simp [kids101])
theorem deep102 (g : Nat → Int) (nm : ByteArray) : Deep 2 (.mk nm 8 0 ⟨#[]⟩ (kids102 g)) := leaves_deep (by simp [kids102, leaf, NT.kids]) (by simp [kids102])
theorem deep103 (g : Nat → Int) (nm : ByteArray) : Deep 2 (.mk nm 8 0 ⟨#[]⟩ (kids103 g)) := leaves_deep (by simp [kids103, leaf, NT.kids]) (by simp [kids103])
theorem deep104 (g : Nat → Int) (nm : ByteArray) : Deep 2 (.mk nm 8 0 ⟨#[]⟩ (kids104 g)) := leaves_deep (by simp [kids104, leaf, NT.kids]) (by simp [kids104])
theorem deep105 (g : Nat → Int) (nm : ByteArray) : Deep 2 (.mk nm 8 0 ⟨#[]⟩ (kids105 g)) := leaves_deep (by simp [kids105, leaf, NT.kids]) (by simp [kids105])
theorem deep106 (g : Nat → Int) (nm : ByteArray) : Deep 2 (.mk nm 8 0 ⟨#[]⟩ (kids106 g)) := leaves_deep (by simp [kids106, leaf, NT.kids]) (by simp [kids106])
theorem deep107 (g : Nat → Int) (nm : ByteArray) : Deep 2 (.mk nm 8 0 ⟨#[]⟩ (kids107 g)) := leaves_deep (by simp [kids107, leaf, NT.kids]) (by simp [kids107])
theorem deep108 (g : Nat → Int) (nm : ByteArray) : Deep 2 (.mk nm 8 0 ⟨#[]⟩ (kids108 g)) := leaves_deep (by simp [kids108, leaf, NT.kids]) (by simp [kids108])
theorem deep109 (g : Nat → Int) (nm : ByteArray) : Deep 2 (.mk nm 8 0 ⟨#[]⟩ (kids109 g)) := leaves_deep (by simp [kids109, leaf, NT.kids]) (by simp [kids109])
theorem deep110 (g : Nat → Int) (nm : ByteArray) : Deep 2 (.mk nm 8 0 ⟨#[]⟩ (kids110 g)) := leaves_deep (by simp [kids110, leaf, NT.kids]) (by simp [kids110])
theorem root_deep (f : Nat → Int) : Deep 3 (rootX f) := by
  unfold rootX
  refine deep_mk (d := 2) (Nat.le_of_ble_eq_true (by kernel_rfl)) ?_
  unfold kidsX
  refine snoc2 ?_ (deep110 (sec f 275 1) ⟨#[71, 99, 88, 112, 99]⟩)
  refine snoc2 ?_ (deep109 (sec f 274 1) ⟨#[68, 101, 102, 101, 114, 82, 101, 108, 111, 103]⟩)
  refine snoc2 ?_ (deep108 (sec f 273 1) ⟨#[77, 101, 116, 97, 70, 105, 108, 101]⟩)
  refine snoc2 ?_ (deep107 (sec f 270 3) ⟨#[90, 111, 110, 101, 100]⟩)
  refine snoc2 ?_ (deep106 (sec f 255 15) ⟨#[66, 116, 114, 101, 101, 82, 116, 82, 101, 102, 67, 111, 117, 110, 116]⟩)
  refine snoc2 ?_ (deep105 (sec f 240 15) ⟨#[66, 116, 114, 101, 101, 82, 116, 82, 101, 118, 101, 114, 115, 101, 77, 97, 112, 77, 101, 109]⟩)
  refine snoc2 ?_ (deep104 (sec f 225 15) ⟨#[66, 116, 114, 101, 101, 82, 116, 82, 101, 118, 101, 114, 115, 101, 77, 97, 112]⟩)
  refine snoc2 ?_ (deep103 (sec f 210 15) ⟨#[66, 116, 114, 101, 101, 82, 99, 98, 97, 103]⟩)
  refine snoc2 ?_ (deep102 (sec f 195 15) ⟨#[66, 116, 114, 101, 101, 82, 101, 118, 101, 114, 115, 101, 77, 97, 112, 77, 101, 109]⟩)
  refine snoc2 ?_ (deep101 (sec f 180 15) ⟨#[66, 116, 114, 101, 101, 82, 101, 102, 67, 111, 117, 110, 116]⟩)
  refine snoc2 ?_ (deep100 (sec f 165 15) ⟨#[66, 116, 114, 101, 101, 82, 101, 118, 101, 114, 115, 101, 77, 97, 112]⟩)
  refine snoc2 ?_ (deep99 (sec f 150 15) ⟨#[66, 116, 114, 101, 101, 70, 114, 101, 101, 73, 110, 111, 100, 101, 50]⟩)
  refine snoc2 ?_ (deep98 (sec f 135 15) ⟨#[66, 116, 114, 101, 101, 73, 110, 111, 100, 101, 50]⟩)
  refine snoc2 ?_ (deep97 (sec f 120 15) ⟨#[66, 116, 114, 101, 101, 66, 108, 111, 99, 107, 77, 97, 112, 50]⟩)
  refine snoc2 ?_ (deep96 (sec f 105 15) ⟨#[66, 116, 114, 101, 101, 65, 108, 108, 111, 99, 67, 111, 110, 116, 105, 103, 50]⟩)
  refine snoc2 ?_ (deep95 (sec f 90 15) ⟨#[66, 116, 114, 101, 101, 65, 108, 108, 111, 99, 66, 108, 111, 99, 107, 115, 50]⟩)
  refine snoc2 ?_ (deep94 (sec f 81 9) ⟨#[81, 117, 111, 116, 97, 77, 97, 110, 97, 103, 101, 114]⟩)
  refine snoc2 ?_ (deep93 (sec f 80 1) ⟨#[68, 101, 98, 117, 103]⟩)
  refine snoc2 ?_ (deep92 (sec f 70 10) ⟨#[80, 117, 115, 104, 65, 105, 108]⟩)
  refine snoc2 ?_ (deep91 (sec f 68 2) ⟨#[88, 115, 116, 114, 97, 116]⟩)
  refine snoc2 ?_ (deep90 (sec f 65 3) ⟨#[69, 120, 116, 101, 110, 100, 101, 100, 80, 114, 101, 99, 105, 115, 105, 111, 110]⟩)
  refine snoc2 ?_ (deep89 (sec f 56 9) ⟨#[66, 117, 102, 102, 101, 114]⟩)
  refine snoc2 ?_ (deep88 (sec f 48 8) ⟨#[86, 110, 111, 100, 101]⟩)
  refine snoc2 ?_ (deep87 (sec f 45 3) ⟨#[73, 110, 111, 100, 101, 67, 108, 117, 115, 116, 101, 114, 105, 110, 103]⟩)
  refine snoc2 ?_ (deep86 (sec f 41 4) ⟨#[65, 116, 116, 114, 105, 98, 117, 116, 101, 79, 112, 101, 114, 97, 116, 105, 111, 110]⟩)
  refine snoc2 ?_ (deep85 (sec f 39 2) ⟨#[82, 101, 97, 100, 87, 114, 105, 116, 101]⟩)
  refine snoc2 ?_ (deep84 (sec f 34 5) ⟨#[76, 111, 103, 79, 112, 101, 114, 97, 116, 105, 111, 110]⟩)
  refine snoc2 ?_ (deep83 (sec f 27 7) ⟨#[73, 110, 111, 100, 101, 79, 112, 101, 114, 97, 116, 105, 111, 110]⟩)
  refine snoc2 ?_ (deep82 (sec f 24 3) ⟨#[84, 114, 97, 110, 115, 97, 99, 116, 105, 111, 110]⟩)
  refine snoc2 ?_ (deep81 (sec f 20 4) ⟨#[68, 105, 114, 101, 99, 116, 111, 114, 121, 79, 112, 101, 114, 97, 116, 105, 111, 110]⟩)
  refine snoc2 ?_ (deep79 (sec f 16 4) ⟨#[66, 108, 111, 99, 107, 77, 97, 112, 66, 84, 114, 101, 101]⟩)
  refine snoc2 ?_ (deep80 (sec f 9 7) ⟨#[66, 108, 111, 99, 107, 77, 97, 112, 112, 105, 110, 103]⟩)
  refine snoc2 ?_ (deep79 (sec f 5 4) ⟨#[65, 108, 108, 111, 99, 97, 116, 105, 111, 110, 66, 84, 114, 101, 101]⟩)
  refine snoc2 ?_ (deep78 (sec f 1 4) ⟨#[69, 120, 116, 101, 110, 116, 65, 108, 108, 111, 99, 97, 116, 105, 111, 110]⟩)
  refine snoc2 ?_ (leaves_deep rfl rfl)
  intro y hy
  cases hy
section
variable {P : Program} {ops : Array Oper} {Q : Exit → Act → World → Prop} {a : Act} {w w1 : World} {rest : List Oper} {o : Oper}
theorem wanted_yes {i n : Nat} {bb : Bool} (hg : o.guard = some (i, bb)) (hi : ((ops[i]?).bind (·.dst)) = some n) (hs : n < a.tmps.size) (hv : a.tmps[n]?.getD undef = .bool bb) : Region.wanted o (yielded ops a.tmps) = true := by
  have hy : yielded ops a.tmps i = some bb := by
    unfold yielded
    rw [hi]
    have : a.tmps[n]? = some (.bool bb) := by
      rw [Array.getElem?_eq_getElem hs] at hv ⊢
      simpa using hv
    simp [this]
  simp [Region.wanted, hg, hy]
theorem wanted_no {i n : Nat} {bb : Bool} (hg : o.guard = some (i, bb)) (hi : ((ops[i]?).bind (·.dst)) = some n) (hs : n < a.tmps.size) (hv : a.tmps[n]?.getD undef = .bool (!bb)) : Region.wanted o (yielded ops a.tmps) = false := by
  have hy : yielded ops a.tmps i = some (!bb) := by
    unfold yielded
    rw [hi]
    have : a.tmps[n]? = some (.bool (!bb)) := by
      rw [Array.getElem?_eq_getElem hs] at hv ⊢
      simpa using hv
    simp [this]
  simp [Region.wanted, hg, hy]
theorem valG_go {n : Nat} {v : Value} (hw : Region.wanted o (yielded ops a.tmps) = true) (hd : o.dst = some n) (hn : n < a.tmps.size) (hrun : (execOp a.eval o).run P w = .ok (.value v) w1) (h : ∀ a', Puts a a' n v → wpList P ops Q rest a' w1) : wpList P ops Q (o :: rest) a w := by
  refine wpList_step (fun K hK => ?_)
  rw [if_pos hw]
  unfold Oper.wp
  rw [hrun]
  refine hK _ _ ?_
  rw [hd]
  exact h _ (puts_put hn)
theorem skipG_go {d : Nat} (hw : Region.wanted o (yielded ops a.tmps) = false) (hd : o.dst = some d) (hn : d < a.tmps.size) (h : ∀ a', Puts a a' d undef → wpList P ops Q rest a' w) : wpList P ops Q (o :: rest) a w := by
  refine wpList_skip hw ?_
  rw [hd]
  exact h _ (puts_put hn)
end
section
variable (a : Act) (ty : TypeId) (p : String) (nd : Array Edge) (dst : Option Tmp) (g : Option (Nat × Bool)) (w : World)
theorem runG_mv (n : Nat) (v : Value) (h : a.tmps[n]?.getD undef = v) :
    (execOp a.eval { dst := dst, op := .move (.tmp n), type := ty, pos := p, after := nd, guard := g }).run Tryz.prog w = .ok (.value v) w := by
  subst h
  go_simp
theorem runG_not (n : Nat) (b : Bool) (h : a.tmps[n]?.getD undef = .bool b) :
    (execOp a.eval { dst := dst, op := .unOp .not 4 (.tmp n), type := ty, pos := p, after := nd, guard := g }).run Tryz.prog w = .ok (.value (.bool (!b))) w := by
  go_simp
theorem runG_len (n : Nat) (s : ByteArray) (h : a.tmps[n]?.getD undef = .string s) :
    (execOp a.eval { dst := dst, op := .call { callee := .builtin .len, args := #[.tmp n], argTypes := #[9] }, type := ty, pos := p, after := nd, guard := g }).run Tryz.prog w = .ok (.value (.int .i64 s.size)) w := by
  go_simp
theorem runG_gtr (n : Nat) (x y : Int) (t : Bool) (h : a.tmps[n]?.getD undef = .int .i64 x) (ht : decide (y < x) = t) :
    (execOp a.eval { dst := dst, op := .binOp .gtr 3 (.tmp n) (.const (.int .i64 y)) 3, type := ty, pos := p, after := nd, guard := g }).run Tryz.prog w = .ok (.value (.bool t)) w := by
  subst ht
  go_simp
theorem runG_eq0 (n : Nat) (h : a.tmps[n]?.getD undef = .int .i64 0) :
    (execOp a.eval { dst := dst, op := .binOp .eql 3 (.tmp n) (.const (.int .i64 0)) 3, type := ty, pos := p, after := nd, guard := g }).run Tryz.prog w = .ok (.value (.bool true)) w := by
  go_simp
theorem runG_ne1 (n : Nat) (x : Int) (t : Bool) (h : a.tmps[n]?.getD undef = .int .i64 x) (ht : (x == 1) = !t) :
    (execOp a.eval { dst := dst, op := .binOp .neq 3 (.tmp n) (.const (.int .i64 1)) 3, type := ty, pos := p, after := nd, guard := g }).run Tryz.prog w = .ok (.value (.bool t)) w := by
  by_cases hx : x = 1
  · subst hx
    have : t = false := by cases t <;> simp_all
    subst this
    go_simp
  · have : t = true := by cases t <;> simp_all
    subst this
    go_simp
theorem runG_pickO (n n' : Nat) (b c : Bool) (h : a.tmps[n]?.getD undef = .bool b) (h' : b = false → a.tmps[n']?.getD undef = .bool c) :
    (execOp a.eval { dst := dst, op := .pick (.tmp n) (.const (.bool true)) (.tmp n'), type := ty, pos := p, after := nd, guard := g }).run Tryz.prog w = .ok (.value (.bool (b || c))) w := by
  cases b with
  | true => go_simp
  | false =>
    have h2 := h' rfl
    go_simp
theorem runG_pickA (n n' : Nat) (c : Bool) (h : a.tmps[n]?.getD undef = .bool true) (h' : a.tmps[n']?.getD undef = .bool c) :
    (execOp a.eval { dst := dst, op := .pick (.tmp n) (.tmp n') (.const (.bool false)), type := ty, pos := p, after := nd, guard := g }).run Tryz.prog w = .ok (.value (.bool c)) w := by
  go_simp
theorem run_ex30 (n : Nat) (x y z : Value) (h : a.tmps[n]?.getD undef = .tuple #[x, y, z]) :
    (execOp a.eval { dst := dst, op := .extract (.tmp n) 0, type := ty, pos := p, after := nd, guard := none }).run Tryz.prog w = .ok (.value x) w := by
  go_simp
theorem run_ex31 (n : Nat) (x y z : Value) (h : a.tmps[n]?.getD undef = .tuple #[x, y, z]) :
    (execOp a.eval { dst := dst, op := .extract (.tmp n) 1, type := ty, pos := p, after := nd, guard := none }).run Tryz.prog w = .ok (.value y) w := by
  go_simp
theorem run_ex32 (n : Nat) (x y z : Value) (h : a.tmps[n]?.getD undef = .tuple #[x, y, z]) :
    (execOp a.eval { dst := dst, op := .extract (.tmp n) 2, type := ty, pos := p, after := nd, guard := none }).run Tryz.prog w = .ok (.value z) w := by
  go_simp
theorem run_call0 (k : Nat) (hen : ∀ args w, (callFunc k args).run Tryz.prog w = .ok (.enter k args) w) :
    (execOp a.eval { dst := dst, op := .call { callee := .value (.func k), args := #[], argTypes := #[] }, type := ty, pos := p, after := nd, guard := g }).run Tryz.prog w = .ok (.enter k #[]) w := by
  go_simp
theorem runG_call1 (n k t : Nat) (v : Value) (hen : ∀ args w, (callFunc k args).run Tryz.prog w = .ok (.enter k args) w) (h : a.tmps[n]?.getD undef = v) :
    (execOp a.eval { dst := dst, op := .call { callee := .value (.func k), args := #[.tmp n], argTypes := #[t] }, type := ty, pos := p, after := nd, guard := g }).run Tryz.prog w = .ok (.enter k #[v]) w := by
  subst h
  go_simp
theorem runG_call2 (n n' k t t' : Nat) (u v : Value) (hen : ∀ args w, (callFunc k args).run Tryz.prog w = .ok (.enter k args) w) (h : a.tmps[n]?.getD undef = u) (h' : a.tmps[n']?.getD undef = v) :
    (execOp a.eval { dst := dst, op := .call { callee := .value (.func k), args := #[.tmp n, .tmp n'], argTypes := #[t, t'] }, type := ty, pos := p, after := nd, guard := g }).run Tryz.prog w = .ok (.enter k #[u, v]) w := by
  subst h
  subst h'
  go_simp
theorem runG_ldR (n g' o T : Nat) (cs : List Value) (d : TypeDesc) (h : a.tmps[n]?.getD undef = .pointer (some ⟨g', o, none⟩)) (hc : w.rangeAt g' o cs) (hu : Tryz.prog.underlying T = some d) (hd : d.isRow = true) (hi : (Tryz.prog.info? T).map (·.size) = some cs.length) :
    (execOp a.eval { dst := dst, op := .load T (.tmp n), type := ty, pos := p, after := nd, guard := g }).run Tryz.prog w = .ok (.value (.agg cs.toArray)) w := by
  simp only [execOp, ev_tmp h, Sem.run_bind, run_loadAt_mid w g' o T cs d hc hu hd hi, Result.andThen, Sem.run_pure]
end
theorem row_range {w : World} {g : Nat} {cs : List Value} {t : Nat} (h : w.heap[g]? = some (.cells cs.toArray t (0, 0))) : w.rangeAt g 0 cs := fun j u hj => by
  rw [Nat.zero_add]
  exact (blk_cell h j).trans (List.getElem?_toArray.trans hj)
/-- A tree that lies in a block of its own, read. -/
def Lies (x : NT) (g : Nat) (w : World) : Prop := ∃ A c, w.heap[g]? = some (.cells (heads x (.slice A x.kids.length c)).toArray 35 (0, 0)) ∧ x.kids.length ≤ c ∧ (kn 35 2).C w A x.kids.length x.kids
theorem Lies.keep {x : NT} {g : Nat} {w w1 : World} (h : Lies x g w) (hb : Below w.heap.size w w1) : Lies x g w1 := by
  obtain ⟨A, c, h1, h2, h3⟩ := h
  exact ⟨A, c, blk_keep hb h1, h2, Kd.C_below h3 hb⟩
end Go.Proofs.YtaniejfkbapbbaaGreatDoor
namespace Go.Proofs.YtaniejfkbapbbaaGreatDoor
open Go.RowKit Go.Proofs.YtaniejfkbapbbaaGreatDoorW.PrintWords Go.Proofs.YtaniejfkbapbbaaGreatDoorW.PrintLast Go.Proofs.YtaniejfkbapbbaaGreatDoorW.PrintMore
open Go.Proofs.YtaniejfkbapbbaaGreatDoor.PFnXfsNormal (S50 k50 k50_mkM info5 info9 info31 info50 info126)

section
variable {id b : Nat} {y0 y1 y2 y3 y4 y5 y6 y7 y8 t0 t1 : TypeId} {p0 p1 p2 p3 p4 p5 p6 p7 p8 : String} {n0 n1 n2 n3 n4 n5 n6 n7 n8 : Array Edge} {Q : Exit → Act → World → Prop} {a : Act} {w w1 : World} {pb : Nat}
theorem live_ret (hz : b < a.tmps.size) (hb : 8 < b) (hd : a.defers = []) (hF : Flt w1 pb) (hp : Spc w1) (hB : Below w.heap.size w w1)
    (h : ∀ a' w', a'.tmps[8]?.getD undef = .bool true → a'.defers = [] → Below w.heap.size w w' → Q .ret a' w') :
    (Code.seq (Code.region id #[{ dst := some b, op := .call { callee := .value (.func 8), args := #[], argTypes := #[] }, type := y0, pos := p0, after := n0, guard := none },
      { dst := some 8, op := .assign (.tmp b), type := y1, pos := p1, after := n1, guard := none }] false) Code.ret).wp Tryz.prog Q a w1 := by
  refine wp_seq (wp_region_lit ?_)
  refine call_go rfl rfl hz (run_call0 _ _ _ _ _ _ _ 8 (enters_of Tryz.func8 (by kernel_rfl) rfl)) (lives_c pb w1 hF hp) ?_
  rintro v w2 a1 ⟨rfl, hB2⟩ q1
  refine val_go rfl rfl (by rw [q1.1]; omega) (run_as _ _ _ _ _ _ b _ q1.2.1) (fun a2 q2 => ?_)
  exact wp_ret (h a2 w2 q2.2.1 (by rw [q2.2.2.2, q1.2.2.2]; exact hd) (hB.trans (hB2.mono hB.size)))
/-- The door is opened, its tree laid in a variable. -/
theorem door_reg {s vd vk : Nat} {l : List S50} (hFi : Fine l) (hN : RowsOk l) (hs : (printX l).size ≤ 40000) (hp : Spc w) (hz : b + 6 ≤ a.tmps.size) (hb : s < b ∧ 3 < b ∧ vd < b ∧ vk < b ∧ vd ≠ vk)
    (h3 : a.tmps[3]?.getD undef = .func (.func 7) #[] #[]) (hS : a.tmps[s]?.getD undef = .string (printX l))
    (h : ∀ a' w' g, a'.tmps.size = a.tmps.size → a'.defers = a.defers → (∀ j, j < b → j ≠ vd → j ≠ vk → a'.tmps[j]?.getD undef = a.tmps[j]?.getD undef) → a'.tmps[vd]?.getD undef = .pointer (some ⟨g, 0, none⟩) → a'.tmps[vk]?.getD undef = .int .i64 0 → Lies (rootX (stOf l)) g w' → Below w.heap.size w w' → Q .normal a' w') :
    (Code.region id #[{ dst := some (b + 1), op := .move (.tmp 3), type := y0, pos := p0, after := n0, guard := none },
      { dst := some (b + 2), op := .move (.tmp s), type := y1, pos := p1, after := n1, guard := none },
      { dst := some (b + 3), op := .call { callee := .value (.tmp (b + 1)), args := #[.tmp (b + 2)], argTypes := #[t0] }, type := y2, pos := p2, after := n2, guard := none },
      { dst := some b, op := .move (.tmp (b + 3)), type := y3, pos := p3, after := n3, guard := none },
      { dst := some (b + 4), op := .extract (.tmp b) 0, type := y4, pos := p4, after := n4, guard := none },
      { dst := some (b + 5), op := .extract (.tmp b) 1, type := y5, pos := p5, after := n5, guard := none },
      { dst := some vd, op := .alloc 35, type := y6, pos := p6, after := n6, guard := none },
      { dst := none, op := .store 35 (.tmp vd) (.tmp (b + 4)), type := y7, pos := p7, after := n7, guard := none },
      { dst := some vk, op := .assign (.tmp (b + 5)), type := y8, pos := p8, after := n8, guard := none }] false).wp Tryz.prog Q a w := by
  refine wp_region_lit ?_
  refine val_go rfl rfl (by omega) (run_mv _ _ _ _ _ _ 3 _ h3) (fun a1 q1 => ?_)
  have z1 := q1.1
  refine val_go rfl rfl (by omega) (run_mv _ _ _ _ _ _ s _ ((q1.2.2.1 s (by omega)).trans hS)) (fun a2 q2 => ?_)
  have z2 := q2.1.trans z1
  refine call_go rfl rfl (by omega) (run_callv1 _ _ _ _ _ _ (b + 1) (b + 2) 7 t0 _ (enters_of Tryz.func7 (by kernel_rfl) rfl) ((q2.2.2.1 (b + 1) (by omega)).trans q1.2.1) q2.2.1) (Xfs_c l w hFi hN hs hp) ?_
  rintro v w1 a3 ⟨cs, rfl, hM, hB⟩ q3
  have z3 := q3.1.trans z2
  refine val_go rfl rfl (by omega) (run_mv _ _ _ _ _ _ (b + 3) _ q3.2.1) (fun a4 q4 => ?_)
  have z4 := q4.1.trans z3
  refine val_go rfl rfl (by omega) (run_ex0 _ _ _ _ _ _ b _ _ q4.2.1) (fun a5 q5 => ?_)
  have z5 := q5.1.trans z4
  refine val_go rfl rfl (by omega) (run_ex1 _ _ _ _ _ _ b _ _ ((q5.2.2.1 b (by omega)).trans q4.2.1)) (fun a6 q6 => ?_)
  have z6 := q6.1.trans z5
  refine val_go rfl rfl (by omega) (run_al35 _ _ _ _ _ _) (fun a7 q7 => ?_)
  have z7 := q7.1.trans z6
  have hg := heap_alloc_new w1 (.cells zeroN 35)
  have hB2 := below_alloc (Below.refl w1.heap.size w1) (.cells zeroN 35)
  have t52 : a7.tmps[b + 4]?.getD undef = .agg cs.toArray := by
    rw [q7.2.2.1 _ (by omega), q6.2.2.1 _ (by omega)]; exact q5.2.1
  refine store_node _ _ _ q7.2.1 t52 hM hg rfl ?_
  refine val_go (a := a7) rfl rfl (by omega) (run_as _ _ _ _ _ _ (b + 5) _ ((q7.2.2.1 _ (by omega)).trans q6.2.1)) (fun a8 q8 => ?_)
  refine h a8 _ w1.heap.size (q8.1.trans z7) ?_ (fun j h1 h2 h3 => ?_) ((q8.2.2.1 vd hb.2.2.2.2).trans q7.2.1) q8.2.1 ?_ ?_
  · rw [q8.2.2.2, q7.2.2.2, q6.2.2.2, q5.2.2.2, q4.2.2.2, q3.2.2.2, q2.2.2.2, q1.2.2.2]
  · rw [q8.2.2.1 j h3, q7.2.2.1 j h2, q6.2.2.1 j (by omega), q5.2.2.1 j (by omega), q4.2.2.1 j (by omega), q3.2.2.1 j (by omega), q2.2.2.1 j (by omega), q1.2.2.1 j (by omega)]
  · have hK := (kn 35 3).K_of_M hM
    obtain ⟨A, c, rfl, hc, hC⟩ := kn_open hK
    refine ⟨A, c, setRow_heap hg, hc, ?_⟩
    exact Kd.C_below hC (below_setRow hB2 (Nat.le_refl _))
  · exact below_setRow (hB.trans (hB2.mono hB.size)) hB.size
end
set_option maxRecDepth 100000 in
set_option maxHeartbeats 4000000 in
theorem normal_c (s : ByteArray) (pb : Nat) (w : World) (hF : Flt w pb) (hp : Spc w) : Calls Tryz.prog 4 #[.string s, .func (.func 5) #[] #[], .func (.func 6) #[] #[], .func (.func 7) #[] #[]] w (Ret (IsTrue w)) := by
  have hret : ∀ (a' : Act) (w' : World), a'.tmps[8]?.getD undef = .bool true → a'.defers = [] → Below w.heap.size w w' → bodyPost Tryz.prog Tryz.f4 (Ret (IsTrue w)) .ret a' w' := fun a' w' h8 hd hB =>
    bodyPost_ret (results_tmp rfl _ _ _) hd (.mk _ rfl ⟨by rw [Array.getD_eq_getD_getElem?]; exact h8, hB⟩)
  go_enter Tryz.func4, Tryz.ntmps4
  refine from_act _ (fun a => a.tmps.size = 76 ∧ a.tmps[0]?.getD undef = .string s ∧ a.tmps[1]?.getD undef = .func (.func 5) #[] #[] ∧ a.tmps[2]?.getD undef = .func (.func 6) #[] #[] ∧ a.tmps[3]?.getD undef = .func (.func 7) #[] #[] ∧ a.defers = []) ⟨rfl, rfl, rfl, rfl, rfl, rfl⟩ ?_
  rintro a ⟨hz, h0, h1, h2, h3, hdf⟩
  refine wp_seq (wp_region_lit ?_)
  refine val_go rfl rfl (by omega) (run_asc _ _ _ _ _ _ _) (fun a1 q1 => ?_)
  have z1 := q1.1.trans hz
  have o1 : ∀ j, j < 8 → a1.tmps[j]?.getD undef = a.tmps[j]?.getD undef := fun j hj => q1.2.2.1 j (by omega)
  have d1 := q1.2.2.2.trans hdf
  refine wp_seq (wp_seq (wp_region_lit ?_))
  refine val_go rfl rfl (by omega) (run_mv _ _ _ _ _ _ 0 _ ((o1 0 (by omega)).trans h0)) (fun a2 q2 => ?_)
  have z2 := q2.1.trans z1
  refine val_go rfl rfl (by omega) (run_lenS _ _ _ _ _ _ 17 s q2.2.1) (fun a3 q3 => ?_)
  have z3 := q3.1.trans z2
  refine val_go rfl rfl (by omega) (run_gtr _ _ _ _ _ _ 18 _ 40000 (decide ((40000 : Int) < s.size)) q3.2.1 rfl) (fun a4 q4 => ?_)
  have z4 := q4.1.trans z3
  have o4 : ∀ j, j < 8 → a4.tmps[j]?.getD undef = a.tmps[j]?.getD undef := fun j hj => by
    rw [q4.2.2.1 j (by omega), q3.2.2.1 j (by omega), q2.2.2.1 j (by omega)]; exact o1 j hj
  have d4 : a4.defers = [] := by rw [q4.2.2.2, q3.2.2.2, q2.2.2.2]; exact d1
  by_cases hbig : (40000 : Int) < s.size
  · rw [decide_eq_true hbig] at q4
    refine wp_cond_true (ev_tmp q4.2.1) (wp_seq (wp_region_lit ?_))
    refine val_go rfl rfl (by omega) (run_asc _ _ _ _ _ _ _) (fun a5 q5 => ?_)
    exact wp_ret (hret a5 w q5.2.1 (q5.2.2.2.trans d4) (Below.refl _ _))
  rw [decide_eq_false hbig] at q4
  have hs : s.size ≤ 40000 := by omega
  refine wp_cond_false (ev_tmp q4.2.1) (wp_skip ?_)
  clear q1 q2 q3 q4 o1 d1 z1 z2 z3
  refine wp_seq (wp_region_lit ?_)
  refine val_go rfl rfl (by omega) (run_mv _ _ _ _ _ _ 1 _ ((o4 1 (by omega)).trans h1)) (fun a5 q5 => ?_)
  have z5 := q5.1.trans z4
  refine val_go rfl rfl (by omega) (run_mv _ _ _ _ _ _ 0 _ ((q5.2.2.1 0 (by omega)).trans ((o4 0 (by omega)).trans h0))) (fun a6 q6 => ?_)
  have z6 := q6.1.trans z5
  refine call_go rfl rfl (by omega) (run_callv1 _ _ _ _ _ _ 21 22 5 _ _ (enters_of Tryz.func5 (by kernel_rfl) rfl) ((q6.2.2.1 21 (by omega)).trans q5.2.1) q6.2.1) (XfsRead_c s w hs) ?_
  rintro v w2 a7 ⟨u, l, bo, t, rfl, hR, hl, hN, hT, hB2⟩ q7
  have z7 := q7.1.trans z6
  refine val_go rfl rfl (by omega) (run_mv _ _ _ _ _ _ 23 _ q7.2.1) (fun a8 q8 => ?_)
  have z8 := q8.1.trans z7
  refine val_go rfl rfl (by omega) (run_ex30 _ _ _ _ _ _ 20 _ _ _ q8.2.1) (fun a9 q9 => ?_)
  have z9 := q9.1.trans z8
  have v9 := (q9.2.2.1 20 (by omega)).trans q8.2.1
  refine val_go rfl rfl (by omega) (run_ex31 _ _ _ _ _ _ 20 _ _ _ v9) (fun a10 q10 => ?_)
  have z10 := q10.1.trans z9
  refine val_go rfl rfl (by omega) (run_ex32 _ _ _ _ _ _ 20 _ _ _ ((q10.2.2.1 20 (by omega)).trans v9)) (fun a11 q11 => ?_)
  have z11 := q11.1.trans z10
  refine val_go rfl rfl (by omega) (run_as _ _ _ _ _ _ 24 _ ((q11.2.2.1 24 (by omega)).trans ((q10.2.2.1 24 (by omega)).trans q9.2.1))) (fun a12 q12 => ?_)
  have z12 := q12.1.trans z11
  refine val_go rfl rfl (by omega) (run_as _ _ _ _ _ _ 25 _ ((q12.2.2.1 25 (by omega)).trans ((q11.2.2.1 25 (by omega)).trans q10.2.1))) (fun a13 q13 => ?_)
  have z13 := q13.1.trans z12
  refine val_go rfl rfl (by omega) (run_as _ _ _ _ _ _ 26 _ ((q13.2.2.1 26 (by omega)).trans ((q12.2.2.1 26 (by omega)).trans q11.2.1))) (fun a14 q14 => ?_)
  have z14 := q14.1.trans z13
  have t9 : a14.tmps[9]?.getD undef = u := by rw [q14.2.2.1 _ (by omega), q13.2.2.1 _ (by omega)]; exact q12.2.1
  have t10 : a14.tmps[10]?.getD undef = .bool bo := by rw [q14.2.2.1 _ (by omega)]; exact q13.2.1
  have t11 := q14.2.1
  have o14 : ∀ j, j < 8 → a14.tmps[j]?.getD undef = a.tmps[j]?.getD undef := fun j hj => by
    rw [q14.2.2.1 j (by omega), q13.2.2.1 j (by omega), q12.2.2.1 j (by omega), q11.2.2.1 j (by omega), q10.2.2.1 j (by omega), q9.2.2.1 j (by omega), q8.2.2.1 j (by omega), q7.2.2.1 j (by omega), q6.2.2.1 j (by omega), q5.2.2.1 j (by omega)]; exact o4 j hj
  have d14 : a14.defers = [] := by rw [q14.2.2.2, q13.2.2.2, q12.2.2.2, q11.2.2.2, q10.2.2.2, q9.2.2.2, q8.2.2.2, q7.2.2.2, q6.2.2.2, q5.2.2.2]; exact d4
  clear q5 q6 q7 q8 q9 q10 q11 q12 q13 q14 v9 z4 z5 z6 z7 z8 z9 z10 z11 z12 z13 o4 d4
  -- what is told
  refine wp_seq (wp_seq (wp_region_lit ?_))
  refine val_go rfl rfl (by omega) (run_mv _ _ _ _ _ _ 11 _ t11) (fun a15 q15 => ?_)
  have z15 := q15.1.trans z14
  by_cases ht : t = 1
  case neg =>
    refine val_go rfl rfl (by omega) (runG_ne1 _ _ _ _ _ _ _ 27 t true q15.2.1 (by simpa using ht)) (fun a16 q16 => ?_)
    have z16 := q16.1.trans z15
    refine val_go rfl rfl (by omega) (run_mv _ _ _ _ _ _ 28 _ q16.2.1) (fun a17 q17 => ?_)
    have z17 := q17.1.trans z16
    refine skipG_go (wanted_no (n := 29) rfl rfl (by omega) q17.2.1) rfl (by omega) (fun a18 q18 => ?_)
    have z18 := q18.1.trans z17
    have v18 := (q18.2.2.1 29 (by omega)).trans q17.2.1
    refine skipG_go (wanted_no (n := 29) rfl rfl (by omega) v18) rfl (by omega) (fun a19 q19 => ?_)
    have z19 := q19.1.trans z18
    refine val_go rfl rfl (by omega) (runG_pickO _ _ _ _ _ _ _ 29 31 true false ((q19.2.2.1 29 (by omega)).trans v18) (fun h => by cases h)) (fun a20 q20 => ?_)
    have z20 := q20.1.trans z19
    refine wp_cond_true (ev_tmp q20.2.1) ?_
    exact live_ret (by omega) (by omega) (by rw [q20.2.2.2, q19.2.2.2, q18.2.2.2, q17.2.2.2, q16.2.2.2, q15.2.2.2]; exact d14) (hF.keep hB2) (hp.keep hB2) hB2 (fun a' w' h8 hd hB => hret a' w' h8 hd hB)
  subst ht
  refine val_go rfl rfl (by omega) (runG_ne1 _ _ _ _ _ _ _ 27 1 false q15.2.1 rfl) (fun a16 q16 => ?_)
  have z16 := q16.1.trans z15
  refine val_go rfl rfl (by omega) (run_mv _ _ _ _ _ _ 28 _ q16.2.1) (fun a17 q17 => ?_)
  have z17 := q17.1.trans z16
  have o17 : ∀ j, j < 27 → a17.tmps[j]?.getD undef = a14.tmps[j]?.getD undef := fun j hj => by
    rw [q17.2.2.1 j (by omega), q16.2.2.1 j (by omega), q15.2.2.1 j (by omega)]
  refine valG_go (wanted_yes (n := 29) rfl rfl (by omega) q17.2.1) rfl (by omega) (runG_mv _ _ _ _ _ _ _ 10 _ ((o17 10 (by omega)).trans t10)) (fun a18 q18 => ?_)
  have z18 := q18.1.trans z17
  have v18 := (q18.2.2.1 29 (by omega)).trans q17.2.1
  refine valG_go (wanted_yes (n := 29) rfl rfl (by omega) v18) rfl (by omega) (runG_not _ _ _ _ _ _ _ 30 bo q18.2.1) (fun a19 q19 => ?_)
  have z19 := q19.1.trans z18
  refine val_go rfl rfl (by omega) (runG_pickO _ _ _ _ _ _ _ 29 31 false (!bo) ((q19.2.2.1 29 (by omega)).trans v18) (fun _ => q19.2.1)) (fun a20 q20 => ?_)
  have z20 := q20.1.trans z19
  have o20 : ∀ j, j < 27 → a20.tmps[j]?.getD undef = a14.tmps[j]?.getD undef := fun j hj => by
    rw [q20.2.2.1 j (by omega), q19.2.2.1 j (by omega), q18.2.2.1 j (by omega)]; exact o17 j hj
  have d20 : a20.defers = [] := by rw [q20.2.2.2, q19.2.2.2, q18.2.2.2, q17.2.2.2, q16.2.2.2, q15.2.2.2]; exact d14
  cases bo with
  | false =>
    refine wp_cond_true (ev_tmp q20.2.1) ?_
    exact live_ret (by omega) (by omega) d20 (hF.keep hB2) (hp.keep hB2) hB2 (fun a' w' h8 hd hB => hret a' w' h8 hd hB)
  | true =>
  obtain ⟨hFi, hpx⟩ := hT rfl rfl
  subst hpx
  refine wp_cond_false (ev_tmp q20.2.1) (wp_skip ?_)
  have T0 := (o20 0 (by omega)).trans ((o14 0 (by omega)).trans h0)
  have T2 := (o20 2 (by omega)).trans ((o14 2 (by omega)).trans h2)
  have T3 := (o20 3 (by omega)).trans ((o14 3 (by omega)).trans h3)
  have T9 := (o20 9 (by omega)).trans t9
  clear q15 q16 q17 q18 q19 q20 z14 z15 z16 z17 z18 z19 o14 o17 o20 d14 t9 t10 t11 v18 h0 h1 h2 h3 hz hdf hT
  obtain ⟨Ar, cr, rfl, hcr, hC⟩ := Kd.R_reads hR
  refine wp_seq (wp_region_lit ?_)
  refine val_go rfl rfl (by omega) (run_mv _ _ _ _ _ _ 2 _ T2) (fun a21 q21 => ?_)
  have z21 := q21.1.trans z20
  refine val_go rfl rfl (by omega) (run_mv _ _ _ _ _ _ 9 _ ((q21.2.2.1 9 (by omega)).trans T9)) (fun a22 q22 => ?_)
  have z22 := q22.1.trans z21
  refine call_go rfl rfl (by omega) (run_callv1 _ _ _ _ _ _ 35 36 6 _ _ (enters_of Tryz.func6 (by kernel_rfl) rfl) ((q22.2.2.1 35 (by omega)).trans q21.2.1) q22.2.1) (XfsPrint_c Ar cr l w2 hC hl hN) ?_
  rintro v w3 a23 ⟨bp, _, rfl, hB3⟩ q23
  have hB03 := hB2.trans (hB3.mono hB2.size)
  have z23 := q23.1.trans z22
  refine val_go rfl rfl (by omega) (run_mv _ _ _ _ _ _ 37 _ q23.2.1) (fun a24 q24 => ?_)
  have z24 := q24.1.trans z23
  refine val_go rfl rfl (by omega) (run_ex0 _ _ _ _ _ _ 34 _ _ q24.2.1) (fun a25 q25 => ?_)
  have z25 := q25.1.trans z24
  refine val_go rfl rfl (by omega) (run_ex1 _ _ _ _ _ _ 34 _ _ ((q25.2.2.1 34 (by omega)).trans q24.2.1)) (fun a26 q26 => ?_)
  have z26 := q26.1.trans z25
  refine val_go rfl rfl (by omega) (run_as _ _ _ _ _ _ 38 _ ((q26.2.2.1 38 (by omega)).trans q25.2.1)) (fun a27 q27 => ?_)
  have z27 := q27.1.trans z26
  refine val_go rfl rfl (by omega) (run_as _ _ _ _ _ _ 39 _ ((q27.2.2.1 39 (by omega)).trans q26.2.1)) (fun a28 q28 => ?_)
  have z28 := q28.1.trans z27
  have t12 := (q28.2.2.1 12 (by omega)).trans q27.2.1
  have t11 := q28.2.1
  have o28 : ∀ j, j < 9 → a28.tmps[j]?.getD undef = a20.tmps[j]?.getD undef := fun j hj => by
    rw [q28.2.2.1 j (by omega), q27.2.2.1 j (by omega), q26.2.2.1 j (by omega), q25.2.2.1 j (by omega), q24.2.2.1 j (by omega), q23.2.2.1 j (by omega), q22.2.2.1 j (by omega), q21.2.2.1 j (by omega)]
  have d28 : a28.defers = [] := by rw [q28.2.2.2, q27.2.2.2, q26.2.2.2, q25.2.2.2, q24.2.2.2, q23.2.2.2, q22.2.2.2, q21.2.2.2]; exact d20
  clear q21 q22 q23 q24 q25 q26 q27 q28 z20 z21 z22 z23 z24 z25 z26 z27 d20
  refine wp_seq (wp_seq (wp_region_lit ?_))
  refine val_go rfl rfl (by omega) (run_mv _ _ _ _ _ _ 11 _ t11) (fun a29 q29 => ?_)
  have z29 := q29.1.trans z28
  cases bp with
  | false =>
    refine val_go rfl rfl (by omega) (runG_ne1 _ _ _ _ _ _ _ 40 2 true q29.2.1 rfl) (fun a30 q30 => ?_)
    have z30 := q30.1.trans z29
    refine val_go rfl rfl (by omega) (run_mv _ _ _ _ _ _ 41 _ q30.2.1) (fun a31 q31 => ?_)
    have z31 := q31.1.trans z30
    refine skipG_go (wanted_no (n := 42) rfl rfl (by omega) q31.2.1) rfl (by omega) (fun a32 q32 => ?_)
    have z32 := q32.1.trans z31
    have v32 := (q32.2.2.1 42 (by omega)).trans q31.2.1
    refine skipG_go (wanted_no (n := 42) rfl rfl (by omega) v32) rfl (by omega) (fun a33 q33 => ?_)
    have z33 := q33.1.trans z32
    have v33 := (q33.2.2.1 42 (by omega)).trans v32
    refine skipG_go (wanted_no (n := 42) rfl rfl (by omega) v33) rfl (by omega) (fun a34 q34 => ?_)
    have z34 := q34.1.trans z33
    refine val_go rfl rfl (by omega) (runG_pickO _ _ _ _ _ _ _ 42 45 true false ((q34.2.2.1 42 (by omega)).trans v33) (fun h => by cases h)) (fun a35 q35 => ?_)
    have z35 := q35.1.trans z34
    refine wp_cond_true (ev_tmp q35.2.1) ?_
    exact live_ret (by omega) (by omega) (by rw [q35.2.2.2, q34.2.2.2, q33.2.2.2, q32.2.2.2, q31.2.2.2, q30.2.2.2, q29.2.2.2]; exact d28) (hF.keep hB03) (hp.keep hB03) hB03 (fun a' w' h8 hd hB => hret a' w' h8 hd hB)
  | true =>
  rw [if_pos rfl] at t12
  refine val_go rfl rfl (by omega) (runG_ne1 _ _ _ _ _ _ _ 40 1 false q29.2.1 rfl) (fun a30 q30 => ?_)
  have z30 := q30.1.trans z29
  refine val_go rfl rfl (by omega) (run_mv _ _ _ _ _ _ 41 _ q30.2.1) (fun a31 q31 => ?_)
  have z31 := q31.1.trans z30
  have o31 : ∀ j, j < 40 → a31.tmps[j]?.getD undef = a28.tmps[j]?.getD undef := fun j hj => by
    rw [q31.2.2.1 j (by omega), q30.2.2.1 j (by omega), q29.2.2.1 j (by omega)]
  refine valG_go (wanted_yes (n := 42) rfl rfl (by omega) q31.2.1) rfl (by omega) (runG_mv _ _ _ _ _ _ _ 12 _ ((o31 12 (by omega)).trans t12)) (fun a32 q32 => ?_)
  have z32 := q32.1.trans z31
  have v32 := (q32.2.2.1 42 (by omega)).trans q31.2.1
  refine valG_go (wanted_yes (n := 42) rfl rfl (by omega) v32) rfl (by omega) (runG_len _ _ _ _ _ _ _ 43 _ q32.2.1) (fun a33 q33 => ?_)
  have z33 := q33.1.trans z32
  have v33 := (q33.2.2.1 42 (by omega)).trans v32
  refine valG_go (wanted_yes (n := 42) rfl rfl (by omega) v33) rfl (by omega) (runG_gtr _ _ _ _ _ _ _ 44 _ 40000 false q33.2.1 (by simp; omega)) (fun a34 q34 => ?_)
  have z34 := q34.1.trans z33
  refine val_go rfl rfl (by omega) (runG_pickO _ _ _ _ _ _ _ 42 45 false false ((q34.2.2.1 42 (by omega)).trans v33) (fun _ => q34.2.1)) (fun a35 q35 => ?_)
  have z35 := q35.1.trans z34
  refine wp_cond_false (ev_tmp q35.2.1) (wp_skip ?_)
  have o35 : ∀ j, j < 40 → a35.tmps[j]?.getD undef = a28.tmps[j]?.getD undef := fun j hj => by
    rw [q35.2.2.1 j (by omega), q34.2.2.1 j (by omega), q33.2.2.1 j (by omega), q32.2.2.1 j (by omega)]; exact o31 j hj
  have d35 : a35.defers = [] := by rw [q35.2.2.2, q34.2.2.2, q33.2.2.2, q32.2.2.2, q31.2.2.2, q30.2.2.2, q29.2.2.2]; exact d28
  have U0 := (o35 0 (by omega)).trans ((o28 0 (by omega)).trans T0)
  have U3 := (o35 3 (by omega)).trans ((o28 3 (by omega)).trans T3)
  have U12 := (o35 12 (by omega)).trans t12
  clear q29 q30 q31 q32 q33 q34 q35 z28 z29 z30 z31 z32 z33 z34 o28 o31 o35 v32 v33 d28 t11 t12 T0 T2 T3 T9
  have hF3 := hF.keep hB03
  have hp3 := hp.keep hB03
  refine wp_seq (door_reg (b := 48) (s := 0) (vd := 13) (vk := 14) hFi hN hs hp3 (by omega) (by omega) U3 U0 (fun a36 w4 q1 z36 d36 o36 T13 T14 L1 hB4 => ?_))
  have hB04 := hB03.trans (hB4.mono hB03.size)
  refine wp_seq (door_reg (b := 54) (s := 12) (vd := 15) (vk := 16) hFi hN hs (hp.keep hB04) (by omega) (by omega) ((o36 3 (by omega) (by omega) (by omega)).trans U3) ((o36 12 (by omega) (by omega) (by omega)).trans U12) (fun b0 w6 q2 z37 d37 o37 T15 T16 L2 hB5 => ?_))
  have hB6 := hB04.trans (hB5.mono hB04.size)
  have L1 := L1.keep hB5
  have T13 := (o37 13 (by omega) (by omega) (by omega)).trans T13
  have T14 := (o37 14 (by omega) (by omega) (by omega)).trans T14
  have zb0 : b0.tmps.size = 76 := by rw [z37, z36]; exact z35
  have db0 : b0.defers = [] := by rw [d37, d36]; exact d35
  clear o36 o37 z36 z37 d36 d37 U0 U3 U12 hB2 hB3 hB03 hB04 hB4 hB5 hF3 hp3 hR hC z35 d35
  refine wp_seq ?_
  refine start_ (n := 17) (S := fun w' => Below w6.drew.heap.size w6.drew w') (ds := []) #[false, false, false, false, false, false, false, false, false, false, false, false, false, false, false, false, false] (by kernel_rfl) rfl rfl (Below.refl _ _) (fun _ => ?_)
  have L1 := Lies.keep L1 (below_drew (Below.refl w6.heap.size w6))
  have L2 := Lies.keep L2 (below_drew (Below.refl w6.heap.size w6))
  have hB6 := below_drew hB6
  generalize w6.drew = W at L1 L2 hB6 ⊢
  obtain ⟨A1, c1, g1, l1, r1⟩ := L1
  obtain ⟨A2, c2, g2, l2, r2⟩ := L2
  refine pure_ (i := 0) (N := some 60) (v := .int .i64 0) #[true, false, false, false, false, false, false, false, false, false, false, false, false, false, false, false, false] rfl rfl (by kernel_rfl) (fun _ _ _ h => h) (Or.inl ⟨(by rfl), fun w' => run_mv _ _ _ _ _ _ 14 _ T14⟩) rfl ?_
  have e0 : Puts b0 (b0.put (some 60) (.int .i64 0)) 60 (.int .i64 0) := puts_put (by omega)
  generalize b0.put (some 60) (.int .i64 0) = b1 at e0 ⊢
  have zb1 := e0.1.trans zb0
  refine pure_ (i := 1) (N := some 61) (v := .bool true) #[true, true, false, false, false, false, false, false, false, false, false, false, false, false, false, false, false] rfl rfl (by kernel_rfl) (fun _ _ _ h => h) (Or.inl ⟨(by rfl), fun w' => runG_eq0 _ _ _ _ _ _ _ 60 e0.2.1⟩) rfl ?_
  have e1 : Puts b1 (b1.put (some 61) (.bool true)) 61 (.bool true) := puts_put (by omega)
  generalize b1.put (some 61) (.bool true) = b2 at e1 ⊢
  have zb2 := e1.1.trans zb1
  refine pure_ (i := 2) (N := some 62) (v := .bool true) #[true, true, true, false, false, false, false, false, false, false, false, false, false, false, false, false, false] rfl rfl (by kernel_rfl) (fun _ _ _ h => h) (Or.inl ⟨(by rfl), fun w' => run_mv _ _ _ _ _ _ 61 _ e1.2.1⟩) rfl ?_
  have e2 : Puts b2 (b2.put (some 62) (.bool true)) 62 (.bool true) := puts_put (by omega)
  generalize b2.put (some 62) (.bool true) = b3 at e2 ⊢
  have zb3 := e2.1.trans zb2
  refine pure_ (i := 3) (N := some 63) (v := .int .i64 0) #[true, true, true, true, false, false, false, false, false, false, false, false, false, false, false, false, false] rfl rfl (by kernel_rfl) (fun _ _ _ h => h) (Or.inl ⟨(wanted_yes rfl rfl (by omega) e2.2.1), fun w' => runG_mv _ _ _ _ _ _ _ 16 _ ((e2.2.2.1 16 (by omega)).trans ((e1.2.2.1 16 (by omega)).trans ((e0.2.2.1 16 (by omega)).trans T16)))⟩) rfl ?_
  have e3 : Puts b3 (b3.put (some 63) (.int .i64 0)) 63 (.int .i64 0) := puts_put (by omega)
  generalize b3.put (some 63) (.int .i64 0) = b4 at e3 ⊢
  have zb4 := e3.1.trans zb3
  refine pure_ (i := 4) (N := some 64) (v := .bool true) #[true, true, true, true, true, false, false, false, false, false, false, false, false, false, false, false, false] rfl rfl (by kernel_rfl) (fun _ _ _ h => h) (Or.inl ⟨(wanted_yes rfl rfl (by omega) ((e3.2.2.1 62 (by omega)).trans e2.2.1)), fun w' => runG_eq0 _ _ _ _ _ _ _ 63 e3.2.1⟩) rfl ?_
  have e4 : Puts b4 (b4.put (some 64) (.bool true)) 64 (.bool true) := puts_put (by omega)
  generalize b4.put (some 64) (.bool true) = b5 at e4 ⊢
  have zb5 := e4.1.trans zb4
  refine pure_ (i := 5) (N := some 65) (v := .bool true) #[true, true, true, true, true, true, false, false, false, false, false, false, false, false, false, false, false] rfl rfl (by kernel_rfl) (fun _ _ _ h => h) (Or.inl ⟨(by rfl), fun w' => runG_pickA _ _ _ _ _ _ _ 62 64 true ((e4.2.2.1 62 (by omega)).trans ((e3.2.2.1 62 (by omega)).trans e2.2.1)) e4.2.1⟩) rfl ?_
  have e5 : Puts b5 (b5.put (some 65) (.bool true)) 65 (.bool true) := puts_put (by omega)
  generalize b5.put (some 65) (.bool true) = b6 at e5 ⊢
  have zb6 := e5.1.trans zb5
  refine pure_ (i := 6) (N := some 66) (v := .bool true) #[true, true, true, true, true, true, true, false, false, false, false, false, false, false, false, false, false] rfl rfl (by kernel_rfl) (fun _ _ _ h => h) (Or.inl ⟨(by rfl), fun w' => run_mv _ _ _ _ _ _ 65 _ e5.2.1⟩) rfl ?_
  have e6 : Puts b6 (b6.put (some 66) (.bool true)) 66 (.bool true) := puts_put (by omega)
  generalize b6.put (some 66) (.bool true) = b7 at e6 ⊢
  have zb7 := e6.1.trans zb6
  refine take_ (i := 7) (N := some 67) (v := .agg (heads (rootX (stOf l)) (.slice A1 (rootX (stOf l)).kids.length c1)).toArray) #[true, true, true, true, true, true, true, true, false, false, false, false, false, false, false, false, false] rfl rfl (by kernel_rfl) (fun _ _ _ h => h) (Or.inl ⟨(wanted_yes rfl rfl (by omega) e6.2.1), fun w' hw' => runG_ldR _ _ _ _ _ _ _ 13 q1 0 35 (heads (rootX (stOf l)) (.slice A1 (rootX (stOf l)).kids.length c1)) _ ((e6.2.2.1 13 (by omega)).trans ((e5.2.2.1 13 (by omega)).trans ((e4.2.2.1 13 (by omega)).trans ((e3.2.2.1 13 (by omega)).trans ((e2.2.2.1 13 (by omega)).trans ((e1.2.2.1 13 (by omega)).trans ((e0.2.2.1 13 (by omega)).trans T13))))))) (row_range (blk_keep hw' g1)) Tryz.underlying35 rfl (by kernel_rfl)⟩) (Below.refl _ _) rfl ?_
  have e7 : Puts b7 (b7.put (some 67) (.agg (heads (rootX (stOf l)) (.slice A1 (rootX (stOf l)).kids.length c1)).toArray)) 67 (.agg (heads (rootX (stOf l)) (.slice A1 (rootX (stOf l)).kids.length c1)).toArray) := puts_put (by omega)
  generalize b7.put (some 67) (.agg (heads (rootX (stOf l)) (.slice A1 (rootX (stOf l)).kids.length c1)).toArray) = b8 at e7 ⊢
  have zb8 := e7.1.trans zb7
  refine take_ (i := 9) (N := some 69) (v := .agg (heads (rootX (stOf l)) (.slice A2 (rootX (stOf l)).kids.length c2)).toArray) #[true, true, true, true, true, true, true, true, false, true, false, false, false, false, false, false, false] rfl rfl (by kernel_rfl) (fun _ _ _ h => h) (Or.inl ⟨(wanted_yes rfl rfl (by omega) ((e7.2.2.1 66 (by omega)).trans e6.2.1)), fun w' hw' => runG_ldR _ _ _ _ _ _ _ 15 q2 0 35 (heads (rootX (stOf l)) (.slice A2 (rootX (stOf l)).kids.length c2)) _ ((e7.2.2.1 15 (by omega)).trans ((e6.2.2.1 15 (by omega)).trans ((e5.2.2.1 15 (by omega)).trans ((e4.2.2.1 15 (by omega)).trans ((e3.2.2.1 15 (by omega)).trans ((e2.2.2.1 15 (by omega)).trans ((e1.2.2.1 15 (by omega)).trans ((e0.2.2.1 15 (by omega)).trans T15)))))))) (row_range (blk_keep hw' g2)) Tryz.underlying35 rfl (by kernel_rfl)⟩) (Below.refl _ _) rfl ?_
  have e8 : Puts b8 (b8.put (some 69) (.agg (heads (rootX (stOf l)) (.slice A2 (rootX (stOf l)).kids.length c2)).toArray)) 69 (.agg (heads (rootX (stOf l)) (.slice A2 (rootX (stOf l)).kids.length c2)).toArray) := puts_put (by omega)
  generalize b8.put (some 69) (.agg (heads (rootX (stOf l)) (.slice A2 (rootX (stOf l)).kids.length c2)).toArray) = b9 at e8 ⊢
  have zb9 := e8.1.trans zb8
  refine one_ (i := 8) (N := some 68) #[true, true, true, true, true, true, true, true, true, true, false, false, false, false, false, false, false] rfl rfl (by kernel_rfl) (by decide) (fun K hK => ?_)
  refine call_ 10 #[.agg (heads (rootX (stOf l)) (.slice A1 (rootX (stOf l)).kids.length c1)).toArray] (wanted_yes rfl rfl (by omega) ((e8.2.2.1 66 (by omega)).trans ((e7.2.2.1 66 (by omega)).trans e6.2.1))) rfl (runG_call1 _ _ _ _ _ _ _ 67 10 _ _ (enters_of Tryz.func10 (by kernel_rfl) rfl) ((e8.2.2.1 67 (by omega)).trans e7.2.1)) ?_
  refine (toNode_c 2 (rootX (stOf l)) A1 c1 W (root_deep _) l1 r1).mono ?_
  rintro e x1 ⟨v1, rfl, n1, rfl, M1, B1⟩
  refine ⟨_, rfl, hK.out _ _ B1 (fun _ => ?_)⟩
  clear hK K
  have e9 : Puts b9 (b9.put (some 68) (.agg n1.toArray)) 68 (.agg n1.toArray) := puts_put (by omega)
  generalize b9.put (some 68) (.agg n1.toArray) = b10 at e9 ⊢
  have zb10 := e9.1.trans zb9
  refine one_ (i := 10) (N := some 70) #[true, true, true, true, true, true, true, true, true, true, true, false, false, false, false, false, false] rfl rfl (by kernel_rfl) (by decide) (fun K hK => ?_)
  refine call_ 10 #[.agg (heads (rootX (stOf l)) (.slice A2 (rootX (stOf l)).kids.length c2)).toArray] (wanted_yes rfl rfl (by omega) ((e9.2.2.1 66 (by omega)).trans ((e8.2.2.1 66 (by omega)).trans ((e7.2.2.1 66 (by omega)).trans e6.2.1)))) rfl (runG_call1 _ _ _ _ _ _ _ 69 10 _ _ (enters_of Tryz.func10 (by kernel_rfl) rfl) ((e9.2.2.1 69 (by omega)).trans e8.2.1)) ?_
  refine (toNode_c 2 (rootX (stOf l)) A2 c2 x1 (root_deep _) l2 (Kd.C_below r2 B1)).mono ?_
  rintro e x2 ⟨v2, rfl, n2, rfl, M2, B2⟩
  have B12 := B1.trans (B2.mono B1.size)
  obtain ⟨u1, rfl, R1⟩ := kn_openM M1
  obtain ⟨u2, rfl, R2⟩ := kn_openM M2
  obtain ⟨D1, d1, rfl, hd1, C1⟩ := Kd.R_reads R1
  obtain ⟨D2, d2, rfl, hd2, C2⟩ := Kd.R_reads R2
  refine ⟨_, rfl, hK.out _ _ B12 (fun _ => ?_)⟩
  clear hK K
  have e10 : Puts b10 (b10.put (some 70) (.agg (heads (rootX (stOf l)) (.slice D2 (rootX (stOf l)).kids.length d2)).toArray)) 70 (.agg (heads (rootX (stOf l)) (.slice D2 (rootX (stOf l)).kids.length d2)).toArray) := puts_put (by omega)
  generalize b10.put (some 70) (.agg (heads (rootX (stOf l)) (.slice D2 (rootX (stOf l)).kids.length d2)).toArray) = b11 at e10 ⊢
  have zb11 := e10.1.trans zb10
  refine one_ (i := 11) (N := some 71) #[true, true, true, true, true, true, true, true, true, true, true, true, false, false, false, false, false] rfl rfl (by kernel_rfl) (by decide) (fun K hK => ?_)
  refine call_ 9 #[.agg (heads (rootX (stOf l)) (.slice D1 (rootX (stOf l)).kids.length d1)).toArray, .agg (heads (rootX (stOf l)) (.slice D2 (rootX (stOf l)).kids.length d2)).toArray] (wanted_yes rfl rfl (by omega) ((e10.2.2.1 66 (by omega)).trans ((e9.2.2.1 66 (by omega)).trans ((e8.2.2.1 66 (by omega)).trans ((e7.2.2.1 66 (by omega)).trans e6.2.1))))) rfl (runG_call2 _ _ _ _ _ _ _ 68 70 9 _ _ _ _ (enters_of Tryz.func9 (by kernel_rfl) rfl) ((e10.2.2.1 68 (by omega)).trans e9.2.1) e10.2.1) ?_
  refine (SameNode_c 2 (rootX (stOf l)) D1 D2 d1 d2 x2 (root_deep _) hd1 hd2 (Kd.C_below C1 B2) C2).mono ?_
  rintro e x3 ⟨v3, rfl, rfl, B3⟩
  have B13 := B12.trans (B3.mono B12.size)
  refine ⟨_, rfl, hK.out _ _ B13 (fun _ => ?_)⟩
  clear hK K
  have e11 : Puts b11 (b11.put (some 71) (.bool true)) 71 (.bool true) := puts_put (by omega)
  generalize b11.put (some 71) (.bool true) = b12 at e11 ⊢
  have zb12 := e11.1.trans zb11
  refine pure_ (i := 12) (N := some 72) (v := .bool true) #[true, true, true, true, true, true, true, true, true, true, true, true, true, false, false, false, false] rfl rfl (by kernel_rfl) (fun _ _ _ h => h) (Or.inl ⟨(by rfl), fun w' => runG_pickA _ _ _ _ _ _ _ 66 71 true ((e11.2.2.1 66 (by omega)).trans ((e10.2.2.1 66 (by omega)).trans ((e9.2.2.1 66 (by omega)).trans ((e8.2.2.1 66 (by omega)).trans ((e7.2.2.1 66 (by omega)).trans e6.2.1))))) e11.2.1⟩) rfl ?_
  have e12 : Puts b12 (b12.put (some 72) (.bool true)) 72 (.bool true) := puts_put (by omega)
  generalize b12.put (some 72) (.bool true) = b13 at e12 ⊢
  have zb13 := e12.1.trans zb12
  refine pure_ (i := 13) (N := some 73) (v := .bool true) #[true, true, true, true, true, true, true, true, true, true, true, true, true, true, false, false, false] rfl rfl (by kernel_rfl) (fun _ _ _ h => h) (Or.inl ⟨(by rfl), fun w' => run_mv _ _ _ _ _ _ 72 _ e12.2.1⟩) rfl ?_
  have e13 : Puts b13 (b13.put (some 73) (.bool true)) 73 (.bool true) := puts_put (by omega)
  generalize b13.put (some 73) (.bool true) = b14 at e13 ⊢
  have zb14 := e13.1.trans zb13
  refine one_ (i := 14) (N := some 74) #[true, true, true, true, true, true, true, true, true, true, true, true, true, true, true, false, false] rfl rfl (by kernel_rfl) (by decide) (fun K hK => ?_)
  have B06 := hB6.trans (B13.mono hB6.size)
  refine call_ 8 #[] (wanted_yes rfl rfl (by omega) e13.2.1) rfl (run_call0 _ _ _ _ _ _ _ 8 (enters_of Tryz.func8 (by kernel_rfl) rfl)) ?_
  refine (lives_c pb x3 (hF.keep B06) (hp.keep B06)).mono ?_
  rintro e x4 ⟨v4, rfl, rfl, B4⟩
  have B14 := B13.trans (B4.mono B13.size)
  refine ⟨_, rfl, hK.out _ _ B14 (fun _ => ?_)⟩
  clear hK K
  have e14 : Puts b14 (b14.put (some 74) (.bool true)) 74 (.bool true) := puts_put (by omega)
  generalize b14.put (some 74) (.bool true) = b15 at e14 ⊢
  have zb15 := e14.1.trans zb14
  refine pure_ (i := 15) (N := some 75) (v := .bool true) #[true, true, true, true, true, true, true, true, true, true, true, true, true, true, true, true, false] rfl rfl (by kernel_rfl) (fun _ _ _ h => h) (Or.inl ⟨(by rfl), fun w' => runG_pickA _ _ _ _ _ _ _ 73 74 true ((e14.2.2.1 73 (by omega)).trans e13.2.1) e14.2.1⟩) rfl ?_
  have e15 : Puts b15 (b15.put (some 75) (.bool true)) 75 (.bool true) := puts_put (by omega)
  generalize b15.put (some 75) (.bool true) = b16 at e15 ⊢
  have zb16 := e15.1.trans zb15
  refine pure_ (i := 16) (N := some 8) (v := .bool true) #[true, true, true, true, true, true, true, true, true, true, true, true, true, true, true, true, true] rfl rfl (by kernel_rfl) (fun _ _ _ h => h) (Or.inl ⟨(by rfl), fun w' => run_as _ _ _ _ _ _ 75 _ e15.2.1⟩) rfl ?_
  have e16 : Puts b16 (b16.put (some 8) (.bool true)) 8 (.bool true) := puts_put (by omega)
  generalize b16.put (some 8) (.bool true) = b17 at e16 ⊢
  have zb17 := e16.1.trans zb16
  refine done_ (by kernel_rfl) ?_
  refine wp_ret (hret _ _ e16.2.1 ?_ (hB6.trans (B14.mono hB6.size)))
  rw [e16.2.2.2, e15.2.2.2, e14.2.2.2, e13.2.2.2, e12.2.2.2, e11.2.2.2, e10.2.2.2, e9.2.2.2, e8.2.2.2, e7.2.2.2, e6.2.2.2, e5.2.2.2, e4.2.2.2, e3.2.2.2, e2.2.2.2, e1.2.2.2, e0.2.2.2]
  exact db0
end Go.Proofs.YtaniejfkbapbbaaGreatDoor
namespace Go.Proofs.YtaniejfkbapbbaaGreatDoor
open Go.RowKit Go.Proofs.YtaniejfkbapbbaaGreatDoorW.PrintWords Go.Proofs.YtaniejfkbapbbaaGreatDoorW.PrintLast Go.Proofs.YtaniejfkbapbbaaGreatDoorW.PrintMore

theorem run_call4 (a : Act) (ty : TypeId) (p : String) (nd : Array Edge) (dst : Option Tmp) (w : World) (n k k1 k2 k3 t t1 t2 t3 : Nat) (u : Value) (hen : ∀ args w, (callFunc k args).run Tryz.prog w = .ok (.enter k args) w) (h : a.tmps[n]?.getD undef = u) :
    (execOp a.eval { dst := dst, op := .call { callee := .value (.func k), args := #[.tmp n, .func k1, .func k2, .func k3], argTypes := #[t, t1, t2, t3] }, type := ty, pos := p, after := nd, guard := none }).run Tryz.prog w = .ok (.enter k #[u, .func (.func k1) #[] #[], .func (.func k2) #[] #[], .func (.func k3) #[] #[]]) w := by
  subst h
  go_simp
set_option maxRecDepth 100000 in
theorem FnXfsNormal_c (s : ByteArray) (pb : Nat) (w : World) (hF : Flt w pb) (hp : Spc w) : Calls Tryz.prog 3 #[.string s] w (Ret (IsTrue w)) := by
  go_enter Tryz.func3, Tryz.ntmps3
  refine from_act _ (fun a => a.tmps.size = 8 ∧ a.tmps[0]?.getD undef = .string s ∧ a.defers = []) ⟨rfl, rfl, rfl⟩ ?_
  rintro a ⟨hz, h0, hdf⟩
  have hret : ∀ (a' : Act) (w' : World), a'.tmps[2]?.getD undef = .bool true → a'.defers = [] → Below w.heap.size w w' → bodyPost Tryz.prog Tryz.f3 (Ret (IsTrue w)) .ret a' w' := fun a' w' h8 hd hB =>
    bodyPost_ret (results_tmp rfl _ _ _) hd (.mk _ rfl ⟨by rw [Array.getD_eq_getD_getElem?]; exact h8, hB⟩)
  refine wp_seq (wp_region_lit ?_)
  refine val_go rfl rfl (by omega) (run_asc _ _ _ _ _ _ _) (fun a1 q1 => ?_)
  have z1 := q1.1.trans hz
  refine wp_seq (wp_seq (wp_region_lit ?_))
  refine val_go rfl rfl (by omega) (run_mv _ _ _ _ _ _ 0 _ ((q1.2.2.1 0 (by omega)).trans h0)) (fun a2 q2 => ?_)
  have z2 := q2.1.trans z1
  refine val_go rfl rfl (by omega) (run_lenS _ _ _ _ _ _ 3 s q2.2.1) (fun a3 q3 => ?_)
  have z3 := q3.1.trans z2
  refine val_go rfl rfl (by omega) (run_gtr _ _ _ _ _ _ 4 _ 2147483647 (decide ((2147483647 : Int) < s.size)) q3.2.1 rfl) (fun a4 q4 => ?_)
  have z4 := q4.1.trans z3
  have d4 : a4.defers = [] := by rw [q4.2.2.2, q3.2.2.2, q2.2.2.2, q1.2.2.2]; exact hdf
  by_cases hbig : (2147483647 : Int) < s.size
  · rw [decide_eq_true hbig] at q4
    refine wp_cond_true (ev_tmp q4.2.1) (wp_seq (wp_region_lit ?_))
    refine val_go rfl rfl (by omega) (run_asc _ _ _ _ _ _ _) (fun a5 q5 => ?_)
    exact wp_ret (hret a5 w q5.2.1 (q5.2.2.2.trans d4) (Below.refl _ _))
  rw [decide_eq_false hbig] at q4
  refine wp_cond_false (ev_tmp q4.2.1) (wp_skip ?_)
  refine wp_seq (wp_region_lit ?_)
  refine val_go rfl rfl (by omega) (run_mv _ _ _ _ _ _ 0 _ ((q4.2.2.1 0 (by omega)).trans ((q3.2.2.1 0 (by omega)).trans ((q2.2.2.1 0 (by omega)).trans ((q1.2.2.1 0 (by omega)).trans h0))))) (fun a5 q5 => ?_)
  have z5 := q5.1.trans z4
  refine call_go rfl rfl (by omega) (run_call4 _ _ _ _ _ _ 6 4 5 6 7 _ _ _ _ _ (enters_of Tryz.func4 (by kernel_rfl) rfl) q5.2.1) (normal_c s pb w hF hp) ?_
  rintro v w2 a6 ⟨rfl, hB⟩ q6
  refine val_go rfl rfl (by rw [q6.1]; omega) (run_as _ _ _ _ _ _ 7 _ q6.2.1) (fun a7 q7 => ?_)
  exact wp_ret (hret a7 w2 q7.2.1 (by rw [q7.2.2.2, q6.2.2.2, q5.2.2.2]; exact d4) hB)
end Go.Proofs.YtaniejfkbapbbaaGreatDoor
