/-
  Part of the proof of FnXfsNormal: the tree of Stats, and the door Xfs.
-/
import Derived.Test.YtaniejfkbapbbaaGreatDoorXc
import Derived.Test.YtaniejfkbapbbaaGreatDoorXf
import Derived.Test.YtaniejfkbapbbaaGreatDoorXe
import Derived.Defers
import Derived.Recover
namespace Go.Proofs.YtaniejfkbapbbaaGreatDoor
open Go.RowKit Go.Proofs.YtaniejfkbapbbaaGreatDoorW.PrintWords Go.Proofs.YtaniejfkbapbbaaGreatDoorW.PrintLast Go.Proofs.YtaniejfkbapbbaaGreatDoorW.PrintMore
open Go.Proofs.YtaniejfkbapbbaaGreatDoor.PFnXfsNormal (S50 k50 k50_mkM info5 info9 info31 info50 info126)

/-- A tree of sections while it grows. -/
structure Sx (w0 : World) (g : Nat) (f : Nat → Int) (name : ByteArray) (v : Value) (xs : List NT) (w : World) : Prop where
  hg : g = w0.heap.size
  b3 : BoxX w g f
  b4 : w.heap[g + 1]? = some (.cells zeroN 35 (0, 0))
  b5 : w.heap[g + 2]? = some (.cells (secCells name v) 35 (0, 0))
  R : Kd.R (kn 35 2) 35 w (g + 3) (fun _ => True) v xs
  B : Below w0.heap.size w0 w
section
variable (a : Act) (ty : TypeId) (p : String) (nd : Array Edge) (dst : Option Tmp) (w : World)
theorem run_ldR (n g o T : Nat) (cs : List Value) (d : TypeDesc) (h : a.tmps[n]?.getD undef = .pointer (some ⟨g, o, none⟩)) (hc : w.rangeAt g o cs) (hu : Tryz.prog.underlying T = some d) (hd : d.isRow = true) (hi : (Tryz.prog.info? T).map (·.size) = some cs.length) :
    (execOp a.eval { dst := dst, op := .load T (.tmp n), type := ty, pos := p, after := nd, guard := none }).run Tryz.prog w = .ok (.value (.agg cs.toArray)) w := by
  simp only [execOp, ev_tmp h, Sem.run_bind, run_loadAt_mid w g o T cs d hc hu hd hi, Result.andThen, Sem.run_pure]
theorem run_call2 (n k t t' : Nat) (u v : Value) (hen : ∀ args w, (callFunc k args).run Tryz.prog w = .ok (.enter k args) w) (h : a.tmps[n]?.getD undef = v) :
    (execOp a.eval { dst := dst, op := .call { callee := .value (.func k), args := #[.const u, .tmp n], argTypes := #[t, t'] }, type := ty, pos := p, after := nd, guard := none }).run Tryz.prog w = .ok (.enter k #[u, v]) w := by
  subst h
  go_simp
theorem run_bsN (n : Nat) (cs : List Value) (hl : cs.length = 8) (h : a.tmps[n]?.getD undef = .agg cs.toArray) :
    (execOp a.eval { dst := dst, op := .buildSlice 33 1 #[(0, .tmp n)], type := ty, pos := p, after := nd, guard := none }).run Tryz.prog w = .ok (.value (.slice (some ⟨w.heap.size, 0, none⟩) 1 1)) (w.alloc (.cells cs.toArray 35)) := by
  obtain ⟨c0, c1, c2, c3, c4, c5, c6, c7, rfl⟩ : ∃ c0 c1 c2 c3 c4 c5 c6 c7, cs = [c0, c1, c2, c3, c4, c5, c6, c7] := by
    match cs, hl with
    | [c0, c1, c2, c3, c4, c5, c6, c7], _ => exact ⟨_, _, _, _, _, _, _, _, rfl⟩
  go_simp
end
theorem box_range {w : World} {g : Nat} {f : Nat → Int} {cs : List Value} {o : Nat} (h : BoxX w g f) (hcs : ∀ j u, cs[j]? = some u → o + j < 276 ∧ u = boxV f (o + j)) : w.rangeAt g o cs := by
  obtain ⟨ds, h1, h2, h3⟩ := h
  intro j u hj
  obtain ⟨h4, rfl⟩ := hcs j u hj
  rw [blk_cell h1 (o + j), h3]
  dsimp only
  rw [if_pos h4]
def secOk (ops : Array Oper) : Bool :=
  anyB .any ops #[false, false, false, false, false, false, false, false, false] #[true, false, false, false, false, false, false, false, false] 0 && (takeB .any ops [8] #[true, false, false, false, false, false, false, false, false] #[true, true, false, false, false, false, false, false, false] 1 && (anyB .any ops #[true, true, false, false, false, false, false, false, false] #[true, true, true, false, false, false, false, false, false] 2 && (takeB .any ops [8] #[true, true, true, false, false, false, false, false, false] #[true, true, true, true, false, false, false, false, false] 3 && (readyB .any ops #[true, true, true, true, false, false, false, false, false] #[true, true, true, true, true, false, false, false, false] 4 && (readyB .any ops #[true, true, true, true, true, false, false, false, false] #[true, true, true, true, true, true, false, false, false] 5 && (readyB .any ops #[true, true, true, true, true, true, false, false, false] #[true, true, true, true, true, true, true, false, false] 6 && (readyB .any ops #[true, true, true, true, true, true, true, false, false] #[true, true, true, true, true, true, true, true, false] 7 && (readyB .any ops #[true, true, true, true, true, true, true, true, false] #[true, true, true, true, true, true, true, true, true] 8 && (Region.ready .any ops #[true, true, true, true, true, true, true, true, true] == [])))))))))
theorem box_low {X Y : World} {m n : Nat} {F : Nat → Option Value} (h : Below n X Y) (hm : m < n) (hb : BoxF X m F) : BoxF Y m F := by
  obtain ⟨cs, h1, h2⟩ := hb
  exact ⟨cs, (h.block m hm).trans h1, h2⟩
set_option maxHeartbeats 2000000 in
set_option maxRecDepth 100000 in
theorem sec_reg {ops : Array Oper} {id b fid T i o : Nat} {nm : ByteArray} {ks : List NT} {t0 t1 y0 y1 y2 y3 y4 y5 y6 y7 y8 : TypeId} {p0 p1 p2 p3 p4 p5 p6 p7 p8 : String} {cs : List Value} {d : TypeDesc} {Q : Exit → Act → World → Prop} {a : Act} {w0 w : World} {g : Nat} {name : ByteArray} {v : Value} {xs : List NT} {f : Nat → Int}
    (hops : ops = #[{ dst := some b, op := .fieldAddr 35 (.tmp 5) 7, type := y0, pos := p0, after := #[], guard := none },
      { dst := some (b + 1), op := .load 33 (.tmp b), type := y1, pos := p1, after := #[{ on := 0, ground := .data }], guard := none },
      { dst := some (b + 2), op := .fieldAddr 118 (.tmp 3) i, type := y2, pos := p2, after := #[], guard := none },
      { dst := some (b + 3), op := .load T (.tmp (b + 2)), type := y3, pos := p3, after := #[{ on := 2, ground := .data }], guard := none },
      { dst := some (b + 4), op := .call { callee := .value (.func fid), args := #[.const (.string nm), .tmp (b + 3)], argTypes := #[t0, t1] }, type := y4, pos := p4, after := #[{ on := 3, ground := .data }], guard := none },
      { dst := some (b + 5), op := .buildSlice 33 1 #[(0, .tmp (b + 4))], type := y5, pos := p5, after := #[{ on := 4, ground := .data }], guard := none },
      { dst := some (b + 6), op := .call { callee := .builtin .append, args := #[.tmp (b + 1), .tmp (b + 5)], argTypes := #[33, 33] }, type := y6, pos := p6, after := #[{ on := 1, ground := .data }, { on := 5, ground := .data }, { on := 4, ground := .chain }], guard := none },
      { dst := some (b + 7), op := .fieldAddr 35 (.tmp 5) 7, type := y7, pos := p7, after := #[{ on := 0, ground := .phase }, { on := 1, ground := .phase }, { on := 2, ground := .phase }, { on := 3, ground := .phase }, { on := 4, ground := .phase }, { on := 5, ground := .phase }, { on := 6, ground := .phase }], guard := none },
      { dst := none, op := .store 33 (.tmp (b + 7)) (.tmp (b + 6)), type := y8, pos := p8, after := #[{ on := 7, ground := .data }, { on := 6, ground := .data }, { on := 6, ground := .chain }, { on := 0, ground := .phase }, { on := 1, ground := .phase }, { on := 2, ground := .phase }, { on := 3, ground := .phase }, { on := 4, ground := .phase }, { on := 5, ground := .phase }, { on := 6, ground := .phase }], guard := none }])
    (hck : secOk ops = true)
    (hcall : ∀ w, Calls Tryz.prog fid #[.string nm, .agg cs.toArray] w (Ret (SomeNode 35 1 (.mk nm 8 0 ⟨#[]⟩ ks) w)))
    (hen : ∀ args w, (callFunc fid args).run Tryz.prog w = .ok (.enter fid args) w)
    (hF : ∀ (a : Act) (w : World), a.tmps[3]?.getD undef = .pointer (some ⟨g, 0, none⟩) → (execOp a.eval { dst := some (b + 2), op := .fieldAddr 118 (.tmp 3) i, type := y2, pos := p2, after := #[], guard := none }).run Tryz.prog w = .ok (.value (.pointer (some ⟨g, o, none⟩))) w)
    (hcs : ∀ j u, cs[j]? = some u → o + j < 276 ∧ u = boxV f (o + j)) (hu : Tryz.prog.underlying T = some d) (hd : d.isRow = true) (hi : (Tryz.prog.info? T).map (·.size) = some cs.length)
    (hb : 6 ≤ b) (hsz : b + 8 ≤ a.tmps.size) (hA : Slots a g) (hS : Sx w0 g f name v xs w) (hl : xs.length ≤ 900)
    (hQ : ∀ (n : Option Tmp) (v : Value) c (a : Act) w, Q (.panic c) (a.put n v) w → Q (.panic c) a w)
    (h : ∀ a' v' w', a'.tmps.size = a.tmps.size → Slots a' g → Sx w0 g f name v' (xs ++ [NT.mk nm 8 0 ⟨#[]⟩ ks]) w' → Q .normal a' w') :
    (Code.region id ops true).wp Tryz.prog Q a w := by
  subst hops
  simp only [secOk, Bool.and_eq_true] at hck
  obtain ⟨k0, k1, k2, k3, k4, k5, k6, k7, k8, k9⟩ := hck
  have S0 : Sx w0 g f name v xs w.drew := ⟨hS.hg, hS.b3, hS.b4, hS.b5, hS.R, below_drew hS.B⟩
  have hgw : g + 3 ≤ w.drew.heap.size := Nat.succ_le_of_lt (blk_lt S0.b5)
  refine start_ (n := 9) (S := fun w' => Below (g + 3) w.drew w') (ds := [8]) #[false, false, false, false, false, false, false, false, false] (by kernel_rfl) rfl rfl (Below.refl _ _) (fun _ => ?_)
  generalize w.drew = W at S0 hgw ⊢
  refine pure_ (i := 0) (N := some b) (v := .pointer (some ⟨g + 2, 7, none⟩)) #[true, false, false, false, false, false, false, false, false] rfl rfl k0 (hQ _ _) (Or.inl ⟨by rfl, fun w' => run_fa5 _ _ _ _ _ _ (g + 2) 5 hA.s5⟩) rfl ?_
  have p1 : Puts a (a.put (some b) (.pointer (some ⟨g + 2, 7, none⟩))) b _ := puts_put (by omega)
  generalize a.put (some b) (.pointer (some ⟨g + 2, 7, none⟩)) = a1 at p1 ⊢
  have A1 := hA.to p1 (by omega)
  refine take_ (i := 1) (N := some (b + 1)) (v := v) #[true, true, false, false, false, false, false, false, false] rfl rfl k1 (hQ _ _) (Or.inl ⟨by rfl, fun w' hw' => run_ld33 _ _ _ _ _ _ (g + 2) 7 b v p1.2.1 ((hw'.cell (show g + 2 < g + 3 by omega)).trans (blk_cell S0.b5 7))⟩) (Below.refl _ _) rfl ?_
  have p2 : Puts a1 (a1.put (some (b + 1)) v) (b + 1) v := puts_put (by rw [p1.1]; omega)
  generalize a1.put (some (b + 1)) v = a2 at p2 ⊢
  have A2 := A1.to p2 (by omega)
  refine pure_ (i := 2) (N := some (b + 2)) (v := .pointer (some ⟨g, o, none⟩)) #[true, true, true, false, false, false, false, false, false] rfl rfl k2 (hQ _ _) (Or.inl ⟨by rfl, fun w' => hF _ _ A2.s3⟩) rfl ?_
  have p3 : Puts a2 (a2.put (some (b + 2)) (.pointer (some ⟨g, o, none⟩))) (b + 2) _ := puts_put (by rw [p2.1, p1.1]; omega)
  generalize a2.put (some (b + 2)) (.pointer (some ⟨g, o, none⟩)) = a3 at p3 ⊢
  have A3 := A2.to p3 (by omega)
  refine take_ (i := 3) (N := some (b + 3)) (v := .agg cs.toArray) #[true, true, true, true, false, false, false, false, false] rfl rfl k3 (hQ _ _) (Or.inl ⟨by rfl, fun w' hw' => run_ldR _ _ _ _ _ _ (b + 2) g o T cs d p3.2.1 (box_range (box_low hw' (by omega) S0.b3) hcs) hu hd hi⟩) (Below.refl _ _) rfl ?_
  have p4 : Puts a3 (a3.put (some (b + 3)) (.agg cs.toArray)) (b + 3) _ := puts_put (by rw [p3.1, p2.1, p1.1]; omega)
  generalize a3.put (some (b + 3)) (.agg cs.toArray) = a4 at p4 ⊢
  have A4 := A3.to p4 (by omega)
  have z4 : a4.tmps.size = a.tmps.size := by rw [p4.1, p3.1, p2.1, p1.1]
  have hv4 : a4.tmps[b + 1]?.getD undef = v := by
    rw [p4.2.2.1 _ (by omega), p3.2.2.1 _ (by omega)]
    exact p2.2.1
  refine one_ (i := 4) (N := some (b + 4)) #[true, true, true, true, true, false, false, false, false] rfl rfl k4 (by decide) (fun K hK => ?_)
  refine call_ fid #[.string nm, .agg cs.toArray] (by rfl) rfl (run_call2 _ _ _ _ _ _ (b + 3) fid t0 t1 (.string nm) _ hen p4.2.1) ?_
  refine (hcall W).mono ?_
  rintro e w1 ⟨v1, rfl, ns, rfl, hM, hB1⟩
  refine ⟨_, rfl, hK.out _ _ (hB1.mono hgw) (fun _ => ?_)⟩
  clear hK K
  have p5 : Puts a4 (a4.put (some (b + 4)) (.agg ns.toArray)) (b + 4) _ := puts_put (by rw [z4]; omega)
  generalize a4.put (some (b + 4)) (.agg ns.toArray) = a5 at p5 ⊢
  have A5 := A4.to p5 (by omega)
  have z5 := p5.1.trans z4
  have hln : ns.length = 8 := (kn 35 2).K_len ((kn 35 2).K_of_M hM)
  refine one_ (i := 5) (N := some (b + 5)) #[true, true, true, true, true, true, false, false, false] rfl rfl k5 (by decide) (fun K hK => ?_)
  refine value_ (by rfl) rfl (run_bsN _ _ _ _ _ _ (b + 4) ns hln p5.2.1) ?_
  refine hK.out _ _ ((below_alloc hB1 _).mono hgw) (fun _ => ?_)
  clear hK K
  have p6 : Puts a5 (a5.put (some (b + 5)) (.slice (some ⟨w1.heap.size, 0, none⟩) 1 1)) (b + 5) _ := puts_put (by rw [z5]; omega)
  generalize a5.put (some (b + 5)) (.slice (some ⟨w1.heap.size, 0, none⟩) 1 1) = a6 at p6 ⊢
  have A6 := A5.to p6 (by omega)
  have z6 := p6.1.trans z5
  have hv6 : a6.tmps[b + 1]?.getD undef = v := by
    rw [p6.2.2.1 _ (by omega), p5.2.2.1 _ (by omega)]
    exact hv4
  refine one_ (i := 6) (N := some (b + 6)) #[true, true, true, true, true, true, true, false, false] rfl rfl k6 (by decide) (fun K hK => ?_)
  refine Kd.R_append_step (kn 35 2) (w0 := W) (W := w1) (g + 3) (by rfl) (.tmp (b + 1)) (.tmp (b + 5)) 33 35 (.agg zeroN) 96 rfl Tryz.underlying33 info35 rfl (by show 0 < 8; decide) (by omega) v xs (.mk nm 8 0 ⟨#[]⟩ ks) ns (fun _ => True) (fun k => W.heap.size ≤ k) (ev_tmp hv6) (ev_tmp p6.2.1) ?_ (fun k hk => ⟨trivial, ?_⟩) (fun _ _ => trivial) (Kd.R_below (Kd.R_mono (Kd.R_bound S0.R) (fun _ _ => trivial)) hB1) ?_ ?_ (by omega) ?_
  · exact (kn 35 2).M_lower hgw ((kn 35 2).M_mono (fun k hk => hk.2.1) ((kn 35 2).M_bound hM))
  · intro he
    have h1 := (Kd.R_bound S0.R).1 k he.symm
    have h2 := h1.2.2.1
    omega
  · exact hB1.mono hgw
  · exact Nat.le_trans hgw hB1.size
  intro v1 w2 hR2 hB2 _ _
  obtain ⟨A0, c0, rfl⟩ := Kd.R_slice hR2
  refine hK.out _ _ hB2 (fun _ => ?_)
  clear hK K
  have p7 : Puts a6 (a6.put (some (b + 6)) (.slice A0 (xs ++ [NT.mk nm 8 0 ⟨#[]⟩ ks]).length c0)) (b + 6) (.slice A0 (xs ++ [NT.mk nm 8 0 ⟨#[]⟩ ks]).length c0) := puts_put (by rw [z6]; omega)
  refine norm_ (a' := a6.put (some (b + 6)) (.slice A0 (xs ++ [NT.mk nm 8 0 ⟨#[]⟩ ks]).length c0)) rfl ?_
  generalize a6.put (some (b + 6)) (.slice A0 (xs ++ [NT.mk nm 8 0 ⟨#[]⟩ ks]).length c0) = a7 at p7 ⊢
  have A7 := A6.to p7 (by omega)
  have z7 := p7.1.trans z6
  refine one_ (i := 7) (N := some (b + 7)) #[true, true, true, true, true, true, true, true, false] rfl rfl k7 (by decide) (fun K hK => ?_)
  refine value_ (by rfl) rfl (run_fa5 _ _ _ _ _ _ (g + 2) 5 A7.s5) ?_
  refine hK.out _ _ hB2 (fun _ => ?_)
  clear hK K
  have p8 : Puts a7 (a7.put (some (b + 7)) (.pointer (some ⟨g + 2, 7, none⟩))) (b + 7) _ := puts_put (by rw [z7]; omega)
  generalize a7.put (some (b + 7)) (.pointer (some ⟨g + 2, 7, none⟩)) = a8 at p8 ⊢
  have A8 := A7.to p8 (by omega)
  have z8 := p8.1.trans z7
  have e5 : w2.heap[g + 2]? = some (.cells (secCells name v) 35 (0, 0)) := (hB2.block (g + 2) (by omega)).trans S0.b5
  have e4 : w2.heap[g + 1]? = some (.cells zeroN 35 (0, 0)) := (hB2.block (g + 1) (by omega)).trans S0.b4
  have e3 : BoxX w2 g f := box_low hB2 (by omega) S0.b3
  have hg := S0.hg
  have hBB : Below w0.heap.size w0 w2 := S0.B.trans (hB2.mono (by omega))
  refine last_ (i := 8) (N := none) #[true, true, true, true, true, true, true, true, true] rfl rfl k8 (by decide) (fun K hK => ?_)
  refine skip_ (by rfl) rfl (run_st _ _ _ _ _ _ (g + 2) 7 (b + 7) (b + 6) A0 (xs ++ [NT.mk nm 8 0 ⟨#[]⟩ ks]).length c0 v p8.2.1 ((p8.2.2.1 _ (by omega)).trans p7.2.1) (blk_cell e5 7) (frozen_of_row w2 (g + 2) 7 _ _ e5)) ?_
  refine hK.out _ _ ?_
  clear hK K
  refine done_ k9 ?_
  refine h a8 (.slice A0 (xs ++ [NT.mk nm 8 0 ⟨#[]⟩ ks]).length c0) _ z8 A8 ⟨hg, ?_, ?_, ?_, ?_, ?_⟩
  · obtain ⟨ds, d1, d2⟩ := e3
    exact ⟨ds, blk_far d1 (by show g ≠ g + 2; omega) _, d2⟩
  · exact blk_far e4 (by show g + 1 ≠ g + 2; omega) _
  · exact blk_set e5 7 _
  · exact Kd.R_mono (Kd.R_far (Kd.R_mono (Kd.R_bound hR2) (fun k hk => hk.2.1)) (p := ⟨g + 2, 7, none⟩) (fun k hk => by show k ≠ g + 2; omega) _) (fun _ _ => trivial)
  · exact below_set hBB (by omega)
end Go.Proofs.YtaniejfkbapbbaaGreatDoor
namespace Go.Proofs.YtaniejfkbapbbaaGreatDoor
open Go.RowKit Go.Proofs.YtaniejfkbapbbaaGreatDoorW.PrintWords Go.Proofs.YtaniejfkbapbbaaGreatDoorW.PrintLast Go.Proofs.YtaniejfkbapbbaaGreatDoorW.PrintMore
open Go.Proofs.YtaniejfkbapbbaaGreatDoor.PFnXfsNormal (S50 k50 k50_mkM info5 info9 info31 info50 info126)

theorem sec_cells (f : Nat → Int) (o n : Nat) (k : IntKind) (h0 : 0 < o) (hl : o + n ≤ 276) (hk : ∀ j, j < n → kd (o + j) = k) : ∀ j u, ((List.range n).map fun j => Value.int k (sec f o n j))[j]? = some u → o + j < 276 ∧ u = boxV f (o + j) := by
  intro j u hj
  by_cases h : j < n
  · rw [List.getElem?_map, List.getElem?_range h] at hj
    injection hj with hj
    subst hj
    refine ⟨by omega, ?_⟩
    unfold boxV sec
    dsimp only
    rw [if_pos h, if_neg (by omega), hk j h]
  · rw [List.getElem?_eq_none (by simpa using h)] at hj
    cases hj
def valsX (f : Nat → Int) : List Value := (List.range 276).map (boxV f)
theorem valsX_at (f : Nat → Int) (i : Nat) : (valsX f)[i]? = if i < 276 then some (boxV f i) else none := by
  unfold valsX
  by_cases h : i < 276
  · rw [if_pos h, List.getElem?_map, List.getElem?_range h]; rfl
  · rw [if_neg h, List.getElem?_eq_none (by simpa using h)]
theorem valsX_len (f : Nat → Int) : (valsX f).length = 276 := by simp [valsX]
theorem box_vals {w : World} {g : Nat} {f : Nat → Int} (h : w.heap[g]? = some (.cells (valsX f).toArray 118 (0, 0))) : BoxX w g f :=
  ⟨_, h, by rw [List.size_toArray]; exact valsX_len f, fun i => by rw [List.getElem?_toArray, valsX_at]⟩
theorem size118 : (Tryz.prog.info? 118).map (·.size) = some 276 := by kernel_rfl
section
variable (a : Act) (ty : TypeId) (p : String) (nd : Array Edge) (dst : Option Tmp) (w : World)
theorem run_box118 (n : Nat) (vals : Array Value) (h : a.tmps[n]?.getD undef = .agg vals) :
    (execOp a.eval { dst := dst, op := .box 118 (.tmp n), type := ty, pos := p, after := nd, guard := none }).run Tryz.prog w = .ok (.value (.pointer (some ⟨w.heap.size, 0, none⟩))) (w.alloc (.cells vals 118)) := by
  simp [execOp, h, go_sem]
def strCells (nm s : ByteArray) : List Value := [.string nm, .int .i64 5, .bool false, .int .i64 0, .int .u64 0, .float .f64 0, .string s, .slice none 0 0]
theorem run_bd5 (n : Nat) (s : ByteArray) (nm : ByteArray) (h : a.tmps[n]?.getD undef = .string s) :
    (execOp a.eval { dst := dst, op := .build 35 #[(0, .const (.string nm)), (1, .const (.int .i64 5)), (6, .tmp n)], type := ty, pos := p, after := nd, guard := none }).run Tryz.prog w = .ok (.value (.agg (strCells nm s).toArray)) w := by
  simp only [strCells]
  go_simp
end
section
variable {id b : Nat} {y0 y1 y2 y3 y4 y5 y6 y7 y8 : TypeId} {p0 p1 p2 p3 p4 p5 p6 p7 p8 : String} {n0 n1 n2 n3 n4 n5 n6 n7 n8 : Array Edge} {Q : Exit → Act → World → Prop} {a : Act} {w0 w : World} {g : Nat} {name nm : ByteArray} {v : Value} {xs : List NT} {f : Nat → Int}
set_option maxHeartbeats 1000000 in
theorem name_reg (hb : 6 ≤ b) (hsz : b + 8 ≤ a.tmps.size) (hA : Slots a g) (hS : Sx w0 g f name v xs w) (hl : xs.length ≤ 900)
    (hF : ∀ (a : Act) (w : World), a.tmps[3]?.getD undef = .pointer (some ⟨g, 0, none⟩) → (execOp a.eval { dst := some (b + 2), op := .fieldAddr 118 (.tmp 3) 0, type := y2, pos := p2, after := n2, guard := none }).run Tryz.prog w = .ok (.value (.pointer (some ⟨g, 0, none⟩))) w)
    (h : ∀ a' v' w', a'.tmps.size = a.tmps.size → Slots a' g → Sx w0 g f name v' (xs ++ [NT.mk nm 5 0 ⟨#[]⟩ []]) w' → Q .normal a' w') :
    (Code.region id #[{ dst := some b, op := .fieldAddr 35 (.tmp 5) 7, type := y0, pos := p0, after := n0, guard := none },
      { dst := some (b + 1), op := .load 33 (.tmp b), type := y1, pos := p1, after := n1, guard := none },
      { dst := some (b + 2), op := .fieldAddr 118 (.tmp 3) 0, type := y2, pos := p2, after := n2, guard := none },
      { dst := some (b + 3), op := .load 9 (.tmp (b + 2)), type := y3, pos := p3, after := n3, guard := none },
      { dst := some (b + 4), op := .build 35 #[(0, .const (.string nm)), (1, .const (.int .i64 5)), (6, .tmp (b + 3))], type := y4, pos := p4, after := n4, guard := none },
      { dst := some (b + 5), op := .buildSlice 33 1 #[(0, .tmp (b + 4))], type := y5, pos := p5, after := n5, guard := none },
      { dst := some (b + 6), op := .call { callee := .builtin .append, args := #[.tmp (b + 1), .tmp (b + 5)], argTypes := #[33, 33] }, type := y6, pos := p6, after := n6, guard := none },
      { dst := some (b + 7), op := .fieldAddr 35 (.tmp 5) 7, type := y7, pos := p7, after := n7, guard := none },
      { dst := none, op := .store 33 (.tmp (b + 7)) (.tmp (b + 6)), type := y8, pos := p8, after := n8, guard := none }] false).wp Tryz.prog Q a w := by
  refine wp_region_lit ?_
  refine val_go rfl rfl (by omega) (run_fa5 _ _ _ _ _ _ (g + 2) 5 hA.s5) (fun a1 p1 => ?_)
  have A1 := hA.to p1 (by omega)
  refine val_go rfl rfl (by rw [p1.1]; omega) (run_ld33 _ _ _ _ _ _ (g + 2) 7 b v p1.2.1 (blk_cell hS.b5 7)) (fun a2 p2 => ?_)
  have A2 := A1.to p2 (by omega)
  refine val_go rfl rfl (by rw [p2.1, p1.1]; omega) (hF _ _ A2.s3) (fun a3 p3 => ?_)
  have A3 := A2.to p3 (by omega)
  have hc0 : w.cell? ⟨g, 0, none⟩ = some (.string ⟨#[]⟩) := by
    obtain ⟨ds, d1, d2, d3⟩ := hS.b3
    rw [blk_cell d1 0, d3]
    rfl
  refine val_go rfl rfl (by rw [p3.1, p2.1, p1.1]; omega) (run_ld9 _ _ _ _ _ _ (b + 2) _ _ p3.2.1 hc0) (fun a4 p4 => ?_)
  have A4 := A3.to p4 (by omega)
  have z4 : a4.tmps.size = a.tmps.size := by rw [p4.1, p3.1, p2.1, p1.1]
  refine val_go rfl rfl (by rw [z4]; omega) (run_bd5 _ _ _ _ _ _ (b + 3) ⟨#[]⟩ nm p4.2.1) (fun a5 p5 => ?_)
  have A5 := A4.to p5 (by omega)
  refine val_go rfl rfl (by rw [p5.1, z4]; omega) (run_bsN _ _ _ _ _ _ (b + 4) (strCells nm ⟨#[]⟩) rfl p5.2.1) (fun a6 p6 => ?_)
  have A6 := A5.to p6 (by omega)
  have z6 : a6.tmps.size = a.tmps.size := by rw [p6.1, p5.1, z4]
  have hv : a6.tmps[b + 1]?.getD undef = v := by
    rw [p6.2.2.1 _ (by omega), p5.2.2.1 _ (by omega), p4.2.2.1 _ (by omega), p3.2.2.1 _ (by omega)]
    exact p2.2.1
  have hgw : g + 3 ≤ w.heap.size := Nat.succ_le_of_lt (blk_lt hS.b5)
  refine Kd.R_append (kn 35 2) (w0 := w) (W := w) (g + 3) rfl (.tmp (b + 1)) (.tmp (b + 5)) 33 35 (.agg zeroN) 96 rfl Tryz.underlying33 info35 rfl (by show 0 < 8; decide) (by omega) v xs (NT.mk nm 5 0 ⟨#[]⟩ []) (strCells nm ⟨#[]⟩) (fun _ => True) (fun _ => False) (ev_tmp hv) (ev_tmp p6.2.1) (kn_mkM w (g + 3) _ (NT.mk nm 5 0 ⟨#[]⟩ []) (Kd.R_nil _ _ _ _ _)) (fun _ h => h.elim) (fun _ _ => trivial) hS.R (Below.refl _ _) hgw (by omega) ?_
  intro v1 w1 hR1 hB1 _ _
  obtain ⟨A0, c0, rfl⟩ := Kd.R_slice hR1
  have p7 : Puts a6 (a6.put (some (b + 6)) _) (b + 6) (.slice A0 (xs ++ [NT.mk nm 5 0 ⟨#[]⟩ []]).length c0) := puts_put (by omega)
  generalize a6.put (some (b + 6)) (.slice A0 (xs ++ [NT.mk nm 5 0 ⟨#[]⟩ []]).length c0) = a7 at p7
  have A7 := A6.to p7 (by omega)
  refine val_go rfl rfl (by rw [p7.1]; omega) (run_fa5 _ _ _ _ _ _ (g + 2) 5 A7.s5) (fun a8 p8 => ?_)
  have A8 := A7.to p8 (by omega)
  have k5 : w1.heap[g + 2]? = _ := (hB1.block (g + 2) (by omega)).trans hS.b5
  have k4 : w1.heap[g + 1]? = _ := (hB1.block (g + 1) (by omega)).trans hS.b4
  have k3 : BoxX w1 g f := box_low hB1 (by omega) hS.b3
  refine skip_step rfl (run_st _ _ _ _ _ _ (g + 2) 7 (b + 7) (b + 6) A0 (xs ++ [NT.mk nm 5 0 ⟨#[]⟩ []]).length c0 v p8.2.1 ((p8.2.2.1 _ (by omega)).trans p7.2.1) (blk_cell k5 7) (frozen_of_row w1 (g + 2) 7 _ _ k5)) ?_
  refine h a8 (.slice A0 (xs ++ [NT.mk nm 5 0 ⟨#[]⟩ []]).length c0) _ (by rw [p8.1, p7.1, z6]) A8 ⟨hS.hg, ?_, ?_, ?_, ?_, ?_⟩
  · obtain ⟨ds, d1, d2⟩ := k3
    exact ⟨ds, blk_far d1 (by show g ≠ g + 2; omega) _, d2⟩
  · exact blk_far k4 (by show g + 1 ≠ g + 2; omega) _
  · exact blk_set k5 7 _
  · exact Kd.R_mono (Kd.R_far (Kd.R_mono (Kd.R_bound hR1) (fun k hk => hk.2.1)) (p := ⟨g + 2, 7, none⟩) (fun k hk => by show k ≠ g + 2; omega) _) (fun _ _ => trivial)
  · have hg := hS.hg
    exact below_set (hS.B.trans (hB1.mono (by omega))) (by omega)
set_option maxHeartbeats 2000000 in
theorem tree_end2 {c : Nat} {fn : Func} (hfn : fn.results = #[.cell 4 35]) (hc : 6 ≤ c) (hsz : c < a.tmps.size) (hA : Slots a g) (hS : Sx w0 g f name v xs w) :
    (Code.seq (Code.region id #[{ dst := some c, op := .load 35 (.tmp 5), type := y0, pos := p0, after := n0, guard := none }, { dst := none, op := .store 35 (.tmp 4) (.tmp c), type := y1, pos := p1, after := n1, guard := none }] false) Code.ret).wp Tryz.prog
      (bodyPost Tryz.prog fn (Ret (SomeNode 35 2 (.mk name 8 0 ⟨#[]⟩ xs) w0))) a w := by
  obtain ⟨A0, c0, rfl⟩ := Kd.R_slice hS.R
  refine wp_seq (wp_region_lit ?_)
  refine val_go rfl rfl hsz (run_ld35 _ _ _ _ _ _ (g + 2) 5 name (.slice A0 xs.length c0) hA.s5 hS.b5) (fun a1 p1 => ?_)
  have A1 := hA.to p1 hc
  refine skip_step rfl (run_st35 _ _ _ _ _ _ (g + 1) 4 c name A0 xs.length c0 A1.s4 p1.2.1 hS.b4) ?_
  have hg := hS.hg
  obtain ⟨V, hV, hVB, hVk, hVo⟩ := set8 (.string name) (.int .i64 8) (.bool false) (.int .i64 0) (.int .u64 0) (.float .f64 0) (.string ⟨#[]⟩) (.slice A0 xs.length c0) hS.B (m := g + 1) (by omega) hS.b4
  rw [← hV]
  show Code.ret.wp _ _ _ _
  refine wp_ret ?_
  refine bodyPost_ret (results_cell1 hfn _ _ (g + 1) 35 (secCells name (.slice A0 xs.length c0)) (0, 0) _ ?_ hVk Tryz.underlying35 (by kernel_rfl)) A1.df (.mk _ rfl ⟨heads (.mk name 8 0 ⟨#[]⟩ xs) (.slice A0 xs.length c0), rfl, ?_, hVB⟩)
  · show (a1.put none undef).tmps.getD 4 undef = _
    have := A1.s4
    simpa [Act.put] using this
  · refine kn_mkM _ _ _ (.mk name 8 0 ⟨#[]⟩ xs) ?_
    have h1 : (kn 35 2).R 35 V (g + 3) (fun k => g + 3 ≤ k) (.slice A0 xs.length c0) xs := Kd.R_move (Kd.R_mono (Kd.R_bound hS.R) (fun k hk => hk.2.1)) (fun j hj => hVo j (by omega))
    exact Kd.R_mono (Kd.R_lower h1 (by omega)) (fun _ _ => trivial)
end
def kidsX (f : Nat → Int) : List NT := ((((((((((((((((((((((((((((((((((([] ++ [NT.mk ⟨#[78, 97, 109, 101]⟩ 5 0 ⟨#[]⟩ []]) ++ [NT.mk ⟨#[69, 120, 116, 101, 110, 116, 65, 108, 108, 111, 99, 97, 116, 105, 111, 110]⟩ 8 0 ⟨#[]⟩ (kids78 (sec f 1 4))]) ++ [NT.mk ⟨#[65, 108, 108, 111, 99, 97, 116, 105, 111, 110, 66, 84, 114, 101, 101]⟩ 8 0 ⟨#[]⟩ (kids79 (sec f 5 4))]) ++ [NT.mk ⟨#[66, 108, 111, 99, 107, 77, 97, 112, 112, 105, 110, 103]⟩ 8 0 ⟨#[]⟩ (kids80 (sec f 9 7))]) ++ [NT.mk ⟨#[66, 108, 111, 99, 107, 77, 97, 112, 66, 84, 114, 101, 101]⟩ 8 0 ⟨#[]⟩ (kids79 (sec f 16 4))]) ++ [NT.mk ⟨#[68, 105, 114, 101, 99, 116, 111, 114, 121, 79, 112, 101, 114, 97, 116, 105, 111, 110]⟩ 8 0 ⟨#[]⟩ (kids81 (sec f 20 4))]) ++ [NT.mk ⟨#[84, 114, 97, 110, 115, 97, 99, 116, 105, 111, 110]⟩ 8 0 ⟨#[]⟩ (kids82 (sec f 24 3))]) ++ [NT.mk ⟨#[73, 110, 111, 100, 101, 79, 112, 101, 114, 97, 116, 105, 111, 110]⟩ 8 0 ⟨#[]⟩ (kids83 (sec f 27 7))]) ++ [NT.mk ⟨#[76, 111, 103, 79, 112, 101, 114, 97, 116, 105, 111, 110]⟩ 8 0 ⟨#[]⟩ (kids84 (sec f 34 5))]) ++ [NT.mk ⟨#[82, 101, 97, 100, 87, 114, 105, 116, 101]⟩ 8 0 ⟨#[]⟩ (kids85 (sec f 39 2))]) ++ [NT.mk ⟨#[65, 116, 116, 114, 105, 98, 117, 116, 101, 79, 112, 101, 114, 97, 116, 105, 111, 110]⟩ 8 0 ⟨#[]⟩ (kids86 (sec f 41 4))]) ++ [NT.mk ⟨#[73, 110, 111, 100, 101, 67, 108, 117, 115, 116, 101, 114, 105, 110, 103]⟩ 8 0 ⟨#[]⟩ (kids87 (sec f 45 3))]) ++ [NT.mk ⟨#[86, 110, 111, 100, 101]⟩ 8 0 ⟨#[]⟩ (kids88 (sec f 48 8))]) ++ [NT.mk ⟨#[66, 117, 102, 102, 101, 114]⟩ 8 0 ⟨#[]⟩ (kids89 (sec f 56 9))]) ++ [NT.mk ⟨#[69, 120, 116, 101, 110, 100, 101, 100, 80, 114, 101, 99, 105, 115, 105, 111, 110]⟩ 8 0 ⟨#[]⟩ (kids90 (sec f 65 3))]) ++ [NT.mk ⟨#[88, 115, 116, 114, 97, 116]⟩ 8 0 ⟨#[]⟩ (kids91 (sec f 68 2))]) ++ [NT.mk ⟨#[80, 117, 115, 104, 65, 105, 108]⟩ 8 0 ⟨#[]⟩ (kids92 (sec f 70 10))]) ++ [NT.mk ⟨#[68, 101, 98, 117, 103]⟩ 8 0 ⟨#[]⟩ (kids93 (sec f 80 1))]) ++ [NT.mk ⟨#[81, 117, 111, 116, 97, 77, 97, 110, 97, 103, 101, 114]⟩ 8 0 ⟨#[]⟩ (kids94 (sec f 81 9))]) ++ [NT.mk ⟨#[66, 116, 114, 101, 101, 65, 108, 108, 111, 99, 66, 108, 111, 99, 107, 115, 50]⟩ 8 0 ⟨#[]⟩ (kids95 (sec f 90 15))]) ++ [NT.mk ⟨#[66, 116, 114, 101, 101, 65, 108, 108, 111, 99, 67, 111, 110, 116, 105, 103, 50]⟩ 8 0 ⟨#[]⟩ (kids96 (sec f 105 15))]) ++ [NT.mk ⟨#[66, 116, 114, 101, 101, 66, 108, 111, 99, 107, 77, 97, 112, 50]⟩ 8 0 ⟨#[]⟩ (kids97 (sec f 120 15))]) ++ [NT.mk ⟨#[66, 116, 114, 101, 101, 73, 110, 111, 100, 101, 50]⟩ 8 0 ⟨#[]⟩ (kids98 (sec f 135 15))]) ++ [NT.mk ⟨#[66, 116, 114, 101, 101, 70, 114, 101, 101, 73, 110, 111, 100, 101, 50]⟩ 8 0 ⟨#[]⟩ (kids99 (sec f 150 15))]) ++ [NT.mk ⟨#[66, 116, 114, 101, 101, 82, 101, 118, 101, 114, 115, 101, 77, 97, 112]⟩ 8 0 ⟨#[]⟩ (kids100 (sec f 165 15))]) ++ [NT.mk ⟨#[66, 116, 114, 101, 101, 82, 101, 102, 67, 111, 117, 110, 116]⟩ 8 0 ⟨#[]⟩ (kids101 (sec f 180 15))]) ++ [NT.mk ⟨#[66, 116, 114, 101, 101, 82, 101, 118, 101, 114, 115, 101, 77, 97, 112, 77, 101, 109]⟩ 8 0 ⟨#[]⟩ (kids102 (sec f 195 15))]) ++ [NT.mk ⟨#[66, 116, 114, 101, 101, 82, 99, 98, 97, 103]⟩ 8 0 ⟨#[]⟩ (kids103 (sec f 210 15))]) ++ [NT.mk ⟨#[66, 116, 114, 101, 101, 82, 116, 82, 101, 118, 101, 114, 115, 101, 77, 97, 112]⟩ 8 0 ⟨#[]⟩ (kids104 (sec f 225 15))]) ++ [NT.mk ⟨#[66, 116, 114, 101, 101, 82, 116, 82, 101, 118, 101, 114, 115, 101, 77, 97, 112, 77, 101, 109]⟩ 8 0 ⟨#[]⟩ (kids105 (sec f 240 15))]) ++ [NT.mk ⟨#[66, 116, 114, 101, 101, 82, 116, 82, 101, 102, 67, 111, 117, 110, 116]⟩ 8 0 ⟨#[]⟩ (kids106 (sec f 255 15))]) ++ [NT.mk ⟨#[90, 111, 110, 101, 100]⟩ 8 0 ⟨#[]⟩ (kids107 (sec f 270 3))]) ++ [NT.mk ⟨#[77, 101, 116, 97, 70, 105, 108, 101]⟩ 8 0 ⟨#[]⟩ (kids108 (sec f 273 1))]) ++ [NT.mk ⟨#[68, 101, 102, 101, 114, 82, 101, 108, 111, 103]⟩ 8 0 ⟨#[]⟩ (kids109 (sec f 274 1))]) ++ [NT.mk ⟨#[71, 99, 88, 112, 99]⟩ 8 0 ⟨#[]⟩ (kids110 (sec f 275 1))])
set_option maxRecDepth 100000 in
set_option maxHeartbeats 8000000 in
theorem xfsStats_c (f : Nat → Int) (hf : Lim f) (name : ByteArray) (w : World) : Calls Tryz.prog 21 #[.string name, .agg (valsX f).toArray] w (Ret (SomeNode 35 2 (.mk name 8 0 ⟨#[]⟩ (kidsX f)) w)) := by
  go_enter Tryz.func21, Tryz.ntmps21
  refine tree_start (T := 118) (vals := (valsX f).toArray) (name := name) (fun a w h => run_box118 _ _ _ _ _ _ 1 _ h) (by simp) rfl rfl rfl (fun a2 w2 y2 A2 S2 => ?_)
  have z2 : a2.tmps.size = 289 := y2
  have X2 : Sx w w.heap.size f name (.slice none 0 0) [] w2 := ⟨rfl, box_vals S2.b3, S2.b4, S2.b5, Kd.R_nil _ _ _ _ _, S2.B⟩
  clear S2 y2
  refine wp_seq (name_reg (b := 8) (by omega) (by omega) A2 X2 (by simp) (fun a w h => by go_simp) (fun a3 v3 w3 y3 A3 X3 => ?_))
  have z3 := y3.trans z2
  clear y3 A2 X2 z2
  refine wp_seq (sec_reg (b := 16) (fid := 78) (T := 63) (i := 1) (o := 1) (cs := [.int .u32 (sec f 1 4 0), .int .u32 (sec f 1 4 1), .int .u32 (sec f 1 4 2), .int .u32 (sec f 1 4 3)]) rfl (by kernel_rfl) (fun w => tree78 (sec f 1 4) (sec_small hf 1 4 (by decide)) _ w) (enters_of Tryz.func78 (by kernel_rfl) rfl) (fun a w h => by go_simp) (sec_cells f 1 4 .u32 (by omega) (by omega) (by decide)) Tryz.underlying63 rfl (by kernel_rfl) (by omega) (by omega) A3 X3 (by simp) (fun n _ _ _ _ h => by cases n <;> exact h) (fun a4 v4 w4 y4 A4 X4 => ?_))
  have z4 := y4.trans z3
  clear y4 A3 X3 z3
  refine wp_seq (sec_reg (b := 24) (fid := 79) (T := 65) (i := 2) (o := 5) (cs := [.int .u32 (sec f 5 4 0), .int .u32 (sec f 5 4 1), .int .u32 (sec f 5 4 2), .int .u32 (sec f 5 4 3)]) rfl (by kernel_rfl) (fun w => tree79 (sec f 5 4) (sec_small hf 5 4 (by decide)) _ w) (enters_of Tryz.func79 (by kernel_rfl) rfl) (fun a w h => by go_simp) (sec_cells f 5 4 .u32 (by omega) (by omega) (by decide)) Tryz.underlying65 rfl (by kernel_rfl) (by omega) (by omega) A4 X4 (by simp) (fun n _ _ _ _ h => by cases n <;> exact h) (fun a5 v5 w5 y5 A5 X5 => ?_))
  have z5 := y5.trans z4
  clear y5 A4 X4 z4
  refine wp_seq (sec_reg (b := 32) (fid := 80) (T := 67) (i := 3) (o := 9) (cs := [.int .u32 (sec f 9 7 0), .int .u32 (sec f 9 7 1), .int .u32 (sec f 9 7 2), .int .u32 (sec f 9 7 3), .int .u32 (sec f 9 7 4), .int .u32 (sec f 9 7 5), .int .u32 (sec f 9 7 6)]) rfl (by kernel_rfl) (fun w => tree80 (sec f 9 7) (sec_small hf 9 7 (by decide)) _ w) (enters_of Tryz.func80 (by kernel_rfl) rfl) (fun a w h => by go_simp) (sec_cells f 9 7 .u32 (by omega) (by omega) (by decide)) Tryz.underlying67 rfl (by kernel_rfl) (by omega) (by omega) A5 X5 (by simp) (fun n _ _ _ _ h => by cases n <;> exact h) (fun a6 v6 w6 y6 A6 X6 => ?_))
  have z6 := y6.trans z5
  clear y6 A5 X5 z5
  refine wp_seq (sec_reg (b := 40) (fid := 79) (T := 65) (i := 4) (o := 16) (cs := [.int .u32 (sec f 16 4 0), .int .u32 (sec f 16 4 1), .int .u32 (sec f 16 4 2), .int .u32 (sec f 16 4 3)]) rfl (by kernel_rfl) (fun w => tree79 (sec f 16 4) (sec_small hf 16 4 (by decide)) _ w) (enters_of Tryz.func79 (by kernel_rfl) rfl) (fun a w h => by go_simp) (sec_cells f 16 4 .u32 (by omega) (by omega) (by decide)) Tryz.underlying65 rfl (by kernel_rfl) (by omega) (by omega) A6 X6 (by simp) (fun n _ _ _ _ h => by cases n <;> exact h) (fun a7 v7 w7 y7 A7 X7 => ?_))
  have z7 := y7.trans z6
  clear y7 A6 X6 z6
  refine wp_seq (sec_reg (b := 48) (fid := 81) (T := 69) (i := 5) (o := 20) (cs := [.int .u32 (sec f 20 4 0), .int .u32 (sec f 20 4 1), .int .u32 (sec f 20 4 2), .int .u32 (sec f 20 4 3)]) rfl (by kernel_rfl) (fun w => tree81 (sec f 20 4) (sec_small hf 20 4 (by decide)) _ w) (enters_of Tryz.func81 (by kernel_rfl) rfl) (fun a w h => by go_simp) (sec_cells f 20 4 .u32 (by omega) (by omega) (by decide)) Tryz.underlying69 rfl (by kernel_rfl) (by omega) (by omega) A7 X7 (by simp) (fun n _ _ _ _ h => by cases n <;> exact h) (fun a8 v8 w8 y8 A8 X8 => ?_))
  have z8 := y8.trans z7
  clear y8 A7 X7 z7
  refine wp_seq (sec_reg (b := 56) (fid := 82) (T := 71) (i := 6) (o := 24) (cs := [.int .u32 (sec f 24 3 0), .int .u32 (sec f 24 3 1), .int .u32 (sec f 24 3 2)]) rfl (by kernel_rfl) (fun w => tree82 (sec f 24 3) (sec_small hf 24 3 (by decide)) _ w) (enters_of Tryz.func82 (by kernel_rfl) rfl) (fun a w h => by go_simp) (sec_cells f 24 3 .u32 (by omega) (by omega) (by decide)) Tryz.underlying71 rfl (by kernel_rfl) (by omega) (by omega) A8 X8 (by simp) (fun n _ _ _ _ h => by cases n <;> exact h) (fun a9 v9 w9 y9 A9 X9 => ?_))
  have z9 := y9.trans z8
  clear y9 A8 X8 z8
  refine wp_seq (sec_reg (b := 64) (fid := 83) (T := 73) (i := 7) (o := 27) (cs := [.int .u32 (sec f 27 7 0), .int .u32 (sec f 27 7 1), .int .u32 (sec f 27 7 2), .int .u32 (sec f 27 7 3), .int .u32 (sec f 27 7 4), .int .u32 (sec f 27 7 5), .int .u32 (sec f 27 7 6)]) rfl (by kernel_rfl) (fun w => tree83 (sec f 27 7) (sec_small hf 27 7 (by decide)) _ w) (enters_of Tryz.func83 (by kernel_rfl) rfl) (fun a w h => by go_simp) (sec_cells f 27 7 .u32 (by omega) (by omega) (by decide)) Tryz.underlying73 rfl (by kernel_rfl) (by omega) (by omega) A9 X9 (by simp) (fun n _ _ _ _ h => by cases n <;> exact h) (fun a10 v10 w10 y10 A10 X10 => ?_))
  have z10 := y10.trans z9
  clear y10 A9 X9 z9
  refine wp_seq (sec_reg (b := 72) (fid := 84) (T := 75) (i := 8) (o := 34) (cs := [.int .u32 (sec f 34 5 0), .int .u32 (sec f 34 5 1), .int .u32 (sec f 34 5 2), .int .u32 (sec f 34 5 3), .int .u32 (sec f 34 5 4)]) rfl (by kernel_rfl) (fun w => tree84 (sec f 34 5) (sec_small hf 34 5 (by decide)) _ w) (enters_of Tryz.func84 (by kernel_rfl) rfl) (fun a w h => by go_simp) (sec_cells f 34 5 .u32 (by omega) (by omega) (by decide)) Tryz.underlying75 rfl (by kernel_rfl) (by omega) (by omega) A10 X10 (by simp) (fun n _ _ _ _ h => by cases n <;> exact h) (fun a11 v11 w11 y11 A11 X11 => ?_))
  have z11 := y11.trans z10
  clear y11 A10 X10 z10
  refine wp_seq (sec_reg (b := 80) (fid := 85) (T := 77) (i := 9) (o := 39) (cs := [.int .u32 (sec f 39 2 0), .int .u32 (sec f 39 2 1)]) rfl (by kernel_rfl) (fun w => tree85 (sec f 39 2) (sec_small hf 39 2 (by decide)) _ w) (enters_of Tryz.func85 (by kernel_rfl) rfl) (fun a w h => by go_simp) (sec_cells f 39 2 .u32 (by omega) (by omega) (by decide)) Tryz.underlying77 rfl (by kernel_rfl) (by omega) (by omega) A11 X11 (by simp) (fun n _ _ _ _ h => by cases n <;> exact h) (fun a12 v12 w12 y12 A12 X12 => ?_))
  have z12 := y12.trans z11
  clear y12 A11 X11 z11
  refine wp_seq (sec_reg (b := 88) (fid := 86) (T := 79) (i := 10) (o := 41) (cs := [.int .u32 (sec f 41 4 0), .int .u32 (sec f 41 4 1), .int .u32 (sec f 41 4 2), .int .u32 (sec f 41 4 3)]) rfl (by kernel_rfl) (fun w => tree86 (sec f 41 4) (sec_small hf 41 4 (by decide)) _ w) (enters_of Tryz.func86 (by kernel_rfl) rfl) (fun a w h => by go_simp) (sec_cells f 41 4 .u32 (by omega) (by omega) (by decide)) Tryz.underlying79 rfl (by kernel_rfl) (by omega) (by omega) A12 X12 (by simp) (fun n _ _ _ _ h => by cases n <;> exact h) (fun a13 v13 w13 y13 A13 X13 => ?_))
  have z13 := y13.trans z12
  clear y13 A12 X12 z12
  refine wp_seq (sec_reg (b := 96) (fid := 87) (T := 81) (i := 11) (o := 45) (cs := [.int .u32 (sec f 45 3 0), .int .u32 (sec f 45 3 1), .int .u32 (sec f 45 3 2)]) rfl (by kernel_rfl) (fun w => tree87 (sec f 45 3) (sec_small hf 45 3 (by decide)) _ w) (enters_of Tryz.func87 (by kernel_rfl) rfl) (fun a w h => by go_simp) (sec_cells f 45 3 .u32 (by omega) (by omega) (by decide)) Tryz.underlying81 rfl (by kernel_rfl) (by omega) (by omega) A13 X13 (by simp) (fun n _ _ _ _ h => by cases n <;> exact h) (fun a14 v14 w14 y14 A14 X14 => ?_))
  have z14 := y14.trans z13
  clear y14 A13 X13 z13
  refine wp_seq (sec_reg (b := 104) (fid := 88) (T := 83) (i := 12) (o := 48) (cs := [.int .u32 (sec f 48 8 0), .int .u32 (sec f 48 8 1), .int .u32 (sec f 48 8 2), .int .u32 (sec f 48 8 3), .int .u32 (sec f 48 8 4), .int .u32 (sec f 48 8 5), .int .u32 (sec f 48 8 6), .int .u32 (sec f 48 8 7)]) rfl (by kernel_rfl) (fun w => tree88 (sec f 48 8) (sec_small hf 48 8 (by decide)) _ w) (enters_of Tryz.func88 (by kernel_rfl) rfl) (fun a w h => by go_simp) (sec_cells f 48 8 .u32 (by omega) (by omega) (by decide)) Tryz.underlying83 rfl (by kernel_rfl) (by omega) (by omega) A14 X14 (by simp) (fun n _ _ _ _ h => by cases n <;> exact h) (fun a15 v15 w15 y15 A15 X15 => ?_))
  have z15 := y15.trans z14
  clear y15 A14 X14 z14
  refine wp_seq (sec_reg (b := 112) (fid := 89) (T := 85) (i := 13) (o := 56) (cs := [.int .u32 (sec f 56 9 0), .int .u32 (sec f 56 9 1), .int .u32 (sec f 56 9 2), .int .u32 (sec f 56 9 3), .int .u32 (sec f 56 9 4), .int .u32 (sec f 56 9 5), .int .u32 (sec f 56 9 6), .int .u32 (sec f 56 9 7), .int .u32 (sec f 56 9 8)]) rfl (by kernel_rfl) (fun w => tree89 (sec f 56 9) (sec_small hf 56 9 (by decide)) _ w) (enters_of Tryz.func89 (by kernel_rfl) rfl) (fun a w h => by go_simp) (sec_cells f 56 9 .u32 (by omega) (by omega) (by decide)) Tryz.underlying85 rfl (by kernel_rfl) (by omega) (by omega) A15 X15 (by simp) (fun n _ _ _ _ h => by cases n <;> exact h) (fun a16 v16 w16 y16 A16 X16 => ?_))
  have z16 := y16.trans z15
  clear y16 A15 X15 z15
  refine wp_seq (sec_reg (b := 120) (fid := 90) (T := 87) (i := 14) (o := 65) (cs := [.int .u64 (sec f 65 3 0), .int .u64 (sec f 65 3 1), .int .u64 (sec f 65 3 2)]) rfl (by kernel_rfl) (fun w => tree90 (sec f 65 3) (sec_big hf 65 3) _ w) (enters_of Tryz.func90 (by kernel_rfl) rfl) (fun a w h => by go_simp) (sec_cells f 65 3 .u64 (by omega) (by omega) (by decide)) Tryz.underlying87 rfl (by kernel_rfl) (by omega) (by omega) A16 X16 (by simp) (fun n _ _ _ _ h => by cases n <;> exact h) (fun a17 v17 w17 y17 A17 X17 => ?_))
  have z17 := y17.trans z16
  clear y17 A16 X16 z16
  refine wp_seq (sec_reg (b := 128) (fid := 91) (T := 89) (i := 15) (o := 68) (cs := [.int .u32 (sec f 68 2 0), .int .u32 (sec f 68 2 1)]) rfl (by kernel_rfl) (fun w => tree91 (sec f 68 2) (sec_small hf 68 2 (by decide)) _ w) (enters_of Tryz.func91 (by kernel_rfl) rfl) (fun a w h => by go_simp) (sec_cells f 68 2 .u32 (by omega) (by omega) (by decide)) Tryz.underlying89 rfl (by kernel_rfl) (by omega) (by omega) A17 X17 (by simp) (fun n _ _ _ _ h => by cases n <;> exact h) (fun a18 v18 w18 y18 A18 X18 => ?_))
  have z18 := y18.trans z17
  clear y18 A17 X17 z17
  refine wp_seq (sec_reg (b := 136) (fid := 92) (T := 91) (i := 16) (o := 70) (cs := [.int .u32 (sec f 70 10 0), .int .u32 (sec f 70 10 1), .int .u32 (sec f 70 10 2), .int .u32 (sec f 70 10 3), .int .u32 (sec f 70 10 4), .int .u32 (sec f 70 10 5), .int .u32 (sec f 70 10 6), .int .u32 (sec f 70 10 7), .int .u32 (sec f 70 10 8), .int .u32 (sec f 70 10 9)]) rfl (by kernel_rfl) (fun w => tree92 (sec f 70 10) (sec_small hf 70 10 (by decide)) _ w) (enters_of Tryz.func92 (by kernel_rfl) rfl) (fun a w h => by go_simp) (sec_cells f 70 10 .u32 (by omega) (by omega) (by decide)) Tryz.underlying91 rfl (by kernel_rfl) (by omega) (by omega) A18 X18 (by simp) (fun n _ _ _ _ h => by cases n <;> exact h) (fun a19 v19 w19 y19 A19 X19 => ?_))
  have z19 := y19.trans z18
  clear y19 A18 X18 z18
  refine wp_seq (sec_reg (b := 144) (fid := 93) (T := 93) (i := 17) (o := 80) (cs := [.int .u32 (sec f 80 1 0)]) rfl (by kernel_rfl) (fun w => tree93 (sec f 80 1) (sec_small hf 80 1 (by decide)) _ w) (enters_of Tryz.func93 (by kernel_rfl) rfl) (fun a w h => by go_simp) (sec_cells f 80 1 .u32 (by omega) (by omega) (by decide)) Tryz.underlying93 rfl (by kernel_rfl) (by omega) (by omega) A19 X19 (by simp) (fun n _ _ _ _ h => by cases n <;> exact h) (fun a20 v20 w20 y20 A20 X20 => ?_))
  have z20 := y20.trans z19
  clear y20 A19 X19 z19
  refine wp_seq (sec_reg (b := 152) (fid := 94) (T := 95) (i := 18) (o := 81) (cs := [.int .u32 (sec f 81 9 0), .int .u32 (sec f 81 9 1), .int .u32 (sec f 81 9 2), .int .u32 (sec f 81 9 3), .int .u32 (sec f 81 9 4), .int .u32 (sec f 81 9 5), .int .u32 (sec f 81 9 6), .int .u32 (sec f 81 9 7), .int .u32 (sec f 81 9 8)]) rfl (by kernel_rfl) (fun w => tree94 (sec f 81 9) (sec_small hf 81 9 (by decide)) _ w) (enters_of Tryz.func94 (by kernel_rfl) rfl) (fun a w h => by go_simp) (sec_cells f 81 9 .u32 (by omega) (by omega) (by decide)) Tryz.underlying95 rfl (by kernel_rfl) (by omega) (by omega) A20 X20 (by simp) (fun n _ _ _ _ h => by cases n <;> exact h) (fun a21 v21 w21 y21 A21 X21 => ?_))
  have z21 := y21.trans z20
  clear y21 A20 X20 z20
  refine wp_seq (sec_reg (b := 160) (fid := 95) (T := 97) (i := 19) (o := 90) (cs := [.int .u32 (sec f 90 15 0), .int .u32 (sec f 90 15 1), .int .u32 (sec f 90 15 2), .int .u32 (sec f 90 15 3), .int .u32 (sec f 90 15 4), .int .u32 (sec f 90 15 5), .int .u32 (sec f 90 15 6), .int .u32 (sec f 90 15 7), .int .u32 (sec f 90 15 8), .int .u32 (sec f 90 15 9), .int .u32 (sec f 90 15 10), .int .u32 (sec f 90 15 11), .int .u32 (sec f 90 15 12), .int .u32 (sec f 90 15 13), .int .u32 (sec f 90 15 14)]) rfl (by kernel_rfl) (fun w => tree95 (sec f 90 15) (sec_small hf 90 15 (by decide)) _ w) (enters_of Tryz.func95 (by kernel_rfl) rfl) (fun a w h => by go_simp) (sec_cells f 90 15 .u32 (by omega) (by omega) (by decide)) Tryz.underlying97 rfl (by kernel_rfl) (by omega) (by omega) A21 X21 (by simp) (fun n _ _ _ _ h => by cases n <;> exact h) (fun a22 v22 w22 y22 A22 X22 => ?_))
  have z22 := y22.trans z21
  clear y22 A21 X21 z21
  refine wp_seq (sec_reg (b := 168) (fid := 96) (T := 98) (i := 20) (o := 105) (cs := [.int .u32 (sec f 105 15 0), .int .u32 (sec f 105 15 1), .int .u32 (sec f 105 15 2), .int .u32 (sec f 105 15 3), .int .u32 (sec f 105 15 4), .int .u32 (sec f 105 15 5), .int .u32 (sec f 105 15 6), .int .u32 (sec f 105 15 7), .int .u32 (sec f 105 15 8), .int .u32 (sec f 105 15 9), .int .u32 (sec f 105 15 10), .int .u32 (sec f 105 15 11), .int .u32 (sec f 105 15 12), .int .u32 (sec f 105 15 13), .int .u32 (sec f 105 15 14)]) rfl (by kernel_rfl) (fun w => tree96 (sec f 105 15) (sec_small hf 105 15 (by decide)) _ w) (enters_of Tryz.func96 (by kernel_rfl) rfl) (fun a w h => by go_simp) (sec_cells f 105 15 .u32 (by omega) (by omega) (by decide)) Tryz.underlying98 rfl (by kernel_rfl) (by omega) (by omega) A22 X22 (by simp) (fun n _ _ _ _ h => by cases n <;> exact h) (fun a23 v23 w23 y23 A23 X23 => ?_))
  have z23 := y23.trans z22
  clear y23 A22 X22 z22
  refine wp_seq (sec_reg (b := 176) (fid := 97) (T := 99) (i := 21) (o := 120) (cs := [.int .u32 (sec f 120 15 0), .int .u32 (sec f 120 15 1), .int .u32 (sec f 120 15 2), .int .u32 (sec f 120 15 3), .int .u32 (sec f 120 15 4), .int .u32 (sec f 120 15 5), .int .u32 (sec f 120 15 6), .int .u32 (sec f 120 15 7), .int .u32 (sec f 120 15 8), .int .u32 (sec f 120 15 9), .int .u32 (sec f 120 15 10), .int .u32 (sec f 120 15 11), .int .u32 (sec f 120 15 12), .int .u32 (sec f 120 15 13), .int .u32 (sec f 120 15 14)]) rfl (by kernel_rfl) (fun w => tree97 (sec f 120 15) (sec_small hf 120 15 (by decide)) _ w) (enters_of Tryz.func97 (by kernel_rfl) rfl) (fun a w h => by go_simp) (sec_cells f 120 15 .u32 (by omega) (by omega) (by decide)) Tryz.underlying99 rfl (by kernel_rfl) (by omega) (by omega) A23 X23 (by simp) (fun n _ _ _ _ h => by cases n <;> exact h) (fun a24 v24 w24 y24 A24 X24 => ?_))
  have z24 := y24.trans z23
  clear y24 A23 X23 z23
  refine wp_seq (sec_reg (b := 184) (fid := 98) (T := 100) (i := 22) (o := 135) (cs := [.int .u32 (sec f 135 15 0), .int .u32 (sec f 135 15 1), .int .u32 (sec f 135 15 2), .int .u32 (sec f 135 15 3), .int .u32 (sec f 135 15 4), .int .u32 (sec f 135 15 5), .int .u32 (sec f 135 15 6), .int .u32 (sec f 135 15 7), .int .u32 (sec f 135 15 8), .int .u32 (sec f 135 15 9), .int .u32 (sec f 135 15 10), .int .u32 (sec f 135 15 11), .int .u32 (sec f 135 15 12), .int .u32 (sec f 135 15 13), .int .u32 (sec f 135 15 14)]) rfl (by kernel_rfl) (fun w => tree98 (sec f 135 15) (sec_small hf 135 15 (by decide)) _ w) (enters_of Tryz.func98 (by kernel_rfl) rfl) (fun a w h => by go_simp) (sec_cells f 135 15 .u32 (by omega) (by omega) (by decide)) Tryz.underlying100 rfl (by kernel_rfl) (by omega) (by omega) A24 X24 (by simp) (fun n _ _ _ _ h => by cases n <;> exact h) (fun a25 v25 w25 y25 A25 X25 => ?_))
  have z25 := y25.trans z24
  clear y25 A24 X24 z24
  refine wp_seq (sec_reg (b := 192) (fid := 99) (T := 101) (i := 23) (o := 150) (cs := [.int .u32 (sec f 150 15 0), .int .u32 (sec f 150 15 1), .int .u32 (sec f 150 15 2), .int .u32 (sec f 150 15 3), .int .u32 (sec f 150 15 4), .int .u32 (sec f 150 15 5), .int .u32 (sec f 150 15 6), .int .u32 (sec f 150 15 7), .int .u32 (sec f 150 15 8), .int .u32 (sec f 150 15 9), .int .u32 (sec f 150 15 10), .int .u32 (sec f 150 15 11), .int .u32 (sec f 150 15 12), .int .u32 (sec f 150 15 13), .int .u32 (sec f 150 15 14)]) rfl (by kernel_rfl) (fun w => tree99 (sec f 150 15) (sec_small hf 150 15 (by decide)) _ w) (enters_of Tryz.func99 (by kernel_rfl) rfl) (fun a w h => by go_simp) (sec_cells f 150 15 .u32 (by omega) (by omega) (by decide)) Tryz.underlying101 rfl (by kernel_rfl) (by omega) (by omega) A25 X25 (by simp) (fun n _ _ _ _ h => by cases n <;> exact h) (fun a26 v26 w26 y26 A26 X26 => ?_))
  have z26 := y26.trans z25
  clear y26 A25 X25 z25
  refine wp_seq (sec_reg (b := 200) (fid := 100) (T := 102) (i := 24) (o := 165) (cs := [.int .u32 (sec f 165 15 0), .int .u32 (sec f 165 15 1), .int .u32 (sec f 165 15 2), .int .u32 (sec f 165 15 3), .int .u32 (sec f 165 15 4), .int .u32 (sec f 165 15 5), .int .u32 (sec f 165 15 6), .int .u32 (sec f 165 15 7), .int .u32 (sec f 165 15 8), .int .u32 (sec f 165 15 9), .int .u32 (sec f 165 15 10), .int .u32 (sec f 165 15 11), .int .u32 (sec f 165 15 12), .int .u32 (sec f 165 15 13), .int .u32 (sec f 165 15 14)]) rfl (by kernel_rfl) (fun w => tree100 (sec f 165 15) (sec_small hf 165 15 (by decide)) _ w) (enters_of Tryz.func100 (by kernel_rfl) rfl) (fun a w h => by go_simp) (sec_cells f 165 15 .u32 (by omega) (by omega) (by decide)) Tryz.underlying102 rfl (by kernel_rfl) (by omega) (by omega) A26 X26 (by simp) (fun n _ _ _ _ h => by cases n <;> exact h) (fun a27 v27 w27 y27 A27 X27 => ?_))
  have z27 := y27.trans z26
  clear y27 A26 X26 z26
  refine wp_seq (sec_reg (b := 208) (fid := 101) (T := 103) (i := 25) (o := 180) (cs := [.int .u32 (sec f 180 15 0), .int .u32 (sec f 180 15 1), .int .u32 (sec f 180 15 2), .int .u32 (sec f 180 15 3), .int .u32 (sec f 180 15 4), .int .u32 (sec f 180 15 5), .int .u32 (sec f 180 15 6), .int .u32 (sec f 180 15 7), .int .u32 (sec f 180 15 8), .int .u32 (sec f 180 15 9), .int .u32 (sec f 180 15 10), .int .u32 (sec f 180 15 11), .int .u32 (sec f 180 15 12), .int .u32 (sec f 180 15 13), .int .u32 (sec f 180 15 14)]) rfl (by kernel_rfl) (fun w => tree101 (sec f 180 15) (sec_small hf 180 15 (by decide)) _ w) (enters_of Tryz.func101 (by kernel_rfl) rfl) (fun a w h => by go_simp) (sec_cells f 180 15 .u32 (by omega) (by omega) (by decide)) Tryz.underlying103 rfl (by kernel_rfl) (by omega) (by omega) A27 X27 (by simp) (fun n _ _ _ _ h => by cases n <;> exact h) (fun a28 v28 w28 y28 A28 X28 => ?_))
  have z28 := y28.trans z27
  clear y28 A27 X27 z27
  refine wp_seq (sec_reg (b := 216) (fid := 102) (T := 104) (i := 26) (o := 195) (cs := [.int .u32 (sec f 195 15 0), .int .u32 (sec f 195 15 1), .int .u32 (sec f 195 15 2), .int .u32 (sec f 195 15 3), .int .u32 (sec f 195 15 4), .int .u32 (sec f 195 15 5), .int .u32 (sec f 195 15 6), .int .u32 (sec f 195 15 7), .int .u32 (sec f 195 15 8), .int .u32 (sec f 195 15 9), .int .u32 (sec f 195 15 10), .int .u32 (sec f 195 15 11), .int .u32 (sec f 195 15 12), .int .u32 (sec f 195 15 13), .int .u32 (sec f 195 15 14)]) rfl (by kernel_rfl) (fun w => tree102 (sec f 195 15) (sec_small hf 195 15 (by decide)) _ w) (enters_of Tryz.func102 (by kernel_rfl) rfl) (fun a w h => by go_simp) (sec_cells f 195 15 .u32 (by omega) (by omega) (by decide)) Tryz.underlying104 rfl (by kernel_rfl) (by omega) (by omega) A28 X28 (by simp) (fun n _ _ _ _ h => by cases n <;> exact h) (fun a29 v29 w29 y29 A29 X29 => ?_))
  have z29 := y29.trans z28
  clear y29 A28 X28 z28
  refine wp_seq (sec_reg (b := 224) (fid := 103) (T := 105) (i := 27) (o := 210) (cs := [.int .u32 (sec f 210 15 0), .int .u32 (sec f 210 15 1), .int .u32 (sec f 210 15 2), .int .u32 (sec f 210 15 3), .int .u32 (sec f 210 15 4), .int .u32 (sec f 210 15 5), .int .u32 (sec f 210 15 6), .int .u32 (sec f 210 15 7), .int .u32 (sec f 210 15 8), .int .u32 (sec f 210 15 9), .int .u32 (sec f 210 15 10), .int .u32 (sec f 210 15 11), .int .u32 (sec f 210 15 12), .int .u32 (sec f 210 15 13), .int .u32 (sec f 210 15 14)]) rfl (by kernel_rfl) (fun w => tree103 (sec f 210 15) (sec_small hf 210 15 (by decide)) _ w) (enters_of Tryz.func103 (by kernel_rfl) rfl) (fun a w h => by go_simp) (sec_cells f 210 15 .u32 (by omega) (by omega) (by decide)) Tryz.underlying105 rfl (by kernel_rfl) (by omega) (by omega) A29 X29 (by simp) (fun n _ _ _ _ h => by cases n <;> exact h) (fun a30 v30 w30 y30 A30 X30 => ?_))
  have z30 := y30.trans z29
  clear y30 A29 X29 z29
  refine wp_seq (sec_reg (b := 232) (fid := 104) (T := 106) (i := 28) (o := 225) (cs := [.int .u32 (sec f 225 15 0), .int .u32 (sec f 225 15 1), .int .u32 (sec f 225 15 2), .int .u32 (sec f 225 15 3), .int .u32 (sec f 225 15 4), .int .u32 (sec f 225 15 5), .int .u32 (sec f 225 15 6), .int .u32 (sec f 225 15 7), .int .u32 (sec f 225 15 8), .int .u32 (sec f 225 15 9), .int .u32 (sec f 225 15 10), .int .u32 (sec f 225 15 11), .int .u32 (sec f 225 15 12), .int .u32 (sec f 225 15 13), .int .u32 (sec f 225 15 14)]) rfl (by kernel_rfl) (fun w => tree104 (sec f 225 15) (sec_small hf 225 15 (by decide)) _ w) (enters_of Tryz.func104 (by kernel_rfl) rfl) (fun a w h => by go_simp) (sec_cells f 225 15 .u32 (by omega) (by omega) (by decide)) Tryz.underlying106 rfl (by kernel_rfl) (by omega) (by omega) A30 X30 (by simp) (fun n _ _ _ _ h => by cases n <;> exact h) (fun a31 v31 w31 y31 A31 X31 => ?_))
  have z31 := y31.trans z30
  clear y31 A30 X30 z30
  refine wp_seq (sec_reg (b := 240) (fid := 105) (T := 107) (i := 29) (o := 240) (cs := [.int .u32 (sec f 240 15 0), .int .u32 (sec f 240 15 1), .int .u32 (sec f 240 15 2), .int .u32 (sec f 240 15 3), .int .u32 (sec f 240 15 4), .int .u32 (sec f 240 15 5), .int .u32 (sec f 240 15 6), .int .u32 (sec f 240 15 7), .int .u32 (sec f 240 15 8), .int .u32 (sec f 240 15 9), .int .u32 (sec f 240 15 10), .int .u32 (sec f 240 15 11), .int .u32 (sec f 240 15 12), .int .u32 (sec f 240 15 13), .int .u32 (sec f 240 15 14)]) rfl (by kernel_rfl) (fun w => tree105 (sec f 240 15) (sec_small hf 240 15 (by decide)) _ w) (enters_of Tryz.func105 (by kernel_rfl) rfl) (fun a w h => by go_simp) (sec_cells f 240 15 .u32 (by omega) (by omega) (by decide)) Tryz.underlying107 rfl (by kernel_rfl) (by omega) (by omega) A31 X31 (by simp) (fun n _ _ _ _ h => by cases n <;> exact h) (fun a32 v32 w32 y32 A32 X32 => ?_))
  have z32 := y32.trans z31
  clear y32 A31 X31 z31
  refine wp_seq (sec_reg (b := 248) (fid := 106) (T := 108) (i := 30) (o := 255) (cs := [.int .u32 (sec f 255 15 0), .int .u32 (sec f 255 15 1), .int .u32 (sec f 255 15 2), .int .u32 (sec f 255 15 3), .int .u32 (sec f 255 15 4), .int .u32 (sec f 255 15 5), .int .u32 (sec f 255 15 6), .int .u32 (sec f 255 15 7), .int .u32 (sec f 255 15 8), .int .u32 (sec f 255 15 9), .int .u32 (sec f 255 15 10), .int .u32 (sec f 255 15 11), .int .u32 (sec f 255 15 12), .int .u32 (sec f 255 15 13), .int .u32 (sec f 255 15 14)]) rfl (by kernel_rfl) (fun w => tree106 (sec f 255 15) (sec_small hf 255 15 (by decide)) _ w) (enters_of Tryz.func106 (by kernel_rfl) rfl) (fun a w h => by go_simp) (sec_cells f 255 15 .u32 (by omega) (by omega) (by decide)) Tryz.underlying108 rfl (by kernel_rfl) (by omega) (by omega) A32 X32 (by simp) (fun n _ _ _ _ h => by cases n <;> exact h) (fun a33 v33 w33 y33 A33 X33 => ?_))
  have z33 := y33.trans z32
  clear y33 A32 X32 z32
  refine wp_seq (sec_reg (b := 256) (fid := 107) (T := 110) (i := 31) (o := 270) (cs := [.int .u32 (sec f 270 3 0), .int .u32 (sec f 270 3 1), .int .u32 (sec f 270 3 2)]) rfl (by kernel_rfl) (fun w => tree107 (sec f 270 3) (sec_small hf 270 3 (by decide)) _ w) (enters_of Tryz.func107 (by kernel_rfl) rfl) (fun a w h => by go_simp) (sec_cells f 270 3 .u32 (by omega) (by omega) (by decide)) Tryz.underlying110 rfl (by kernel_rfl) (by omega) (by omega) A33 X33 (by simp) (fun n _ _ _ _ h => by cases n <;> exact h) (fun a34 v34 w34 y34 A34 X34 => ?_))
  have z34 := y34.trans z33
  clear y34 A33 X33 z33
  refine wp_seq (sec_reg (b := 264) (fid := 108) (T := 112) (i := 32) (o := 273) (cs := [.int .u32 (sec f 273 1 0)]) rfl (by kernel_rfl) (fun w => tree108 (sec f 273 1) (sec_small hf 273 1 (by decide)) _ w) (enters_of Tryz.func108 (by kernel_rfl) rfl) (fun a w h => by go_simp) (sec_cells f 273 1 .u32 (by omega) (by omega) (by decide)) Tryz.underlying112 rfl (by kernel_rfl) (by omega) (by omega) A34 X34 (by simp) (fun n _ _ _ _ h => by cases n <;> exact h) (fun a35 v35 w35 y35 A35 X35 => ?_))
  have z35 := y35.trans z34
  clear y35 A34 X34 z34
  refine wp_seq (sec_reg (b := 272) (fid := 109) (T := 114) (i := 33) (o := 274) (cs := [.int .u64 (sec f 274 1 0)]) rfl (by kernel_rfl) (fun w => tree109 (sec f 274 1) (sec_big hf 274 1) _ w) (enters_of Tryz.func109 (by kernel_rfl) rfl) (fun a w h => by go_simp) (sec_cells f 274 1 .u64 (by omega) (by omega) (by decide)) Tryz.underlying114 rfl (by kernel_rfl) (by omega) (by omega) A35 X35 (by simp) (fun n _ _ _ _ h => by cases n <;> exact h) (fun a36 v36 w36 y36 A36 X36 => ?_))
  have z36 := y36.trans z35
  clear y36 A35 X35 z35
  refine wp_seq (sec_reg (b := 280) (fid := 110) (T := 116) (i := 34) (o := 275) (cs := [.int .u64 (sec f 275 1 0)]) rfl (by kernel_rfl) (fun w => tree110 (sec f 275 1) (sec_big hf 275 1) _ w) (enters_of Tryz.func110 (by kernel_rfl) rfl) (fun a w h => by go_simp) (sec_cells f 275 1 .u64 (by omega) (by omega) (by decide)) Tryz.underlying116 rfl (by kernel_rfl) (by omega) (by omega) A36 X36 (by simp) (fun n _ _ _ _ h => by cases n <;> exact h) (fun a37 v37 w37 y37 A37 X37 => ?_))
  have z37 := y37.trans z36
  clear y37 A36 X36 z36
  exact tree_end2 (c := 288) rfl (by omega) (by omega) A37 X37
end Go.Proofs.YtaniejfkbapbbaaGreatDoor
namespace Go.Proofs.YtaniejfkbapbbaaGreatDoor
open Go.RowKit Go.Proofs.YtaniejfkbapbbaaGreatDoorW.PrintWords Go.Proofs.YtaniejfkbapbbaaGreatDoorW.PrintLast Go.Proofs.YtaniejfkbapbbaaGreatDoorW.PrintMore
open Go.Proofs.YtaniejfkbapbbaaGreatDoor.PFnXfsNormal (S50 k50 k50_mkM info5 info9 info31 info50 info126)

theorem setRow_far {w : World} {g k : Nat} {cs : Array Value} (h : k ≠ g) : (w.setRow g cs).heap[k]? = w.heap[k]? := by
  simp only [World.setRow, Array.getElem?_modify]
  rw [if_neg (fun e => h e.symm)]
theorem M_row {D b b' g : Nat} {x : NT} {cs : List Value} {w1 : World} {X : Array Value} (h : (kn 35 D).M w1 b (fun _ => True) x cs) (hg : g < b) (hb : b' ≤ b) : (kn 35 D).M (w1.setRow g X) b' (fun _ => True) x cs :=
  (kn 35 D).M_lower hb ((kn 35 D).M_mono (fun _ _ => trivial) ((kn 35 D).M_move (fun k (hk : b ≤ k) => setRow_far (by omega)) ((kn 35 D).M_mono (fun k hk => hk.2.1) ((kn 35 D).M_bound h))))
section
variable {ops : Array Oper} {Q : Exit → Act → World → Prop} {a : Act} {w : World} {rest : List Oper}
theorem store_node (ty : TypeId) (p : String) (nd : Array Edge) {n n' g b : Nat} {x : NT} {cs : List Value} {old : Array Value} {ok : Nat → Prop} {w' : World} (ht : a.tmps[n]?.getD undef = .pointer (some ⟨g, 0, none⟩)) (ht' : a.tmps[n']?.getD undef = .agg cs.toArray) (hM : (kn 35 3).M w' b ok x cs) (hg : w.heap[g]? = some (.cells old 35 (0, 0))) (ho : old.size = 8)
    (h : wpList Tryz.prog ops Q rest a (w.setRow g cs.toArray)) :
    wpList Tryz.prog ops Q ({ dst := none, op := .store 35 (.tmp n) (.tmp n'), type := ty, pos := p, after := nd, guard := none } :: rest) a w := by
  have hK := (kn 35 3).K_of_M hM
  have hl : cs.length = 8 := (kn 35 3).K_len hK
  refine wpList_plain rfl (fun K hK' => wp_store_row 35 (.tmp n) (.tmp n') rfl g cs.toArray (ev_tmp ht) (ev_tmp ht') 35 old hg ?_ ?_ (all_oneCell_toArray ((kn 35 3).K_one hK)) (hK' _ _ h))
  · rw [List.size_toArray, hl]; kernel_rfl
  · simp [hl, ho]
end
section
variable (a : Act) (ty : TypeId) (p : String) (nd : Array Edge) (dst : Option Tmp) (w : World)
theorem run_pnil (n : Nat) (ad : Addr) (h : a.tmps[n]?.getD undef = .pointer (some ad)) :
    (execOp a.eval { dst := dst, op := .binOp .eql 52 (.tmp n) (.const (.pointer none)) 52, type := ty, pos := p, after := nd, guard := none }).run Tryz.prog w = .ok (.value (.bool false)) w := by
  go_simp
theorem run_nilck (n : Nat) (ad : Addr) (h : a.tmps[n]?.getD undef = .pointer (some ad)) :
    (execOp a.eval { dst := dst, op := .nilCheck (.tmp n), type := ty, pos := p, after := nd, guard := none }).run Tryz.prog w = .ok (.value (.pointer (some ad))) w := by
  go_simp
theorem run_callv2 (n n1 n2 k t t' : Nat) (u v : Value) (hen : ∀ args w, (callFunc k args).run Tryz.prog w = .ok (.enter k args) w) (h : a.tmps[n]?.getD undef = .func (.func k) #[] #[]) (h1 : a.tmps[n1]?.getD undef = u) (h2 : a.tmps[n2]?.getD undef = v) :
    (execOp a.eval { dst := dst, op := .call { callee := .value (.tmp n), args := #[.tmp n1, .tmp n2], argTypes := #[t, t'] }, type := ty, pos := p, after := nd, guard := none }).run Tryz.prog w = .ok (.enter k #[u, v]) w := by
  subst h1
  subst h2
  go_simp
theorem run_callv1 (n n1 k t : Nat) (u : Value) (hen : ∀ args w, (callFunc k args).run Tryz.prog w = .ok (.enter k args) w) (h : a.tmps[n]?.getD undef = .func (.func k) #[] #[]) (h1 : a.tmps[n1]?.getD undef = u) :
    (execOp a.eval { dst := dst, op := .call { callee := .value (.tmp n), args := #[.tmp n1], argTypes := #[t] }, type := ty, pos := p, after := nd, guard := none }).run Tryz.prog w = .ok (.enter k #[u]) w := by
  subst h1
  go_simp
theorem run_callv0 (n k : Nat) (c : Value) (hen : ∀ args w, (callFunc k args).run Tryz.prog w = .ok (.enter k args) w) (h : a.tmps[n]?.getD undef = .func (.func k) #[] #[c]) :
    (execOp a.eval { dst := dst, op := .call { callee := .value (.tmp n), args := #[], argTypes := #[] }, type := ty, pos := p, after := nd, guard := none }).run Tryz.prog w = .ok (.enter k #[c]) w := by
  go_simp
theorem run_call3f (n1 k k' t t' t'' : Nat) (c u : Value) (hen : ∀ args w, (callFunc k args).run Tryz.prog w = .ok (.enter k args) w) (h1 : a.tmps[n1]?.getD undef = u) :
    (execOp a.eval { dst := dst, op := .call { callee := .value (.func k), args := #[.const c, .tmp n1, .func k'], argTypes := #[t, t', t''] }, type := ty, pos := p, after := nd, guard := none }).run Tryz.prog w = .ok (.enter k #[c, u, .func (.func k') #[] #[]]) w := by
  subst h1
  go_simp
theorem run_call2f (n1 k k' t t' : Nat) (u : Value) (hen : ∀ args w, (callFunc k args).run Tryz.prog w = .ok (.enter k args) w) (h1 : a.tmps[n1]?.getD undef = u) :
    (execOp a.eval { dst := dst, op := .call { callee := .value (.func k), args := #[.tmp n1, .func k'], argTypes := #[t, t'] }, type := ty, pos := p, after := nd, guard := none }).run Tryz.prog w = .ok (.enter k #[u, .func (.func k') #[] #[]]) w := by
  subst h1
  go_simp
end
theorem valsX_range {w : World} {m : Nat} {f : Nat → Int} (h : BoxX w m f) : w.rangeAt m 0 (valsX f) :=
  box_range h (fun j u hj => by
    rw [valsX_at] at hj
    by_cases h1 : j < 276
    · rw [if_pos h1] at hj
      injection hj with hj
      rw [Nat.zero_add]
      exact ⟨h1, hj.symm⟩
    · rw [if_neg h1] at hj; cases hj)
theorem from_act {c : Code} {Q : Exit → Act → World → Prop} {w : World} (a0 : Act) (p : Act → Prop) (h0 : p a0) (h : ∀ a, p a → c.wp Tryz.prog Q a w) : c.wp Tryz.prog Q a0 w := h a0 h0
theorem node_back {g : Nat} {x : NT} {cs : List Value} {w w1 : World} {a : Act} {fn : Func} {p : Tmp} (hfn : fn.results = #[.cell p 35]) (hp : a.tmps[p]?.getD undef = .pointer (some ⟨g, 0, none⟩)) (hd : a.defers = []) (hg : g = w.heap.size) {b : Nat} (hM : (kn 35 3).M w1 b (fun _ => True) x cs) (hb : g < b) (hB : Below w.heap.size w w1)
    {old : Array Value} (ho : w1.heap[g]? = some (.cells old 35 (0, 0))) : bodyPost Tryz.prog fn (Ret (fun v w' => ∃ cs : List Value, v = .agg cs.toArray ∧ (kn 35 3).M w' w.heap.size (fun _ => True) x cs ∧ Below w.heap.size w w')) .ret a (w1.setRow g cs.toArray) := by
  have hl : cs.length = 8 := (kn 35 3).K_len ((kn 35 3).K_of_M hM)
  refine bodyPost_ret (results_cell1 hfn _ _ g 35 cs.toArray (0, 0) _ (by rw [Array.getD_eq_getD_getElem?]; exact hp) (setRow_heap ho) Tryz.underlying35 (by rw [List.size_toArray, hl]; kernel_rfl)) hd (.mk _ rfl ⟨cs, rfl, M_row hM hb (by omega), below_setRow hB (by omega)⟩)
set_option maxRecDepth 100000 in
theorem pointer_c (f : Nat → Int) (hf : Lim f) (m : Nat) (w : World) (hb : BoxX w m f) : Calls Tryz.prog 20 #[.string ⟨#[]⟩, .pointer (some ⟨m, 0, none⟩), .func (.func 21) #[] #[]] w (Ret (SomeNode 35 2 (.mk ⟨#[]⟩ 8 0 ⟨#[]⟩ (kidsX f)) w)) := by
  go_enter Tryz.func20, Tryz.ntmps20
  refine from_act _ (fun a => a.tmps.size = 17 ∧ a.tmps[0]?.getD undef = .string ⟨#[]⟩ ∧ a.tmps[1]?.getD undef = .pointer (some ⟨m, 0, none⟩) ∧ a.tmps[2]?.getD undef = .func (.func 21) #[] #[] ∧ a.defers = []) ⟨rfl, rfl, rfl, rfl, rfl⟩ ?_
  rintro a ⟨hz, h0, h1, h2, hdf⟩
  refine wp_seq (wp_region_lit ?_)
  refine val_go rfl rfl (by omega) (run_al35 _ _ _ _ _ _) (fun a1 q1 => ?_)
  have z1 := q1.1.trans hz
  refine wp_seq (wp_seq (wp_region_lit ?_))
  refine val_go rfl rfl (by omega) (run_mv _ _ _ _ _ _ 1 _ ((q1.2.2.1 1 (by omega)).trans h1)) (fun a2 q2 => ?_)
  have z2 := q2.1.trans z1
  refine val_go rfl rfl (by omega) (run_pnil _ _ _ _ _ _ 7 _ q2.2.1) (fun a3 q3 => ?_)
  have z3 := q3.1.trans z2
  refine wp_cond_false (ev_tmp q3.2.1) (wp_skip ?_)
  have o : ∀ j, j < 6 → a3.tmps[j]?.getD undef = a.tmps[j]?.getD undef := fun j hj => (q3.2.2.1 j (by omega)).trans ((q2.2.2.1 j (by omega)).trans (q1.2.2.1 j (by omega)))
  refine wp_seq (wp_region_lit ?_)
  refine val_go rfl rfl (by omega) (run_mv _ _ _ _ _ _ 2 _ ((o 2 (by omega)).trans h2)) (fun a4 q4 => ?_)
  have z4 := q4.1.trans z3
  refine val_go rfl rfl (by omega) (run_mv _ _ _ _ _ _ 0 _ ((q4.2.2.1 0 (by omega)).trans ((o 0 (by omega)).trans h0))) (fun a5 q5 => ?_)
  have z5 := q5.1.trans z4
  refine val_go rfl rfl (by omega) (run_mv _ _ _ _ _ _ 1 _ ((q5.2.2.1 1 (by omega)).trans ((q4.2.2.1 1 (by omega)).trans ((o 1 (by omega)).trans h1)))) (fun a6 q6 => ?_)
  have z6 := q6.1.trans z5
  refine val_go rfl rfl (by omega) (run_nilck _ _ _ _ _ _ 13 _ q6.2.1) (fun a7 q7 => ?_)
  have z7 := q7.1.trans z6
  have hbw : BoxX (w.alloc (.cells zeroN 35)) m f := box_keep (below_alloc (Below.refl _ _) _) hb
  refine val_go rfl rfl (by omega) (run_ldR _ _ _ _ _ _ 14 m 0 118 (valsX f) _ q7.2.1 (valsX_range hbw) Tryz.underlying118 rfl (by rw [valsX_len]; kernel_rfl)) (fun a8 q8 => ?_)
  have z8 := q8.1.trans z7
  refine call_go rfl rfl (by omega) (run_callv2 _ _ _ _ _ _ 11 12 15 21 _ _ (.string ⟨#[]⟩) (.agg (valsX f).toArray) (enters_of Tryz.func21 (by kernel_rfl) rfl) ?_ ?_ q8.2.1) (xfsStats_c f hf ⟨#[]⟩ _) ?_
  · rw [q8.2.2.1 _ (by omega), q7.2.2.1 _ (by omega), q6.2.2.1 _ (by omega), q5.2.2.1 _ (by omega)]; exact q4.2.1
  · rw [q8.2.2.1 _ (by omega), q7.2.2.1 _ (by omega), q6.2.2.1 _ (by omega)]; exact q5.2.1
  rintro v w1 a9 ⟨cs, rfl, hM, hB⟩ q9
  have hs1 : (w.alloc (.cells zeroN 35)).heap.size = w.heap.size + 1 := by simp
  have t6 : a9.tmps[6]?.getD undef = .pointer (some ⟨w.heap.size, 0, none⟩) := by
    rw [q9.2.2.1 _ (by omega), q8.2.2.1 _ (by omega), q7.2.2.1 _ (by omega), q6.2.2.1 _ (by omega), q5.2.2.1 _ (by omega), q4.2.2.1 _ (by omega), q3.2.2.1 _ (by omega), q2.2.2.1 _ (by omega)]; exact q1.2.1
  have hg : w1.heap[w.heap.size]? = some (.cells zeroN 35 (0, 0)) := (hB.block _ (by omega)).trans (heap_alloc_new w _)
  refine store_node _ _ _ t6 q9.2.1 hM hg rfl ?_
  refine wp_ret ?_
  refine node_back rfl t6 ?_ rfl hM (by omega) ((below_alloc (Below.refl w.heap.size w) _).trans (hB.mono (by omega))) hg
  rw [q9.2.2.2, q8.2.2.2, q7.2.2.2, q6.2.2.2, q5.2.2.2, q4.2.2.2, q3.2.2.2, q2.2.2.2, q1.2.2.2]; exact hdf
set_option maxRecDepth 100000 in
theorem back_c (f : Nat → Int) (hf : Lim f) (m : Nat) (w : World) (hb : BoxX w m f) : Calls Tryz.prog 19 #[.pointer (some ⟨m, 0, none⟩)] w (Ret (SomeNode 35 2 (.mk ⟨#[]⟩ 8 0 ⟨#[]⟩ (kidsX f)) w)) := by
  go_enter Tryz.func19, Tryz.ntmps19
  refine from_act _ (fun a => a.tmps.size = 5 ∧ a.tmps[0]?.getD undef = .pointer (some ⟨m, 0, none⟩) ∧ a.defers = []) ⟨rfl, rfl, rfl⟩ ?_
  rintro a ⟨hz, h0, hdf⟩
  refine wp_seq (wp_region_lit ?_)
  refine val_go rfl rfl (by omega) (run_al35 _ _ _ _ _ _) (fun a1 q1 => ?_)
  have z1 := q1.1.trans hz
  refine wp_seq (wp_region_lit ?_)
  refine val_go rfl rfl (by omega) (run_mv _ _ _ _ _ _ 0 _ ((q1.2.2.1 0 (by omega)).trans h0)) (fun a2 q2 => ?_)
  have z2 := q2.1.trans z1
  have hbw : BoxX (w.alloc (.cells zeroN 35)) m f := box_keep (below_alloc (Below.refl _ _) _) hb
  refine call_go rfl rfl (by omega) (run_call3f _ _ _ _ _ _ 3 20 21 _ _ _ (.string ⟨#[]⟩) _ (enters_of Tryz.func20 (by kernel_rfl) rfl) q2.2.1) (pointer_c f hf m _ hbw) ?_
  rintro v w1 a3 ⟨cs, rfl, hM, hB⟩ q3
  have hs1 : (w.alloc (.cells zeroN 35)).heap.size = w.heap.size + 1 := by simp
  have t2 : a3.tmps[2]?.getD undef = .pointer (some ⟨w.heap.size, 0, none⟩) := by
    rw [q3.2.2.1 _ (by omega), q2.2.2.1 _ (by omega)]; exact q1.2.1
  have hg : w1.heap[w.heap.size]? = some (.cells zeroN 35 (0, 0)) := (hB.block _ (by omega)).trans (heap_alloc_new w _)
  refine store_node _ _ _ t2 q3.2.1 hM hg rfl ?_
  refine wp_ret ?_
  refine node_back rfl t2 ?_ rfl hM (by omega) ((below_alloc (Below.refl w.heap.size w) _).trans (hB.mono (by omega))) hg
  rw [q3.2.2.2, q2.2.2.2, q1.2.2.2]; exact hdf
set_option maxRecDepth 100000 in
theorem read_c (l : List S50) (g : Nat) (w : World) (hF : Fine l) (hN : RowsOk l) (hs : (printX l).size ≤ 40000) (hp : Spc w) (hc : w.cell? ⟨g, 0, none⟩ = some (.string (printX l))) :
    Calls Tryz.prog 16 #[.pointer (some ⟨g, 0, none⟩)] w (Ret (fun v w' => ∃ m, v = .tuple #[.pointer (some ⟨m, 0, none⟩), .nilIface] ∧ BoxX w' m (stOf l) ∧ Below w.heap.size w w')) := by
  go_enter Tryz.func16, Tryz.ntmps16
  refine from_act _ (fun a => a.tmps.size = 7 ∧ a.tmps[0]?.getD undef = .pointer (some ⟨g, 0, none⟩) ∧ a.defers = []) ⟨rfl, rfl, rfl⟩ ?_
  rintro a ⟨hz, h0, hdf⟩
  refine wp_seq (wp_region_lit ?_)
  refine val_go rfl rfl (by omega) (run_asc _ _ _ _ _ _ _) (fun a1 q1 => ?_)
  have z1 := q1.1.trans hz
  refine val_go rfl rfl (by omega) (run_asc _ _ _ _ _ _ _) (fun a2 q2 => ?_)
  have z2 := q2.1.trans z1
  refine wp_seq (wp_region_lit ?_)
  refine val_go rfl rfl (by omega) (run_ld9 _ _ _ _ _ _ 0 _ _ ((q2.2.2.1 0 (by omega)).trans ((q1.2.2.1 0 (by omega)).trans h0)) hc) (fun a3 q3 => ?_)
  have z3 := q3.1.trans z2
  refine call_go rfl rfl (by omega) (run_call1 _ _ _ _ _ _ 3 17 _ _ (enters_of Tryz.func17 (by kernel_rfl) rfl) q3.2.1) (ParseStats_c l w hF hN hs hp) ?_
  rintro v w1 a4 ⟨m, rfl, hb, hB⟩ q4
  have z4 := q4.1.trans z3
  refine val_go rfl rfl (by omega) (run_ex0 _ _ _ _ _ _ 4 _ _ q4.2.1) (fun a5 q5 => ?_)
  have z5 := q5.1.trans z4
  refine val_go rfl rfl (by omega) (run_ex1 _ _ _ _ _ _ 4 _ _ ((q5.2.2.1 4 (by omega)).trans q4.2.1)) (fun a6 q6 => ?_)
  have z6 := q6.1.trans z5
  refine val_go rfl rfl (by omega) (run_as _ _ _ _ _ _ 5 _ ((q6.2.2.1 5 (by omega)).trans q5.2.1)) (fun a7 q7 => ?_)
  have z7 := q7.1.trans z6
  refine val_go rfl rfl (by omega) (run_as _ _ _ _ _ _ 6 _ ((q7.2.2.1 6 (by omega)).trans q6.2.1)) (fun a8 q8 => ?_)
  refine wp_ret ?_
  have r1 := (q8.2.2.1 1 (by omega)).trans q7.2.1
  refine bodyPost_ret (results_tmp2 rfl _ _ _) ?_ (.mk _ rfl ⟨m, ?_, hb, hB⟩)
  · rw [q8.2.2.2, q7.2.2.2, q6.2.2.2, q5.2.2.2, q4.2.2.2, q3.2.2.2, q2.2.2.2, q1.2.2.2]; exact hdf
  · simp only [Array.getD_eq_getD_getElem?, r1, q8.2.1]
end Go.Proofs.YtaniejfkbapbbaaGreatDoor
namespace Go.Proofs.YtaniejfkbapbbaaGreatDoor
open Go.RowKit Go.Proofs.YtaniejfkbapbbaaGreatDoorW.PrintWords Go.Proofs.YtaniejfkbapbbaaGreatDoorW.PrintLast Go.Proofs.YtaniejfkbapbbaaGreatDoorW.PrintMore
open Go.Proofs.YtaniejfkbapbbaaGreatDoor.PFnXfsNormal (S50 k50 k50_mkM info5 info9 info31 info50 info126)

section
variable {P : Program} {ops : Array Oper} {Q : Exit → Act → World → Prop} {a : Act} {w w1 : World} {rest : List Oper} {o : Oper}
theorem defer_go {d : Deferred} (hg : o.guard = none) (hd : o.dst = none) (hrun : (execOp a.eval o).run P w = .ok (.defer d) w1)
    (h : ∀ a' : Act, a'.tmps = a.tmps → a'.defers = d :: a.defers → wpList P ops Q rest a' w1) : wpList P ops Q (o :: rest) a w := by
  refine wpList_plain hg fun K hK => ?_
  unfold Oper.wp
  rw [hrun]
  refine hK _ _ ?_
  rw [hd]
  exact h _ rfl rfl
end
section
variable (a : Act) (ty : TypeId) (p : String) (nd : Array Edge) (dst : Option Tmp) (w : World)
theorem run_mf2 (n n' k : Nat) (u v : Value) (h : a.tmps[n]?.getD undef = u) (h' : a.tmps[n']?.getD undef = v) :
    (execOp a.eval { dst := dst, op := .makeFunc (.func k) #[] #[.tmp n, .tmp n'], type := ty, pos := p, after := nd, guard := none }).run Tryz.prog w = .ok (.value (.func (.func k) #[] #[u, v])) w := by
  subst h
  subst h'
  have hmf : ∀ (fn : Fn) (first cap : Array Value) (w : World), (Instr.makeFunc fn first cap).run Tryz.prog w = .ok (.func fn first cap) w := fun _ _ _ _ => rfl
  go_simp
theorem run_mf1 (n k : Nat) (u : Value) (h : a.tmps[n]?.getD undef = u) :
    (execOp a.eval { dst := dst, op := .makeFunc (.func k) #[] #[.tmp n], type := ty, pos := p, after := nd, guard := none }).run Tryz.prog w = .ok (.value (.func (.func k) #[] #[u])) w := by
  subst h
  have hmf : ∀ (fn : Fn) (first cap : Array Value) (w : World), (Instr.makeFunc fn first cap).run Tryz.prog w = .ok (.func fn first cap) w := fun _ _ _ _ => rfl
  go_simp
theorem run_dfr (n k : Nat) (u v : Value) (h : a.tmps[n]?.getD undef = .func (.func k) #[] #[u, v]) :
    (execOp a.eval { dst := none, op := .defer { callee := .value (.tmp n), args := #[], argTypes := #[] }, type := ty, pos := p, after := nd, guard := none }).run Tryz.prog w = .ok (.defer { target := .fn (.func k) #[u, v], args := #[] }) w := by
  go_simp
theorem run_al3 : (execOp a.eval { dst := dst, op := .alloc 3, type := ty, pos := p, after := nd, guard := none }).run Tryz.prog w = .ok (.value (.pointer (some ⟨w.heap.size, 0, none⟩))) (w.alloc (.cells #[.int .i64 0] 3)) := by
  go_simp
theorem run_box9 (n : Nat) (s : ByteArray) (h : a.tmps[n]?.getD undef = .string s) : (execOp a.eval { dst := dst, op := .box 9 (.tmp n), type := ty, pos := p, after := nd, guard := none }).run Tryz.prog w = .ok (.value (.pointer (some ⟨w.heap.size, 0, none⟩))) (w.alloc (.cells #[.string s] 9)) := by
  go_simp
theorem run_st3 (n g : Nat) (x y : Int) (h : a.tmps[n]?.getD undef = .pointer (some ⟨g, 0, none⟩)) (hc : w.cell? ⟨g, 0, none⟩ = some (.int .i64 y)) (hz : w.frozen? ⟨g, 0, none⟩ = false) : (execOp a.eval { dst := dst, op := .store 3 (.tmp n) (.const (.int .i64 x)), type := ty, pos := p, after := nd, guard := none }).run Tryz.prog w = .ok .skip (w.setCell ⟨g, 0, none⟩ (.int .i64 x)) := by
  go_simp
end
theorem results_ci {fn : Func} {p q : Tmp} (h : fn.results = #[.cell p 35, .cell q 3]) (tmps : Array Value) (w : World) (g g' : Nat) (cs : Array Value) (x : Int)
    (hp : tmps[p]?.getD undef = .pointer (some ⟨g, 0, none⟩)) (hg : w.heap[g]? = some (.cells cs 35 (0, 0))) (hi : (Tryz.prog.info? 35).map (·.size) = some cs.size)
    (hq : tmps[q]?.getD undef = .pointer (some ⟨g', 0, none⟩)) (hx : w.cell? ⟨g', 0, none⟩ = some (.int .i64 x)) :
    (results fn tmps).run Tryz.prog w = .ok (.tuple #[.agg cs, .int .i64 x]) w := by
  have hl := run_loadVar_row (P := Tryz.prog) w g 35 35 cs (0, 0) _ hg Tryz.underlying35 rfl hi
  have hl3 : (loadVar 3 ⟨g', 0, none⟩).run Tryz.prog w = .ok (.int .i64 x) w := by go_simp
  simp [results, h, hp, hq, asAddr, hl, hl3]
theorem idle77 (p q : Value) (w : World) : CallsD Tryz.prog 77 #[p, q] .returning w fun e u' w' => e = .returned (.tuple #[]) ∧ u' = .returning ∧ w' = w := by
  refine callsD_of_wpS Tryz.func77 rfl fun c₀ cs hu => ?_
  apply wpS_seq
  apply wpS_region
  simp [wpOpsS, go_sem, recoverD, hu, Tryz.ntmps77, Exit.thenS]
  refine wpS_cond (t := false) (by simp [Act.eval, Array.replicate]) ?_
  simp only [Bool.false_eq_true, if_false]
  refine wpS_of_wp (wp_skip ?_)
  cases c₀
  simp_all [bodyPostS, results, Tryz.results77]
/-- A tree and no fault, as they are handed back. -/
def SomeTree (x : NT) (w : World) (v : Value) (w' : World) : Prop := ∃ cs : List Value, v = .tuple #[.agg cs.toArray, .int .i64 0] ∧ (kn 35 3).M w' w.heap.size (fun _ => True) x cs ∧ Below w.heap.size w w'
def rootX (f : Nat → Int) : NT := .mk ⟨#[]⟩ 8 0 ⟨#[]⟩ (kidsX f)
set_option maxRecDepth 100000 in
theorem tree18_c (l : List S50) (g : Nat) (w : World) (hF : Fine l) (hN : RowsOk l) (hs : (printX l).size ≤ 40000) (hp : Spc w) (hc : w.cell? ⟨g, 0, none⟩ = some (.string (printX l))) :
    Calls Tryz.prog 18 #[.func (.func 16) #[] #[.pointer (some ⟨g, 0, none⟩)], .func (.func 19) #[] #[]] w (Ret (SomeTree (rootX (stOf l)) w)) := by
  go_enter_defers Tryz.func18, Tryz.ntmps18
  refine from_act _ (fun a => a.tmps.size = 20 ∧ a.tmps[0]?.getD undef = .func (.func 16) #[] #[.pointer (some ⟨g, 0, none⟩)] ∧ a.tmps[1]?.getD undef = .func (.func 19) #[] #[] ∧ a.defers = []) ⟨rfl, rfl, rfl, rfl⟩ ?_
  rintro a ⟨hz, h0, h1, hdf⟩
  refine wp_seq (wp_region_lit ?_)
  refine val_go rfl rfl (by omega) (run_al35 _ _ _ _ _ _) (fun a1 q1 => ?_)
  have z1 := q1.1.trans hz
  refine val_go rfl rfl (by omega) (run_al3 _ _ _ _ _ _) (fun a2 q2 => ?_)
  have z2 := q2.1.trans z1
  have hs1 : (w.alloc (.cells zeroN 35)).heap.size = w.heap.size + 1 := by simp
  rw [hs1] at q2
  have t4 := (q2.2.2.1 4 (by omega)).trans q1.2.1
  refine wp_seq (wp_region_lit ?_)
  refine val_go rfl rfl (by omega) (run_mf2 _ _ _ _ _ _ 4 5 77 _ _ t4 q2.2.1) (fun a3 q3 => ?_)
  have z3 := q3.1.trans z2
  refine defer_go rfl rfl (run_dfr _ _ _ _ _ 8 77 _ _ q3.2.1) (fun a4 e4 d4 => ?_)
  have z4 : a4.tmps.size = 20 := by rw [e4]; exact z3
  have o4 : ∀ j, j ≠ 8 → a4.tmps[j]?.getD undef = a2.tmps[j]?.getD undef := fun j hj => by rw [e4]; exact q3.2.2.1 j hj
  have hB0 : Below w.heap.size w ((w.alloc (.cells zeroN 35)).alloc (.cells #[.int .i64 0] 3)) := below_alloc (below_alloc (Below.refl _ _) _) _
  have hg0 : ((w.alloc (.cells zeroN 35)).alloc (.cells #[.int .i64 0] 3)).heap[w.heap.size]? = some (.cells zeroN 35 (0, 0)) := (blk_old _ _ _ (by omega)).trans (heap_alloc_new w _)
  have hi0 : ((w.alloc (.cells zeroN 35)).alloc (.cells #[.int .i64 0] 3)).heap[w.heap.size + 1]? = some (.cells #[.int .i64 0] 3 (0, 0)) := by
    have := heap_alloc_new (w.alloc (.cells zeroN 35)) (.cells #[.int .i64 0] 3)
    rw [hs1] at this
    exact this
  generalize (w.alloc (.cells zeroN 35)).alloc (.cells #[.int .i64 0] 3) = W at hB0 hg0 hi0 ⊢
  have hW : w.heap.size + 1 < W.heap.size := blk_lt hi0
  refine wp_seq (wp_region_lit ?_)
  refine val_go rfl rfl (by omega) (run_mv _ _ _ _ _ _ 0 _ ((o4 0 (by omega)).trans ((q2.2.2.1 0 (by omega)).trans ((q1.2.2.1 0 (by omega)).trans h0)))) (fun a5 q5 => ?_)
  have z5 := q5.1.trans z4
  refine call_go rfl rfl (by omega) (run_callv0 _ _ _ _ _ _ 10 16 _ (enters_of Tryz.func16 (by kernel_rfl) rfl) q5.2.1) (read_c l g W hF hN hs (hp.keep hB0) (cell_keep hB0 hc)) ?_
  rintro v w1 a6 ⟨m, rfl, hb, hB⟩ q6
  have z6 := q6.1.trans z5
  refine val_go rfl rfl (by omega) (run_mv _ _ _ _ _ _ 11 _ q6.2.1) (fun a7 q7 => ?_)
  have z7 := q7.1.trans z6
  refine val_go rfl rfl (by omega) (run_ex0 _ _ _ _ _ _ 9 _ _ q7.2.1) (fun a8 q8 => ?_)
  have z8 := q8.1.trans z7
  refine val_go rfl rfl (by omega) (run_ex1 _ _ _ _ _ _ 9 _ _ ((q8.2.2.1 9 (by omega)).trans q7.2.1)) (fun a9 q9 => ?_)
  have z9 := q9.1.trans z8
  refine val_go rfl rfl (by omega) (run_as _ _ _ _ _ _ 12 _ ((q9.2.2.1 12 (by omega)).trans q8.2.1)) (fun a10 q10 => ?_)
  have z10 := q10.1.trans z9
  refine val_go rfl rfl (by omega) (run_as _ _ _ _ _ _ 13 _ ((q10.2.2.1 13 (by omega)).trans q9.2.1)) (fun a11 q11 => ?_)
  have z11 := q11.1.trans z10
  have t6 := (q11.2.2.1 6 (by omega)).trans q10.2.1
  have o11 : ∀ j, j < 6 → a11.tmps[j]?.getD undef = a2.tmps[j]?.getD undef := fun j hj => by
    rw [q11.2.2.1 j (by omega), q10.2.2.1 j (by omega), q9.2.2.1 j (by omega), q8.2.2.1 j (by omega), q7.2.2.1 j (by omega), q6.2.2.1 j (by omega), q5.2.2.1 j (by omega)]
    exact o4 j (by omega)
  have d11 : a11.defers = a4.defers := by rw [q11.2.2.2, q10.2.2.2, q9.2.2.2, q8.2.2.2, q7.2.2.2, q6.2.2.2, q5.2.2.2]
  refine wp_seq (err_no (b := 14) q11.2.1 (by omega) (fun a12 f12 => ?_))
  refine wp_seq (wp_region_lit ?_)
  have z12 := f12.sz.trans z11
  refine val_go rfl rfl (by omega) (run_mv _ _ _ _ _ _ 1 _ ((f12.at_ 1 (by omega) (by omega)).trans ((o11 1 (by omega)).trans ((q2.2.2.1 1 (by omega)).trans ((q1.2.2.1 1 (by omega)).trans h1))))) (fun a13 q13 => ?_)
  have z13 := q13.1.trans z12
  refine val_go rfl rfl (by omega) (run_mv _ _ _ _ _ _ 6 _ ((q13.2.2.1 6 (by omega)).trans ((f12.at_ 6 (by omega) (by omega)).trans t6))) (fun a14 q14 => ?_)
  have z14 := q14.1.trans z13
  refine call_go rfl rfl (by omega) (run_callv1 _ _ _ _ _ _ 17 18 19 _ _ (enters_of Tryz.func19 (by kernel_rfl) rfl) ((q14.2.2.1 17 (by omega)).trans q13.2.1) q14.2.1) (back_c (stOf l) (lim_of l hF hN) m w1 hb) ?_
  rintro v w2 a15 ⟨cs, rfl, hM, hB2⟩ q15
  have o15 : ∀ j, j < 6 → a15.tmps[j]?.getD undef = a2.tmps[j]?.getD undef := fun j hj => by
    rw [q15.2.2.1 j (by omega), q14.2.2.1 j (by omega), q13.2.2.1 j (by omega), f12.at_ j (by omega) (by omega)]
    exact o11 j hj
  have T4 := (o15 4 (by omega)).trans t4
  have T5 := (o15 5 (by omega)).trans q2.2.1
  have hB3 : Below W.heap.size W w2 := hB.trans (hB2.mono hB.size)
  have hg2 := (hB3.block _ (by omega)).trans hg0
  have hi2 := (hB3.block _ (by omega)).trans hi0
  refine store_node _ _ _ T4 q15.2.1 hM hg2 rfl ?_
  have hi3 : (w2.setRow w.heap.size cs.toArray).heap[w.heap.size + 1]? = some (.cells #[.int .i64 0] 3 (0, 0)) := (setRow_far (by omega)).trans hi2
  refine skip_step rfl (run_st3 _ _ _ _ _ _ 5 (w.heap.size + 1) 0 0 T5 (blk_cell hi3 0) (frozen_of_row _ _ 0 _ _ hi3)) ?_
  refine wp_ret ?_
  have hw1 := hB.size
  have hM3 := M_row (X := cs.toArray) hM (show w.heap.size < w1.heap.size by omega) (Nat.le_refl _)
  have hB4 : Below w.heap.size w (w2.setRow w.heap.size cs.toArray) := below_setRow (hB0.trans (hB3.mono (by omega))) (Nat.le_refl _)
  have hl : cs.length = 8 := (kn 35 3).K_len ((kn 35 3).K_of_M hM)
  have hg4 : ((w2.setRow w.heap.size cs.toArray).setCell ⟨w.heap.size + 1, 0, none⟩ (.int .i64 0)).heap[w.heap.size]? = some (.cells cs.toArray 35 (0, 0)) := blk_far (setRow_heap hg2) (by show w.heap.size ≠ w.heap.size + 1; omega) _
  have hi4 := blk_set hi3 0 (.int .i64 0)
  have hM4 : (kn 35 3).M ((w2.setRow w.heap.size cs.toArray).setCell ⟨w.heap.size + 1, 0, none⟩ (.int .i64 0)) w.heap.size (fun _ => True) (rootX (stOf l)) cs :=
    (kn 35 3).M_lower (show w.heap.size ≤ w1.heap.size by omega) ((kn 35 3).M_mono (fun _ _ => trivial) ((kn 35 3).M_move (fun k (hk : w1.heap.size ≤ k) => Below.heap_setCell _ ⟨w.heap.size + 1, 0, none⟩ _ k (by show k ≠ w.heap.size + 1; omega)) ((kn 35 3).M_mono (fun k hk => hk.2.1) ((kn 35 3).M_bound hM3))))
  have hB5 := below_set (j := 0) (v := .int .i64 0) hB4 (show w.heap.size ≤ w.heap.size + 1 by omega)
  have hdd : a15.defers = [{ target := .fn (.func 77) #[.pointer (some ⟨w.heap.size, 0, none⟩), .pointer (some ⟨w.heap.size + 1, 0, none⟩)], args := #[] }] := by
    rw [q15.2.2.2, q14.2.2.2, q13.2.2.2, f12.df, d11, d4, q3.2.2.2, q2.2.2.2, q1.2.2.2, hdf]
  show Leaves Tryz.prog Tryz.f18 a15.tmps _ a15.defers .returning _
  rw [hdd]
  refine leaves_cons (f := 77) (args := #[.pointer (some ⟨w.heap.size, 0, none⟩), .pointer (some ⟨w.heap.size + 1, 0, none⟩)]) (by simp) (by simp [go_sem]) ?_
  refine (idle77 _ _ _).mono ?_
  rintro e u' w'' ⟨rfl, rfl, rfl⟩
  exact ⟨_, results_ci rfl _ _ _ _ _ _ T4 hg4 (by rw [List.size_toArray, hl]; kernel_rfl) T5 (blk_cell hi4 0), .mk _ rfl ⟨cs, rfl, hM4, hB5⟩⟩
set_option maxRecDepth 100000 in
theorem Xfs_c (l : List S50) (w : World) (hF : Fine l) (hN : RowsOk l) (hs : (printX l).size ≤ 40000) (hp : Spc w) :
    Calls Tryz.prog 7 #[.string (printX l)] w (Ret (SomeTree (rootX (stOf l)) w)) := by
  go_enter Tryz.func7, Tryz.ntmps7
  refine from_act _ (fun a => a.tmps.size = 10 ∧ a.tmps[0]?.getD undef = .string (printX l) ∧ a.defers = []) ⟨rfl, rfl, rfl⟩ ?_
  rintro a ⟨hz, h0, hdf⟩
  refine wp_seq (wp_region_lit ?_)
  refine val_go rfl rfl (by omega) (run_box9 _ _ _ _ _ _ 0 _ h0) (fun a1 q1 => ?_)
  have z1 := q1.1.trans hz
  refine val_go rfl rfl (by omega) (run_al35 _ _ _ _ _ _) (fun a2 q2 => ?_)
  have z2 := q2.1.trans z1
  have hs1 : (w.alloc (.cells #[.string (printX l)] 9)).heap.size = w.heap.size + 1 := by simp
  rw [hs1] at q2
  refine val_go rfl rfl (by omega) (run_asc _ _ _ _ _ _ _) (fun a3 q3 => ?_)
  have z3 := q3.1.trans z2
  have t1 := (q3.2.2.1 1 (by omega)).trans ((q2.2.2.1 1 (by omega)).trans q1.2.1)
  refine wp_seq (wp_region_lit ?_)
  refine val_go rfl rfl (by omega) (run_mf1 _ _ _ _ _ _ 1 16 _ t1) (fun a4 q4 => ?_)
  have z4 := q4.1.trans z3
  refine val_go rfl rfl (by omega) (run_as _ _ _ _ _ _ 5 _ q4.2.1) (fun a5 q5 => ?_)
  have z5 := q5.1.trans z4
  have hB0 : Below w.heap.size w ((w.alloc (.cells #[.string (printX l)] 9)).alloc (.cells zeroN 35)) := below_alloc (below_alloc (Below.refl _ _) _) _
  have hb0 : ((w.alloc (.cells #[.string (printX l)] 9)).alloc (.cells zeroN 35)).heap[w.heap.size]? = some (.cells #[.string (printX l)] 9 (0, 0)) := (blk_old _ _ _ (by omega)).trans (heap_alloc_new w _)
  have hg0 : ((w.alloc (.cells #[.string (printX l)] 9)).alloc (.cells zeroN 35)).heap[w.heap.size + 1]? = some (.cells zeroN 35 (0, 0)) := by
    have := heap_alloc_new (w.alloc (.cells #[.string (printX l)] 9)) (.cells zeroN 35)
    rw [hs1] at this
    exact this
  generalize (w.alloc (.cells #[.string (printX l)] 9)).alloc (.cells zeroN 35) = W at hB0 hb0 hg0 ⊢
  have hW : w.heap.size + 1 < W.heap.size := blk_lt hg0
  refine wp_seq (wp_region_lit ?_)
  refine val_go rfl rfl (by omega) (run_mv _ _ _ _ _ _ 4 _ q5.2.1) (fun a6 q6 => ?_)
  have z6 := q6.1.trans z5
  refine call_go rfl rfl (by omega) (run_call2f _ _ _ _ _ _ 6 18 19 _ _ _ (enters_of Tryz.func18 (by kernel_rfl) rfl) q6.2.1) (tree18_c l w.heap.size W hF hN hs (hp.keep hB0) (blk_cell hb0 0)) ?_
  rintro v w1 a7 ⟨cs, rfl, hM, hB⟩ q7
  have z7 := q7.1.trans z6
  refine val_go rfl rfl (by omega) (run_ex0 _ _ _ _ _ _ 7 _ _ q7.2.1) (fun a8 q8 => ?_)
  have z8 := q8.1.trans z7
  refine val_go rfl rfl (by omega) (run_ex1 _ _ _ _ _ _ 7 _ _ ((q8.2.2.1 7 (by omega)).trans q7.2.1)) (fun a9 q9 => ?_)
  have z9 := q9.1.trans z8
  have o9 : ∀ j, j < 3 → a9.tmps[j]?.getD undef = a2.tmps[j]?.getD undef := fun j hj => by
    rw [q9.2.2.1 j (by omega), q8.2.2.1 j (by omega), q7.2.2.1 j (by omega), q6.2.2.1 j (by omega), q5.2.2.1 j (by omega), q4.2.2.1 j (by omega), q3.2.2.1 j (by omega)]
  have t2 := (o9 2 (by omega)).trans q2.2.1
  have hg1 := (hB.block _ (by omega)).trans hg0
  refine store_node _ _ _ t2 ((q9.2.2.1 8 (by omega)).trans q8.2.1) hM hg1 rfl ?_
  refine val_go (a := a9) rfl rfl (by omega) (run_as _ _ _ _ _ _ 9 _ q9.2.1) (fun a10 q10 => ?_)
  refine wp_ret ?_
  have hl : cs.length = 8 := (kn 35 3).K_len ((kn 35 3).K_of_M hM)
  refine bodyPost_ret (results_ct rfl _ _ (w.heap.size + 1) 35 cs.toArray (0, 0) _ (by rw [Array.getD_eq_getD_getElem?]; exact (q10.2.2.1 2 (by omega)).trans t2) (setRow_heap hg1) Tryz.underlying35 rfl (by rw [List.size_toArray, hl]; kernel_rfl)) ?_ (.mk _ rfl ⟨cs, ?_, M_row hM (by omega) (by omega), below_setRow (hB0.trans (hB.mono (by omega))) (by omega)⟩)
  · rw [q10.2.2.2, q9.2.2.2, q8.2.2.2, q7.2.2.2, q6.2.2.2, q5.2.2.2, q4.2.2.2, q3.2.2.2, q2.2.2.2, q1.2.2.2]; exact hdf
  · rw [Array.getD_eq_getD_getElem?, q10.2.1]
end Go.Proofs.YtaniejfkbapbbaaGreatDoor
