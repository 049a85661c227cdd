/-
  laws.FnXfsNormal returns true for every text, and the text reads behind the call as it read before. No condition beyond the row's own: the listed package-level variables hold what the program's text lays (the card ties them).
-/
import Derived.Test.YtaniejfkbapbbaaGreatDoorXu
namespace Go.Proofs.YtaniejfkbapbbaaGreatDoor
open Go.RowKit

theorem mapM_all {α β : Type} {f : α → Option β} {g : α → β} : ∀ (l : List α), (∀ x ∈ l, f x = some (g x)) → l.mapM f = some (l.map g)
  | [], _ => by simp
  | x :: r, h => by
    rw [List.mapM_cons, h x (by simp), mapM_all r (fun y hy => h y (by simp [hy]))]
    rfl
theorem flat_pair : ∀ (l : List (Nat × Nat)) (i : Nat) (x : Nat × Nat), l[i]? = some x → ((l.flatMap fun x => [Value.int .u64 x.1, Value.int .u64 x.2]).drop (i * 2)).take 2 = [Value.int .u64 x.1, Value.int .u64 x.2]
  | [], _, _, h => by simp at h
  | y :: r, 0, x, h => by
    simp only [List.getElem?_cons_zero, Option.some.injEq] at h
    subst h
    rfl
  | y :: r, i + 1, x, h => by
    have := flat_pair r i x (by simpa using h)
    rw [List.flatMap_cons, show (i + 1) * 2 = i * 2 + 2 by omega]
    simpa using this
def pairD (x : Nat × Nat) : DataW Unit := .agg [.lit (.int .u64 x.1), .lit (.int .u64 x.2)]
theorem pair_reads (w : World) (x : Nat × Nat) (h : pairOk x = true) : DataW.trod (fun _ => ()) Tryz.prog w 0 (fun _ => true) false 2 369 [Value.int .u64 x.1, Value.int .u64 x.2] = some (pairD x, []) := by
  unfold pairOk at h
  simp only [Bool.and_eq_true, decide_eq_true_eq] at h
  have e1 : IntKind.u64.min = 0 := by kernel_rfl
  have e2 : IntKind.u64.max = 18446744073709551615 := by kernel_rfl
  have c1 : Tryz.prog.cellsOf 369 = 2 := by kernel_rfl
  have c2 : Tryz.prog.cellsOf 31 = 1 := by kernel_rfl
  have w1 : (Lit.int .u64 (x.1 : Int)).wf = true := by simp [Lit.wf, e1, e2]; omega
  have w2 : (Lit.int .u64 (x.2 : Int)).wf = true := by simp [Lit.wf, e1, e2]; omega
  simp [DataW.trod, Tryz.underlying369, Tryz.underlying31, c1, c2, w1, w2, pairD]
end Go.Proofs.YtaniejfkbapbbaaGreatDoor
namespace Go.Proofs.YtaniejfkbapbbaaGreatDoor
open Go.ChangeMaps Go.ChangeShapes Go.WideShapes Go.ChangeAt Go.RowKit Go.Proofs.YtaniejfkbapbbaaGreatDoorW.PrintWords

theorem trod_array {H : Type} {enc : TypeId × Value → H} {P : Program} {w : World} {base n k : Nat} {sp : Nat → Bool} {held : Bool} {t e : TypeId} {cs : List Value} {xs : List (DataW H × List MemPlace)} (ht : P.underlying t = some (.array k e)) (hl : cs.length = P.cellsOf t)
    (hm : (List.range k).mapM (fun i => DataW.trod enc P w base sp held n e ((cs.drop (i * P.cellsOf e)).take (P.cellsOf e))) = some xs) : DataW.trod enc P w base sp held (n + 1) t cs = some (.agg (xs.map (·.1)), xs.flatMap (·.2)) := by
  simp only [DataW.trod, ht]
  rw [if_pos hl, hm]
  rfl
set_option maxRecDepth 100000 in
theorem pow_reads (w : World) : DataW.trod (fun _ => ()) Tryz.prog w 0 (fun _ => true) false 3 370 powCells.toList = some (Rows.laid_internal_strconv_pow10Tab, []) := by
  have c1 : Tryz.prog.cellsOf 369 = 2 := by kernel_rfl
  have c2 : Tryz.prog.cellsOf 370 = 1392 := by kernel_rfl
  have hl : powCells.toList.length = 1392 := by
    have := pow_size
    simpa using this
  have hcl : powCells.toList = powL := by simp [powCells]
  have hm : (List.range 696).mapM (fun i => DataW.trod (fun _ => ()) Tryz.prog w 0 (fun _ => true) false 2 369 ((powCells.toList.drop (i * 2)).take 2)) = some ((List.range 696).map fun i => (pairD (Go.Pinned.pow10Rows.getD i (0, 0)), ([] : List MemPlace))) := by
    refine mapM_all _ (fun i hi => ?_)
    have hi' : i < Go.Pinned.pow10Rows.length := by rw [pow_len]; simpa using hi
    have hx : Go.Pinned.pow10Rows[i]? = some (Go.Pinned.pow10Rows.getD i (0, 0)) := by rw [List.getD_eq_getElem?_getD, List.getElem?_eq_getElem hi']; rfl
    rw [hcl]
    unfold powL
    rw [flat_pair _ i _ hx]
    exact pair_reads w _ (List.all_eq_true.1 pow_ok _ (List.mem_of_getElem? hx))
  have hd : (Rows.laid_internal_strconv_pow10Tab : DataW Unit) = .agg (((List.range 696).map fun i => (pairD (Go.Pinned.pow10Rows.getD i (0, 0)), ([] : List MemPlace))).map (·.1)) := by
    have : (List.range 696).map (fun i => pairD (Go.Pinned.pow10Rows.getD i (0, 0))) = Go.Pinned.pow10Rows.map pairD := by
      apply List.ext_getElem?
      intro i
      by_cases hi : i < 696
      · have hi' : i < Go.Pinned.pow10Rows.length := by rw [pow_len]; exact hi
        rw [List.getElem?_map, List.getElem?_range hi, List.getElem?_map, List.getElem?_eq_getElem hi']
        show some (pairD (Go.Pinned.pow10Rows.getD i (0, 0))) = some (pairD (Go.Pinned.pow10Rows[i]))
        rw [List.getD_eq_getElem?_getD, List.getElem?_eq_getElem hi']
        rfl
      · rw [List.getElem?_eq_none (by simpa using hi), List.getElem?_eq_none (by rw [List.length_map, pow_len]; omega)]
    rw [List.map_map]
    show _ = DataW.agg ((List.range 696).map (fun i => pairD (Go.Pinned.pow10Rows.getD i (0, 0))))
    rw [this]
    rfl
  have hp : ((List.range 696).map fun i => (pairD (Go.Pinned.pow10Rows.getD i (0, 0)), ([] : List MemPlace))).flatMap (·.2) = [] := by
    rw [List.flatMap_map]
    exact List.flatMap_eq_nil_iff.2 (fun _ _ => rfl)
  have := trod_array (n := 2) (H := Unit) (enc := fun _ => ()) (w := w) (base := 0) (sp := fun _ => true) (held := false) Tryz.underlying370 (by rw [hl, c2]) (by rw [c1]; exact hm)
  rw [this, hp, ← hd]
set_option maxRecDepth 100000 in
theorem laidPow (os : Os) : LaidIn Tryz.prog (callW os).memory [("internal/strconv.pow10Tab", Rows.laid_internal_strconv_pow10Tab)] [12] := by
  have hh : (callW os).memory.heap[12]? = some (.cells powCells 370 (0, 0)) := pow_heap os
  have hg : Tryz.prog.globalNamed "internal/strconv.pow10Tab" = some 12 := by kernel_rfl
  refine LaidIn.one (p := []) [12] hg (show (Tryz.prog.globals[12]?).map (·.type) = some 370 by kernel_rfl) ?_ (pow_reads _) (by rw [List.append_nil]; exact rowP_nodup _ _) ?_ ?_
  · simp [World.var?, hg, hh]
  · intro b off hb
    rw [List.append_nil] at hb
    obtain ⟨i, hi, he⟩ := MemPlace.mem_row.1 hb
    injection he with e1 e2
    simp only at e1 e2
    subst e1
    refine ⟨⟨_, _, hh⟩, fun u v hc => ?_⟩
    rw [blk_cell hh] at hc
    have hm : Value.iface u v ∈ powL := by
      have := Array.mem_of_getElem? hc
      simpa [powCells] using this
    obtain ⟨n, hn, _⟩ := pow_mem hm
    cases hn
  · intro x hx
    rw [List.append_nil] at hx
    obtain ⟨i, hi, rfl⟩ := MemPlace.mem_row.1 hx
    simp [MemPlace.block]
end Go.Proofs.YtaniejfkbapbbaaGreatDoor
namespace Go.Proofs.YtaniejfkbapbbaaGreatDoor
open Go.ChangeMaps Go.ChangeShapes Go.WideShapes Go.ChangeAt Go.RowKit Go.Proofs.YtaniejfkbapbbaaGreatDoorW.PrintWords

theorem laid_metX (os : Os) : laidMet Tryz.prog Rows.fnXfsNormalRow.laid (callW os).memory :=
  (((laid13 os).append (laidCheat os) (by kernel_rfl)).append (laidPow os) (by kernel_rfl)).met
theorem readsX (os : Os) {H : Type} (enc : TypeId × Value → H) : ∃ places, DataW.whole enc Tryz.prog (callW os).memory Tryz.f3.params.toList Rows.fnXfsNormalSpec.vars false #[Value.string ⟨#[]⟩].toList 8 = some ([.lit (.string [])], [], places) :=
  ⟨[], by kernel_rfl⟩
set_option maxRecDepth 100000 in
theorem liftedX (os : Os) (started : os.Started) (H : Type) (enc : TypeId × Value → H) (F : Stop.Interp) :
    ReturnsInHanded {} Tryz.checked os 3 .any ((OpenSpec.ofChange Rows.fnXfsNormalSpec).preRow enc Tryz.prog Tryz.f3 Rows.fnXfsNormalRow.domain false Rows.fnXfsNormalRow.laid) (((OpenSpec.ofChange Rows.fnXfsNormalSpec).at F).post enc Tryz.prog Tryz.f3 false true false false) := by
  obtain ⟨places, hx⟩ := readsX os enc
  refine returnsInHanded_of_row (C := Tryz.checked) (s := OpenSpec.ofChange Rows.fnXfsNormalSpec) ownX started (by kernel_rfl) Tryz.func3
    ⟨laidW os, fun _ _ => 0, ⟨#[], #[.string ⟨#[]⟩], []⟩, laidW_os os, laidW_shaped os, (Input.okWide_of_okWideB (base := 0) (laidW_ok os)).1, (Input.okWide_of_okWideB (laidW_ok os)).2,
      OpenSpec.preRow_of_cond 8 hx (by kernel_rfl) (fun k hk => by cases hk) (by kernel_rfl) (laid_metX os), by simp [Assume.holds]⟩ ?_
  intro W base args ds gs before hval hW _ _ _ hL _ _
  exact contractX H enc W base args ds gs before hval hW hL
set_option maxRecDepth 100000 in
theorem saidX : Rows.FnXfsNormalSaid :=
  OpenClaim.holds_of_cond 3 Tryz.f3 rfl rfl rfl rfl rfl rfl rfl ⟨rfl, rfl, rfl, rfl, rfl⟩ rfl rfl rfl rfl rfl (by kernel_rfl) Tryz.func3 (by kernel_rfl)
    (of_decide_eq_true (by kernel_rfl)) (by unfold Func.isWrapper; first | (rw [if_pos (by decide +kernel)]; kernel_rfl) | (rw [if_neg (by decide +kernel)]; exact ⟨rfl, rfl⟩))
    (fun os started H enc _ F => by rw [OpenClaim.pre_eq_preRow]; exact liftedX os started H enc F)
theorem plainX (f : FuncId) (fn : Func) (hf : Tryz.pinned.checked.prog.funcNamed "pub-frontispiece/laws.FnXfsNormal" = some f) (hfn : Tryz.pinned.checked.prog.funcs[f]? = some fn) :
    true = Tryz.pinned.checked.prog.looks [] ∧ ∀ (j : Nat) t, fn.params[j]? = some t → Tryz.pinned.checked.prog.wantsStandIn t = false := by
  obtain rfl : f = 3 := Option.some.inj ((show Tryz.prog.funcNamed "pub-frontispiece/laws.FnXfsNormal" = some 3 by kernel_rfl).symm.trans hf) |>.symm
  obtain rfl : fn = Tryz.f3 := (Option.some.inj (Tryz.func3.symm.trans hfn)).symm
  refine ⟨by kernel_rfl, fun j t ht => ?_⟩
  rw [Tryz.params3] at ht
  obtain rfl : t = 9 := by simpa using Array.mem_of_getElem? ht
  exact (show Tryz.prog.wantsStandIn 9 = false by kernel_rfl)
theorem fnXfsNormal_card_holds : Rows.FnXfsNormalCardSaid :=
  Claim7.holds_tied_plain_at .later [] _ _ _ _ saidX (fun _ h => by cases h) (by kernel_rfl) (fun _ h => by cases h) fnXfsNormal_row_tie rfl ⟨rfl, rfl⟩ (by kernel_rfl) rfl plainX (by kernel_rfl)
#print axioms fnXfsNormal_card_holds
end Go.Proofs.YtaniejfkbapbbaaGreatDoor
