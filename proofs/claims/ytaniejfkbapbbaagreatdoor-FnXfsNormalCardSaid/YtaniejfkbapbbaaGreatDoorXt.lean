/-
  Part of the proof of FnXfsNormal: what the listed variables give; the contract in the words of the row.
-/
import Derived.Test.YtaniejfkbapbbaaGreatDoorXm
import Derived.Test.YtaniejfkbapbbaaGreatDoorRows
import Derived.Lib.LaidU8
import Derived.ChangeArms
import Derived.FnData
import Derived.Test.YtaniejfkbapbbaaGreatDoorCards
import Derived.Test.YtaniejfkbapbbaaGreatDoorTie
import Derived.WalkKit
import Derived.ProofKit
import Derived.OpenShut
import Derived.ChangeMaps5
import Derived.Deep.DeepHandedRow
import Derived.Deep.DeepWitnessRowRef
namespace Go.Proofs.YtaniejfkbapbbaaGreatDoor
open Go.RowKit Go.Proofs.YtaniejfkbapbbaaGreatDoorW.PrintWords Go.Proofs.YtaniejfkbapbbaaGreatDoorW.PrintLast Go.Proofs.YtaniejfkbapbbaaGreatDoorW.PrintMore
open Go.ChangeShapes

section
variable {H : Type} {enc : TypeId × Value → H} {P : Program} {w : World} {base : Nat} {spare : Nat → Bool} {held : Bool} {fuel : Nat} {t : TypeId} {cs : List Value} {x : DataW H × List MemPlace}
theorem trod_float {k : FloatKind} (ht : P.underlying t = some (.float k)) (h : DataW.trod enc P w base spare held fuel t cs = some x) : ∃ b, cs = [.float k b] ∧ x = (.lit (.float k b), []) := by
  cases fuel with
  | zero => simp [DataW.trod] at h
  | succ n =>
    unfold DataW.trod at h
    rw [ht] at h
    split at h <;> simp_all
end
theorem met {W : World} (h : laidMetH Tryz.prog Rows.fnXfsNormalRow.laid W) : laidMet Tryz.prog Rows.fnXfsNormalRow.laid W := h
set_option maxRecDepth 100000 in
theorem spc_of {W : World} (h : laidMetH Tryz.prog Rows.fnXfsNormalRow.laid W) : Spc W := by
  have hr := Lib.laidMet.reads (met h) (n := "strings.asciiSpace") (d := Rows.laid_strings_asciiSpace) (List.mem_of_getElem? (i := 12) rfl)
  obtain ⟨g', t', cs, fuel, p, hg, hty, hvar, hd⟩ := hr
  obtain rfl := Option.some.inj ((show Tryz.prog.globalNamed "strings.asciiSpace" = some 1 by kernel_rfl).symm.trans hg)
  obtain rfl := Option.some.inj ((show (Tryz.prog.globals[1]?).map (·.type) = some 262 by kernel_rfl).symm.trans hty)
  have hcs := Lib.cells_of_tab (k := .u8) (zs := Lib.asciiSpaceTab) Tryz.underlying262 Tryz.underlying5 (by kernel_rfl) (by kernel_rfl) hd
  have ht : Lib.TabIs Tryz.prog W "strings.asciiSpace" .u8 Lib.asciiSpaceTab := by
    unfold Lib.TabIs
    rw [hvar, ← hcs]
  intro c hc
  have := ht.cell (show Tryz.prog.globalNamed "strings.asciiSpace" = some 1 by kernel_rfl) c (by rw [Lib.asciiSpaceTab_length]; exact hc)
  rw [Lib.asciiSpaceTab_at c hc] at this
  exact this
theorem flt_of {W : World} (h : laidMetH Tryz.prog Rows.fnXfsNormalRow.laid W) : ∃ pb, Flt W pb := by
  have r1 := Lib.laidMet.reads (met h) (n := "internal/strconv.optimize") (d := Rows.laid_internal_strconv_optimize) (List.mem_of_getElem? (i := 4) rfl)
  have r2 := Lib.laidMet.reads (met h) (n := "internal/strconv.float64info") (d := Rows.laid_internal_strconv_float64info) (List.mem_of_getElem? (i := 3) rfl)
  have r3 := Lib.laidMet.reads (met h) (n := "internal/strconv.float64pow10") (d := Rows.laid_internal_strconv_float64pow10) (List.mem_of_getElem? (i := 6) rfl)
  have f1 : W.cell? ⟨6, 0, none⟩ = some (.bool true) := by
    obtain ⟨g', t', cs, fuel, p, hg, hty, hvar, hd⟩ := r1
    have hgg : Tryz.prog.globalNamed "internal/strconv.optimize" = some 6 := by kernel_rfl
    obtain rfl := Option.some.inj (hgg.symm.trans hg)
    obtain rfl := Option.some.inj ((show (Tryz.prog.globals[6]?).map (·.type) = some 4 by kernel_rfl).symm.trans hty)
    obtain ⟨b, hb, hx⟩ := DataW.trod_bool Tryz.underlying4 hd
    have hbt : b = true := by
      have := congrArg Prod.fst hx
      simpa [Rows.laid_internal_strconv_optimize] using this.symm
    subst hbt
    rw [World.var?_cell hgg hvar 0, ← Array.getElem?_toList, hb]
    rfl
  have f2 : W.cell? ⟨7, 0, none⟩ = some (.int .u64 52) := by
    obtain ⟨g', t', cs, fuel, p, hg, hty, hvar, hd⟩ := r2
    have hgg : Tryz.prog.globalNamed "internal/strconv.float64info" = some 7 := by kernel_rfl
    obtain rfl := Option.some.inj (hgg.symm.trans hg)
    obtain rfl := Option.some.inj ((show (Tryz.prog.globals[7]?).map (·.type) = some 324 by kernel_rfl).symm.trans hty)
    obtain ⟨xs, n, rfl, hx, hl, hxl, hall⟩ := DataW.trod_struct Tryz.underlying324 hd
    have h0 := hall 0 _ rfl
    have hx0 : xs.map (·.1) = [.lit (.int .u64 52), .lit (.int .u64 11), .lit (.int .i64 (-1023))] := by
      have := congrArg Prod.fst hx
      simpa [Rows.laid_internal_strconv_float64info] using this.symm
    cases xs with
    | nil => simp at hx0
    | cons y ys =>
      obtain ⟨y1, y2⟩ := y
      simp only [List.map_cons, List.cons.injEq] at hx0
      obtain ⟨rfl, _⟩ := hx0
      obtain ⟨n', hc, hy, _⟩ := DataW.trod_int Tryz.underlying299 h0
      have hn : n' = 52 := by
        have := congrArg Prod.fst hy
        simp only [DataW.lit.injEq, Lit.int.injEq, true_and] at this
        exact this.symm
      subst hn
      rw [World.var?_cell hgg hvar 0, ← Array.getElem?_toList]
      have := congrArg (·[0]?) hc
      have h3 : 0 < Tryz.prog.cellsOf 299 ∧ cs[0]? = some (Value.int .u64 52) := by simpa [List.getElem?_take, List.getElem?_drop] using this
      simpa using h3.2
  obtain ⟨g', t', cs, fuel, p, hg, hty, hvar, hd⟩ := r3
  have hgg : Tryz.prog.globalNamed "internal/strconv.float64pow10" = some 10 := by kernel_rfl
  obtain rfl := Option.some.inj (hgg.symm.trans hg)
  obtain rfl := Option.some.inj ((show (Tryz.prog.globals[10]?).map (·.type) = some 282 by kernel_rfl).symm.trans hty)
  rcases DataW.trod_slice Tryz.underlying282 hd with ⟨_, hx⟩ | ⟨a, len, cap, el, rs, m, rfl, hcs, hx, _, hlc, _, hel, helem, hsp, _⟩
  · cases hx
  have e0 := congrArg Prod.fst hx
  simp only [Rows.laid_internal_strconv_float64pow10, DataW.slice.injEq] at e0
  obtain ⟨eE, _⟩ := e0
  have hlen : len = 23 := by
    have := congrArg List.length eE
    simp at this
    omega
  subst hlen
  have hc1 : Tryz.prog.cellsOf 32 = 1 := by kernel_rfl
  have hcell : ∀ i b, i < 23 → (el.map (·.1))[i]? = some (.lit (.float .f64 b)) → W.cell? (a.add i) = some (.float .f64 b) := by
    intro i b hi hb
    have h1 := helem i hi
    rw [hc1, Nat.mul_one] at h1
    rw [List.getElem?_map] at hb
    obtain ⟨y, hy, hyb⟩ := Option.map_eq_some_iff.1 hb
    rw [hy] at h1
    obtain ⟨ce, hce, hte⟩ := Option.bind_eq_some_iff.1 h1
    obtain ⟨b', hcb, hyx⟩ := trod_float Tryz.underlying32 hte
    have hbb : b' = b := by
      rw [hyx] at hyb
      simpa using hyb
    subst hbb
    obtain ⟨_, _, hcc⟩ := World.cells?_some hce
    have := hcc 0 (by omega)
    rw [hcb] at this
    simpa [Addr.add] using this
  have k0 := hcell 0 4607182418800017408 (by omega) (by rw [← eE]; rfl)
  have k1 := hcell 1 4621819117588971520 (by omega) (by rw [← eE]; rfl)
  have k2 := hcell 2 4636737291354636288 (by omega) (by rw [← eE]; rfl)
  obtain ⟨b, o, sp⟩ := a
  have hsp' : sp = none := by
    have k0' : W.cell? ⟨b, o, sp⟩ = some (.float .f64 4607182418800017408) := by simpa [Addr.add] using k0
    exact cell_spot k0'
  subst hsp'
  refine ⟨b, f1, f2, o, cap, ?_, ?_, ?_⟩
  · rw [World.var?_cell hgg hvar 0, ← Array.getElem?_toList, hcs]
    rfl
  · rw [Addr.add_mid] at k1; exact k1
  · rw [Addr.add_mid] at k2; exact k2
end Go.Proofs.YtaniejfkbapbbaaGreatDoor
namespace Go.Proofs.YtaniejfkbapbbaaGreatDoor
open Go.ChangeMaps Go.ChangeShapes Go.WideShapes Go.ChangeAt Go.RowKit
open Go.Proofs.YtaniejfkbapbbaaGreatDoorW.PrintWords Go.Proofs.YtaniejfkbapbbaaGreatDoorW.PrintLast Go.Proofs.YtaniejfkbapbbaaGreatDoorW.PrintMore

theorem ownX : ownKnob Tryz.prog.godebug = none := by kernel_rfl
set_option maxRecDepth 100000 in
/-- What the walk gives for every text and every world that holds the tables. -/
theorem contractX (H : Type) (enc : TypeId × Value → H) (W : World) (base : Nat) (args : Array Value) (ds gs : List (DataW H)) (before : List MemPlace)
    (hval : ∀ (j : Nat) t v, Tryz.f3.params[j]? = some t → args[j]? = some v → Value.okWide Tryz.prog W .any base t v)
    (hW : DataW.Whole enc Tryz.prog Tryz.f3.params.toList Rows.fnXfsNormalSpec.vars false W args.toList ds gs before) (hL : laidMetH Tryz.prog Rows.fnXfsNormalRow.laid W) :
    Calls Tryz.prog 3 args W fun e W' => ∃ v, e = .returned v ∧ Rows.fnXfsNormalSpec.post enc Tryz.prog Tryz.f3 false true false false W args v W' := by
  have hW' := hW
  obtain ⟨p, q, hA0, hV, rfl, hfz, hnd⟩ := hW
  have hA : DataW.TrodAll enc Tryz.prog W 0 (fun _ => true) true Tryz.f3.params.toList args.toList ds p := hA0
  rw [Tryz.params3] at hA hval
  obtain ⟨v0, vs0, d0, ds0, p0, q0, hargs, rfl, rfl, h0, r0⟩ := trodAll_cons hA
  obtain ⟨rfl, rfl, rfl⟩ := trodAll_nil r0
  obtain rfl : args = #[v0] := by cases args; simp_all
  obtain ⟨rfl, rfl⟩ := trodVars_none hV
  obtain ⟨s, rfl, rfl, rfl, hs⟩ := open_string Tryz.underlying9 (hval 0 9 v0 rfl rfl) h0
  clear hA0
  simp only [List.append_nil] at hW'
  obtain ⟨pb, hF⟩ := flt_of hL
  refine (FnXfsNormal_c s pb W hF (spc_of hL)).mono ?_
  rintro e W' ⟨v, rfl, rfl, hB⟩
  exact ⟨_, rfl, ⟨_, _, _, [], _, [], hW', trodAll_mk1 (shut_bool Tryz.underlying4 _), trodAll_mk1 (shut_string Tryz.underlying9 hs), rfl, hB.frame _, fun h => by cases h⟩⟩
end Go.Proofs.YtaniejfkbapbbaaGreatDoor
