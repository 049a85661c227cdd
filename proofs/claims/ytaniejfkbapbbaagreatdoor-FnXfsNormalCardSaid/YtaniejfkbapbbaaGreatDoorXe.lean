/-
  Part of the proof of FnXfsNormal: ParseStats reads the print of fine rows into cells that are a function of the rows.
-/
import Derived.Test.YtaniejfkbapbbaaGreatDoorXc
import Derived.Test.YtaniejfkbapbbaaGreatDoorXb
namespace Go.Proofs.YtaniejfkbapbbaaGreatDoor
open Go.RowKit Go.Proofs.YtaniejfkbapbbaaGreatDoorW.PrintWords Go.Proofs.YtaniejfkbapbbaaGreatDoorW.PrintLast Go.Proofs.YtaniejfkbapbbaaGreatDoorW.PrintMore
open Go.Proofs.YtaniejfkbapbbaaGreatDoor.PFnXfsNormal (S50 k50 k50_mkM info5 info9 info31 info50 info126)

structure Rg (a : Act) (g m : Nat) : Prop where
  z : a.tmps.size = 364
  df : a.defers = []
  t4 : a.tmps[4]?.getD undef = .pointer (some ⟨m, 0, none⟩)
  t5 : a.tmps[5]?.getD undef = .pointer (some ⟨g, 0, none⟩)
theorem Rg.to {a a' : Act} {g m b d : Nat} (h : Rg a g m) (f : Fr a a' b d) (hb : 5 < b) (hd : d ≠ 4 ∧ d ≠ 5) : Rg a' g m :=
  ⟨f.sz.trans h.z, f.df.trans h.df, (f.at_ 4 (by omega) (by omega)).trans h.t4, (f.at_ 5 (by omega) (by omega)).trans h.t5⟩
structure Rl (a : Act) (g m ub : Nat) (r : S50) : Prop where
  G : Rg a g m
  t6 : a.tmps[6]?.getD undef = .slice (some ⟨ub, 0, none⟩) (r.f1.length + 1) (r.f1.length + 1)
  t7 : a.tmps[7]?.getD undef = .string r.f0
theorem Rl.to {a a' : Act} {g m ub b d : Nat} {r : S50} (h : Rl a g m ub r) (f : Fr a a' b d) (hb : 7 < b) (hd : 7 < d) : Rl a' g m ub r :=
  ⟨h.G.to f (by omega) (by omega), (f.at_ 6 (by omega) (by omega)).trans h.t6, (f.at_ 7 (by omega) (by omega)).trans h.t7⟩
structure Rc (a : Act) (g m vb vc : Nat) (r : S50) : Prop where
  G : Rg a g m
  t14 : a.tmps[14]?.getD undef = .slice (some ⟨vb, 0, none⟩) r.f1.length vc
  t110 : a.tmps[110]?.getD undef = .string r.f0
theorem Rc.to {a a' : Act} {g m vb vc b d : Nat} {r : S50} (h : Rc a g m vb vc r) (f : Fr a a' b d) (hb : 110 < b) (hd : 110 < d) : Rc a' g m vb vc r :=
  ⟨h.G.to f (by omega) (by omega), (f.at_ 14 (by omega) (by omega)).trans h.t14, (f.at_ 110 (by omega) (by omega)).trans h.t110⟩

set_option maxRecDepth 100000 in
set_option maxHeartbeats 8000000 in
theorem ParseStats_c (l : List S50) (w : World) (hF : Fine l) (hN : RowsOk l) (hs : (printX l).size ≤ 40000) (hp : Spc w) :
    Calls Tryz.prog 17 #[.string (printX l)] w (Ret (fun v w' => ∃ m, v = .tuple #[.pointer (some ⟨m, 0, none⟩), .nilIface] ∧ BoxX w' m (stOf l) ∧ Below w.heap.size w w')) := by
  go_enter Tryz.func17, Tryz.ntmps17
  refine start17 (s := printX l) rfl rfl rfl (fun a0 w1 hz hdf h4 h5 hS => ?_)
  generalize w.heap.size + 1 = g at h5 hS
  generalize hmm : w.heap.size = m at h4 hS
  refine wp_seq_k (fun K hK => ?_)
  refine wp_block ?_
  refine wp_loop_ghost (fun n a' w' => ∃ k, k ≤ l.length ∧ n = l.length - k ∧ Rg a' g m ∧ Sc w w' g m (printX (l.drop k)) (stOf (l.take k)) ∧ (printX (l.drop k)).size ≤ 40000) l.length ⟨0, by omega, rfl, ⟨hz, hdf, h4, h5⟩, hS, hs⟩ ?_
  clear hz hdf h4 h5 hS w1 a0
  rintro n a w1 ⟨k, hk, rfl, hR, hS, hsk⟩
  by_cases hlt : k < l.length
  · obtain ⟨r, hr⟩ : ∃ r, l[k]? = some r := ⟨l[k], List.getElem?_eq_getElem hlt⟩
    have hm := List.mem_of_getElem? hr
    have hfr := hF r hm
    have hnr := (hN r hm).1
    have hlr := (hN r hm).2.1
    have ht := printX_drop hr hfr
    have hst := stOf_next hr
    have hsz : (textX r).size + 1 + (printX (l.drop (k + 1))).size ≤ 40000 := by
      rw [ht, ByteArray.size_append, ByteArray.size_append] at hsk
      exact hsk
    have hlen0 : 0 < r.f1.length := by
      have h0 := (xt_text _ hfr.1).2.1
      simp only at h0
      omega
    clear hsk
    refine wp_seq (scan_yes hfr (by omega) hR.z hR.t5 ht hS (fun a1 w2 f1 hb1 S1 => ?_))
    have R1 := hR.to f1 (by omega) (by omega)
    clear hS hR f1
    refine wp_block ?_
    refine wp_seq (words_reg hfr (by omega) R1.z R1.t5 hb1 S1 hp (fun a2 w3 ub f2 h6 hw S2 => ?_))
    have R2 := R1.to f2 (by omega) (by omega)
    clear S1 R1 f2 hb1
    refine wp_seq (two_reg R2.z h6 hlen0 (fun a3 f3 => ?_))
    have h6' := (f3.at_ 6 (by omega) (by omega)).trans h6
    have R3 := R2.to f3 (by omega) (by omega)
    refine wp_seq (label_reg R3.z h6' hw (fun a4 f4 h7 => ?_))
    have L4 : Rl a4 g m ub r := ⟨R3.to f4 (by omega) (by omega), (f4.at_ 6 (by omega) (by omega)).trans h6', h7⟩
    clear R2 R3 h6 h6' h7 f3 f4
    refine wp_seq (gc_reg L4.G.z L4.t7 hfr.2.1 (fun a5 f5 => ?_))
    have L5 := L4.to f5 (by omega) (by omega)
    clear L4 f5
    have hfin : ∀ a' w', Rg a' g m → Sc w w' g m (printX (l.drop (k + 1))) (stRow (stOf (l.take k)) r) → ∃ n', n' < l.length - k ∧ ∃ k, k ≤ l.length ∧ n' = l.length - k ∧ Rg a' g m ∧ Sc w w' g m (printX (l.drop k)) (stOf (l.take k)) ∧ (printX (l.drop k)).size ≤ 40000 :=
      fun a' w' hg hs' => ⟨l.length - (k + 1), by omega, k + 1, by omega, rfl, hg, by rw [hst]; exact hs', by omega⟩
    refine wp_seq (cmp_no (b := 61) L5.t7 (by rw [L5.G.z]; omega) (fun hx a6 f6 => ?_) (fun hx a6 f6 => ?_))
    · have L6 := L5.to f6 (by omega) (by omega)
      refine wp_seq (parse_reg (b := 63) (d := 10) (e := 11) (k := .u64) (xs := r.f1) (parse64_c r.f1 ub _ _ (words_at r hw) hnr hlr) (enters_of Tryz.func41 (by kernel_rfl) rfl) (by omega) (by rw [L6.G.z]; omega) L6.t6 hlen0 (Nat.le_refl _) (fun b1 w4 vb vc z1 d1 o1 v1 v2 hu hB => ?_))
      have G1 : Rg b1 g m := ⟨z1.trans L6.G.z, d1.trans L6.G.df, (o1 4 (by omega) (by omega) (by omega)).trans L6.G.t4, (o1 5 (by omega) (by omega) (by omega)).trans L6.G.t5⟩
      have S3 := S2.keep hB
      refine wp_seq (err_no (b := 69) v2 (by rw [G1.z]; omega) (fun b2 f6 => ?_))
      have G2 := G1.to f6 (by omega) (by omega)
      have v1' := (f6.at_ 10 (by omega) (by omega)).trans v1
      refine wp_seq ?_
      have e0 := fine_len hfr
      rw [hx] at e0
      have e1 : r.f1.length = 3 := e0.trans (by kernel_rfl)
      have hu' := hu
      have h14' := v1'
      rw [e1] at hu' h14'
      refine hit_reg (b := 72) (r := r) (o := 65) (n := 3) (k := .u64) (ub := vb) (uc := vc) (cs := #[.int .u64 (r.f1.getD 0 0), .int .u64 (r.f1.getD 1 0), .int .u64 (r.f1.getD 2 0)]) (fun w hw => build43 (fun j => r.f1.getD j 0) vb vc w hw) (enters_of Tryz.func43 (by kernel_rfl) rfl) (fun a w h => by go_simp) rfl (by kernel_rfl) (by rw [hx]; kernel_rfl) e1 (by omega) (by omega) (by decide) (by omega) (by rw [G2.z]; omega) h14' G2.t4 hu' S3 (fun a9 w9 f9 g9 S9 => ?_)
      refine wp_seq (err_no (b := 78) g9 (by rw [f9.sz, G2.z]; omega) (fun b3 f7 => ?_))
      exact wp_exit (hfin b3 w9 ((G2.to f9 (by omega) (by omega)).to f7 (by omega) (by omega)) S9)
    have L6 := L5.to f6 (by omega) (by omega)
    clear L5 f6
    refine wp_seq (cmp_no (b := 81) L6.t7 (by rw [L6.G.z]; omega) (fun hd a7 f7 => ?_) (fun hd a7 f7 => ?_))
    · have L7 := L6.to f7 (by omega) (by omega)
      refine wp_seq (parse_reg (b := 83) (d := 12) (e := 13) (k := .u64) (xs := r.f1) (parse64_c r.f1 ub _ _ (words_at r hw) hnr hlr) (enters_of Tryz.func41 (by kernel_rfl) rfl) (by omega) (by rw [L7.G.z]; omega) L7.t6 hlen0 (Nat.le_refl _) (fun b1 w4 vb vc z1 d1 o1 v1 v2 hu hB => ?_))
      have G1 : Rg b1 g m := ⟨z1.trans L7.G.z, d1.trans L7.G.df, (o1 4 (by omega) (by omega) (by omega)).trans L7.G.t4, (o1 5 (by omega) (by omega) (by omega)).trans L7.G.t5⟩
      have S3 := S2.keep hB
      refine wp_seq (err_no (b := 89) v2 (by rw [G1.z]; omega) (fun b2 f8 => ?_))
      have G2 := G1.to f8 (by omega) (by omega)
      have v1' := (f8.at_ 12 (by omega) (by omega)).trans v1
      refine wp_seq ?_
      have e0 := fine_len hfr
      rw [hd] at e0
      have e1 : r.f1.length = 1 := e0.trans (by kernel_rfl)
      have hu' := hu
      have h14' := v1'
      rw [e1] at hu' h14'
      refine hit_reg (b := 92) (r := r) (o := 274) (n := 1) (k := .u64) (ub := vb) (uc := vc) (cs := #[.int .u64 (r.f1.getD 0 0)]) (fun w hw => build44 (fun j => r.f1.getD j 0) vb vc w hw) (enters_of Tryz.func44 (by kernel_rfl) rfl) (fun a w h => by go_simp) rfl (by kernel_rfl) (by rw [hd]; kernel_rfl) e1 (by omega) (by omega) (by decide) (by omega) (by rw [G2.z]; omega) h14' G2.t4 hu' S3 (fun a9 w9 f9 g9 S9 => ?_)
      refine wp_seq (err_no (b := 98) g9 (by rw [f9.sz, G2.z]; omega) (fun b3 fa => ?_))
      exact wp_exit (hfin b3 w9 ((G2.to f9 (by omega) (by omega)).to fa (by omega) (by omega)) S9)
    have L7 := L6.to f7 (by omega) (by omega)
    clear L6 f7
    have hsm : ∀ x ∈ r.f1, 0 ≤ x ∧ x < 4294967296 := fun x hx' => ⟨(hnr x hx').1, by
      rcases hfr.2.2 with h1 | h1 | h1
      · exact absurd h1 hx
      · exact absurd h1 hd
      · exact h1 x hx'⟩
    refine wp_seq (parse_reg (b := 101) (d := 14) (e := 15) (k := .u32) (xs := r.f1) (parse32_c r.f1 ub _ _ (words_at r hw) hsm hlr) (enters_of Tryz.func45 (by kernel_rfl) rfl) (by omega) (by rw [L7.G.z]; omega) L7.t6 hlen0 (Nat.le_refl _) (fun b1 w4 vb vc z1 d1 o1 v1 v2 hu hB => ?_))
    have G1 : Rg b1 g m := ⟨z1.trans L7.G.z, d1.trans L7.G.df, (o1 4 (by omega) (by omega) (by omega)).trans L7.G.t4, (o1 5 (by omega) (by omega) (by omega)).trans L7.G.t5⟩
    have h7 := (o1 7 (by omega) (by omega) (by omega)).trans L7.t7
    have S3 := S2.keep hB
    refine wp_seq (err_no (b := 107) v2 (by rw [G1.z]; omega) (fun b2 f8 => ?_))
    have G2 := G1.to f8 (by omega) (by omega)
    have v1' := (f8.at_ 14 (by omega) (by omega)).trans v1
    have h7' := (f8.at_ 7 (by omega) (by omega)).trans h7
    clear L7 G1 v1 v2 h7 o1 z1 d1 f8 S2 hB
    refine wp_seq_k (fun K2 hK2 => ?_)
    have hEnd : ∀ a' w', Rg a' g m → a'.tmps[15]?.getD undef = .nilIface → Sc w w' g m (printX (l.drop (k + 1))) (stRow (stOf (l.take k)) r) → K2 a' w' :=
      fun a' w' hg h15 hs' => hK2 a' w' (err_no (b := 359) h15 (by rw [hg.z]; omega) (fun a'' f'' => hfin a'' w' (hg.to f'' (by omega) (by omega)) hs'))
    refine wp_seq (wp_region_lit ?_)
    refine val_go rfl rfl (by rw [G2.z]; omega) (run_mv _ _ _ _ _ _ 7 _ h7') (fun b3 q3 => ?_)
    have C0 : Rc b3 g m vb vc r := ⟨⟨q3.1.trans G2.z, q3.2.2.2.trans G2.df, (q3.2.2.1 4 (by omega)).trans G2.t4, (q3.2.2.1 5 (by omega)).trans G2.t5⟩, (q3.2.2.1 14 (by omega)).trans v1', q3.2.1⟩
    refine wp_block ?_
    clear hK2 G2 v1' h7' q3 hfin hK
    refine cmp_go (b := 111) C0.t110 (by rw [C0.G.z]; omega) (fun h0 c0 f0 => ?_) (fun h0 c0 f0 => ?_)
    · have D := C0.to f0 (by omega) (by omega)
      have e0 := fine_len hfr
      rw [h0] at e0
      have e1 : r.f1.length = 4 := e0.trans (by kernel_rfl)
      have hu' := hu
      have h14' := D.t14
      rw [e1] at hu' h14'
      refine hit_reg (b := 113) (r := r) (o := 1) (n := 4) (k := .u32) (ub := vb) (uc := vc) (cs := #[.int .u32 (r.f1.getD 0 0), .int .u32 (r.f1.getD 1 0), .int .u32 (r.f1.getD 2 0), .int .u32 (r.f1.getD 3 0)]) (fun w hw => build46 (fun j => r.f1.getD j 0) vb vc w hw) (enters_of Tryz.func46 (by kernel_rfl) rfl) (fun a w h => by go_simp) rfl (by kernel_rfl) (by rw [h0]; kernel_rfl) e1 (by omega) (by omega) (by decide) (by omega) (by rw [D.G.z]; omega) h14' D.G.t4 hu' S3 (fun a9 w9 f9 g9 S9 => ?_)
      exact hEnd a9 w9 (D.G.to f9 (by omega) (by omega)) g9 S9
    have C1 := C0.to f0 (by omega) (by omega)
    clear C0 f0
    refine cmp_go (b := 119) C1.t110 (by rw [C1.G.z]; omega) (fun h1 c1 f1 => ?_) (fun h1 c1 f1 => ?_)
    · have D := C1.to f1 (by omega) (by omega)
      have e0 := fine_len hfr
      rw [h1] at e0
      have e1 : r.f1.length = 4 := e0.trans (by kernel_rfl)
      have hu' := hu
      have h14' := D.t14
      rw [e1] at hu' h14'
      refine hit_reg (b := 121) (r := r) (o := 5) (n := 4) (k := .u32) (ub := vb) (uc := vc) (cs := #[.int .u32 (r.f1.getD 0 0), .int .u32 (r.f1.getD 1 0), .int .u32 (r.f1.getD 2 0), .int .u32 (r.f1.getD 3 0)]) (fun w hw => build47 (fun j => r.f1.getD j 0) vb vc w hw) (enters_of Tryz.func47 (by kernel_rfl) rfl) (fun a w h => by go_simp) rfl (by kernel_rfl) (by rw [h1]; kernel_rfl) e1 (by omega) (by omega) (by decide) (by omega) (by rw [D.G.z]; omega) h14' D.G.t4 hu' S3 (fun a9 w9 f9 g9 S9 => ?_)
      exact hEnd a9 w9 (D.G.to f9 (by omega) (by omega)) g9 S9
    have C2 := C1.to f1 (by omega) (by omega)
    clear C1 f1
    refine cmp_go (b := 127) C2.t110 (by rw [C2.G.z]; omega) (fun h2 c2 f2 => ?_) (fun h2 c2 f2 => ?_)
    · have D := C2.to f2 (by omega) (by omega)
      have e0 := fine_len hfr
      rw [h2] at e0
      have e1 : r.f1.length = 7 := e0.trans (by kernel_rfl)
      have hu' := hu
      have h14' := D.t14
      rw [e1] at hu' h14'
      refine hit_reg (b := 129) (r := r) (o := 9) (n := 7) (k := .u32) (ub := vb) (uc := vc) (cs := #[.int .u32 (r.f1.getD 0 0), .int .u32 (r.f1.getD 1 0), .int .u32 (r.f1.getD 2 0), .int .u32 (r.f1.getD 3 0), .int .u32 (r.f1.getD 4 0), .int .u32 (r.f1.getD 5 0), .int .u32 (r.f1.getD 6 0)]) (fun w hw => build48 (fun j => r.f1.getD j 0) vb vc w hw) (enters_of Tryz.func48 (by kernel_rfl) rfl) (fun a w h => by go_simp) rfl (by kernel_rfl) (by rw [h2]; kernel_rfl) e1 (by omega) (by omega) (by decide) (by omega) (by rw [D.G.z]; omega) h14' D.G.t4 hu' S3 (fun a9 w9 f9 g9 S9 => ?_)
      exact hEnd a9 w9 (D.G.to f9 (by omega) (by omega)) g9 S9
    have C3 := C2.to f2 (by omega) (by omega)
    clear C2 f2
    refine cmp_go (b := 135) C3.t110 (by rw [C3.G.z]; omega) (fun h3 c3 f3 => ?_) (fun h3 c3 f3 => ?_)
    · have D := C3.to f3 (by omega) (by omega)
      have e0 := fine_len hfr
      rw [h3] at e0
      have e1 : r.f1.length = 4 := e0.trans (by kernel_rfl)
      have hu' := hu
      have h14' := D.t14
      rw [e1] at hu' h14'
      refine hit_reg (b := 137) (r := r) (o := 16) (n := 4) (k := .u32) (ub := vb) (uc := vc) (cs := #[.int .u32 (r.f1.getD 0 0), .int .u32 (r.f1.getD 1 0), .int .u32 (r.f1.getD 2 0), .int .u32 (r.f1.getD 3 0)]) (fun w hw => build47 (fun j => r.f1.getD j 0) vb vc w hw) (enters_of Tryz.func47 (by kernel_rfl) rfl) (fun a w h => by go_simp) rfl (by kernel_rfl) (by rw [h3]; kernel_rfl) e1 (by omega) (by omega) (by decide) (by omega) (by rw [D.G.z]; omega) h14' D.G.t4 hu' S3 (fun a9 w9 f9 g9 S9 => ?_)
      exact hEnd a9 w9 (D.G.to f9 (by omega) (by omega)) g9 S9
    have C4 := C3.to f3 (by omega) (by omega)
    clear C3 f3
    refine cmp_go (b := 143) C4.t110 (by rw [C4.G.z]; omega) (fun h4 c4 f4 => ?_) (fun h4 c4 f4 => ?_)
    · have D := C4.to f4 (by omega) (by omega)
      have e0 := fine_len hfr
      rw [h4] at e0
      have e1 : r.f1.length = 4 := e0.trans (by kernel_rfl)
      have hu' := hu
      have h14' := D.t14
      rw [e1] at hu' h14'
      refine hit_reg (b := 145) (r := r) (o := 20) (n := 4) (k := .u32) (ub := vb) (uc := vc) (cs := #[.int .u32 (r.f1.getD 0 0), .int .u32 (r.f1.getD 1 0), .int .u32 (r.f1.getD 2 0), .int .u32 (r.f1.getD 3 0)]) (fun w hw => build49 (fun j => r.f1.getD j 0) vb vc w hw) (enters_of Tryz.func49 (by kernel_rfl) rfl) (fun a w h => by go_simp) rfl (by kernel_rfl) (by rw [h4]; kernel_rfl) e1 (by omega) (by omega) (by decide) (by omega) (by rw [D.G.z]; omega) h14' D.G.t4 hu' S3 (fun a9 w9 f9 g9 S9 => ?_)
      exact hEnd a9 w9 (D.G.to f9 (by omega) (by omega)) g9 S9
    have C5 := C4.to f4 (by omega) (by omega)
    clear C4 f4
    refine cmp_go (b := 151) C5.t110 (by rw [C5.G.z]; omega) (fun h5 c5 f5 => ?_) (fun h5 c5 f5 => ?_)
    · have D := C5.to f5 (by omega) (by omega)
      have e0 := fine_len hfr
      rw [h5] at e0
      have e1 : r.f1.length = 3 := e0.trans (by kernel_rfl)
      have hu' := hu
      have h14' := D.t14
      rw [e1] at hu' h14'
      refine hit_reg (b := 153) (r := r) (o := 24) (n := 3) (k := .u32) (ub := vb) (uc := vc) (cs := #[.int .u32 (r.f1.getD 0 0), .int .u32 (r.f1.getD 1 0), .int .u32 (r.f1.getD 2 0)]) (fun w hw => build50 (fun j => r.f1.getD j 0) vb vc w hw) (enters_of Tryz.func50 (by kernel_rfl) rfl) (fun a w h => by go_simp) rfl (by kernel_rfl) (by rw [h5]; kernel_rfl) e1 (by omega) (by omega) (by decide) (by omega) (by rw [D.G.z]; omega) h14' D.G.t4 hu' S3 (fun a9 w9 f9 g9 S9 => ?_)
      exact hEnd a9 w9 (D.G.to f9 (by omega) (by omega)) g9 S9
    have C6 := C5.to f5 (by omega) (by omega)
    clear C5 f5
    refine cmp_go (b := 159) C6.t110 (by rw [C6.G.z]; omega) (fun h6 c6 f6 => ?_) (fun h6 c6 f6 => ?_)
    · have D := C6.to f6 (by omega) (by omega)
      have e0 := fine_len hfr
      rw [h6] at e0
      have e1 : r.f1.length = 7 := e0.trans (by kernel_rfl)
      have hu' := hu
      have h14' := D.t14
      rw [e1] at hu' h14'
      refine hit_reg (b := 161) (r := r) (o := 27) (n := 7) (k := .u32) (ub := vb) (uc := vc) (cs := #[.int .u32 (r.f1.getD 0 0), .int .u32 (r.f1.getD 1 0), .int .u32 (r.f1.getD 2 0), .int .u32 (r.f1.getD 3 0), .int .u32 (r.f1.getD 4 0), .int .u32 (r.f1.getD 5 0), .int .u32 (r.f1.getD 6 0)]) (fun w hw => build51 (fun j => r.f1.getD j 0) vb vc w hw) (enters_of Tryz.func51 (by kernel_rfl) rfl) (fun a w h => by go_simp) rfl (by kernel_rfl) (by rw [h6]; kernel_rfl) e1 (by omega) (by omega) (by decide) (by omega) (by rw [D.G.z]; omega) h14' D.G.t4 hu' S3 (fun a9 w9 f9 g9 S9 => ?_)
      exact hEnd a9 w9 (D.G.to f9 (by omega) (by omega)) g9 S9
    have C7 := C6.to f6 (by omega) (by omega)
    clear C6 f6
    refine cmp_go (b := 167) C7.t110 (by rw [C7.G.z]; omega) (fun h7 c7 f7 => ?_) (fun h7 c7 f7 => ?_)
    · have D := C7.to f7 (by omega) (by omega)
      have e0 := fine_len hfr
      rw [h7] at e0
      have e1 : r.f1.length = 5 := e0.trans (by kernel_rfl)
      have hu' := hu
      have h14' := D.t14
      rw [e1] at hu' h14'
      refine hit_reg (b := 169) (r := r) (o := 34) (n := 5) (k := .u32) (ub := vb) (uc := vc) (cs := #[.int .u32 (r.f1.getD 0 0), .int .u32 (r.f1.getD 1 0), .int .u32 (r.f1.getD 2 0), .int .u32 (r.f1.getD 3 0), .int .u32 (r.f1.getD 4 0)]) (fun w hw => build52 (fun j => r.f1.getD j 0) vb vc w hw) (enters_of Tryz.func52 (by kernel_rfl) rfl) (fun a w h => by go_simp) rfl (by kernel_rfl) (by rw [h7]; kernel_rfl) e1 (by omega) (by omega) (by decide) (by omega) (by rw [D.G.z]; omega) h14' D.G.t4 hu' S3 (fun a9 w9 f9 g9 S9 => ?_)
      exact hEnd a9 w9 (D.G.to f9 (by omega) (by omega)) g9 S9
    have C8 := C7.to f7 (by omega) (by omega)
    clear C7 f7
    refine cmp_go (b := 175) C8.t110 (by rw [C8.G.z]; omega) (fun h8 c8 f8 => ?_) (fun h8 c8 f8 => ?_)
    · have D := C8.to f8 (by omega) (by omega)
      have e0 := fine_len hfr
      rw [h8] at e0
      have e1 : r.f1.length = 2 := e0.trans (by kernel_rfl)
      have hu' := hu
      have h14' := D.t14
      rw [e1] at hu' h14'
      refine hit_reg (b := 177) (r := r) (o := 39) (n := 2) (k := .u32) (ub := vb) (uc := vc) (cs := #[.int .u32 (r.f1.getD 0 0), .int .u32 (r.f1.getD 1 0)]) (fun w hw => build53 (fun j => r.f1.getD j 0) vb vc w hw) (enters_of Tryz.func53 (by kernel_rfl) rfl) (fun a w h => by go_simp) rfl (by kernel_rfl) (by rw [h8]; kernel_rfl) e1 (by omega) (by omega) (by decide) (by omega) (by rw [D.G.z]; omega) h14' D.G.t4 hu' S3 (fun a9 w9 f9 g9 S9 => ?_)
      exact hEnd a9 w9 (D.G.to f9 (by omega) (by omega)) g9 S9
    have C9 := C8.to f8 (by omega) (by omega)
    clear C8 f8
    refine cmp_go (b := 183) C9.t110 (by rw [C9.G.z]; omega) (fun h9 c9 f9 => ?_) (fun h9 c9 f9 => ?_)
    · have D := C9.to f9 (by omega) (by omega)
      have e0 := fine_len hfr
      rw [h9] at e0
      have e1 : r.f1.length = 4 := e0.trans (by kernel_rfl)
      have hu' := hu
      have h14' := D.t14
      rw [e1] at hu' h14'
      refine hit_reg (b := 185) (r := r) (o := 41) (n := 4) (k := .u32) (ub := vb) (uc := vc) (cs := #[.int .u32 (r.f1.getD 0 0), .int .u32 (r.f1.getD 1 0), .int .u32 (r.f1.getD 2 0), .int .u32 (r.f1.getD 3 0)]) (fun w hw => build54 (fun j => r.f1.getD j 0) vb vc w hw) (enters_of Tryz.func54 (by kernel_rfl) rfl) (fun a w h => by go_simp) rfl (by kernel_rfl) (by rw [h9]; kernel_rfl) e1 (by omega) (by omega) (by decide) (by omega) (by rw [D.G.z]; omega) h14' D.G.t4 hu' S3 (fun a9 w9 f9 g9 S9 => ?_)
      exact hEnd a9 w9 (D.G.to f9 (by omega) (by omega)) g9 S9
    have C10 := C9.to f9 (by omega) (by omega)
    clear C9 f9
    refine cmp_go (b := 191) C10.t110 (by rw [C10.G.z]; omega) (fun h10 c10 f10 => ?_) (fun h10 c10 f10 => ?_)
    · have D := C10.to f10 (by omega) (by omega)
      have e0 := fine_len hfr
      rw [h10] at e0
      have e1 : r.f1.length = 3 := e0.trans (by kernel_rfl)
      have hu' := hu
      have h14' := D.t14
      rw [e1] at hu' h14'
      refine hit_reg (b := 193) (r := r) (o := 45) (n := 3) (k := .u32) (ub := vb) (uc := vc) (cs := #[.int .u32 (r.f1.getD 0 0), .int .u32 (r.f1.getD 1 0), .int .u32 (r.f1.getD 2 0)]) (fun w hw => build55 (fun j => r.f1.getD j 0) vb vc w hw) (enters_of Tryz.func55 (by kernel_rfl) rfl) (fun a w h => by go_simp) rfl (by kernel_rfl) (by rw [h10]; kernel_rfl) e1 (by omega) (by omega) (by decide) (by omega) (by rw [D.G.z]; omega) h14' D.G.t4 hu' S3 (fun a9 w9 f9 g9 S9 => ?_)
      exact hEnd a9 w9 (D.G.to f9 (by omega) (by omega)) g9 S9
    have C11 := C10.to f10 (by omega) (by omega)
    clear C10 f10
    refine cmp_go (b := 199) C11.t110 (by rw [C11.G.z]; omega) (fun h11 c11 f11 => ?_) (fun h11 c11 f11 => ?_)
    · have D := C11.to f11 (by omega) (by omega)
      have e0 := fine_len hfr
      rw [h11] at e0
      have e1 : r.f1.length = 8 := e0.trans (by kernel_rfl)
      have hu' := hu
      have h14' := D.t14
      rw [e1] at hu' h14'
      refine hit_reg (b := 201) (r := r) (o := 48) (n := 8) (k := .u32) (ub := vb) (uc := vc) (cs := #[.int .u32 (r.f1.getD 0 0), .int .u32 (r.f1.getD 1 0), .int .u32 (r.f1.getD 2 0), .int .u32 (r.f1.getD 3 0), .int .u32 (r.f1.getD 4 0), .int .u32 (r.f1.getD 5 0), .int .u32 (r.f1.getD 6 0), .int .u32 (r.f1.getD 7 0)]) (fun w hw => build56 (fun j => r.f1.getD j 0) vb vc w hw) (enters_of Tryz.func56 (by kernel_rfl) rfl) (fun a w h => by go_simp) rfl (by kernel_rfl) (by rw [h11]; kernel_rfl) e1 (by omega) (by omega) (by decide) (by omega) (by rw [D.G.z]; omega) h14' D.G.t4 hu' S3 (fun a9 w9 f9 g9 S9 => ?_)
      exact hEnd a9 w9 (D.G.to f9 (by omega) (by omega)) g9 S9
    have C12 := C11.to f11 (by omega) (by omega)
    clear C11 f11
    refine cmp_go (b := 207) C12.t110 (by rw [C12.G.z]; omega) (fun h12 c12 f12 => ?_) (fun h12 c12 f12 => ?_)
    · have D := C12.to f12 (by omega) (by omega)
      have e0 := fine_len hfr
      rw [h12] at e0
      have e1 : r.f1.length = 9 := e0.trans (by kernel_rfl)
      have hu' := hu
      have h14' := D.t14
      rw [e1] at hu' h14'
      refine hit_reg (b := 209) (r := r) (o := 56) (n := 9) (k := .u32) (ub := vb) (uc := vc) (cs := #[.int .u32 (r.f1.getD 0 0), .int .u32 (r.f1.getD 1 0), .int .u32 (r.f1.getD 2 0), .int .u32 (r.f1.getD 3 0), .int .u32 (r.f1.getD 4 0), .int .u32 (r.f1.getD 5 0), .int .u32 (r.f1.getD 6 0), .int .u32 (r.f1.getD 7 0), .int .u32 (r.f1.getD 8 0)]) (fun w hw => build57 (fun j => r.f1.getD j 0) vb vc w hw) (enters_of Tryz.func57 (by kernel_rfl) rfl) (fun a w h => by go_simp) rfl (by kernel_rfl) (by rw [h12]; kernel_rfl) e1 (by omega) (by omega) (by decide) (by omega) (by rw [D.G.z]; omega) h14' D.G.t4 hu' S3 (fun a9 w9 f9 g9 S9 => ?_)
      exact hEnd a9 w9 (D.G.to f9 (by omega) (by omega)) g9 S9
    have C13 := C12.to f12 (by omega) (by omega)
    clear C12 f12
    refine cmp_go (b := 215) C13.t110 (by rw [C13.G.z]; omega) (fun h13 c13 f13 => ?_) (fun h13 c13 f13 => ?_)
    · have D := C13.to f13 (by omega) (by omega)
      have e0 := fine_len hfr
      rw [h13] at e0
      have e1 : r.f1.length = 10 := e0.trans (by kernel_rfl)
      have hu' := hu
      have h14' := D.t14
      rw [e1] at hu' h14'
      refine hit_reg (b := 217) (r := r) (o := 70) (n := 10) (k := .u32) (ub := vb) (uc := vc) (cs := #[.int .u32 (r.f1.getD 0 0), .int .u32 (r.f1.getD 1 0), .int .u32 (r.f1.getD 2 0), .int .u32 (r.f1.getD 3 0), .int .u32 (r.f1.getD 4 0), .int .u32 (r.f1.getD 5 0), .int .u32 (r.f1.getD 6 0), .int .u32 (r.f1.getD 7 0), .int .u32 (r.f1.getD 8 0), .int .u32 (r.f1.getD 9 0)]) (fun w hw => build58 (fun j => r.f1.getD j 0) vb vc w hw) (enters_of Tryz.func58 (by kernel_rfl) rfl) (fun a w h => by go_simp) rfl (by kernel_rfl) (by rw [h13]; kernel_rfl) e1 (by omega) (by omega) (by decide) (by omega) (by rw [D.G.z]; omega) h14' D.G.t4 hu' S3 (fun a9 w9 f9 g9 S9 => ?_)
      exact hEnd a9 w9 (D.G.to f9 (by omega) (by omega)) g9 S9
    have C14 := C13.to f13 (by omega) (by omega)
    clear C13 f13
    refine cmp_go (b := 223) C14.t110 (by rw [C14.G.z]; omega) (fun h14 c14 f14 => ?_) (fun h14 c14 f14 => ?_)
    · have D := C14.to f14 (by omega) (by omega)
      have e0 := fine_len hfr
      rw [h14] at e0
      have e1 : r.f1.length = 2 := e0.trans (by kernel_rfl)
      have hu' := hu
      have h14' := D.t14
      rw [e1] at hu' h14'
      refine hit_reg (b := 225) (r := r) (o := 68) (n := 2) (k := .u32) (ub := vb) (uc := vc) (cs := #[.int .u32 (r.f1.getD 0 0), .int .u32 (r.f1.getD 1 0)]) (fun w hw => build59 (fun j => r.f1.getD j 0) vb vc w hw) (enters_of Tryz.func59 (by kernel_rfl) rfl) (fun a w h => by go_simp) rfl (by kernel_rfl) (by rw [h14]; kernel_rfl) e1 (by omega) (by omega) (by decide) (by omega) (by rw [D.G.z]; omega) h14' D.G.t4 hu' S3 (fun a9 w9 f9 g9 S9 => ?_)
      exact hEnd a9 w9 (D.G.to f9 (by omega) (by omega)) g9 S9
    have C15 := C14.to f14 (by omega) (by omega)
    clear C14 f14
    refine cmp_go (b := 231) C15.t110 (by rw [C15.G.z]; omega) (fun h15 c15 f15 => ?_) (fun h15 c15 f15 => ?_)
    · have D := C15.to f15 (by omega) (by omega)
      have e0 := fine_len hfr
      rw [h15] at e0
      have e1 : r.f1.length = 15 := e0.trans (by kernel_rfl)
      have hu' := hu
      have h14' := D.t14
      rw [e1] at hu' h14'
      refine hit_reg (b := 233) (r := r) (o := 90) (n := 15) (k := .u32) (ub := vb) (uc := vc) (cs := #[.int .u32 (r.f1.getD 0 0), .int .u32 (r.f1.getD 1 0), .int .u32 (r.f1.getD 2 0), .int .u32 (r.f1.getD 3 0), .int .u32 (r.f1.getD 4 0), .int .u32 (r.f1.getD 5 0), .int .u32 (r.f1.getD 6 0), .int .u32 (r.f1.getD 7 0), .int .u32 (r.f1.getD 8 0), .int .u32 (r.f1.getD 9 0), .int .u32 (r.f1.getD 10 0), .int .u32 (r.f1.getD 11 0), .int .u32 (r.f1.getD 12 0), .int .u32 (r.f1.getD 13 0), .int .u32 (r.f1.getD 14 0)]) (fun w hw => build60 (fun j => r.f1.getD j 0) vb vc w hw) (enters_of Tryz.func60 (by kernel_rfl) rfl) (fun a w h => by go_simp) rfl (by kernel_rfl) (by rw [h15]; kernel_rfl) e1 (by omega) (by omega) (by decide) (by omega) (by rw [D.G.z]; omega) h14' D.G.t4 hu' S3 (fun a9 w9 f9 g9 S9 => ?_)
      exact hEnd a9 w9 (D.G.to f9 (by omega) (by omega)) g9 S9
    have C16 := C15.to f15 (by omega) (by omega)
    clear C15 f15
    refine cmp_go (b := 239) C16.t110 (by rw [C16.G.z]; omega) (fun h16 c16 f16 => ?_) (fun h16 c16 f16 => ?_)
    · have D := C16.to f16 (by omega) (by omega)
      have e0 := fine_len hfr
      rw [h16] at e0
      have e1 : r.f1.length = 15 := e0.trans (by kernel_rfl)
      have hu' := hu
      have h14' := D.t14
      rw [e1] at hu' h14'
      refine hit_reg (b := 241) (r := r) (o := 105) (n := 15) (k := .u32) (ub := vb) (uc := vc) (cs := #[.int .u32 (r.f1.getD 0 0), .int .u32 (r.f1.getD 1 0), .int .u32 (r.f1.getD 2 0), .int .u32 (r.f1.getD 3 0), .int .u32 (r.f1.getD 4 0), .int .u32 (r.f1.getD 5 0), .int .u32 (r.f1.getD 6 0), .int .u32 (r.f1.getD 7 0), .int .u32 (r.f1.getD 8 0), .int .u32 (r.f1.getD 9 0), .int .u32 (r.f1.getD 10 0), .int .u32 (r.f1.getD 11 0), .int .u32 (r.f1.getD 12 0), .int .u32 (r.f1.getD 13 0), .int .u32 (r.f1.getD 14 0)]) (fun w hw => build61 (fun j => r.f1.getD j 0) vb vc w hw) (enters_of Tryz.func61 (by kernel_rfl) rfl) (fun a w h => by go_simp) rfl (by kernel_rfl) (by rw [h16]; kernel_rfl) e1 (by omega) (by omega) (by decide) (by omega) (by rw [D.G.z]; omega) h14' D.G.t4 hu' S3 (fun a9 w9 f9 g9 S9 => ?_)
      exact hEnd a9 w9 (D.G.to f9 (by omega) (by omega)) g9 S9
    have C17 := C16.to f16 (by omega) (by omega)
    clear C16 f16
    refine cmp_go (b := 247) C17.t110 (by rw [C17.G.z]; omega) (fun h17 c17 f17 => ?_) (fun h17 c17 f17 => ?_)
    · have D := C17.to f17 (by omega) (by omega)
      have e0 := fine_len hfr
      rw [h17] at e0
      have e1 : r.f1.length = 15 := e0.trans (by kernel_rfl)
      have hu' := hu
      have h14' := D.t14
      rw [e1] at hu' h14'
      refine hit_reg (b := 249) (r := r) (o := 120) (n := 15) (k := .u32) (ub := vb) (uc := vc) (cs := #[.int .u32 (r.f1.getD 0 0), .int .u32 (r.f1.getD 1 0), .int .u32 (r.f1.getD 2 0), .int .u32 (r.f1.getD 3 0), .int .u32 (r.f1.getD 4 0), .int .u32 (r.f1.getD 5 0), .int .u32 (r.f1.getD 6 0), .int .u32 (r.f1.getD 7 0), .int .u32 (r.f1.getD 8 0), .int .u32 (r.f1.getD 9 0), .int .u32 (r.f1.getD 10 0), .int .u32 (r.f1.getD 11 0), .int .u32 (r.f1.getD 12 0), .int .u32 (r.f1.getD 13 0), .int .u32 (r.f1.getD 14 0)]) (fun w hw => build62 (fun j => r.f1.getD j 0) vb vc w hw) (enters_of Tryz.func62 (by kernel_rfl) rfl) (fun a w h => by go_simp) rfl (by kernel_rfl) (by rw [h17]; kernel_rfl) e1 (by omega) (by omega) (by decide) (by omega) (by rw [D.G.z]; omega) h14' D.G.t4 hu' S3 (fun a9 w9 f9 g9 S9 => ?_)
      exact hEnd a9 w9 (D.G.to f9 (by omega) (by omega)) g9 S9
    have C18 := C17.to f17 (by omega) (by omega)
    clear C17 f17
    refine cmp_go (b := 255) C18.t110 (by rw [C18.G.z]; omega) (fun h18 c18 f18 => ?_) (fun h18 c18 f18 => ?_)
    · have D := C18.to f18 (by omega) (by omega)
      have e0 := fine_len hfr
      rw [h18] at e0
      have e1 : r.f1.length = 15 := e0.trans (by kernel_rfl)
      have hu' := hu
      have h14' := D.t14
      rw [e1] at hu' h14'
      refine hit_reg (b := 257) (r := r) (o := 135) (n := 15) (k := .u32) (ub := vb) (uc := vc) (cs := #[.int .u32 (r.f1.getD 0 0), .int .u32 (r.f1.getD 1 0), .int .u32 (r.f1.getD 2 0), .int .u32 (r.f1.getD 3 0), .int .u32 (r.f1.getD 4 0), .int .u32 (r.f1.getD 5 0), .int .u32 (r.f1.getD 6 0), .int .u32 (r.f1.getD 7 0), .int .u32 (r.f1.getD 8 0), .int .u32 (r.f1.getD 9 0), .int .u32 (r.f1.getD 10 0), .int .u32 (r.f1.getD 11 0), .int .u32 (r.f1.getD 12 0), .int .u32 (r.f1.getD 13 0), .int .u32 (r.f1.getD 14 0)]) (fun w hw => build63 (fun j => r.f1.getD j 0) vb vc w hw) (enters_of Tryz.func63 (by kernel_rfl) rfl) (fun a w h => by go_simp) rfl (by kernel_rfl) (by rw [h18]; kernel_rfl) e1 (by omega) (by omega) (by decide) (by omega) (by rw [D.G.z]; omega) h14' D.G.t4 hu' S3 (fun a9 w9 f9 g9 S9 => ?_)
      exact hEnd a9 w9 (D.G.to f9 (by omega) (by omega)) g9 S9
    have C19 := C18.to f18 (by omega) (by omega)
    clear C18 f18
    refine cmp_go (b := 263) C19.t110 (by rw [C19.G.z]; omega) (fun h19 c19 f19 => ?_) (fun h19 c19 f19 => ?_)
    · have D := C19.to f19 (by omega) (by omega)
      have e0 := fine_len hfr
      rw [h19] at e0
      have e1 : r.f1.length = 15 := e0.trans (by kernel_rfl)
      have hu' := hu
      have h14' := D.t14
      rw [e1] at hu' h14'
      refine hit_reg (b := 265) (r := r) (o := 150) (n := 15) (k := .u32) (ub := vb) (uc := vc) (cs := #[.int .u32 (r.f1.getD 0 0), .int .u32 (r.f1.getD 1 0), .int .u32 (r.f1.getD 2 0), .int .u32 (r.f1.getD 3 0), .int .u32 (r.f1.getD 4 0), .int .u32 (r.f1.getD 5 0), .int .u32 (r.f1.getD 6 0), .int .u32 (r.f1.getD 7 0), .int .u32 (r.f1.getD 8 0), .int .u32 (r.f1.getD 9 0), .int .u32 (r.f1.getD 10 0), .int .u32 (r.f1.getD 11 0), .int .u32 (r.f1.getD 12 0), .int .u32 (r.f1.getD 13 0), .int .u32 (r.f1.getD 14 0)]) (fun w hw => build64 (fun j => r.f1.getD j 0) vb vc w hw) (enters_of Tryz.func64 (by kernel_rfl) rfl) (fun a w h => by go_simp) rfl (by kernel_rfl) (by rw [h19]; kernel_rfl) e1 (by omega) (by omega) (by decide) (by omega) (by rw [D.G.z]; omega) h14' D.G.t4 hu' S3 (fun a9 w9 f9 g9 S9 => ?_)
      exact hEnd a9 w9 (D.G.to f9 (by omega) (by omega)) g9 S9
    have C20 := C19.to f19 (by omega) (by omega)
    clear C19 f19
    refine cmp_go (b := 271) C20.t110 (by rw [C20.G.z]; omega) (fun h20 c20 f20 => ?_) (fun h20 c20 f20 => ?_)
    · have D := C20.to f20 (by omega) (by omega)
      have e0 := fine_len hfr
      rw [h20] at e0
      have e1 : r.f1.length = 15 := e0.trans (by kernel_rfl)
      have hu' := hu
      have h14' := D.t14
      rw [e1] at hu' h14'
      refine hit_reg (b := 273) (r := r) (o := 165) (n := 15) (k := .u32) (ub := vb) (uc := vc) (cs := #[.int .u32 (r.f1.getD 0 0), .int .u32 (r.f1.getD 1 0), .int .u32 (r.f1.getD 2 0), .int .u32 (r.f1.getD 3 0), .int .u32 (r.f1.getD 4 0), .int .u32 (r.f1.getD 5 0), .int .u32 (r.f1.getD 6 0), .int .u32 (r.f1.getD 7 0), .int .u32 (r.f1.getD 8 0), .int .u32 (r.f1.getD 9 0), .int .u32 (r.f1.getD 10 0), .int .u32 (r.f1.getD 11 0), .int .u32 (r.f1.getD 12 0), .int .u32 (r.f1.getD 13 0), .int .u32 (r.f1.getD 14 0)]) (fun w hw => build65 (fun j => r.f1.getD j 0) vb vc w hw) (enters_of Tryz.func65 (by kernel_rfl) rfl) (fun a w h => by go_simp) rfl (by kernel_rfl) (by rw [h20]; kernel_rfl) e1 (by omega) (by omega) (by decide) (by omega) (by rw [D.G.z]; omega) h14' D.G.t4 hu' S3 (fun a9 w9 f9 g9 S9 => ?_)
      exact hEnd a9 w9 (D.G.to f9 (by omega) (by omega)) g9 S9
    have C21 := C20.to f20 (by omega) (by omega)
    clear C20 f20
    refine cmp_go (b := 279) C21.t110 (by rw [C21.G.z]; omega) (fun h21 c21 f21 => ?_) (fun h21 c21 f21 => ?_)
    · have D := C21.to f21 (by omega) (by omega)
      have e0 := fine_len hfr
      rw [h21] at e0
      have e1 : r.f1.length = 15 := e0.trans (by kernel_rfl)
      have hu' := hu
      have h14' := D.t14
      rw [e1] at hu' h14'
      refine hit_reg (b := 281) (r := r) (o := 180) (n := 15) (k := .u32) (ub := vb) (uc := vc) (cs := #[.int .u32 (r.f1.getD 0 0), .int .u32 (r.f1.getD 1 0), .int .u32 (r.f1.getD 2 0), .int .u32 (r.f1.getD 3 0), .int .u32 (r.f1.getD 4 0), .int .u32 (r.f1.getD 5 0), .int .u32 (r.f1.getD 6 0), .int .u32 (r.f1.getD 7 0), .int .u32 (r.f1.getD 8 0), .int .u32 (r.f1.getD 9 0), .int .u32 (r.f1.getD 10 0), .int .u32 (r.f1.getD 11 0), .int .u32 (r.f1.getD 12 0), .int .u32 (r.f1.getD 13 0), .int .u32 (r.f1.getD 14 0)]) (fun w hw => build66 (fun j => r.f1.getD j 0) vb vc w hw) (enters_of Tryz.func66 (by kernel_rfl) rfl) (fun a w h => by go_simp) rfl (by kernel_rfl) (by rw [h21]; kernel_rfl) e1 (by omega) (by omega) (by decide) (by omega) (by rw [D.G.z]; omega) h14' D.G.t4 hu' S3 (fun a9 w9 f9 g9 S9 => ?_)
      exact hEnd a9 w9 (D.G.to f9 (by omega) (by omega)) g9 S9
    have C22 := C21.to f21 (by omega) (by omega)
    clear C21 f21
    refine cmp_go (b := 287) C22.t110 (by rw [C22.G.z]; omega) (fun h22 c22 f22 => ?_) (fun h22 c22 f22 => ?_)
    · have D := C22.to f22 (by omega) (by omega)
      have e0 := fine_len hfr
      rw [h22] at e0
      have e1 : r.f1.length = 15 := e0.trans (by kernel_rfl)
      have hu' := hu
      have h14' := D.t14
      rw [e1] at hu' h14'
      refine hit_reg (b := 289) (r := r) (o := 195) (n := 15) (k := .u32) (ub := vb) (uc := vc) (cs := #[.int .u32 (r.f1.getD 0 0), .int .u32 (r.f1.getD 1 0), .int .u32 (r.f1.getD 2 0), .int .u32 (r.f1.getD 3 0), .int .u32 (r.f1.getD 4 0), .int .u32 (r.f1.getD 5 0), .int .u32 (r.f1.getD 6 0), .int .u32 (r.f1.getD 7 0), .int .u32 (r.f1.getD 8 0), .int .u32 (r.f1.getD 9 0), .int .u32 (r.f1.getD 10 0), .int .u32 (r.f1.getD 11 0), .int .u32 (r.f1.getD 12 0), .int .u32 (r.f1.getD 13 0), .int .u32 (r.f1.getD 14 0)]) (fun w hw => build67 (fun j => r.f1.getD j 0) vb vc w hw) (enters_of Tryz.func67 (by kernel_rfl) rfl) (fun a w h => by go_simp) rfl (by kernel_rfl) (by rw [h22]; kernel_rfl) e1 (by omega) (by omega) (by decide) (by omega) (by rw [D.G.z]; omega) h14' D.G.t4 hu' S3 (fun a9 w9 f9 g9 S9 => ?_)
      exact hEnd a9 w9 (D.G.to f9 (by omega) (by omega)) g9 S9
    have C23 := C22.to f22 (by omega) (by omega)
    clear C22 f22
    refine cmp_go (b := 295) C23.t110 (by rw [C23.G.z]; omega) (fun h23 c23 f23 => ?_) (fun h23 c23 f23 => ?_)
    · have D := C23.to f23 (by omega) (by omega)
      have e0 := fine_len hfr
      rw [h23] at e0
      have e1 : r.f1.length = 15 := e0.trans (by kernel_rfl)
      have hu' := hu
      have h14' := D.t14
      rw [e1] at hu' h14'
      refine hit_reg (b := 297) (r := r) (o := 210) (n := 15) (k := .u32) (ub := vb) (uc := vc) (cs := #[.int .u32 (r.f1.getD 0 0), .int .u32 (r.f1.getD 1 0), .int .u32 (r.f1.getD 2 0), .int .u32 (r.f1.getD 3 0), .int .u32 (r.f1.getD 4 0), .int .u32 (r.f1.getD 5 0), .int .u32 (r.f1.getD 6 0), .int .u32 (r.f1.getD 7 0), .int .u32 (r.f1.getD 8 0), .int .u32 (r.f1.getD 9 0), .int .u32 (r.f1.getD 10 0), .int .u32 (r.f1.getD 11 0), .int .u32 (r.f1.getD 12 0), .int .u32 (r.f1.getD 13 0), .int .u32 (r.f1.getD 14 0)]) (fun w hw => build68 (fun j => r.f1.getD j 0) vb vc w hw) (enters_of Tryz.func68 (by kernel_rfl) rfl) (fun a w h => by go_simp) rfl (by kernel_rfl) (by rw [h23]; kernel_rfl) e1 (by omega) (by omega) (by decide) (by omega) (by rw [D.G.z]; omega) h14' D.G.t4 hu' S3 (fun a9 w9 f9 g9 S9 => ?_)
      exact hEnd a9 w9 (D.G.to f9 (by omega) (by omega)) g9 S9
    have C24 := C23.to f23 (by omega) (by omega)
    clear C23 f23
    refine cmp_go (b := 303) C24.t110 (by rw [C24.G.z]; omega) (fun h24 c24 f24 => ?_) (fun h24 c24 f24 => ?_)
    · have D := C24.to f24 (by omega) (by omega)
      have e0 := fine_len hfr
      rw [h24] at e0
      have e1 : r.f1.length = 15 := e0.trans (by kernel_rfl)
      have hu' := hu
      have h14' := D.t14
      rw [e1] at hu' h14'
      refine hit_reg (b := 305) (r := r) (o := 225) (n := 15) (k := .u32) (ub := vb) (uc := vc) (cs := #[.int .u32 (r.f1.getD 0 0), .int .u32 (r.f1.getD 1 0), .int .u32 (r.f1.getD 2 0), .int .u32 (r.f1.getD 3 0), .int .u32 (r.f1.getD 4 0), .int .u32 (r.f1.getD 5 0), .int .u32 (r.f1.getD 6 0), .int .u32 (r.f1.getD 7 0), .int .u32 (r.f1.getD 8 0), .int .u32 (r.f1.getD 9 0), .int .u32 (r.f1.getD 10 0), .int .u32 (r.f1.getD 11 0), .int .u32 (r.f1.getD 12 0), .int .u32 (r.f1.getD 13 0), .int .u32 (r.f1.getD 14 0)]) (fun w hw => build69 (fun j => r.f1.getD j 0) vb vc w hw) (enters_of Tryz.func69 (by kernel_rfl) rfl) (fun a w h => by go_simp) rfl (by kernel_rfl) (by rw [h24]; kernel_rfl) e1 (by omega) (by omega) (by decide) (by omega) (by rw [D.G.z]; omega) h14' D.G.t4 hu' S3 (fun a9 w9 f9 g9 S9 => ?_)
      exact hEnd a9 w9 (D.G.to f9 (by omega) (by omega)) g9 S9
    have C25 := C24.to f24 (by omega) (by omega)
    clear C24 f24
    refine cmp_go (b := 311) C25.t110 (by rw [C25.G.z]; omega) (fun h25 c25 f25 => ?_) (fun h25 c25 f25 => ?_)
    · have D := C25.to f25 (by omega) (by omega)
      have e0 := fine_len hfr
      rw [h25] at e0
      have e1 : r.f1.length = 15 := e0.trans (by kernel_rfl)
      have hu' := hu
      have h14' := D.t14
      rw [e1] at hu' h14'
      refine hit_reg (b := 313) (r := r) (o := 240) (n := 15) (k := .u32) (ub := vb) (uc := vc) (cs := #[.int .u32 (r.f1.getD 0 0), .int .u32 (r.f1.getD 1 0), .int .u32 (r.f1.getD 2 0), .int .u32 (r.f1.getD 3 0), .int .u32 (r.f1.getD 4 0), .int .u32 (r.f1.getD 5 0), .int .u32 (r.f1.getD 6 0), .int .u32 (r.f1.getD 7 0), .int .u32 (r.f1.getD 8 0), .int .u32 (r.f1.getD 9 0), .int .u32 (r.f1.getD 10 0), .int .u32 (r.f1.getD 11 0), .int .u32 (r.f1.getD 12 0), .int .u32 (r.f1.getD 13 0), .int .u32 (r.f1.getD 14 0)]) (fun w hw => build70 (fun j => r.f1.getD j 0) vb vc w hw) (enters_of Tryz.func70 (by kernel_rfl) rfl) (fun a w h => by go_simp) rfl (by kernel_rfl) (by rw [h25]; kernel_rfl) e1 (by omega) (by omega) (by decide) (by omega) (by rw [D.G.z]; omega) h14' D.G.t4 hu' S3 (fun a9 w9 f9 g9 S9 => ?_)
      exact hEnd a9 w9 (D.G.to f9 (by omega) (by omega)) g9 S9
    have C26 := C25.to f25 (by omega) (by omega)
    clear C25 f25
    refine cmp_go (b := 319) C26.t110 (by rw [C26.G.z]; omega) (fun h26 c26 f26 => ?_) (fun h26 c26 f26 => ?_)
    · have D := C26.to f26 (by omega) (by omega)
      have e0 := fine_len hfr
      rw [h26] at e0
      have e1 : r.f1.length = 15 := e0.trans (by kernel_rfl)
      have hu' := hu
      have h14' := D.t14
      rw [e1] at hu' h14'
      refine hit_reg (b := 321) (r := r) (o := 255) (n := 15) (k := .u32) (ub := vb) (uc := vc) (cs := #[.int .u32 (r.f1.getD 0 0), .int .u32 (r.f1.getD 1 0), .int .u32 (r.f1.getD 2 0), .int .u32 (r.f1.getD 3 0), .int .u32 (r.f1.getD 4 0), .int .u32 (r.f1.getD 5 0), .int .u32 (r.f1.getD 6 0), .int .u32 (r.f1.getD 7 0), .int .u32 (r.f1.getD 8 0), .int .u32 (r.f1.getD 9 0), .int .u32 (r.f1.getD 10 0), .int .u32 (r.f1.getD 11 0), .int .u32 (r.f1.getD 12 0), .int .u32 (r.f1.getD 13 0), .int .u32 (r.f1.getD 14 0)]) (fun w hw => build71 (fun j => r.f1.getD j 0) vb vc w hw) (enters_of Tryz.func71 (by kernel_rfl) rfl) (fun a w h => by go_simp) rfl (by kernel_rfl) (by rw [h26]; kernel_rfl) e1 (by omega) (by omega) (by decide) (by omega) (by rw [D.G.z]; omega) h14' D.G.t4 hu' S3 (fun a9 w9 f9 g9 S9 => ?_)
      exact hEnd a9 w9 (D.G.to f9 (by omega) (by omega)) g9 S9
    have C27 := C26.to f26 (by omega) (by omega)
    clear C26 f26
    refine cmp_go (b := 327) C27.t110 (by rw [C27.G.z]; omega) (fun h27 c27 f27 => ?_) (fun h27 c27 f27 => ?_)
    · have D := C27.to f27 (by omega) (by omega)
      have e0 := fine_len hfr
      rw [h27] at e0
      have e1 : r.f1.length = 9 := e0.trans (by kernel_rfl)
      have hu' := hu
      have h14' := D.t14
      rw [e1] at hu' h14'
      refine hit_reg (b := 329) (r := r) (o := 81) (n := 9) (k := .u32) (ub := vb) (uc := vc) (cs := #[.int .u32 (r.f1.getD 0 0), .int .u32 (r.f1.getD 1 0), .int .u32 (r.f1.getD 2 0), .int .u32 (r.f1.getD 3 0), .int .u32 (r.f1.getD 4 0), .int .u32 (r.f1.getD 5 0), .int .u32 (r.f1.getD 6 0), .int .u32 (r.f1.getD 7 0), .int .u32 (r.f1.getD 8 0)]) (fun w hw => build72 (fun j => r.f1.getD j 0) vb vc w hw) (enters_of Tryz.func72 (by kernel_rfl) rfl) (fun a w h => by go_simp) rfl (by kernel_rfl) (by rw [h27]; kernel_rfl) e1 (by omega) (by omega) (by decide) (by omega) (by rw [D.G.z]; omega) h14' D.G.t4 hu' S3 (fun a9 w9 f9 g9 S9 => ?_)
      exact hEnd a9 w9 (D.G.to f9 (by omega) (by omega)) g9 S9
    have C28 := C27.to f27 (by omega) (by omega)
    clear C27 f27
    refine cmp_go (b := 335) C28.t110 (by rw [C28.G.z]; omega) (fun h28 c28 f28 => ?_) (fun h28 c28 f28 => ?_)
    · have D := C28.to f28 (by omega) (by omega)
      have e0 := fine_len hfr
      rw [h28] at e0
      have e1 : r.f1.length = 1 := e0.trans (by kernel_rfl)
      have hu' := hu
      have h14' := D.t14
      rw [e1] at hu' h14'
      refine hit_reg (b := 337) (r := r) (o := 80) (n := 1) (k := .u32) (ub := vb) (uc := vc) (cs := #[.int .u32 (r.f1.getD 0 0)]) (fun w hw => build73 (fun j => r.f1.getD j 0) vb vc w hw) (enters_of Tryz.func73 (by kernel_rfl) rfl) (fun a w h => by go_simp) rfl (by kernel_rfl) (by rw [h28]; kernel_rfl) e1 (by omega) (by omega) (by decide) (by omega) (by rw [D.G.z]; omega) h14' D.G.t4 hu' S3 (fun a9 w9 f9 g9 S9 => ?_)
      exact hEnd a9 w9 (D.G.to f9 (by omega) (by omega)) g9 S9
    have C29 := C28.to f28 (by omega) (by omega)
    clear C28 f28
    refine cmp_go (b := 343) C29.t110 (by rw [C29.G.z]; omega) (fun h29 c29 f29 => ?_) (fun h29 c29 f29 => ?_)
    · have D := C29.to f29 (by omega) (by omega)
      have e0 := fine_len hfr
      rw [h29] at e0
      have e1 : r.f1.length = 3 := e0.trans (by kernel_rfl)
      have hu' := hu
      have h14' := D.t14
      rw [e1] at hu' h14'
      refine hit_reg (b := 345) (r := r) (o := 270) (n := 3) (k := .u32) (ub := vb) (uc := vc) (cs := #[.int .u32 (r.f1.getD 0 0), .int .u32 (r.f1.getD 1 0), .int .u32 (r.f1.getD 2 0)]) (fun w hw => build74 (fun j => r.f1.getD j 0) vb vc w hw) (enters_of Tryz.func74 (by kernel_rfl) rfl) (fun a w h => by go_simp) rfl (by kernel_rfl) (by rw [h29]; kernel_rfl) e1 (by omega) (by omega) (by decide) (by omega) (by rw [D.G.z]; omega) h14' D.G.t4 hu' S3 (fun a9 w9 f9 g9 S9 => ?_)
      exact hEnd a9 w9 (D.G.to f9 (by omega) (by omega)) g9 S9
    have C30 := C29.to f29 (by omega) (by omega)
    clear C29 f29
    refine cmp_go (b := 351) C30.t110 (by rw [C30.G.z]; omega) (fun h30 c30 f30 => ?_) (fun h30 c30 f30 => ?_)
    · have D := C30.to f30 (by omega) (by omega)
      have e0 := fine_len hfr
      rw [h30] at e0
      have e1 : r.f1.length = 1 := e0.trans (by kernel_rfl)
      have hu' := hu
      have h14' := D.t14
      rw [e1] at hu' h14'
      refine hit_reg (b := 353) (r := r) (o := 273) (n := 1) (k := .u32) (ub := vb) (uc := vc) (cs := #[.int .u32 (r.f1.getD 0 0)]) (fun w hw => build75 (fun j => r.f1.getD j 0) vb vc w hw) (enters_of Tryz.func75 (by kernel_rfl) rfl) (fun a w h => by go_simp) rfl (by kernel_rfl) (by rw [h30]; kernel_rfl) e1 (by omega) (by omega) (by decide) (by omega) (by rw [D.G.z]; omega) h14' D.G.t4 hu' S3 (fun a9 w9 f9 g9 S9 => ?_)
      exact hEnd a9 w9 (D.G.to f9 (by omega) (by omega)) g9 S9
    have C31 := C30.to f30 (by omega) (by omega)
    clear C30 f30
    exfalso
    have hmem := hfr.1
    have hgc := hfr.2.1
    simp only [sGc] at hgc
    simp only [XT, List.mem_cons, Prod.mk.injEq, List.not_mem_nil, h0, h1, h2, h3, h4, h5, h6, h7, h8, h9, h10, h11, h12, h13, h14, h15, h16, h17, h18, h19, h20, h21, h22, h23, h24, h25, h26, h27, h28, h29, h30, hx, hd, hgc, false_and, or_self] at hmem
  · obtain rfl : k = l.length := by omega
    rw [List.drop_length, List.take_length] at hS
    refine wp_seq (scan_not hR.z hR.t5 hS (fun a1 w2 f1 S1 => ?_))
    have R1 := hR.to f1 (by omega) (by omega)
    refine wp_exit (hK a1 w2 ?_)
    refine end17 R1.z R1.t4 R1.t5 S1 (fun a2 d2 h2 h3 => ?_)
    refine bodyPost_ret (results_tmp2 rfl _ _ _) (d2.trans R1.df) (.mk _ rfl ⟨m, ?_, S1.box, by rw [← hmm]; exact S1.B⟩)
    simp only [Array.getD_eq_getD_getElem?, h2, h3]
end Go.Proofs.YtaniejfkbapbbaaGreatDoor
