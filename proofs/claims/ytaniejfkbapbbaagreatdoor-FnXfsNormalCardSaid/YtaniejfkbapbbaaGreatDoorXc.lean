/-
  Part of the proof of FnXfsNormal: the scanner, the words and the numbers of a line, the cells of Stats.
-/
import Derived.Test.YtaniejfkbapbbaaGreatDoorXn
import Derived.Lib.ConvBytes
import Derived.Laws.BytesArg
import Derived.Ground.MpProg
import Derived.Shelf.Pu.ParseUintPublic10
import Derived.Shelf.Strings.FieldsAny
import Derived.Shelf.Strings.Fields
import Derived.Test.YtaniejfkbapbbaaGreatDoorProg
import Derived.Test.YtaniejfkbapbbaaGreatDoorXa
import Derived.Laws.MakeOwn
import Derived.Lib.Fields
import Derived.Test.YtaniejfkbapbbaaGreatDoorXb
import Derived.Deep.MidRow
namespace Go.Proofs.YtaniejfkbapbbaaGreatDoor
open Go.RowKit Go.Proofs.YtaniejfkbapbbaaGreatDoorW.PrintWords Go.Proofs.YtaniejfkbapbbaaGreatDoorW.PrintLast Go.Proofs.YtaniejfkbapbbaaGreatDoorW.PrintMore

/-- The scanner: what is left of the text, the line. -/
def scanC (t l : ByteArray) : Array Value := #[.string t, .string l, .int .i64 65536, .nilIface]
theorem NewLines_c (s : ByteArray) (w : World) : Calls Tryz.prog 37 #[.string s] w (Ret (fun v w' => v = .pointer (some ⟨w.heap.size, 0, none⟩) ∧ w' = w.alloc (.cells (scanC s ⟨#[]⟩) 260))) := by
  go_enter Tryz.func37, Tryz.ntmps37
  go_wp2
  go_ret
  exact .mk _ rfl ⟨rfl, rfl⟩
theorem Err_c (t l : ByteArray) (g : Nat) (w : World) (hb : w.heap[g]? = some (.cells (scanC t l) 260 (0, 0))) : Calls Tryz.prog 76 #[.pointer (some ⟨g, 0, none⟩)] w (Ret (fun v w' => v = .nilIface ∧ w' = w)) := by
  have c3 : w.cell? ⟨g, 3, none⟩ = some .nilIface := blk_cell hb 3
  go_enter Tryz.func76, Tryz.ntmps76
  go_wp2
  go_ret
  exact .mk _ rfl ⟨rfl, rfl⟩
/-- The bytes of a text, as a row. -/
def SomeBytes (l : ByteArray) (w : World) (v : Value) (w' : World) : Prop := ∃ b c, v = .slice (some ⟨b, 0, none⟩) l.size c ∧ (∀ i, i < l.size → w'.cell? ⟨b, 0 + i, none⟩ = some (.int .u8 ((l.data.toList.map fun x => (x.toNat : Int)).getD i 0))) ∧ Below w.heap.size w w'
theorem getD_bytes (l : List UInt8) (i : Nat) : (l.map fun x => (x.toNat : Int)).getD i 0 = ((l.getD i 0).toNat : Int) := by
  rw [List.getD_eq_getElem?_getD, List.getD_eq_getElem?_getD, List.getElem?_map]
  cases l[i]? <;> rfl
theorem below_bytes (w : World) (e : TypeId) (s : ByteArray) : Below w.heap.size w (Lib.bytesWorld w e s) :=
  ⟨rfl, rfl, rfl, by rw [Lib.bytesWorld_size]; omega, fun k hk => Lib.bytesWorld_at_old w e s k hk⟩
theorem Bytes_c (t l : ByteArray) (g : Nat) (w : World) (hb : w.heap[g]? = some (.cells (scanC t l) 260 (0, 0))) : Calls Tryz.prog 40 #[.pointer (some ⟨g, 0, none⟩)] w (Ret (SomeBytes l w)) := by
  have c1 : w.cell? ⟨g, 1, none⟩ = some (.string l) := blk_cell hb 1
  have hcv := Lib.run_convert_string_bytes (P := Tryz.prog) w 9 137 5 l Tryz.underlying9 Tryz.underlying137 Tryz.underlying5
  obtain ⟨W, hW⟩ : ∃ W, W = Lib.bytesWorld w 5 l := ⟨_, rfl⟩
  obtain ⟨gc, hgc⟩ : ∃ gc, gc = grownCap w l.size 0 5 := ⟨_, rfl⟩
  rw [← hW, ← hgc] at hcv
  have HW := Lib.hid hW
  clear hW hgc
  go_enter Tryz.func40, Tryz.ntmps40
  go_wp2
  go_ret
  refine .mk _ rfl ⟨_, _, rfl, fun i hi => ?_, ?_⟩
  · have h1 := Lib.bytesWorld_cell w 5 l i hi
    rw [← HW.out] at h1
    rw [Nat.zero_add, getD_bytes l.data.toList i]
    exact h1
  · rw [HW.out]; exact below_bytes w 5 l
end Go.Proofs.YtaniejfkbapbbaaGreatDoor
namespace Go.Proofs.YtaniejfkbapbbaaGreatDoor
open Go.RowKit Go.Proofs.YtaniejfkbapbbaaGreatDoorW.PrintWords Go.Proofs.YtaniejfkbapbbaaGreatDoorW.PrintLast Go.Proofs.YtaniejfkbapbbaaGreatDoorW.PrintMore

theorem ex_line {t x r : ByteArray} (h : t = x ++ ⟨#[10]⟩ ++ r) : t.extract 0 x.size = x := by
  subst h
  apply ByteArray.ext
  rw [ByteArray.data_extract, ByteArray.data_append, ByteArray.data_append]
  apply Array.ext'
  have hx : x.size = x.data.toList.length := (Array.length_toList).symm
  rw [Array.toList_extract, Array.toList_append, Array.toList_append, hx, List.append_assoc]
  simp only [List.extract_eq_take_drop, List.drop_zero, Nat.sub_zero, List.take_left']
theorem ex_rest {t x r : ByteArray} (h : t = x ++ ⟨#[10]⟩ ++ r) : t.extract (x.size + 1) t.size = r := by
  subst h
  apply ByteArray.ext
  rw [ByteArray.data_extract, ByteArray.data_append, ByteArray.data_append]
  apply Array.ext'
  have hx : x.size + 1 = (x.data.toList ++ [10]).length := by rw [List.length_append, Array.length_toList]; rfl
  have ht : (x ++ ⟨#[10]⟩ ++ r).size = ((x.data.toList ++ [10]) ++ r.data.toList).length := by rw [ByteArray.size_append, ByteArray.size_append, List.length_append, ← hx, Array.length_toList]; rfl
  rw [Array.toList_extract, Array.toList_append, Array.toList_append, ht, hx]
  simp only [List.extract_eq_take_drop, List.drop_left', List.length_append, Nat.add_sub_cancel_left, List.take_length]
theorem char_at {t x r : ByteArray} (h : t = x ++ ⟨#[10]⟩ ++ r) {k : Nat} (hk : k < x.size) (hkt : k < t.size) : (t[k]'hkt) ∈ x.data.toList := by
  subst h
  rw [ByteArray.getElem_eq_getElem_data]
  have : ((x ++ ⟨#[10]⟩ ++ r).data)[k]'hkt = x.data[k]'hk := by
    simp only [ByteArray.data_append]
    rw [Array.getElem_append_left (by simp; omega), Array.getElem_append_left hk]
  rw [this]
  simp
theorem mid_at {x r : ByteArray} {c : UInt8} (hkt : x.size < (x ++ ⟨#[c]⟩ ++ r).size) : ((x ++ ⟨#[c]⟩ ++ r)[x.size]'hkt) = c := by
  rw [ByteArray.getElem_eq_getElem_data]
  simp only [ByteArray.data_append]
  have h1 : x.size < (x.data ++ #[c]).size := by rw [Array.size_append]; show x.data.size < x.data.size + 1; omega
  rw [Array.getElem_append_left h1, Array.getElem_append_right (show x.data.size ≤ x.size from Nat.le_refl _)]
  have h2 : x.size - x.data.size = 0 := Nat.sub_self x.data.size
  simp only [h2]
  rfl
theorem nl_at {t x r : ByteArray} (h : t = x ++ ⟨#[10]⟩ ++ r) (hkt : x.size < t.size) : (t[x.size]'hkt) = 10 := by
  subst h
  exact mid_at hkt
/-- Only the scanner's variable has changed. -/
def Turned (w : World) (g : Nat) (w' : World) : Prop := w'.os = w.os ∧ w'.tape = w.tape ∧ w'.output = w.output ∧ w.heap.size ≤ w'.heap.size ∧ ∀ k, k < w.heap.size → k ≠ g → w'.heap[k]? = w.heap[k]?
theorem turned_set {w U : World} {g : Nat} (h : Turned w g U) (j : Nat) (v : Value) : Turned w g (U.setCell ⟨g, j, none⟩ v) :=
  ⟨h.1, h.2.1, h.2.2.1, by rw [show (U.setCell ⟨g, j, none⟩ v).heap.size = U.heap.size by simp]; exact h.2.2.2.1, fun k hk hne => (Below.heap_setCell U ⟨g, j, none⟩ _ k hne).trans (h.2.2.2.2 k hk hne)⟩
set_option maxRecDepth 100000 in
set_option maxHeartbeats 4000000 in
theorem Scan_end (l : ByteArray) (g : Nat) (w : World) (hb : w.heap[g]? = some (.cells (scanC ⟨#[]⟩ l) 260 (0, 0))) :
    Calls Tryz.prog 38 #[.pointer (some ⟨g, 0, none⟩)] w (Ret (fun v w' => v = .bool false ∧ w'.heap[g]? = some (.cells (scanC ⟨#[]⟩ ⟨#[]⟩) 260 (0, 0)) ∧ Turned w g w')) := by
  have c0 : w.cell? ⟨g, 0, none⟩ = some (.string ⟨#[]⟩) := blk_cell hb 0
  have c1 : w.cell? ⟨g, 1, none⟩ = some (.string l) := blk_cell hb 1
  have c3 : w.cell? ⟨g, 3, none⟩ = some .nilIface := blk_cell hb 3
  have z1 := frozen_of_row w g 1 _ _ hb
  have hset := blk_set hb 1 (.string ⟨#[]⟩)
  have HS := Lib.hid hset
  clear hset
  go_enter Tryz.func38, Tryz.ntmps38
  go_wp2
  go_ret
  exact .mk _ rfl ⟨rfl, HS.out, rfl, rfl, rfl, by simp, fun k _ hk => Below.heap_setCell w ⟨g, 1, none⟩ _ k hk⟩
set_option maxRecDepth 100000 in
set_option maxHeartbeats 4000000 in
theorem Scan_line (t x r l : ByteArray) (g : Nat) (w : World) (hb : w.heap[g]? = some (.cells (scanC t l) 260 (0, 0))) (ht : t = x ++ ⟨#[10]⟩ ++ r) (hx : ∀ c ∈ x.data.toList, c ≠ 10 ∧ c ≠ 13) (h0 : 0 < x.size) (h1 : x.size < 65536) :
    Calls Tryz.prog 38 #[.pointer (some ⟨g, 0, none⟩)] w (Ret (fun v w' => v = .bool true ∧ w'.heap[g]? = some (.cells (scanC r x) 260 (0, 0)) ∧ Turned w g w')) := by
  have c0 : w.cell? ⟨g, 0, none⟩ = some (.string t) := blk_cell hb 0
  have c1 : w.cell? ⟨g, 1, none⟩ = some (.string l) := blk_cell hb 1
  have c2 : w.cell? ⟨g, 2, none⟩ = some (.int .i64 65536) := blk_cell hb 2
  have c3 : w.cell? ⟨g, 3, none⟩ = some .nilIface := blk_cell hb 3
  have z0 := frozen_of_row w g 0 _ _ hb
  have z1 := frozen_of_row w g 1 _ _ hb
  have hg := blk_lt hb
  have hts : t.size = x.size + 1 + r.size := by rw [ht, ByteArray.size_append, ByteArray.size_append]; rfl
  have hne : t.toList.isEmpty = false := by
    rw [ByteArray.toList_eq]
    have : t.data.toList.length = t.size := Array.length_toList
    cases h : t.data.toList with
    | nil => rw [h] at this; simp at this; omega
    | cons a b => rfl
  have HT := Lib.hid ht
  have HX := Lib.hid hx
  have HTS := Lib.hid hts
  clear ht hx hts
  go_enter Tryz.func38, Tryz.ntmps38
  go_wp2
  have hset : (w.setCell ⟨g, 1, none⟩ (.string ⟨#[]⟩)).heap[g]? = some (.cells (scanC t ⟨#[]⟩) 260 (0, 0)) := blk_set hb 1 (.string ⟨#[]⟩)
  have htu : Turned w g (w.setCell ⟨g, 1, none⟩ (.string ⟨#[]⟩)) := ⟨rfl, rfl, rfl, by simp, fun k _ hk => Below.heap_setCell w ⟨g, 1, none⟩ _ k hk⟩
  clear c0 c1 c2 c3 z0 z1 hb
  generalize w.setCell ⟨g, 1, none⟩ (.string ⟨#[]⟩) = U at hset htu ⊢
  have c0 : U.cell? ⟨g, 0, none⟩ = some (.string t) := blk_cell hset 0
  have c1 : U.cell? ⟨g, 1, none⟩ = some (.string ⟨#[]⟩) := blk_cell hset 1
  have c2 : U.cell? ⟨g, 2, none⟩ = some (.int .i64 65536) := blk_cell hset 2
  have c3 : U.cell? ⟨g, 3, none⟩ = some .nilIface := blk_cell hset 3
  have z0 := frozen_of_row U g 0 _ _ hset
  have z1 := frozen_of_row U g 1 _ _ hset
  have HSET := Lib.hid hset
  have HTU := Lib.hid htu
  clear hset htu
  go_loopw [3] (fun i wr => ∃ (k : Nat), k ≤ x.size ∧ i = .int .i64 k ∧ wr = U) (fun i _ => x.size - (intOf i).toNat)
  case atStart => exact ⟨0, by omega, rfl, rfl⟩
  case round =>
    obtain ⟨k, hk, rfl, rfl⟩ := hrel
    by_cases hlt : k < x.size
    · have hkt : k < t.size := by have := HTS.out; omega
      have hkt' : (k : Int) < t.size := by omega
      obtain ⟨cv, hcv⟩ : ∃ cv : Int, ((t[k]'hkt).toNat : Int) = cv := ⟨_, rfl⟩
      have hcn : ¬ cv = 10 := by
        rw [← hcv]
        have h3 := char_at HT.out hlt hkt
        have h4 := (HX.out _ h3).1
        intro h5
        have h6 : (t[k]'hkt).toNat = 10 := by omega
        exact h4 (UInt8.toNat_inj.1 (by rw [h6]; rfl))
      go_wp2
      go_roundw
      case rel => exact ⟨k + 1, by omega, by go_num, by trivial⟩
      case measure => simp [intOf]; omega
    · obtain rfl : k = x.size := by omega
      have hkt : x.size < t.size := by have := HTS.out; omega
      have hkt' : (x.size : Int) < t.size := by omega
      obtain ⟨cv, hcv⟩ : ∃ cv : Int, ((t[x.size]'hkt).toNat : Int) = cv := ⟨_, rfl⟩
      have hcn : cv = 10 := by
        rw [← hcv, nl_at HT.out hkt]
        rfl
      have hx65 : (x.size : Int) < 65536 := by omega
      have hx65' : ¬ (65536 : Int) ≤ x.size := by omega
      go_wp2
      have hs1 := blk_set (blk_set HSET.out 1 (.string x)) 0 (.string r)
      have ht2 : Turned w g ((wr.setCell ⟨g, 1, none⟩ (.string x)).setCell ⟨g, 0, none⟩ (.string r)) := turned_set (turned_set HTU.out 1 _) 0 _
      rw [ex_line HT.out, ex_rest HT.out]
      generalize (wr.setCell ⟨g, 1, none⟩ (.string x)).setCell ⟨g, 0, none⟩ (.string r) = V at hs1 ht2 ⊢
      have HS1 : Hid (V.heap[g]? = some (.cells (scanC r x) 260 (0, 0))) := Lib.hid hs1
      have HT2 := Lib.hid ht2
      have v1 : V.drew.cell? ⟨g, 1, none⟩ = some (.string x) := blk_cell hs1 1
      clear hs1 ht2 c0 c1 c2 c3 z0 z1
      obtain ⟨j, hj⟩ : ∃ j, x.size = j + 1 := ⟨x.size - 1, by omega⟩
      have hlast : j < x.size := by omega
      obtain ⟨cu, hcu⟩ : ∃ cu : Int, ((x[j]'hlast).toNat : Int) = cu := ⟨_, rfl⟩
      have hcun : ¬ cu = 13 := by
        rw [← hcu]
        have h4 := (HX.out (x[j]'hlast) (by simp [ByteArray.getElem_eq_getElem_data])).2
        intro h5
        have h6 : (x[j]'hlast).toNat = 13 := by omega
        exact h4 (UInt8.toNat_inj.1 (by rw [h6]; rfl))
      have hw1 : IntKind.i64.wrap (j : Int) = j := wrap_small (by omega) (by omega)
      have hb3 : (0 : Int) < (j : Int) + 1 := by omega
      clear hx65 hx65' hcv hcn hk hlt h0 h1
      go_region_held3 (fun w' => w'.cell? ⟨g, 1, none⟩ = some (.string x)) (with_reducible first | assumption | exact v1) (fail)
      go_wp2
      go_ret
      exact .mk _ rfl ⟨rfl, HS1.out, HT2.out⟩
end Go.Proofs.YtaniejfkbapbbaaGreatDoor
namespace Go.Proofs.YtaniejfkbapbbaaGreatDoor
open Go.Shelf
def Tryz.laysPu14_ren : Go.Shelf.Ren := ⟨fun | 14 => 123 | 16 => 130 | 17 => 131 | 19 => 136 | 20 => 137 | 21 => 138 | 22 => 139 | 23 => 140 | 24 => 141 | 25 => 143 | 27 => 144 | 26 => 120 | 28 => 146 | 29 => 149 | 30 => 163 | 31 => 164 | 32 => 165 | 33 => 166 | 35 => 170 | 34 => 181 | 36 => 174 | 37 => 182 | 38 => 183 | 39 => 188 | 40 => 189 | n => n, fun | 9 => 9 | 3 => 3 | 22 => 31 | 24 => 54 | 25 => 265 | 4 => 4 | 34 => 297 | 5 => 5 | 36 => 299 | 37 => 137 | 0 => 0 | 39 => 300 | 21 => 21 | 44 => 307 | 47 => 311 | 50 => 275 | 48 => 273 | 2 => 2 | 52 => 340 | 55 => 343 | 59 => 364 | 60 => 61 | 20 => 20 | 61 => 365 | 65 => 381 | 66 => 382 | 67 => 383 | n => n, fun | 0 => 3 | 1 => 4 | 2 => 11 | 3 => 14 | 4 => 15 | n => n⟩
theorem Tryz.laysPu14 : Go.Proofs.LaysPu.n14 Tryz.prog Tryz.laysPu14_ren := {
  mixed := by kernel_rfl
  f14 := Tryz.func123.trans (congrArg some (by kernel_rfl))
  f16 := Tryz.func130.trans (congrArg some (by kernel_rfl))
  f17 := Tryz.func131.trans (congrArg some (by kernel_rfl))
  f19 := Tryz.func136.trans (congrArg some (by kernel_rfl))
  f20 := Tryz.func137.trans (congrArg some (by kernel_rfl))
  f21 := Tryz.func138.trans (congrArg some (by kernel_rfl))
  f22 := Tryz.func139.trans (congrArg some (by kernel_rfl))
  f23 := Tryz.func140.trans (congrArg some (by kernel_rfl))
  f24 := Tryz.func141.trans (congrArg some (by kernel_rfl))
  f25 := Tryz.func143.trans (congrArg some (by kernel_rfl))
  f26 := Tryz.func120.trans (congrArg some (by kernel_rfl))
  f27 := Tryz.func144.trans (congrArg some (by kernel_rfl))
  f28 := Tryz.func146.trans (congrArg some (by kernel_rfl))
  f29 := Tryz.func149.trans (congrArg some (by kernel_rfl))
  f30 := Tryz.func163.trans (congrArg some (by kernel_rfl))
  f31 := Tryz.func164.trans (congrArg some (by kernel_rfl))
  f32 := Tryz.func165.trans (congrArg some (by kernel_rfl))
  f33 := Tryz.func166.trans (congrArg some (by kernel_rfl))
  f34 := Tryz.func181.trans (congrArg some (by kernel_rfl))
  f35 := Tryz.func170.trans (congrArg some (by kernel_rfl))
  f36 := Tryz.func174.trans (congrArg some (by kernel_rfl))
  f37 := Tryz.func182.trans (congrArg some (by kernel_rfl))
  f38 := Tryz.func183.trans (congrArg some (by kernel_rfl))
  f39 := Tryz.func188.trans (congrArg some (by kernel_rfl))
  f40 := Tryz.func189.trans (congrArg some (by kernel_rfl))
  t0 := Tryz.underlying0
  a0 := Tryz.isAgg0
  z0 := Tryz.sizeOf0
  v0 := Tryz.zeroValue0
  i0 := by kernel_rfl
  t2 := Tryz.underlying2
  a2 := Tryz.isAgg2
  z2 := Tryz.sizeOf2
  v2 := Tryz.zeroValue2
  i2 := by kernel_rfl
  t3 := Tryz.underlying3
  a3 := Tryz.isAgg3
  z3 := Tryz.sizeOf3
  v3 := Tryz.zeroValue3
  i3 := by kernel_rfl
  t4 := Tryz.underlying4
  a4 := Tryz.isAgg4
  z4 := Tryz.sizeOf4
  v4 := Tryz.zeroValue4
  i4 := by kernel_rfl
  t5 := Tryz.underlying5
  a5 := Tryz.isAgg5
  z5 := Tryz.sizeOf5
  v5 := Tryz.zeroValue5
  i5 := by kernel_rfl
  t9 := Tryz.underlying9
  a9 := Tryz.isAgg9
  z9 := Tryz.sizeOf9
  v9 := Tryz.zeroValue9
  i9 := by kernel_rfl
  t20 := Tryz.underlying20
  a20 := Tryz.isAgg20
  z20 := Tryz.sizeOf20
  v20 := Tryz.zeroValue20
  i20 := by kernel_rfl
  t21 := Tryz.underlying21
  a21 := Tryz.isAgg21
  z21 := Tryz.sizeOf21
  v21 := Tryz.zeroValue21
  i21 := by kernel_rfl
  t22 := Tryz.underlying31
  a22 := Tryz.isAgg31
  z22 := Tryz.sizeOf31
  v22 := Tryz.zeroValue31
  i22 := by kernel_rfl
  t24 := Tryz.underlying54
  a24 := Tryz.isAgg54
  z24 := Tryz.sizeOf54
  v24 := Tryz.zeroValue54
  i24 := by kernel_rfl
  t25 := Tryz.underlying265
  a25 := Tryz.isAgg265
  z25 := Tryz.sizeOf265
  v25 := Tryz.zeroValue265
  i25 := by kernel_rfl
  t34 := Tryz.underlying297
  a34 := Tryz.isAgg297
  z34 := Tryz.sizeOf297
  v34 := Tryz.zeroValue297
  i34 := by kernel_rfl
  c34 := by kernel_rfl
  t36 := Tryz.underlying299
  a36 := Tryz.isAgg299
  z36 := Tryz.sizeOf299
  v36 := Tryz.zeroValue299
  i36 := by kernel_rfl
  t37 := Tryz.underlying137
  a37 := Tryz.isAgg137
  z37 := Tryz.sizeOf137
  v37 := Tryz.zeroValue137
  i37 := by kernel_rfl
  t39 := Tryz.underlying300
  a39 := Tryz.isAgg300
  z39 := Tryz.sizeOf300
  v39 := Tryz.zeroValue300
  i39 := by kernel_rfl
  t44 := Tryz.underlying307
  a44 := Tryz.isAgg307
  z44 := Tryz.sizeOf307
  v44 := Tryz.zeroValue307
  i44 := by kernel_rfl
  t47 := Tryz.underlying311
  a47 := Tryz.isAgg311
  z47 := Tryz.sizeOf311
  v47 := Tryz.zeroValue311
  i47 := by kernel_rfl
  t48 := Tryz.underlying273
  a48 := Tryz.isAgg273
  z48 := Tryz.sizeOf273
  v48 := Tryz.zeroValue273
  i48 := by kernel_rfl
  t50 := Tryz.underlying275
  a50 := Tryz.isAgg275
  z50 := Tryz.sizeOf275
  v50 := Tryz.zeroValue275
  i50 := by kernel_rfl
  t52 := Tryz.underlying340
  a52 := Tryz.isAgg340
  z52 := Tryz.sizeOf340
  v52 := Tryz.zeroValue340
  i52 := by kernel_rfl
  t55 := Tryz.underlying343
  a55 := Tryz.isAgg343
  z55 := Tryz.sizeOf343
  v55 := Tryz.zeroValue343
  i55 := by kernel_rfl
  t59 := Tryz.underlying364
  a59 := Tryz.isAgg364
  z59 := Tryz.sizeOf364
  v59 := Tryz.zeroValue364
  i59 := by kernel_rfl
  t60 := Tryz.underlying61
  a60 := Tryz.isAgg61
  z60 := Tryz.sizeOf61
  v60 := Tryz.zeroValue61
  i60 := by kernel_rfl
  t61 := Tryz.underlying365
  a61 := Tryz.isAgg365
  z61 := Tryz.sizeOf365
  t65 := Tryz.underlying381
  a65 := Tryz.isAgg381
  z65 := Tryz.sizeOf381
  v65 := Tryz.zeroValue381
  i65 := by kernel_rfl
  t66 := Tryz.underlying382
  a66 := Tryz.isAgg382
  z66 := Tryz.sizeOf382
  v66 := Tryz.zeroValue382
  i66 := by kernel_rfl
  t67 := Tryz.underlying383
  a67 := Tryz.isAgg383
  z67 := Tryz.sizeOf383
  v67 := Tryz.zeroValue383
  i67 := by kernel_rfl
  g0 := by kernel_rfl
  m0 := by kernel_rfl
  g1 := by kernel_rfl
  m1 := by kernel_rfl
  g2 := by kernel_rfl
  m2 := by kernel_rfl
  g3 := by kernel_rfl
  m3 := by kernel_rfl
  g4 := by kernel_rfl
  m4 := by kernel_rfl }
open Go.RowKit in
/-- strconv.ParseUint(s, 10, 64), AT EVERY STRING THAT SPELLS A uint64 ('Lib.parseUintB 64 s.data.toList = .ok u'): u, AND NO ERROR. (LAID: no walk: one application.) -/
theorem Tryz.strconv_ParseUint_10_at64_ok (s : ByteArray) (hmax : s.size ≤ 9223372036854775806) (u : Nat) (h : Lib.parseUintB 64 s.data.toList = .ok u) (w : World) :
    Calls Tryz.prog 123 #[.string s, .int .i64 10, .int .i64 64] w fun e w' => e = .returned (.tuple #[.int .u64 u, .nilIface]) ∧ (w' = w ∨ w' = Lib.bytesWorld w 5 s) := Any.strconv_ParseUint_10_at64_ok Tryz.laysPu14 s hmax u h w
open Go.RowKit in
/-- strconv.ParseUint(s, 10, 32), AT EVERY STRING THAT SPELLS A uint32 ('Lib.parseUintB 32 s.data.toList = .ok u'): u, AND NO ERROR. (LAID: no walk: one application.) -/
theorem Tryz.strconv_ParseUint_10_at32_ok (s : ByteArray) (hmax : s.size ≤ 9223372036854775806) (u : Nat) (h : Lib.parseUintB 32 s.data.toList = .ok u) (w : World) :
    Calls Tryz.prog 123 #[.string s, .int .i64 10, .int .i64 32] w fun e w' => e = .returned (.tuple #[.int .u64 u, .nilIface]) ∧ (w' = w ∨ w' = Lib.bytesWorld w 5 s) := Any.strconv_ParseUint_10_at32_ok Tryz.laysPu14 s hmax u h w
def Tryz.lays157_ren : Go.Shelf.Ren := ⟨fun | 157 => 39 | 229 => 121 | 199 => 122 | 261 => 129 | 311 => 134 | 312 => 135 | n => n, fun | 9 => 9 | 31 => 44 | 3 => 3 | 5 => 5 | 4 => 4 | 119 => 262 | 0 => 0 | 40 => 264 | 152 => 276 | 21 => 21 | 154 => 278 | 51 => 61 | 141 => 280 | 196 => 289 | 193 => 286 | 198 => 292 | 49 => 290 | 194 => 287 | 201 => 295 | 226 => 303 | 46 => 299 | 227 => 304 | n => n, fun | 0 => 1 | 6 => 2 | n => n⟩
theorem Tryz.lays157 : Go.Proofs.Lays.n157 Tryz.prog Tryz.lays157_ren := {
  mixed := by kernel_rfl
  f157 := Tryz.func39.trans (congrArg some (by kernel_rfl))
  f199 := Tryz.func122.trans (congrArg some (by kernel_rfl))
  f229 := Tryz.func121.trans (congrArg some (by kernel_rfl))
  f261 := Tryz.func129.trans (congrArg some (by kernel_rfl))
  f311 := Tryz.func134.trans (congrArg some (by kernel_rfl))
  f312 := Tryz.func135.trans (congrArg some (by kernel_rfl))
  t0 := Tryz.underlying0
  a0 := Tryz.isAgg0
  z0 := Tryz.sizeOf0
  v0 := Tryz.zeroValue0
  t3 := Tryz.underlying3
  a3 := Tryz.isAgg3
  z3 := Tryz.sizeOf3
  v3 := Tryz.zeroValue3
  t4 := Tryz.underlying4
  a4 := Tryz.isAgg4
  z4 := Tryz.sizeOf4
  v4 := Tryz.zeroValue4
  t5 := Tryz.underlying5
  a5 := Tryz.isAgg5
  z5 := Tryz.sizeOf5
  v5 := Tryz.zeroValue5
  t9 := Tryz.underlying9
  a9 := Tryz.isAgg9
  z9 := Tryz.sizeOf9
  v9 := Tryz.zeroValue9
  t21 := Tryz.underlying21
  a21 := Tryz.isAgg21
  z21 := Tryz.sizeOf21
  v21 := Tryz.zeroValue21
  t31 := Tryz.underlying44
  a31 := Tryz.isAgg44
  z31 := Tryz.sizeOf44
  v31 := Tryz.zeroValue44
  t40 := Tryz.underlying264
  a40 := Tryz.isAgg264
  z40 := Tryz.sizeOf264
  v40 := Tryz.zeroValue264
  t46 := Tryz.underlying299
  a46 := Tryz.isAgg299
  z46 := Tryz.sizeOf299
  v46 := Tryz.zeroValue299
  t49 := Tryz.underlying290
  a49 := Tryz.isAgg290
  z49 := Tryz.sizeOf290
  v49 := Tryz.zeroValue290
  t51 := Tryz.underlying61
  a51 := Tryz.isAgg61
  z51 := Tryz.sizeOf61
  v51 := Tryz.zeroValue61
  t119 := Tryz.underlying262
  a119 := Tryz.isAgg262
  z119 := Tryz.sizeOf262
  t141 := Tryz.underlying280
  a141 := Tryz.isAgg280
  z141 := Tryz.sizeOf280
  v141 := Tryz.zeroValue280
  t152 := Tryz.underlying276
  a152 := Tryz.isAgg276
  z152 := Tryz.sizeOf276
  v152 := Tryz.zeroValue276
  t154 := Tryz.underlying278
  a154 := Tryz.isAgg278
  z154 := Tryz.sizeOf278
  v154 := Tryz.zeroValue278
  t193 := Tryz.underlying286
  a193 := Tryz.isAgg286
  z193 := Tryz.sizeOf286
  v193 := Tryz.zeroValue286
  t194 := Tryz.underlying287
  a194 := Tryz.isAgg287
  z194 := Tryz.sizeOf287
  v194 := Tryz.zeroValue287
  t196 := Tryz.underlying289
  a196 := Tryz.isAgg289
  z196 := Tryz.sizeOf289
  v196 := Tryz.zeroValue289
  t198 := Tryz.underlying292
  a198 := Tryz.isAgg292
  z198 := Tryz.sizeOf292
  v198 := Tryz.zeroValue292
  t201 := Tryz.underlying295
  a201 := Tryz.isAgg295
  z201 := Tryz.sizeOf295
  v201 := Tryz.zeroValue295
  t226 := Tryz.underlying303
  a226 := Tryz.isAgg303
  z226 := Tryz.sizeOf303
  v226 := Tryz.zeroValue303
  t227 := Tryz.underlying304
  a227 := Tryz.isAgg304
  z227 := Tryz.sizeOf304
  v227 := Tryz.zeroValue304
  g0 := by kernel_rfl
  g6 := by kernel_rfl }
open Go.RowKit Go.Lib in
/-- strings.Fields, the table by 'Lib.TabIs' (as strings.TrimSpace's contract). 'hg': the table's number, by its name: at a dump 'by kernel_rfl'. (LAID: no walk: one application.) -/
theorem Tryz.strings_Fields (s : ByteArray) (w : World) (hs : s.size < 4294967281) (hascii : ∀ (j : Nat) b, s.data.toList[j]? = some b → b.toNat < 128) (htab : Lib.TabIs Tryz.prog w "strings.asciiSpace" .u8 Lib.asciiSpaceTab) :
    Calls Tryz.prog 39 #[.string s] w fun e w' =>
      e = .returned (.slice (some ⟨w.heap.size, 0, none⟩) (Lib.fields s.data.toList).length (Lib.fields s.data.toList).length) ∧ w' = w.alloc (.cells ((Lib.fields s.data.toList).map fun l => Value.string ⟨l.toArray⟩).toArray 9) := Any.strings_Fields Tryz.lays157 (by kernel_rfl) (by kernel_rfl) s w hs hascii htab
end Go.Proofs.YtaniejfkbapbbaaGreatDoor
namespace Go.Proofs.YtaniejfkbapbbaaGreatDoor
open Go.RowKit Go.Proofs.YtaniejfkbapbbaaGreatDoorW.PrintWords Go.Proofs.YtaniejfkbapbbaaGreatDoorW.PrintLast Go.Proofs.YtaniejfkbapbbaaGreatDoorW.PrintMore

theorem below_bytes' (w : World) (e : TypeId) (s : ByteArray) : Below w.heap.size w (Lib.bytesWorld w e s) :=
  ⟨rfl, rfl, rfl, by rw [Lib.bytesWorld_size]; omega, fun k hk => Lib.bytesWorld_at_old w e s k hk⟩
/-- Numbers as a row of their own, and no error. -/
def SomeInts (k : IntKind) (xs : List Int) (w : World) (v : Value) (w' : World) : Prop := ∃ u, v = .tuple #[u, .nilIface] ∧ (0 < xs.length → ∃ b c, u = .slice (some ⟨b, 0, none⟩) xs.length c) ∧ (∀ b c, u = .slice (some ⟨b, 0, none⟩) xs.length c → ∀ j, j < xs.length → w'.cell? ⟨b, j, none⟩ = some (.int k (xs.getD j 0))) ∧ Below w.heap.size w w'
theorem ints_of {k : IntKind} {e : Nat} {w W : World} {v : Value} {xs : List Int} (h : Kd.R (Kd.int k) e W w.heap.size (fun _ => True) v xs) (hB : Below w.heap.size w W) : SomeInts k xs w (.tuple #[v, .nilIface]) W := by
  have ho := Kd.own_of_R h
  refine ⟨v, rfl, fun hp => ?_, ?_, hB⟩
  · rcases ho.2 with ⟨_, h0⟩ | ⟨g, cap, cur, rfl, _⟩
    · omega
    · exact ⟨g, cap, rfl⟩
  · intro b c hv j hj
    rcases ho.2 with ⟨_, h0⟩ | ⟨g, cap, cur, rfl, _, hg, _, _, _, ht⟩
    · omega
    · injection hv with h1 h2 h3
      injection h1 with h1
      injection h1 with h1
      subst h1
      refine (blk_cell hg j).trans ?_
      have h4 : (cur.toList.take (xs.length * 1))[j]? = (encs (Value.int k) xs)[j]? := by rw [ht]
      rw [List.getElem?_take] at h4
      rw [if_pos (by omega), Array.getElem?_toList] at h4
      rw [h4]
      simp [encs, List.getElem?_map, List.getElem?_eq_getElem hj, List.getD_eq_getElem?_getD]

theorem pu32 (x : Int) (h0 : 0 ≤ x) (h1 : x < 4294967296) (w : World) : Calls Tryz.prog 123 #[.string (B (digs x.toNat)), .int .i64 10, .int .i64 32] w (Ret (fun v w' => v = .tuple #[.int .u64 x, .nilIface] ∧ Below w.heap.size w w')) := by
  have hs : (B (digs x.toNat)).size ≤ 20 := by rw [B_size]; exact digs_len 19 _ (by omega)
  refine (Tryz.strconv_ParseUint_10_at32_ok _ (by omega) x.toNat (by rw [B_data]; exact parseB_digs 32 _ (by omega) (by omega)) w).mono ?_
  rintro e w' ⟨rfl, hw⟩
  refine .mk _ rfl ⟨by rw [Int.toNat_of_nonneg h0], ?_⟩
  rcases hw with rfl | rfl
  · exact Below.refl _ _
  · exact below_bytes' w 5 _
theorem info61' : (Tryz.prog.info? 61).map (fun i => (i.zero, i.size, i.bytes)) = some (some (.int .u32 0), 1, 4) := by kernel_rfl
theorem make147 (n : Nat) (hn : n ≤ 40000) (w : World) : (Instr.makeSlice 147 (.int .i64 0) (.int .i64 (n : Int))).run Tryz.prog w = .ok (.slice (some ⟨w.heap.size, 0, none⟩) 0 n) (w.alloc (.cells (madeCells #[.int .u32 0] n) 61)) := by
  obtain ⟨i, hi, hzz⟩ := Option.map_eq_some_iff.1 info61'
  simp only [Prod.mk.injEq] at hzz
  obtain ⟨hz, hs, hb⟩ := hzz
  have := run_make (P := Tryz.prog) w 147 61 i (.int .u32 0) Tryz.underlying147 hi hz .i64 .i64 0 n (by omega) (by omega) (by rw [hb]; omega) (by omega)
  rw [hs] at this
  simpa [Value.cells] using this
theorem made61 (n : Nat) (hn : n ≤ 40000) (w : World) : Kd.R (Kd.int .u32) 61 (w.alloc (.cells (madeCells #[.int .u32 0] n) 61)) w.heap.size (fun _ => True) (.slice (some ⟨w.heap.size, 0, none⟩) 0 n) [] :=
  Kd.R_of_own (xs := []) (World.ownsRow_made w _ n (Nat.le_refl _) (by unfold maxLen; omega) (by simp [madeCells])) (fun _ _ => trivial)

set_option maxHeartbeats 1000000 in
theorem parse32_c (xs : List Int) (g c : Nat) (w : World) (hx : ∀ j, j < xs.length → w.cell? ⟨g, 1 + j, none⟩ = some (.string (B (digs (xs.getD j 0).toNat)))) (hb : ∀ x ∈ xs, 0 ≤ x ∧ x < 4294967296) (hl : xs.length ≤ 40000) :
    Calls Tryz.prog 45 #[.slice (some ⟨g, 1, none⟩) xs.length c] w (Ret (SomeInts .u32 xs w)) := by
  have HX := Lib.hid hx
  have HB := Lib.hid hb
  clear hx hb
  have hmk := make147 xs.length hl w
  go_enter Tryz.func45, Tryz.ntmps45
  go_wp2
  have hR0 := made61 xs.length hl w
  have hB0 := below_alloc (Below.refl w.heap.size w) (.cells (madeCells #[.int .u32 0] xs.length) 61)
  clear hmk
  go_loopw [4, 14] (fun v i wr => ∃ (k : Nat), k ≤ xs.length ∧ i = .int .i64 k ∧ Kd.R (Kd.int .u32) 61 wr w.heap.size (fun _ => True) v (xs.take k) ∧ Below w.heap.size w wr) (fun _ i _ => xs.length - (intOf i).toNat)
  case atStart => exact ⟨0, by omega, rfl, hR0, hB0⟩
  case round =>
    obtain ⟨k, hk, rfl, hR, hB⟩ := hrel
    clear hR0 hB0
    by_cases hlt : k < xs.length
    · have hcell := HX.out k hlt
      have hcell' := (hB.cell (World.block_lt_of_cell? w _ hcell)).trans hcell
      have hm : xs.getD k 0 ∈ xs := by rw [List.getD_eq_getElem?_getD, List.getElem?_eq_getElem hlt]; exact List.getElem_mem hlt
      have htk : xs.take (k + 1) = xs.take k ++ [xs.getD k 0] := by rw [List.take_add_one, List.getD_eq_getElem?_getD, List.getElem?_eq_getElem hlt]; rfl
      have hxb := HB.out _ hm
      generalize xs.getD k 0 = x at hcell' hxb htk
      have hlk : (xs.take k).length = k := by rw [List.length_take]; omega
      have hwr : IntKind.u32.wrap x = x := by rw [IntKind.wrap_u32]; omega
      clear hcell hm
      go_wp2_with (first
        | (go_at_call 123; refine (pu32 x hxb.1 hxb.2 _).mono ?_; rintro e w1 ⟨v, rfl, rfl, hb1⟩; have hB1 : Below w.heap.size w w1 := hB.trans (hb1.mono hB.size); have hR1 := Kd.R_below hR hb1; clear hR hB hb1)
        | (at_builtin; refine Kd.R_append (Kd.int .u32) (w0 := w) w.heap.size rfl (.tmp 26) (.tmp 29) 147 61 (.int .u32 0) 4 rfl Tryz.underlying147 info61' rfl (by decide) (by omega) _ (xs.take k) x [.int .u32 x] (fun _ => True) (fun _ => False) rfl rfl rfl (fun _ h => h.elim) (fun _ _ => trivial) hR1 hB1 hB1.size (by omega) ?_; intro v2 w2 hR2 hB2 _ _; clear hR1 hB1))

      go_roundw
      case rel => exact ⟨k + 1, by omega, by go_num, by rw [htk]; exact hR2, hB2⟩
      case measure => simp [intOf]; omega
    · obtain rfl : k = xs.length := by omega
      go_wp2
      go_ret2
      rw [List.take_length] at hR
      exact .mk _ rfl (ints_of hR hB)

theorem pu64 (x : Int) (h0 : 0 ≤ x) (h1 : x < 18446744073709551616) (w : World) : Calls Tryz.prog 123 #[.string (B (digs x.toNat)), .int .i64 10, .int .i64 64] w (Ret (fun v w' => v = .tuple #[.int .u64 x, .nilIface] ∧ Below w.heap.size w w')) := by
  have hs : (B (digs x.toNat)).size ≤ 20 := by rw [B_size]; exact digs_len 19 _ (by omega)
  refine (Tryz.strconv_ParseUint_10_at64_ok _ (by omega) x.toNat (by rw [B_data]; exact parseB_digs 64 _ (by omega) (by omega)) w).mono ?_
  rintro e w' ⟨rfl, hw⟩
  refine .mk _ rfl ⟨by rw [Int.toNat_of_nonneg h0], ?_⟩
  rcases hw with rfl | rfl
  · exact Below.refl _ _
  · exact below_bytes' w 5 _
theorem info31' : (Tryz.prog.info? 31).map (fun i => (i.zero, i.size, i.bytes)) = some (some (.int .u64 0), 1, 8) := by kernel_rfl
theorem make48 (n : Nat) (hn : n ≤ 40000) (w : World) : (Instr.makeSlice 48 (.int .i64 0) (.int .i64 (n : Int))).run Tryz.prog w = .ok (.slice (some ⟨w.heap.size, 0, none⟩) 0 n) (w.alloc (.cells (madeCells #[.int .u64 0] n) 31)) := by
  obtain ⟨i, hi, hzz⟩ := Option.map_eq_some_iff.1 info31'
  simp only [Prod.mk.injEq] at hzz
  obtain ⟨hz, hs, hb⟩ := hzz
  have := run_make (P := Tryz.prog) w 48 31 i (.int .u64 0) Tryz.underlying48 hi hz .i64 .i64 0 n (by omega) (by omega) (by rw [hb]; omega) (by omega)
  rw [hs] at this
  simpa [Value.cells] using this
theorem made31 (n : Nat) (hn : n ≤ 40000) (w : World) : Kd.R (Kd.int .u64) 31 (w.alloc (.cells (madeCells #[.int .u64 0] n) 31)) w.heap.size (fun _ => True) (.slice (some ⟨w.heap.size, 0, none⟩) 0 n) [] :=
  Kd.R_of_own (xs := []) (World.ownsRow_made w _ n (Nat.le_refl _) (by unfold maxLen; omega) (by simp [madeCells])) (fun _ _ => trivial)

set_option maxHeartbeats 1000000 in
theorem parse64_c (xs : List Int) (g c : Nat) (w : World) (hx : ∀ j, j < xs.length → w.cell? ⟨g, 1 + j, none⟩ = some (.string (B (digs (xs.getD j 0).toNat)))) (hb : ∀ x ∈ xs, 0 ≤ x ∧ x < 18446744073709551616) (hl : xs.length ≤ 40000) :
    Calls Tryz.prog 41 #[.slice (some ⟨g, 1, none⟩) xs.length c] w (Ret (SomeInts .u64 xs w)) := by
  have HX := Lib.hid hx
  have HB := Lib.hid hb
  clear hx hb
  have hmk := make48 xs.length hl w
  go_enter Tryz.func41, Tryz.ntmps41
  go_wp2
  have hR0 := made31 xs.length hl w
  have hB0 := below_alloc (Below.refl w.heap.size w) (.cells (madeCells #[.int .u64 0] xs.length) 31)
  clear hmk
  go_loopw [4, 14] (fun v i wr => ∃ (k : Nat), k ≤ xs.length ∧ i = .int .i64 k ∧ Kd.R (Kd.int .u64) 31 wr w.heap.size (fun _ => True) v (xs.take k) ∧ Below w.heap.size w wr) (fun _ i _ => xs.length - (intOf i).toNat)
  case atStart => exact ⟨0, by omega, rfl, hR0, hB0⟩
  case round =>
    obtain ⟨k, hk, rfl, hR, hB⟩ := hrel
    clear hR0 hB0
    by_cases hlt : k < xs.length
    · have hcell := HX.out k hlt
      have hcell' := (hB.cell (World.block_lt_of_cell? w _ hcell)).trans hcell
      have hm : xs.getD k 0 ∈ xs := by rw [List.getD_eq_getElem?_getD, List.getElem?_eq_getElem hlt]; exact List.getElem_mem hlt
      have htk : xs.take (k + 1) = xs.take k ++ [xs.getD k 0] := by rw [List.take_add_one, List.getD_eq_getElem?_getD, List.getElem?_eq_getElem hlt]; rfl
      have hxb := HB.out _ hm
      generalize xs.getD k 0 = x at hcell' hxb htk
      have hlk : (xs.take k).length = k := by rw [List.length_take]; omega
      have hwr : IntKind.u64.wrap x = x := by rw [IntKind.wrap_u64]; omega
      clear hcell hm
      go_wp2_with (first
        | (go_at_call 123; refine (pu64 x hxb.1 hxb.2 _).mono ?_; rintro e w1 ⟨v, rfl, rfl, hb1⟩; have hB1 : Below w.heap.size w w1 := hB.trans (hb1.mono hB.size); have hR1 := Kd.R_below hR hb1; clear hR hB hb1)
        | (at_builtin; refine Kd.R_append (Kd.int .u64) (w0 := w) w.heap.size rfl (.tmp 26) (.tmp 28) 48 31 (.int .u64 0) 8 rfl Tryz.underlying48 info31' rfl (by decide) (by omega) _ (xs.take k) x [.int .u64 x] (fun _ => True) (fun _ => False) rfl rfl rfl (fun _ h => h.elim) (fun _ _ => trivial) hR1 hB1 hB1.size (by omega) ?_; intro v2 w2 hR2 hB2 _ _; clear hR1 hB1))

      go_roundw
      case rel => exact ⟨k + 1, by omega, by go_num, by rw [htk]; exact hR2, hB2⟩
      case measure => simp [intOf]; omega
    · obtain rfl : k = xs.length := by omega
      go_wp2
      go_ret2
      rw [List.take_length] at hR
      exact .mk _ rfl (ints_of hR hB)
end Go.Proofs.YtaniejfkbapbbaaGreatDoor
namespace Go.Proofs.YtaniejfkbapbbaaGreatDoor
open Go.RowKit Go.Proofs.YtaniejfkbapbbaaGreatDoorW.PrintWords Go.Proofs.YtaniejfkbapbbaaGreatDoorW.PrintLast Go.Proofs.YtaniejfkbapbbaaGreatDoorW.PrintMore
open Go.Proofs.YtaniejfkbapbbaaGreatDoor.PFnXfsNormal (S50 k50 k50_mkM info5 info9 info31 info50 info126)

/-- The first cell of a label's section among the cells of Stats (cell 0 is the name). -/
def offIn : List (ByteArray × Nat) → List UInt8 → Nat → Nat
  | [], _, _ => 0
  | e :: r, s, o => if e.1.data.toList = s then o else offIn r s (o + e.2)
def offX (s : ByteArray) : Nat := offIn XT s.data.toList 1
/-- The cells behind a row. -/
def stRow (f : Nat → Int) (r : S50) : Nat → Int := fun i => if offX r.f0 ≤ i ∧ i < offX r.f0 + r.f1.length then r.f1.getD (i - offX r.f0) 0 else f i
def stOf (l : List S50) : Nat → Int := l.foldl stRow (fun _ => 0)
theorem stOf_snoc (l : List S50) (r : S50) : stOf (l ++ [r]) = stRow (stOf l) r := by simp [stOf]
/-- Cells of 64 bits. -/
def big (i : Nat) : Bool := i == 65 || i == 66 || i == 67 || i == 274 || i == 275
def Lim (f : Nat → Int) : Prop := ∀ i, 0 ≤ f i ∧ f i < 18446744073709551616 ∧ (big i = false → f i < 4294967296)
theorem xt_big : ∀ e ∈ XT, e.1.data.toList = sXpc.data.toList ∨ e.1.data.toList = sDefer.data.toList → ∀ i, offIn XT e.1.data.toList 1 ≤ i → i < offIn XT e.1.data.toList 1 + e.2 → big i = true := by
  have h : ∀ e ∈ XT, e.1.data.toList = sXpc.data.toList ∨ e.1.data.toList = sDefer.data.toList → ∀ j, j < e.2 → big (offIn XT e.1.data.toList 1 + j) = true := by decide
  intro e he hor i h1 h2
  have := h e he hor (i - offIn XT e.1.data.toList 1) (by omega)
  rw [Nat.add_sub_cancel' h1] at this
  exact this
theorem xt_text : ∀ e ∈ XT, e.1.data.toList ≠ [] ∧ e.2 ≠ 0 ∧ ∀ b ∈ e.1.data.toList, 33 ≤ b.toNat ∧ b.toNat < 128 := by decide
theorem lim_zero : Lim (fun _ => 0) := fun i => ⟨Int.le_refl 0, by show (0 : Int) < _; omega, fun _ => by show (0 : Int) < _; omega⟩
theorem lim_row {f : Nat → Int} {r : S50} (hf : Lim f) (hr : FineRow r) (hn : Nums r.f1) : Lim (stRow f r) := by
  intro i
  unfold stRow
  split
  · rename_i h
    have hm : r.f1.getD (i - offX r.f0) 0 ∈ r.f1 := by
      have hlt : i - offX r.f0 < r.f1.length := by omega
      rw [List.getD_eq_getElem?_getD, List.getElem?_eq_getElem hlt]
      exact List.getElem_mem hlt
    refine ⟨(hn _ hm).1, (hn _ hm).2, fun hb => ?_⟩
    obtain ⟨h1, _, h3⟩ := hr
    rcases h3 with h3 | h3 | h3
    · have := xt_big _ h1 (.inl (by rw [h3])) i h.1 h.2
      rw [this] at hb; cases hb
    · have := xt_big _ h1 (.inr (by rw [h3])) i h.1 h.2
      rw [this] at hb; cases hb
    · exact h3 _ hm
  · exact hf i
theorem lim_of : ∀ (l : List S50), Fine l → RowsOk l → Lim (stOf l) := by
  have key : ∀ (l : List S50) (f : Nat → Int), Lim f → Fine l → RowsOk l → Lim (l.foldl stRow f) := by
    intro l
    induction l with
    | nil => intro f hf _ _; exact hf
    | cons r l ih =>
      intro f hf h1 h2
      exact ih _ (lim_row hf (h1 r (by simp)) (h2 r (by simp)).1) (fun x hx => h1 x (by simp [hx])) (fun x hx => h2 x (by simp [hx]))
  exact fun l h1 h2 => key l _ lim_zero h1 h2
/-- A row's line without its end. -/
def textX (r : S50) : ByteArray := B (joinSp (r.f0.data.toList :: txts r.f1))
theorem fine_ne {r : S50} (h : FineRow r) : txts r.f1 ≠ [] := by
  have h1 := (xt_text _ h.1).2.1
  intro h2
  have h3 : (txts r.f1).length = 0 := by rw [h2]; rfl
  simp only [txts, List.length_map] at h3
  exact h1 h3
theorem lineX_text {r : S50} (h : FineRow r) : lineX r = textX r ++ ⟨#[10]⟩ := by
  unfold lineX textX
  rw [joinSp_cons _ _ (fine_ne h)]
  apply ByteArray.ext
  apply Array.ext'
  simp [ByteArray.data_append, B]
theorem word_ok {r : S50} (h : FineRow r) : ∀ x ∈ r.f0.data.toList :: txts r.f1, x ≠ [] ∧ ∀ b ∈ x, 33 ≤ b.toNat ∧ b.toNat < 128 := by
  intro x hx
  rcases List.mem_cons.1 hx with rfl | hx
  · exact ⟨(xt_text _ h.1).1, (xt_text _ h.1).2.2⟩
  · obtain ⟨n, _, rfl⟩ := List.mem_map.1 hx
    exact ⟨digs_ne_nil _, fun b hb => by have := digs_mem hb; omega⟩
theorem text_chars {r : S50} (h : FineRow r) : ∀ b ∈ (textX r).data.toList, 32 ≤ b.toNat ∧ b.toNat < 128 := by
  unfold textX
  rw [B_data]
  exact joinSp_mem (fun x hx b hb => by have := (word_ok h x hx).2 b hb; omega) (by decide)
theorem text_fields {r : S50} (h : FineRow r) : Lib.fields (textX r).data.toList = r.f0.data.toList :: txts r.f1 := by
  unfold textX
  rw [B_data]
  refine fields_join _ (fun x hx => ⟨(word_ok h x hx).1, fun b hb => ?_⟩)
  have h1 := ((word_ok h x hx).2 b hb).1
  have h2 : ∀ c : Nat, c < 33 → b ≠ UInt8.ofNat c := fun c hc h3 => by
    have h4 := congrArg UInt8.toNat h3
    rw [UInt8.toNat_ofNat'] at h4
    omega
  have e1 := h2 32 (by omega)
  have e2 := h2 9 (by omega)
  have e3 := h2 10 (by omega)
  have e4 := h2 11 (by omega)
  have e5 := h2 12 (by omega)
  have e6 := h2 13 (by omega)
  simp only [Lib.isSp]
  simp_all
theorem text_pos {r : S50} (h : FineRow r) : 0 < (textX r).size := by
  unfold textX
  rw [B_size, joinSp_cons _ _ (fine_ne h), List.length_append, List.length_cons]
  omega
theorem printX_cons (r : S50) (l : List S50) : printX (r :: l) = lineX r ++ printX l := by
  have key : ∀ (l : List S50) (a : ByteArray), l.foldl (fun a r => a ++ lineX r) a = a ++ l.foldl (fun a r => a ++ lineX r) ⟨#[]⟩ := by
    intro l
    induction l with
    | nil =>
      intro a
      apply ByteArray.ext
      apply Array.ext'
      simp [ByteArray.data_append]
    | cons r l ih =>
      intro a
      rw [List.foldl_cons, List.foldl_cons, ih (a ++ lineX r), ih (⟨#[]⟩ ++ lineX r)]
      apply ByteArray.ext
      apply Array.ext'
      simp [ByteArray.data_append]
  unfold printX
  rw [List.foldl_cons, key]
  apply ByteArray.ext
  apply Array.ext'
  simp [ByteArray.data_append]
/-- The text from a row on: its line, the end of the line, the rest. -/
theorem printX_drop {l : List S50} {k : Nat} {r : S50} (h : l[k]? = some r) (hr : FineRow r) : printX (l.drop k) = textX r ++ ⟨#[10]⟩ ++ printX (l.drop (k + 1)) := by
  have hk := (List.getElem?_eq_some_iff.1 h).1
  have he := (List.getElem?_eq_some_iff.1 h).2
  rw [List.drop_eq_getElem_cons hk, he, printX_cons, lineX_text hr]
theorem stOf_next {l : List S50} {k : Nat} {r : S50} (h : l[k]? = some r) : stOf (l.take (k + 1)) = stRow (stOf (l.take k)) r := by
  rw [List.take_add_one, h, Option.toList_some, stOf_snoc]
/-- A value of a section's cells. -/
def kd (i : Nat) : IntKind := if big i = true then .u64 else .u32
def boxV (f : Nat → Int) (i : Nat) : Value := if i = 0 then .string ⟨#[]⟩ else .int (kd i) (f i)
/-- The cells of Stats. -/
def Box (w : World) (m : Nat) (f : Nat → Int) : Prop := ∀ i, i < 276 → w.cell? ⟨m, i, none⟩ = some (boxV f i) ∧ w.frozen? ⟨m, i, none⟩ = false
/-- A section alone. -/
def sec (f : Nat → Int) (o n : Nat) : Nat → Int := fun j => if j < n then f (o + j) else 0
theorem sec_small {f : Nat → Int} (hf : Lim f) (o n : Nat) (h : ∀ j, j < n → big (o + j) = false) : ∀ j, 0 ≤ sec f o n j ∧ sec f o n j < 4294967296 := by
  intro j
  unfold sec
  split
  · exact ⟨(hf _).1, (hf _).2.2 (h _ (by assumption))⟩
  · omega
theorem sec_big {f : Nat → Int} (hf : Lim f) (o n : Nat) : ∀ j, 0 ≤ sec f o n j ∧ sec f o n j < 18446744073709551616 := by
  intro j
  unfold sec
  split
  · exact ⟨(hf _).1, (hf _).2.1⟩
  · omega
end Go.Proofs.YtaniejfkbapbbaaGreatDoor
namespace Go.Proofs.YtaniejfkbapbbaaGreatDoor
open Go.RowKit Go.Proofs.YtaniejfkbapbbaaGreatDoorW.PrintWords Go.Proofs.YtaniejfkbapbbaaGreatDoorW.PrintLast Go.Proofs.YtaniejfkbapbbaaGreatDoorW.PrintMore
open Go.Proofs.YtaniejfkbapbbaaGreatDoor.PFnXfsNormal (S50 k50 k50_mkM info5 info9 info31 info50 info126)

section
variable {P : Program} {ops : Array Oper} {Q : Exit → Act → World → Prop} {a : Act} {w : World} {rest : List Oper} {o : Oper}
theorem call_go {n k : Nat} {args : Array Value} {Q' : Value → World → Prop} (hg : o.guard = none) (hd : o.dst = some n) (hn : n < a.tmps.size) (hrun : (execOp a.eval o).run P w = .ok (.enter k args) w) (hc : Calls P k args w (Ret Q'))
    (h : ∀ v w' a', Q' v w' → Puts a a' n v → wpList P ops Q rest a' w') : wpList P ops Q (o :: rest) a w := by
  refine wpList_plain hg fun K hK => ?_
  unfold Oper.wp
  rw [hrun, Oper.upon_enter]
  refine hc.mono ?_
  rintro e w' ⟨v, rfl, hq⟩
  refine hK _ _ (h v w' _ hq ?_)
  rw [hd]
  exact puts_put hn
theorem guard_go {n i d : Nat} (hg : o.guard = some (i, true)) (hi : ((ops[i]?).bind (·.dst)) = some n) (hs : n < a.tmps.size) (hv : a.tmps[n]?.getD undef = .bool false) (hd : o.dst = some d) (hn : d < a.tmps.size)
    (h : ∀ a', Puts a a' d undef → wpList P ops Q rest a' w) : wpList P ops Q (o :: rest) a w := by
  have hy : yielded ops a.tmps i = some false := by
    unfold yielded
    rw [hi]
    have : a.tmps[n]? = some (.bool false) := by
      rw [Array.getElem?_eq_getElem hs] at hv ⊢
      simpa using hv
    simp [this]
  refine wpList_skip ?_ ?_
  · simp [Region.wanted, hg, hy]
  · rw [hd]
    exact h _ (puts_put hn)
end
section
variable (a : Act) (ty : TypeId) (p : String) (nd : Array Edge) (dst : Option Tmp) (w : World)
theorem run_as (n : Nat) (v : Value) (h : a.tmps[n]?.getD undef = v) :
    (execOp a.eval { dst := dst, op := .assign (.tmp n), type := ty, pos := p, after := nd, guard := none }).run Tryz.prog w = .ok (.value v) w := by
  subst h
  go_simp
theorem run_call1 (n k t : Nat) (v : Value) (hen : ∀ args w, (callFunc k args).run Tryz.prog w = .ok (.enter k args) w) (h : a.tmps[n]?.getD undef = v) :
    (execOp a.eval { dst := dst, op := .call { callee := .value (.func k), args := #[.tmp n], argTypes := #[t] }, type := ty, pos := p, after := nd, guard := none }).run Tryz.prog w = .ok (.enter k #[v]) w := by
  subst h
  go_simp
theorem run_ex0 (n : Nat) (x y : Value) (h : a.tmps[n]?.getD undef = .tuple #[x, y]) :
    (execOp a.eval { dst := dst, op := .extract (.tmp n) 0, type := ty, pos := p, after := nd, guard := none }).run Tryz.prog w = .ok (.value x) w := by
  go_simp
theorem run_ex1 (n : Nat) (x y : Value) (h : a.tmps[n]?.getD undef = .tuple #[x, y]) :
    (execOp a.eval { dst := dst, op := .extract (.tmp n) 1, type := ty, pos := p, after := nd, guard := none }).run Tryz.prog w = .ok (.value y) w := by
  go_simp
theorem run_ne (n : Nat) (h : a.tmps[n]?.getD undef = .nilIface) :
    (execOp a.eval { dst := dst, op := .binOp .neq 54 (.tmp n) (.const .nilIface) 54, type := ty, pos := p, after := nd, guard := none }).run Tryz.prog w = .ok (.value (.bool false)) w := by
  go_simp
theorem run_eql (n : Nat) (s l : ByteArray) (h : a.tmps[n]?.getD undef = .string s) :
    (execOp a.eval { dst := dst, op := .binOp .eql 9 (.tmp n) (.const (.string l)) 9, type := ty, pos := p, after := nd, guard := none }).run Tryz.prog w = .ok (.value (.bool (s.toList == l.toList))) w := by
  go_simp
theorem run_sl1 (n g l c : Nat) (h : a.tmps[n]?.getD undef = .slice (some ⟨g, 0, none⟩) (l + 1) c) (hl : 1 ≤ l) (hc : l + 1 ≤ c) :
    (execOp a.eval { dst := dst, op := .slice 44 (.tmp n) (some (.const (.int .i64 1))) none none, type := ty, pos := p, after := nd, guard := none }).run Tryz.prog w = .ok (.value (.slice (some ⟨g, 1, none⟩) l (c - 1))) w := by
  have h1 : (1 : Int) ≤ (l : Int) + 1 := by omega
  have h2 : ¬ c = 1 := by omega
  go_simp
theorem run_len44 (n g l c : Nat) (h : a.tmps[n]?.getD undef = .slice (some ⟨g, 0, none⟩) l c) :
    (execOp a.eval { dst := dst, op := .call { callee := .builtin .len, args := #[.tmp n], argTypes := #[44] }, type := ty, pos := p, after := nd, guard := none }).run Tryz.prog w = .ok (.value (.int .i64 l)) w := by
  go_simp
theorem run_lss2 (n : Nat) (x : Int) (h : a.tmps[n]?.getD undef = .int .i64 x) (hx : ¬ x < 2) :
    (execOp a.eval { dst := dst, op := .binOp .lss 3 (.tmp n) (.const (.int .i64 2)) 3, type := ty, pos := p, after := nd, guard := none }).run Tryz.prog w = .ok (.value (.bool false)) w := by
  go_simp
theorem run_ia0 (n g l c : Nat) (h : a.tmps[n]?.getD undef = .slice (some ⟨g, 0, none⟩) (l + 1) c) :
    (execOp a.eval { dst := dst, op := .indexAddr 44 (.tmp n) (.const (.int .i64 0)), type := ty, pos := p, after := nd, guard := none }).run Tryz.prog w = .ok (.value (.pointer (some ⟨g, 0, none⟩))) w := by
  go_simp
theorem run_ld9 (n : Nat) (ad : Addr) (v : Value) (h : a.tmps[n]?.getD undef = .pointer (some ad)) (hc : w.cell? ad = some v) :
    (execOp a.eval { dst := dst, op := .load 9 (.tmp n), type := ty, pos := p, after := nd, guard := none }).run Tryz.prog w = .ok (.value v) w := by
  go_simp
theorem run_pickF (n n' : Nat) (h : a.tmps[n]?.getD undef = .bool false) :
    (execOp a.eval { dst := dst, op := .pick (.tmp n) (.tmp n') (.const (.bool false)), type := ty, pos := p, after := nd, guard := none }).run Tryz.prog w = .ok (.value (.bool false)) w := by
  go_simp
end

/-- Slots below b, but d, are as they were. -/
structure Fr (a a' : Act) (b d : Nat) : Prop where
  sz : a'.tmps.size = a.tmps.size
  df : a'.defers = a.defers
  at_ : ∀ j, j < b → j ≠ d → a'.tmps[j]?.getD undef = a.tmps[j]?.getD undef
theorem Fr.refl (a : Act) (b d : Nat) : Fr a a b d := ⟨rfl, rfl, fun _ _ _ => rfl⟩
theorem Fr.step {a a1 a2 : Act} {b d n : Nat} {v : Value} (h : Fr a a1 b d) (hp : Puts a1 a2 n v) (hn : b ≤ n ∨ n = d) : Fr a a2 b d :=
  ⟨hp.1.trans h.sz, hp.2.2.2.trans h.df, fun j hj hne => (hp.2.2.1 j (by omega)).trans (h.at_ j hj hne)⟩
/-- The cells of Stats in one block. -/
def BoxF (w : World) (m : Nat) (F : Nat → Option Value) : Prop := ∃ cs : Array Value, w.heap[m]? = some (.cells cs 118 (0, 0)) ∧ cs.size = 276 ∧ ∀ i, cs[i]? = F i
def BoxX (w : World) (m : Nat) (f : Nat → Int) : Prop := BoxF w m (fun i => if i < 276 then some (boxV f i) else none)
theorem box_keep {X Y : World} {m : Nat} {F : Nat → Option Value} (h : Below X.heap.size X Y) (hb : BoxF X m F) : BoxF Y m F := by
  obtain ⟨cs, h1, h2⟩ := hb
  exact ⟨cs, blk_keep h h1, h2⟩
theorem box_cells {m : Nat} : ∀ (vs : List Value) (o : Nat) (w : World) (F : Nat → Option Value), BoxF w m F → o + vs.length ≤ 276 →
    BoxF (w.setCells m o vs) m (fun i => if o ≤ i ∧ i < o + vs.length then vs[i - o]? else F i)
  | [], o, w, F, h, _ => by
    obtain ⟨cs, h1, h2, h3⟩ := h
    exact ⟨cs, h1, h2, fun i => by rw [h3 i]; dsimp only; rw [if_neg (by simp only [List.length_nil]; omega)]⟩
  | v :: r, o, w, F, h, hl => by
    obtain ⟨cs, h1, h2, h3⟩ := h
    simp only [List.length_cons] at hl
    have hb : BoxF (w.setCell ⟨m, o, none⟩ v) m (fun i => if i = o then some v else F i) :=
      ⟨cs.setIfInBounds o v, blk_set h1 o v, by simp [h2], fun i => by
        rw [Array.getElem?_setIfInBounds, h3 i]
        dsimp only
        by_cases hi : i = o
        · subst hi; rw [if_pos rfl, if_pos rfl, if_pos (by omega)]
        · rw [if_neg (fun e => hi e.symm), if_neg hi]⟩
    obtain ⟨ds, g1, g2, g3⟩ := box_cells r (o + 1) _ _ hb (by omega)
    rw [World.setCells]
    refine ⟨ds, g1, g2, fun i => ?_⟩
    rw [g3 i]
    dsimp only
    by_cases hi : i = o
    · subst hi
      rw [if_neg (by omega), if_pos rfl, if_pos (by simp), Nat.sub_self]; rfl
    · rw [if_neg hi]
      by_cases h4 : o + 1 ≤ i ∧ i < o + 1 + r.length
      · rw [if_pos h4, if_pos (by simp; omega)]
        obtain ⟨j, rfl⟩ : ∃ j, i = o + 1 + j := ⟨i - (o + 1), by omega⟩
        rw [show o + 1 + j - (o + 1) = j by omega, show o + 1 + j - o = j + 1 by omega, List.getElem?_cons_succ]
      · rw [if_neg h4, if_neg (by simp; omega)]
theorem setCells_far {m : Nat} {k : Nat} (hk : k ≠ m) : ∀ (vs : List Value) (o : Nat) (w : World), (w.setCells m o vs).heap[k]? = w.heap[k]?
  | [], _, _ => rfl
  | v :: r, o, w => by
    rw [World.setCells, setCells_far hk r (o + 1) _]
    exact Below.heap_setCell w ⟨m, o, none⟩ v k hk
theorem below_setCells {w0 : World} {m : Nat} (hm : w0.heap.size ≤ m) : ∀ (vs : List Value) (o : Nat) (w : World), Below w0.heap.size w0 w → Below w0.heap.size w0 (w.setCells m o vs)
  | [], _, _, h => h
  | v :: r, o, w, h => by
    rw [World.setCells]
    exact below_setCells hm r (o + 1) _ (below_set h hm)
theorem box_there {w : World} {m : Nat} {f : Nat → Int} (h : BoxX w m f) (o n : Nat) (hl : o + n ≤ 276) : w.there m o n := by
  obtain ⟨cs, h1, h2, h3⟩ := h
  intro j hj
  refine ⟨?_, frozen_of_row w m (o + j) _ _ h1⟩
  rw [blk_cell h1 (o + j), h3]
  dsimp only
  rw [if_pos (by omega)]
  rfl
theorem box_row {w : World} {m : Nat} {f : Nat → Int} {r : S50} {k : IntKind} {o n : Nat} (h : BoxX w m f) (ho : offX r.f0 = o) (hn : r.f1.length = n) (h0 : 0 < o) (hl : o + n ≤ 276) (hk : ∀ j, j < n → kd (o + j) = k) :
    BoxX (w.setCells m o ((List.range n).map fun j => .int k (r.f1.getD j 0))) m (stRow f r) := by
  have hb := box_cells ((List.range n).map fun j => Value.int k (r.f1.getD j 0)) o w _ h (by simpa using hl)
  obtain ⟨cs, h1, h2, h3⟩ := hb
  refine ⟨cs, h1, h2, fun i => ?_⟩
  rw [h3 i]
  dsimp only
  simp only [List.length_map, List.length_range]
  by_cases hi : o ≤ i ∧ i < o + n
  · rw [if_pos hi, if_pos (by omega)]
    obtain ⟨j, rfl⟩ : ∃ j, i = o + j := ⟨i - o, by omega⟩
    rw [Nat.add_sub_cancel_left, List.getElem?_map, List.getElem?_range (by omega)]
    unfold boxV stRow
    rw [if_neg (by omega), ho, hn, if_pos hi, Nat.add_sub_cancel_left, hk j (by omega)]
    rfl
  · rw [if_neg hi]
    by_cases h4 : i < 276
    · rw [if_pos h4, if_pos h4]
      unfold boxV stRow
      rw [ho, hn, if_neg hi]
    · rw [if_neg h4, if_neg h4]
/-- The scanner and Stats, and nothing older has changed. -/
structure Sc (w0 w : World) (g m : Nat) (t : ByteArray) (f : Nat → Int) : Prop where
  hg : w0.heap.size ≤ g
  hm : w0.heap.size ≤ m
  ne : g ≠ m
  scan : ∃ x, w.heap[g]? = some (.cells (scanC t x) 260 (0, 0))
  box : BoxX w m f
  B : Below w0.heap.size w0 w
theorem Sc.keep {w0 w w1 : World} {g m : Nat} {t : ByteArray} {f : Nat → Int} (h : Sc w0 w g m t f) (hb : Below w.heap.size w w1) : Sc w0 w1 g m t f := by
  obtain ⟨x, hx⟩ := h.scan
  exact ⟨h.hg, h.hm, h.ne, ⟨x, blk_keep hb hx⟩, box_keep hb h.box, h.B.trans (hb.mono h.B.size)⟩
theorem Sc.row {w0 w : World} {g m : Nat} {t : ByteArray} {f : Nat → Int} {r : S50} {k : IntKind} {o n : Nat} (h : Sc w0 w g m t f) (ho : offX r.f0 = o) (hn : r.f1.length = n) (h0 : 0 < o) (hl : o + n ≤ 276) (hk : ∀ j, j < n → kd (o + j) = k) :
    Sc w0 (w.setCells m o ((List.range n).map fun j => .int k (r.f1.getD j 0))) g m t (stRow f r) := by
  obtain ⟨x, hx⟩ := h.scan
  exact ⟨h.hg, h.hm, h.ne, ⟨x, (setCells_far h.ne _ _ _).trans hx⟩, box_row h.box ho hn h0 hl hk, below_setCells h.hm _ _ _ h.B⟩
end Go.Proofs.YtaniejfkbapbbaaGreatDoor
namespace Go.Proofs.YtaniejfkbapbbaaGreatDoor
open Go.RowKit Go.Proofs.YtaniejfkbapbbaaGreatDoorW.PrintWords Go.Proofs.YtaniejfkbapbbaaGreatDoorW.PrintLast Go.Proofs.YtaniejfkbapbbaaGreatDoorW.PrintMore
open Go.Proofs.YtaniejfkbapbbaaGreatDoor.PFnXfsNormal (S50 k50 k50_mkM info5 info9 info31 info50 info126)

section
variable {id b : Nat} {y0 y1 y2 y3 y4 y5 y6 y7 t0 t1 t2 : TypeId} {p0 p1 p2 p3 p4 p5 p6 p7 : String} {n0 n1 n2 n3 n4 n5 n6 n7 : Array Edge} {Q : Exit → Act → World → Prop} {a : Act} {w : World} {x y : Code}
theorem err_no {e : Nat} (he : a.tmps[e]?.getD undef = .nilIface) (hz : b + 2 ≤ a.tmps.size) (h : ∀ a', Fr a a' b b → Q .normal a' w) :
    (Code.seq (Code.region id #[{ dst := some b, op := .move (.tmp e), type := y0, pos := p0, after := n0, guard := none },
      { dst := some (b + 1), op := .binOp .neq 54 (.tmp b) (.const .nilIface) 54, type := y1, pos := p1, after := n1, guard := none }] false) (Code.cond (.tmp (b + 1)) x .skip)).wp Tryz.prog Q a w := by
  refine wp_seq (wp_region_lit ?_)
  refine val_go rfl rfl (by omega) (run_mv _ _ _ _ _ _ e .nilIface he) (fun a1 q1 => ?_)
  refine val_go rfl rfl (by rw [q1.1]; omega) (run_ne _ _ _ _ _ _ b q1.2.1) (fun a2 q2 => ?_)
  refine wp_cond_false (ev_tmp q2.2.1) (wp_skip ?_)
  exact h a2 (((Fr.refl a b b).step q1 (.inl (Nat.le_refl _))).step q2 (.inl (by omega)))
/-- A label against a constant, in the chain. -/
theorem cmp_go {L s : ByteArray} (hs : a.tmps[110]?.getD undef = .string s) (hz : b + 2 ≤ a.tmps.size)
    (hyes : s = L → ∀ a', Fr a a' b b → x.wp Tryz.prog Q a' w) (hno : s ≠ L → ∀ a', Fr a a' b b → y.wp Tryz.prog Q a' w) :
    (Code.seq (Code.region id #[{ dst := some (b + 1), op := .binOp .eql 9 (.tmp 110) (.const (.string L)) 9, type := y0, pos := p0, after := n0, guard := none },
      { dst := some b, op := .assign (.tmp (b + 1)), type := y1, pos := p1, after := n1, guard := none }] false) (Code.cond (.tmp b) x y)).wp Tryz.prog Q a w := by
  refine wp_seq (wp_region_lit ?_)
  refine val_go rfl rfl (by omega) (run_eql _ _ _ _ _ _ 110 s L hs) (fun a1 q1 => ?_)
  refine val_go rfl rfl (by rw [q1.1]; omega) (run_as _ _ _ _ _ _ (b + 1) _ q1.2.1) (fun a2 q2 => ?_)
  have hf := ((Fr.refl a b b).step q1 (.inl (by omega))).step q2 (.inl (Nat.le_refl _))
  cases hh : (s.toList == L.toList) with
  | true =>
    rw [hh] at q2
    exact wp_cond_true (ev_tmp q2.2.1) (hyes (eq_of_toList hh) a2 hf)
  | false =>
    rw [hh] at q2
    refine wp_cond_false (ev_tmp q2.2.1) (hno (fun e => ?_) a2 hf)
    subst e
    simp at hh
/-- A label against a constant, ahead of the chain: it is another. -/
theorem cmp_no {L s : ByteArray} (hs : a.tmps[7]?.getD undef = .string s) (hz : b + 2 ≤ a.tmps.size)
    (hyes : s = L → ∀ a', Fr a a' b b → x.wp Tryz.prog Q a' w) (hno : s ≠ L → ∀ a', Fr a a' b b → Q .normal a' w) :
    (Code.seq (Code.region id #[{ dst := some b, op := .move (.tmp 7), type := y0, pos := p0, after := n0, guard := none },
      { dst := some (b + 1), op := .binOp .eql 9 (.tmp b) (.const (.string L)) 9, type := y1, pos := p1, after := n1, guard := none }] false) (Code.cond (.tmp (b + 1)) x .skip)).wp Tryz.prog Q a w := by
  refine wp_seq (wp_region_lit ?_)
  refine val_go rfl rfl (by omega) (run_mv _ _ _ _ _ _ 7 _ hs) (fun a1 q1 => ?_)
  refine val_go rfl rfl (by rw [q1.1]; omega) (run_eql _ _ _ _ _ _ b s L q1.2.1) (fun a2 q2 => ?_)
  have hf := ((Fr.refl a b b).step q1 (.inl (Nat.le_refl _))).step q2 (.inl (by omega))
  cases hh : (s.toList == L.toList) with
  | true =>
    rw [hh] at q2
    exact wp_cond_true (ev_tmp q2.2.1) (hyes (eq_of_toList hh) a2 hf)
  | false =>
    rw [hh] at q2
    refine wp_cond_false (ev_tmp q2.2.1) (wp_skip (hno (fun e => ?_) a2 hf))
    subst e
    simp at hh
theorem ints_one {cs : Array Value} {k : IntKind} {g : Nat → Int} {n : Nat} (h : cs.toList = (List.range n).map fun j => .int k (g j)) : cs.all (·.oneCell') = true := by
  rw [← Array.all_toList, h, List.all_map]
  simp [Value.oneCell', Function.comp_def]
/-- A section is built and laid. -/
theorem hit_reg {d s fid T fi n o ub uc g m : Nat} {k : IntKind} {cs : Array Value} {r : S50} {w0 : World} {t : ByteArray} {f : Nat → Int}
    (hcall : ∀ w, (∀ j, j < n → w.cell? ⟨ub, j, none⟩ = some (.int k (r.f1.getD j 0))) → Calls Tryz.prog fid #[.slice (some ⟨ub, 0, none⟩) n uc] w (Ret (Built w cs)))
    (hen : ∀ args w, (callFunc fid args).run Tryz.prog w = .ok (.enter fid args) w)
    (hF : ∀ (a : Act) (w : World), a.tmps[4]?.getD undef = .pointer (some ⟨m, 0, none⟩) → (execOp a.eval { dst := some (b + 5), op := .fieldAddr 118 (.tmp 4) fi, type := y5, pos := p5, after := n5, guard := none }).run Tryz.prog w = .ok (.value (.pointer (some ⟨m, o, none⟩))) w)
    (hcs : cs.toList = (List.range n).map fun j => .int k (r.f1.getD j 0)) (hT : (Tryz.prog.info? T).map (·.size) = some n)
    (ho : offX r.f0 = o) (hn : r.f1.length = n) (h0 : 0 < o) (hl : o + n ≤ 276) (hk : ∀ j, j < n → kd (o + j) = k)
    (hb : s < b ∧ d < b ∧ 4 < b ∧ d ≠ 4) (hz : b + 6 ≤ a.tmps.size) (hs : a.tmps[s]?.getD undef = .slice (some ⟨ub, 0, none⟩) n uc) (h4 : a.tmps[4]?.getD undef = .pointer (some ⟨m, 0, none⟩))
    (hu : ∀ j, j < n → w.cell? ⟨ub, j, none⟩ = some (.int k (r.f1.getD j 0))) (hS : Sc w0 w g m t f)
    (h : ∀ a' w', Fr a a' b d → a'.tmps[d]?.getD undef = .nilIface → Sc w0 w' g m t (stRow f r) → Q .normal a' w') :
    (Code.region id #[{ dst := some (b + 1), op := .move (.tmp s), type := y0, pos := p0, after := n0, guard := none },
      { dst := some (b + 2), op := .call { callee := .value (.func fid), args := #[.tmp (b + 1)], argTypes := #[t0] }, type := y1, pos := p1, after := n1, guard := none },
      { dst := some b, op := .move (.tmp (b + 2)), type := y2, pos := p2, after := n2, guard := none },
      { dst := some (b + 3), op := .extract (.tmp b) 0, type := y3, pos := p3, after := n3, guard := none },
      { dst := some (b + 4), op := .extract (.tmp b) 1, type := y4, pos := p4, after := n4, guard := none },
      { dst := some (b + 5), op := .fieldAddr 118 (.tmp 4) fi, type := y5, pos := p5, after := n5, guard := none },
      { dst := none, op := .store T (.tmp (b + 5)) (.tmp (b + 3)), type := y6, pos := p6, after := n6, guard := none },
      { dst := some d, op := .assign (.tmp (b + 4)), type := y7, pos := p7, after := n7, guard := none }] false).wp Tryz.prog Q a w := by
  refine wp_region_lit ?_
  refine val_go rfl rfl (by omega) (run_mv _ _ _ _ _ _ s _ hs) (fun a1 q1 => ?_)
  refine call_go rfl rfl (by rw [q1.1]; omega) (run_call1 _ _ _ _ _ _ (b + 1) fid t0 _ hen q1.2.1) (hcall w hu) ?_
  rintro v w1 a2 ⟨rfl, hB⟩ q2
  have S1 := hS.keep hB
  refine val_go rfl rfl (by rw [q2.1, q1.1]; omega) (run_mv _ _ _ _ _ _ (b + 2) _ q2.2.1) (fun a3 q3 => ?_)
  refine val_go rfl rfl (by rw [q3.1, q2.1, q1.1]; omega) (run_ex0 _ _ _ _ _ _ b _ _ q3.2.1) (fun a4 q4 => ?_)
  refine val_go rfl rfl (by rw [q4.1, q3.1, q2.1, q1.1]; omega) (run_ex1 _ _ _ _ _ _ b _ _ ((q4.2.2.1 b (by omega)).trans q3.2.1)) (fun a5 q5 => ?_)
  have F5 := (((((Fr.refl a b d).step q1 (.inl (by omega))).step q2 (.inl (by omega))).step q3 (.inl (by omega))).step q4 (.inl (by omega))).step q5 (.inl (by omega))
  refine val_go rfl rfl (by rw [F5.sz]; omega) (hF _ _ ((F5.at_ 4 (by omega) (by omega)).trans h4)) (fun a6 q6 => ?_)
  have F6 := F5.step q6 (.inl (by omega))
  have hv3 : a6.tmps[b + 3]?.getD undef = .agg cs := (q6.2.2.1 _ (by omega)).trans ((q5.2.2.1 _ (by omega)).trans q4.2.1)
  have hsz : cs.size = n := by
    have := congrArg List.length hcs
    simpa using this
  refine wpList_store_mid rfl T (.tmp (b + 5)) (.tmp (b + 3)) rfl m o cs (ev_tmp q6.2.1) (ev_tmp hv3) (box_there S1.box o _ (by rw [hsz]; exact hl)) (by rw [hsz]; exact hT) (ints_one hcs) ?_
  rw [hcs]
  have S2 := S1.row ho hn h0 hl hk
  refine val_go (a := a6) rfl rfl (by rw [F6.sz]; omega) (run_as _ _ _ _ _ _ (b + 4) .nilIface ((q6.2.2.1 _ (by omega)).trans q5.2.1)) (fun a7 q7 => ?_)
  exact h a7 _ (F6.step q7 (.inr rfl)) q7.2.1 S2
/-- The numbers of a line are parsed. -/
theorem parse_reg {d e fid ub uc : Nat} {k : IntKind} {xs : List Int}
    (hcall : Calls Tryz.prog fid #[.slice (some ⟨ub, 1, none⟩) xs.length (uc - 1)] w (Ret (SomeInts k xs w)))
    (hen : ∀ args w, (callFunc fid args).run Tryz.prog w = .ok (.enter fid args) w)
    (hb : 6 < b ∧ d < b ∧ e < b ∧ d ≠ e ∧ d ≠ 6 ∧ e ≠ 6) (hz : b + 6 ≤ a.tmps.size) (h6 : a.tmps[6]?.getD undef = .slice (some ⟨ub, 0, none⟩) (xs.length + 1) uc) (hx : 0 < xs.length) (huc : xs.length + 1 ≤ uc)
    (h : ∀ a' w' vb vc, a'.tmps.size = a.tmps.size → a'.defers = a.defers → (∀ j, j < b → j ≠ d → j ≠ e → a'.tmps[j]?.getD undef = a.tmps[j]?.getD undef) → a'.tmps[d]?.getD undef = .slice (some ⟨vb, 0, none⟩) xs.length vc → a'.tmps[e]?.getD undef = .nilIface → (∀ j, j < xs.length → w'.cell? ⟨vb, j, none⟩ = some (.int k (xs.getD j 0))) → Below w.heap.size w w' → Q .normal a' w') :
    (Code.region id #[{ dst := some (b + 1), op := .move (.tmp 6), type := y0, pos := p0, after := n0, guard := none },
      { dst := some (b + 2), op := .slice 44 (.tmp (b + 1)) (some (.const (.int .i64 1))) none none, type := y1, pos := p1, after := n1, guard := none },
      { dst := some (b + 3), op := .call { callee := .value (.func fid), args := #[.tmp (b + 2)], argTypes := #[t0] }, type := y2, pos := p2, after := n2, guard := none },
      { dst := some b, op := .move (.tmp (b + 3)), type := y3, pos := p3, after := n3, guard := none },
      { dst := some (b + 4), op := .extract (.tmp b) 0, type := y4, pos := p4, after := n4, guard := none },
      { dst := some (b + 5), op := .extract (.tmp b) 1, type := y5, pos := p5, after := n5, guard := none },
      { dst := some d, op := .assign (.tmp (b + 4)), type := y6, pos := p6, after := n6, guard := none },
      { dst := some e, op := .assign (.tmp (b + 5)), type := y7, pos := p7, after := n7, guard := none }] false).wp Tryz.prog Q a w := by
  refine wp_region_lit ?_
  refine val_go rfl rfl (by omega) (run_mv _ _ _ _ _ _ 6 _ h6) (fun a1 q1 => ?_)
  refine val_go rfl rfl (by rw [q1.1]; omega) (run_sl1 _ _ _ _ _ _ (b + 1) ub xs.length uc q1.2.1 hx huc) (fun a2 q2 => ?_)
  refine call_go rfl rfl (by rw [q2.1, q1.1]; omega) (run_call1 _ _ _ _ _ _ (b + 2) fid t0 _ hen q2.2.1) hcall ?_
  rintro v w1 a3 ⟨u, rfl, hu1, hu2, hB⟩ q3
  obtain ⟨vb, vc, rfl⟩ := hu1 hx
  refine val_go rfl rfl (by rw [q3.1, q2.1, q1.1]; omega) (run_mv _ _ _ _ _ _ (b + 3) _ q3.2.1) (fun a4 q4 => ?_)
  refine val_go rfl rfl (by rw [q4.1, q3.1, q2.1, q1.1]; omega) (run_ex0 _ _ _ _ _ _ b _ _ q4.2.1) (fun a5 q5 => ?_)
  refine val_go rfl rfl (by rw [q5.1, q4.1, q3.1, q2.1, q1.1]; omega) (run_ex1 _ _ _ _ _ _ b _ _ ((q5.2.2.1 b (by omega)).trans q4.2.1)) (fun a6 q6 => ?_)
  have F6 := ((((((Fr.refl a b b).step q1 (.inl (by omega))).step q2 (.inl (by omega))).step q3 (.inl (by omega))).step q4 (.inl (by omega))).step q5 (.inl (by omega))).step q6 (.inl (by omega))
  have hv4 : a6.tmps[b + 4]?.getD undef = _ := (q6.2.2.1 _ (by omega)).trans q5.2.1
  refine val_go rfl rfl (by rw [F6.sz]; omega) (run_as _ _ _ _ _ _ (b + 4) _ hv4) (fun a7 q7 => ?_)
  refine val_go rfl rfl (by rw [q7.1, F6.sz]; omega) (run_as _ _ _ _ _ _ (b + 5) _ ((q7.2.2.1 _ (by omega)).trans q6.2.1)) (fun a8 q8 => ?_)
  refine h a8 w1 vb vc (q8.1.trans (q7.1.trans F6.sz)) (q8.2.2.2.trans (q7.2.2.2.trans F6.df)) (fun j h1 h2 h3 => ?_) ((q8.2.2.1 _ (by omega)).trans q7.2.1) q8.2.1 (hu2 _ _ rfl) hB
  exact (q8.2.2.1 _ h3).trans ((q7.2.2.1 _ h2).trans (F6.at_ _ h1 (by omega)))
end
end Go.Proofs.YtaniejfkbapbbaaGreatDoor
namespace Go.Proofs.YtaniejfkbapbbaaGreatDoor
open Go.RowKit Go.Proofs.YtaniejfkbapbbaaGreatDoorW.PrintWords Go.Proofs.YtaniejfkbapbbaaGreatDoorW.PrintLast Go.Proofs.YtaniejfkbapbbaaGreatDoorW.PrintMore
open Go.Proofs.YtaniejfkbapbbaaGreatDoor.PFnXfsNormal (S50 k50 k50_mkM info5 info9 info31 info50 info126)

/-- The library's table of white space. -/
def Spc (w : World) : Prop := ∀ c : Nat, c < 256 → w.cell? ⟨Tryz.lays157_ren.g 0, c, none⟩ = some (.int .u8 (if Lib.isSp (UInt8.ofNat c) then 1 else 0))
theorem Spc.keep {w w1 : World} (h : Spc w) (hb : Below w.heap.size w w1) : Spc w1 := fun c hc => cell_keep hb (h c hc)
def wordsV (r : S50) : Array Value := ((r.f0.data.toList :: txts r.f1).map fun l => Value.string ⟨l.toArray⟩).toArray
theorem words_c (r : S50) (hr : FineRow r) (w : World) (hs : (textX r).size < 4294967281) (hw : Spc w) :
    Calls Tryz.prog 39 #[.string (textX r)] w (Ret (fun v w' => v = .slice (some ⟨w.heap.size, 0, none⟩) (r.f1.length + 1) (r.f1.length + 1) ∧ w' = w.alloc (.cells (wordsV r) 9))) := by
  refine (Go.Proofs.Any.strings_Fields_core Tryz.lays157 (by kernel_rfl) (textX r) w hs (fun j b hb => (text_chars hr b (List.mem_of_getElem? hb)).2) hw).mono ?_
  rintro e w' ⟨rfl, rfl⟩
  rw [text_fields hr]
  have hl : (r.f0.data.toList :: txts r.f1).length = r.f1.length + 1 := by simp [txts]
  rw [hl]
  exact .mk _ rfl ⟨rfl, rfl⟩
theorem words_at (r : S50) {w : World} {ub : Nat} (h : w.heap[ub]? = some (.cells (wordsV r) 9 (0, 0))) : ∀ j, j < r.f1.length → w.cell? ⟨ub, 1 + j, none⟩ = some (.string (B (digs (r.f1.getD j 0).toNat))) := by
  intro j hj
  rw [blk_cell h (1 + j), Nat.add_comm 1 j]
  simp [wordsV, txts, B, List.getElem?_eq_getElem hj]
theorem Sc.turn {w0 w w' : World} {g m : Nat} {t x r : ByteArray} {f : Nat → Int} (h : Sc w0 w g m t f) (hb : w'.heap[g]? = some (.cells (scanC r x) 260 (0, 0))) (ht : Turned w g w') : Sc w0 w' g m r f := by
  obtain ⟨cs, h1, h2⟩ := h.box
  refine ⟨h.hg, h.hm, h.ne, ⟨x, hb⟩, ⟨cs, (ht.2.2.2.2 m (blk_lt h1) (fun e => h.ne e.symm)).trans h1, h2⟩, ?_⟩
  have hB := h.B
  have hg := h.hg
  exact ⟨ht.1.trans hB.os, ht.2.1.trans hB.tape, ht.2.2.1.trans hB.output, Nat.le_trans hB.size ht.2.2.2.1, fun k hk => (ht.2.2.2.2 k (Nat.lt_of_lt_of_le hk hB.size) (by omega)).trans (hB.block k hk)⟩

section
variable {id : Nat} {y0 y1 y2 y3 y4 y5 y6 y7 y8 y9 ya yb yc t0 t1 t2 t3 : TypeId} {p0 p1 p2 p3 p4 p5 p6 p7 p8 p9 pa pb pc : String} {n0 n1 n2 n3 n4 n5 n6 n7 n8 n9 na nb nc : Array Edge} {Q : Exit → Act → World → Prop} {a : Act} {w w0 : World} {x y : Code} {g m : Nat} {t : ByteArray} {f : Nat → Int}
/-- The scanner's step: a line is there. -/
theorem scan_yes {r : S50} {rest : ByteArray} (hr : FineRow r) (hs : (textX r).size < 65536) (hz : a.tmps.size = 364) (h5 : a.tmps[5]?.getD undef = .pointer (some ⟨g, 0, none⟩)) (ht : t = textX r ++ ⟨#[10]⟩ ++ rest) (hS : Sc w0 w g m t f)
    (h : ∀ a' w', Fr a a' 18 18 → w'.heap[g]? = some (.cells (scanC rest (textX r)) 260 (0, 0)) → Sc w0 w' g m rest f → Q .normal a' w') :
    (Code.seq (Code.region id #[{ dst := some 18, op := .move (.tmp 5), type := y0, pos := p0, after := n0, guard := none },
      { dst := some 19, op := .call { callee := .value (.func 38), args := #[.tmp 18], argTypes := #[t0] }, type := y1, pos := p1, after := n1, guard := none }] false) (Code.cond (.tmp 19) .skip x)).wp Tryz.prog Q a w := by
  obtain ⟨l, hl⟩ := hS.scan
  refine wp_seq (wp_region_lit ?_)
  refine val_go rfl rfl (by omega) (run_mv _ _ _ _ _ _ 5 _ h5) (fun a1 q1 => ?_)
  refine call_go rfl rfl (by rw [q1.1]; omega) (run_call1 _ _ _ _ _ _ 18 38 t0 _ (enters_of Tryz.func38 (by kernel_rfl) rfl) q1.2.1) (Scan_line t (textX r) rest l g w hl ht (fun c hc => ?_) (text_pos hr) hs) ?_
  · have := text_chars hr c hc
    exact ⟨fun e => by subst e; exact absurd this.1 (by decide), fun e => by subst e; exact absurd this.1 (by decide)⟩
  rintro v w1 a2 ⟨rfl, hb, hT⟩ q2
  refine wp_cond_true (ev_tmp q2.2.1) (wp_skip ?_)
  exact h a2 w1 (((Fr.refl a 18 18).step q1 (.inl (by omega))).step q2 (.inl (by omega))) hb (hS.turn hb hT)
/-- The scanner's step: no line is left. -/
theorem scan_not (hz : a.tmps.size = 364) (h5 : a.tmps[5]?.getD undef = .pointer (some ⟨g, 0, none⟩)) (hS : Sc w0 w g m ⟨#[]⟩ f)
    (h : ∀ a' w', Fr a a' 18 18 → Sc w0 w' g m ⟨#[]⟩ f → x.wp Tryz.prog Q a' w') :
    (Code.seq (Code.region id #[{ dst := some 18, op := .move (.tmp 5), type := y0, pos := p0, after := n0, guard := none },
      { dst := some 19, op := .call { callee := .value (.func 38), args := #[.tmp 18], argTypes := #[t0] }, type := y1, pos := p1, after := n1, guard := none }] false) (Code.cond (.tmp 19) .skip x)).wp Tryz.prog Q a w := by
  obtain ⟨l, hl⟩ := hS.scan
  refine wp_seq (wp_region_lit ?_)
  refine val_go rfl rfl (by omega) (run_mv _ _ _ _ _ _ 5 _ h5) (fun a1 q1 => ?_)
  refine call_go rfl rfl (by rw [q1.1]; omega) (run_call1 _ _ _ _ _ _ 18 38 t0 _ (enters_of Tryz.func38 (by kernel_rfl) rfl) q1.2.1) (Scan_end l g w hl) ?_
  rintro v w1 a2 ⟨rfl, hb, hT⟩ q2
  exact wp_cond_false (ev_tmp q2.2.1) (h a2 w1 (((Fr.refl a 18 18).step q1 (.inl (by omega))).step q2 (.inl (by omega))) (hS.turn hb hT))
theorem run_conv (a : Act) (ty : TypeId) (p : String) (nd : Array Edge) (dst : Option Tmp) (w : World) (n b c : Nat) (l : ByteArray) (h : a.tmps[n]?.getD undef = .slice (some ⟨b, 0, none⟩) l.size c) (hc : ∀ i, i < l.size → w.cell? ⟨b, 0 + i, none⟩ = some (.int .u8 ((l.data.toList.map fun x => (x.toNat : Int)).getD i 0))) :
    (execOp a.eval { dst := dst, op := .convert 137 9 (.tmp n), type := ty, pos := p, after := nd, guard := none }).run Tryz.prog w = .ok (.value (.string l)) w := by
  have hcv := run_convert_bytes_arg (P := Tryz.prog) w 137 5 Tryz.underlying137 Tryz.underlying5 b 0 l.size c (l.data.toList.map fun x => (x.toNat : Int)) (by rw [List.length_map]; exact Array.length_toList) hc 9 Tryz.underlying9
  have he : strOfNums (l.data.toList.map fun x => (x.toNat : Int)) = l := by
    apply ByteArray.ext
    apply Array.ext'
    simp [strOfNums, Function.comp_def]
  rw [he] at hcv
  simp [execOp, ev_tmp h, hcv, Result.andThen]
/-- The words of the line. -/
theorem words_reg {r : S50} {rest : ByteArray} (hr : FineRow r) (hs : (textX r).size < 65536) (hz : a.tmps.size = 364) (h5 : a.tmps[5]?.getD undef = .pointer (some ⟨g, 0, none⟩)) (hb : w.heap[g]? = some (.cells (scanC rest (textX r)) 260 (0, 0))) (hS : Sc w0 w g m rest f) (hp : Spc w0)
    (h : ∀ a' w' ub, Fr a a' 16 6 → a'.tmps[6]?.getD undef = .slice (some ⟨ub, 0, none⟩) (r.f1.length + 1) (r.f1.length + 1) → w'.heap[ub]? = some (.cells (wordsV r) 9 (0, 0)) → Sc w0 w' g m rest f → Q .normal a' w') :
    (Code.region id #[{ dst := some 20, op := .move (.tmp 5), type := y0, pos := p0, after := n0, guard := none },
      { dst := some 21, op := .call { callee := .value (.func 40), args := #[.tmp 20], argTypes := #[t0] }, type := y1, pos := p1, after := n1, guard := none },
      { dst := some 22, op := .convert 137 9 (.tmp 21), type := y2, pos := p2, after := n2, guard := none },
      { dst := some 23, op := .call { callee := .value (.func 39), args := #[.tmp 22], argTypes := #[t1] }, type := y3, pos := p3, after := n3, guard := none },
      { dst := some 6, op := .assign (.tmp 23), type := y4, pos := p4, after := n4, guard := none }] false).wp Tryz.prog Q a w := by
  refine wp_region_lit ?_
  refine val_go rfl rfl (by omega) (run_mv _ _ _ _ _ _ 5 _ h5) (fun a1 q1 => ?_)
  refine call_go rfl rfl (by rw [q1.1]; omega) (run_call1 _ _ _ _ _ _ 20 40 t0 _ (enters_of Tryz.func40 (by kernel_rfl) rfl) q1.2.1) (Bytes_c rest (textX r) g w hb) ?_
  rintro v w1 a2 ⟨vb, vc, rfl, hc, hB⟩ q2
  have S1 := hS.keep hB
  refine val_go rfl rfl (by rw [q2.1, q1.1]; omega) (run_conv _ _ _ _ _ _ 21 vb vc _ q2.2.1 hc) (fun a3 q3 => ?_)
  refine call_go rfl rfl (by rw [q3.1, q2.1, q1.1]; omega) (run_call1 _ _ _ _ _ _ 22 39 t1 _ (enters_of Tryz.func39 (by kernel_rfl) rfl) q3.2.1) (words_c r hr w1 (by omega) (hp.keep S1.B)) ?_
  rintro v w2 a4 ⟨rfl, rfl⟩ q4
  have S2 := S1.keep (below_alloc (Below.refl w1.heap.size w1) (.cells (wordsV r) 9))
  refine val_go rfl rfl (by rw [q4.1, q3.1, q2.1, q1.1]; omega) (run_as _ _ _ _ _ _ 23 _ q4.2.1) (fun a5 q5 => ?_)
  exact h a5 _ _ (((((Fr.refl a 16 6).step q1 (.inl (by omega))).step q2 (.inl (by omega))).step q3 (.inl (by omega))).step q4 (.inl (by omega)) |>.step q5 (.inr rfl)) q5.2.1 (heap_alloc_new w1 _) S2
theorem two_reg {ub n c : Nat} (hz : a.tmps.size = 364) (h6 : a.tmps[6]?.getD undef = .slice (some ⟨ub, 0, none⟩) (n + 1) c) (hn : 0 < n) (h : ∀ a', Fr a a' 24 24 → Q .normal a' w) :
    (Code.seq (Code.region id #[{ dst := some 24, op := .move (.tmp 6), type := y0, pos := p0, after := n0, guard := none },
      { dst := some 25, op := .call { callee := .builtin .len, args := #[.tmp 24], argTypes := #[44] }, type := y1, pos := p1, after := n1, guard := none },
      { dst := some 26, op := .binOp .lss 3 (.tmp 25) (.const (.int .i64 2)) 3, type := y2, pos := p2, after := n2, guard := none }] false) (Code.cond (.tmp 26) x .skip)).wp Tryz.prog Q a w := by
  refine wp_seq (wp_region_lit ?_)
  refine val_go rfl rfl (by omega) (run_mv _ _ _ _ _ _ 6 _ h6) (fun a1 q1 => ?_)
  refine val_go rfl rfl (by rw [q1.1]; omega) (run_len44 _ _ _ _ _ _ 24 ub (n + 1) c q1.2.1) (fun a2 q2 => ?_)
  refine val_go rfl rfl (by rw [q2.1, q1.1]; omega) (run_lss2 _ _ _ _ _ _ 25 _ q2.2.1 (by omega)) (fun a3 q3 => ?_)
  refine wp_cond_false (ev_tmp q3.2.1) (wp_skip ?_)
  exact h a3 ((((Fr.refl a 24 24).step q1 (.inl (by omega))).step q2 (.inl (by omega))).step q3 (.inl (by omega)))
theorem label_reg {r : S50} {ub n c : Nat} (hz : a.tmps.size = 364) (h6 : a.tmps[6]?.getD undef = .slice (some ⟨ub, 0, none⟩) (n + 1) c) (hw : w.heap[ub]? = some (.cells (wordsV r) 9 (0, 0))) (h : ∀ a', Fr a a' 27 7 → a'.tmps[7]?.getD undef = .string r.f0 → Q .normal a' w) :
    (Code.region id #[{ dst := some 27, op := .move (.tmp 6), type := y0, pos := p0, after := n0, guard := none },
      { dst := some 28, op := .indexAddr 44 (.tmp 27) (.const (.int .i64 0)), type := y1, pos := p1, after := n1, guard := none },
      { dst := some 29, op := .load 9 (.tmp 28), type := y2, pos := p2, after := n2, guard := none },
      { dst := some 7, op := .assign (.tmp 29), type := y3, pos := p3, after := n3, guard := none }] false).wp Tryz.prog Q a w := by
  refine wp_region_lit ?_
  refine val_go rfl rfl (by omega) (run_mv _ _ _ _ _ _ 6 _ h6) (fun a1 q1 => ?_)
  refine val_go rfl rfl (by rw [q1.1]; omega) (run_ia0 _ _ _ _ _ _ 27 ub n c q1.2.1) (fun a2 q2 => ?_)
  have hc : w.cell? ⟨ub, 0, none⟩ = some (.string r.f0) := (blk_cell hw 0).trans (by simp [wordsV])
  refine val_go rfl rfl (by rw [q2.1, q1.1]; omega) (run_ld9 _ _ _ _ _ _ 28 _ _ q2.2.1 hc) (fun a3 q3 => ?_)
  refine val_go rfl rfl (by rw [q3.1, q2.1, q1.1]; omega) (run_as _ _ _ _ _ _ 29 _ q3.2.1) (fun a4 q4 => ?_)
  exact h a4 (((((Fr.refl a 27 7).step q1 (.inl (by omega))).step q2 (.inl (by omega))).step q3 (.inl (by omega))).step q4 (.inr rfl)) q4.2.1
/-- The label is not "gc". -/
theorem gc_reg {s L L' : ByteArray} (hz : a.tmps.size = 364) (h7 : a.tmps[7]?.getD undef = .string s) (hs : s ≠ L) (h : ∀ a', Fr a a' 30 30 → Q .normal a' w) :
    (Code.seq (Code.region id #[{ dst := some 30, op := .move (.tmp 7), type := y0, pos := p0, after := n0, guard := none },
      { dst := some 31, op := .binOp .eql 9 (.tmp 30) (.const (.string L)) 9, type := y1, pos := p1, after := n1, guard := none },
      { dst := some 32, op := .move (.tmp 31), type := y2, pos := p2, after := n2, guard := none },
      { dst := some 33, op := .move (.tmp 6), type := y3, pos := p3, after := n3, guard := some (2, true) },
      { dst := some 34, op := .call { callee := .builtin .len, args := #[.tmp 33], argTypes := #[44] }, type := y4, pos := p4, after := n4, guard := some (2, true) },
      { dst := some 35, op := .binOp .geq 3 (.tmp 34) (.const (.int .i64 3)) 3, type := y5, pos := p5, after := n5, guard := some (2, true) },
      { dst := some 36, op := .pick (.tmp 32) (.tmp 35) (.const (.bool false)), type := y6, pos := p6, after := n6, guard := none },
      { dst := some 37, op := .move (.tmp 36), type := y7, pos := p7, after := n7, guard := none },
      { dst := some 38, op := .move (.tmp 6), type := y8, pos := p8, after := n8, guard := some (7, true) },
      { dst := some 39, op := .indexAddr 44 (.tmp 38) (.const (.int .i64 1)), type := y9, pos := p9, after := n9, guard := some (7, true) },
      { dst := some 40, op := .load 9 (.tmp 39), type := ya, pos := pa, after := na, guard := some (7, true) },
      { dst := some 41, op := .binOp .eql 9 (.tmp 40) (.const (.string L')) 9, type := yb, pos := pb, after := nb, guard := some (7, true) },
      { dst := some 42, op := .pick (.tmp 37) (.tmp 41) (.const (.bool false)), type := yc, pos := pc, after := nc, guard := none }] false) (Code.cond (.tmp 42) x .skip)).wp Tryz.prog Q a w := by
  have hh : (s.toList == L.toList) = false := by
    cases hq : (s.toList == L.toList) with
    | true => exact absurd (eq_of_toList hq) hs
    | false => rfl
  refine wp_seq (wp_region_lit ?_)
  refine val_go rfl rfl (by omega) (run_mv _ _ _ _ _ _ 7 _ h7) (fun a1 q1 => ?_)
  refine val_go rfl rfl (by rw [q1.1]; omega) (run_eql _ _ _ _ _ _ 30 s L q1.2.1) (fun a2 q2 => ?_)
  rw [hh] at q2
  refine val_go rfl rfl (by rw [q2.1, q1.1]; omega) (run_mv _ _ _ _ _ _ 31 _ q2.2.1) (fun a3 q3 => ?_)
  have z3 : a3.tmps.size = 364 := by rw [q3.1, q2.1, q1.1]; exact hz
  refine guard_go (i := 2) (n := 32) rfl rfl (by omega) q3.2.1 rfl (by omega) (fun a4 q4 => ?_)
  have v4 := (q4.2.2.1 32 (by omega)).trans q3.2.1
  have z4 := q4.1.trans z3
  refine guard_go (i := 2) (n := 32) rfl rfl (by omega) v4 rfl (by omega) (fun a5 q5 => ?_)
  have v5 := (q5.2.2.1 32 (by omega)).trans v4
  have z5 := q5.1.trans z4
  refine guard_go (i := 2) (n := 32) rfl rfl (by omega) v5 rfl (by omega) (fun a6 q6 => ?_)
  have v6 := (q6.2.2.1 32 (by omega)).trans v5
  have z6 := q6.1.trans z5
  refine val_go rfl rfl (by omega) (run_pickF _ _ _ _ _ _ 32 35 v6) (fun a7 q7 => ?_)
  have z7 := q7.1.trans z6
  refine val_go rfl rfl (by omega) (run_mv _ _ _ _ _ _ 36 _ q7.2.1) (fun a8 q8 => ?_)
  have z8 := q8.1.trans z7
  refine guard_go (i := 7) (n := 37) rfl rfl (by omega) q8.2.1 rfl (by omega) (fun a9 q9 => ?_)
  have v9 := (q9.2.2.1 37 (by omega)).trans q8.2.1
  have z9 := q9.1.trans z8
  refine guard_go (i := 7) (n := 37) rfl rfl (by omega) v9 rfl (by omega) (fun a10 q10 => ?_)
  have v10 := (q10.2.2.1 37 (by omega)).trans v9
  have z10 := q10.1.trans z9
  refine guard_go (i := 7) (n := 37) rfl rfl (by omega) v10 rfl (by omega) (fun a11 q11 => ?_)
  have v11 := (q11.2.2.1 37 (by omega)).trans v10
  have z11 := q11.1.trans z10
  refine guard_go (i := 7) (n := 37) rfl rfl (by omega) v11 rfl (by omega) (fun a12 q12 => ?_)
  have v12 := (q12.2.2.1 37 (by omega)).trans v11
  have z12 := q12.1.trans z11
  refine val_go rfl rfl (by omega) (run_pickF _ _ _ _ _ _ 37 41 v12) (fun a13 q13 => ?_)
  refine wp_cond_false (ev_tmp q13.2.1) (wp_skip ?_)
  exact h a13 (((((((((((((Fr.refl a 30 30).step q1 (.inl (by omega))).step q2 (.inl (by omega))).step q3 (.inl (by omega))).step q4 (.inl (by omega))).step q5 (.inl (by omega))).step q6 (.inl (by omega))).step q7 (.inl (by omega))).step q8 (.inl (by omega))).step q9 (.inl (by omega))).step q10 (.inl (by omega))).step q11 (.inl (by omega))).step q12 (.inl (by omega)) |>.step q13 (.inl (by omega)))
end
end Go.Proofs.YtaniejfkbapbbaaGreatDoor
namespace Go.Proofs.YtaniejfkbapbbaaGreatDoor
open Go.RowKit Go.Proofs.YtaniejfkbapbbaaGreatDoorW.PrintWords Go.Proofs.YtaniejfkbapbbaaGreatDoorW.PrintLast Go.Proofs.YtaniejfkbapbbaaGreatDoorW.PrintMore
open Go.Proofs.YtaniejfkbapbbaaGreatDoor.PFnXfsNormal (S50 k50 k50_mkM info5 info9 info31 info50 info126)

def zeroX : Array Value := ((List.range 276).map (boxV fun _ => 0)).toArray
set_option maxRecDepth 100000 in
theorem info118 : (Tryz.prog.info? 118).map (fun i => (i.zero, i.size)) = some (some (.agg zeroX), 276) := by kernel_rfl
theorem run_al118 (a : Act) (ty : TypeId) (p : String) (nd : Array Edge) (dst : Option Tmp) (w : World) : (execOp a.eval { dst := dst, op := .alloc 118, type := ty, pos := p, after := nd, guard := none }).run Tryz.prog w = .ok (.value (.pointer (some ⟨w.heap.size, 0, none⟩))) (w.alloc (.cells zeroX 118)) := by
  obtain ⟨i, hi, hzz⟩ := Option.map_eq_some_iff.1 info118
  simp only [Prod.mk.injEq] at hzz
  generalize zeroX = Z at hzz ⊢
  simp [execOp, zeroValue, typeInfo, hi, hzz.1, go_sem]
theorem box_new (w : World) : BoxX (w.alloc (.cells zeroX 118)) w.heap.size (fun _ => 0) := by
  refine ⟨zeroX, heap_alloc_new w _, by simp [zeroX], fun i => ?_⟩
  unfold zeroX
  dsimp only
  by_cases h : i < 276
  · rw [if_pos h, List.getElem?_toArray, List.getElem?_map, List.getElem?_range h]; rfl
  · rw [if_neg h, List.getElem?_toArray, List.getElem?_map, List.getElem?_eq_none (by simpa using h)]; rfl
section
variable {id : Nat} {y0 y1 y2 y3 y4 y5 y6 y7 t0 t1 t2 t3 : TypeId} {p0 p1 p2 p3 p4 p5 p6 p7 : String} {n0 n1 n2 n3 n4 n5 n6 n7 : Array Edge} {Q : Exit → Act → World → Prop} {a : Act} {w w0 : World} {x y : Code} {g m : Nat} {f : Nat → Int}
theorem run_asc (a : Act) (ty : TypeId) (p : String) (nd : Array Edge) (dst : Option Tmp) (w : World) (v : Value) :
    (execOp a.eval { dst := dst, op := .assign (.const v), type := ty, pos := p, after := nd, guard := none }).run Tryz.prog w = .ok (.value v) w := by
  go_simp
theorem start17 {i0 i1 i2 : Nat} {s : ByteArray} {v0 v1 : Value} (hz : a.tmps.size = 364) (h0 : a.tmps[0]?.getD undef = .string s) (hdf : a.defers = [])
    (h : ∀ a' w', a'.tmps.size = 364 → a'.defers = [] → a'.tmps[4]?.getD undef = .pointer (some ⟨w.heap.size, 0, none⟩) → a'.tmps[5]?.getD undef = .pointer (some ⟨w.heap.size + 1, 0, none⟩) → Sc w w' (w.heap.size + 1) w.heap.size s (fun _ => 0) → y.wp Tryz.prog Q a' w') :
    (Code.seq (Code.region i0 #[{ dst := some 2, op := .assign (.const v0), type := y0, pos := p0, after := n0, guard := none }, { dst := some 3, op := .assign (.const v1), type := y1, pos := p1, after := n1, guard := none }] false)
      (Code.seq (Code.region i1 #[{ dst := some 4, op := .alloc 118, type := y2, pos := p2, after := n2, guard := none }] false)
        (Code.seq (Code.region i2 #[{ dst := some 16, op := .move (.tmp 0), type := y3, pos := p3, after := n3, guard := none },
          { dst := some 17, op := .call { callee := .value (.func 37), args := #[.tmp 16], argTypes := #[t0] }, type := y4, pos := p4, after := n4, guard := none },
          { dst := some 5, op := .assign (.tmp 17), type := y5, pos := p5, after := n5, guard := none }] false) y))).wp Tryz.prog Q a w := by
  refine wp_seq (wp_region_lit ?_)
  refine val_go rfl rfl (by omega) (run_asc _ _ _ _ _ _ v0) (fun a1 q1 => ?_)
  refine val_go rfl rfl (by rw [q1.1]; omega) (run_asc _ _ _ _ _ _ v1) (fun a2 q2 => ?_)
  refine wp_seq (wp_region_lit ?_)
  have z2 : a2.tmps.size = 364 := by rw [q2.1, q1.1]; exact hz
  refine val_go rfl rfl (by omega) (run_al118 _ _ _ _ _ _) (fun a3 q3 => ?_)
  refine wp_seq (wp_region_lit ?_)
  have z3 := q3.1.trans z2
  refine val_go rfl rfl (by omega) (run_mv _ _ _ _ _ _ 0 (.string s) ((q3.2.2.1 0 (by omega)).trans ((q2.2.2.1 0 (by omega)).trans ((q1.2.2.1 0 (by omega)).trans h0)))) (fun a4 q4 => ?_)
  have z4 := q4.1.trans z3
  refine call_go rfl rfl (by omega) (run_call1 _ _ _ _ _ _ 16 37 t0 _ (enters_of Tryz.func37 (by kernel_rfl) rfl) q4.2.1) (NewLines_c s _) ?_
  rintro v w1 a5 ⟨rfl, rfl⟩ q5
  have z5 := q5.1.trans z4
  refine val_go rfl rfl (by omega) (run_as _ _ _ _ _ _ 17 _ q5.2.1) (fun a6 q6 => ?_)
  have hs1 : (w.alloc (.cells zeroX 118)).heap.size = w.heap.size + 1 := by simp
  refine h a6 _ (q6.1.trans z5) ?_ ?_ ?_ ?_
  · rw [q6.2.2.2, q5.2.2.2, q4.2.2.2, q3.2.2.2, q2.2.2.2, q1.2.2.2]; exact hdf
  · rw [q6.2.2.1 _ (by omega), q5.2.2.1 _ (by omega), q4.2.2.1 _ (by omega)]; exact q3.2.1
  · rw [q6.2.1, hs1]
  · have hB := below_alloc (Below.refl w.heap.size w) (.cells zeroX 118)
    have hb := heap_alloc_new (w.alloc (.cells zeroX 118)) (.cells (scanC s ⟨#[]⟩) 260)
    rw [hs1] at hb
    exact ⟨by omega, Nat.le_refl _, by omega, ⟨_, hb⟩, box_keep (below_alloc (Below.refl _ _) _) (box_new w), below_alloc hB _⟩
theorem end17 {t : ByteArray} (hz : a.tmps.size = 364) (h4 : a.tmps[4]?.getD undef = .pointer (some ⟨m, 0, none⟩)) (h5 : a.tmps[5]?.getD undef = .pointer (some ⟨g, 0, none⟩)) (hS : Sc w0 w g m t f)
    (h : ∀ a', a'.defers = a.defers → a'.tmps[2]?.getD undef = .pointer (some ⟨m, 0, none⟩) → a'.tmps[3]?.getD undef = .nilIface → Q .ret a' w) :
    (Code.seq (Code.region id #[{ dst := some 362, op := .move (.tmp 5), type := y0, pos := p0, after := n0, guard := none },
      { dst := some 363, op := .call { callee := .value (.func 76), args := #[.tmp 362], argTypes := #[t0] }, type := y1, pos := p1, after := n1, guard := none },
      { dst := some 2, op := .assign (.tmp 4), type := y2, pos := p2, after := n2, guard := none },
      { dst := some 3, op := .assign (.tmp 363), type := y3, pos := p3, after := n3, guard := none }] false) Code.ret).wp Tryz.prog Q a w := by
  obtain ⟨l, hl⟩ := hS.scan
  refine wp_seq (wp_region_lit ?_)
  refine val_go rfl rfl (by omega) (run_mv _ _ _ _ _ _ 5 _ h5) (fun a1 q1 => ?_)
  refine call_go rfl rfl (by rw [q1.1]; omega) (run_call1 _ _ _ _ _ _ 362 76 t0 _ (enters_of Tryz.func76 (by kernel_rfl) rfl) q1.2.1) (Err_c t l g w hl) ?_
  rintro v w1 a2 ⟨rfl, rfl⟩ q2
  have z2 : a2.tmps.size = 364 := by rw [q2.1, q1.1]; exact hz
  refine val_go rfl rfl (by omega) (run_as _ _ _ _ _ _ 4 _ ((q2.2.2.1 4 (by omega)).trans ((q1.2.2.1 4 (by omega)).trans h4))) (fun a3 q3 => ?_)
  refine val_go rfl rfl (by rw [q3.1]; omega) (run_as _ _ _ _ _ _ 363 _ ((q3.2.2.1 363 (by omega)).trans q2.2.1)) (fun a4 q4 => ?_)
  refine wp_ret (h a4 ?_ ((q4.2.2.1 2 (by omega)).trans q3.2.1) q4.2.1)
  rw [q4.2.2.2, q3.2.2.2, q2.2.2.2, q1.2.2.2]
end
def lenIn : List (ByteArray × Nat) → List UInt8 → Nat
  | [], _ => 0
  | e :: r, s => if e.1.data.toList = s then e.2 else lenIn r s
theorem xt_len : ∀ e ∈ XT, lenIn XT e.1.data.toList = e.2 := by decide
theorem fine_len {r : S50} (h : FineRow r) : r.f1.length = lenIn XT r.f0.data.toList := (xt_len _ h.1).symm
end Go.Proofs.YtaniejfkbapbbaaGreatDoor
