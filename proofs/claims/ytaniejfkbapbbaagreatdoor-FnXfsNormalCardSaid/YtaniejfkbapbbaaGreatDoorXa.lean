/-
  Part of the proof of FnXfsNormal: the reading of the text: its rows are fine and their print is the text.
-/
import Derived.Lib.ParseIntB
import Derived.Lib.Fields
import Derived.Test.YtaniejfkbapbbaaGreatDoorPFnXfsNormalx2
import Derived.Lib.Hide
import Derived.StillTailTactics
import Derived.Deep.RegionHeld3
namespace Go.Proofs.YtaniejfkbapbbaaGreatDoor
open Go

/-- Bytes as the text of a string. -/
def B (l : List UInt8) : ByteArray := ⟨l.toArray⟩
theorem B_data (l : List UInt8) : (B l).data.toList = l := by simp [B]
theorem B_of (s : ByteArray) : B s.data.toList = s := by cases s; simp [B]
theorem B_size (l : List UInt8) : (B l).size = l.length := by simp [B, ByteArray.size]
theorem B_append (a b : List UInt8) : B a ++ B b = B (a ++ b) := by
  apply ByteArray.ext
  simp [B, ByteArray.data_append]
theorem B_inj {a b : List UInt8} (h : B a = B b) : a = b := by
  have := congrArg (fun s : ByteArray => s.data.toList) h
  simpa [B_data] using this

/-- A digit's byte. -/
def dg (d : Nat) : UInt8 := UInt8.ofNat (48 + d)
/-- The decimal digits of a number. -/
def digs (n : Nat) : List UInt8 := if n < 10 then [dg n] else digs (n / 10) ++ [dg (n % 10)]
  termination_by n
  decreasing_by omega

theorem digs_lt {n : Nat} (h : n < 10) : digs n = [dg n] := by rw [digs, if_pos h]
theorem digs_ge {n : Nat} (h : ¬ n < 10) : digs n = digs (n / 10) ++ [dg (n % 10)] := by rw [digs, if_neg h]

theorem dig_toNat {d : Nat} (h : d < 10) : (dg d).toNat = 48 + d := by
  simp [dg, UInt8.toNat_ofNat']; omega

theorem digs_ne_nil (n : Nat) : digs n ≠ [] := by
  rw [digs]; split <;> simp

theorem digs_mem {n : Nat} : ∀ {b : UInt8}, b ∈ digs n → 48 ≤ b.toNat ∧ b.toNat ≤ 57 := by
  induction n using digs.induct with
  | case1 n h =>
    intro b hb
    rw [digs_lt h] at hb
    simp at hb
    subst hb
    rw [dig_toNat h]; omega
  | case2 n h ih =>
    intro b hb
    rw [digs_ge h] at hb
    simp at hb
    rcases hb with hb | hb
    · exact ih hb
    · subst hb
      rw [dig_toNat (by omega)]; omega

theorem parse_digs (M n : Nat) (hM : M < 18446744073709551616) (hn : n ≤ M) (r : List UInt8) :
    Lib.parseUintM M 0 (digs n ++ r) = Lib.parseUintM M n r := by
  induction n using digs.induct generalizing r with
  | case1 n h =>
    rw [digs_lt h]
    simp only [List.cons_append, List.nil_append, Lib.parseUintM, dig_toNat h]
    rw [if_pos (by omega), if_neg (by omega), if_neg (by omega)]
    congr 1
    omega
  | case2 n h ih =>
    rw [digs_ge h, List.append_assoc, ih (by omega)]
    simp only [List.cons_append, List.nil_append, Lib.parseUintM, dig_toNat (show n % 10 < 10 by omega)]
    rw [if_pos (by omega), if_neg (by omega), if_neg (by omega)]
    congr 1
    omega

theorem parseB_digs (b n : Nat) (hb : b ≤ 64) (hn : n < 2 ^ b) : Lib.parseUintB b (digs n) = .ok n := by
  unfold Lib.parseUintB
  rw [if_neg (digs_ne_nil n)]
  have h64 : 2 ^ b ≤ 2 ^ 64 := Nat.pow_le_pow_right (by omega) hb
  have := parse_digs (2 ^ b - 1) n (by omega) (by omega) []
  rw [List.append_nil] at this
  rw [this]; rfl

/-- Texts with a blank between. -/
def joinSp : List (List UInt8) → List UInt8
  | [] => []
  | [x] => x
  | x :: y :: r => x ++ 32 :: joinSp (y :: r)

theorem joinSp_snoc : ∀ (l : List (List UInt8)) (x : List UInt8), l ≠ [] → joinSp (l ++ [x]) = joinSp l ++ 32 :: x
  | [], _, h => absurd rfl h
  | [a], x, _ => by simp [joinSp]
  | a :: b :: r, x, _ => by
    have := joinSp_snoc (b :: r) x (by simp)
    simp only [List.cons_append] at this ⊢
    simp only [joinSp, this, List.append_assoc, List.cons_append]

theorem joinSp_cons (x : List UInt8) (l : List (List UInt8)) (h : l ≠ []) : joinSp (x :: l) = x ++ 32 :: joinSp l := by
  cases l with
  | nil => exact absurd rfl h
  | cons y r => rfl

theorem joinSp_mem {l : List (List UInt8)} {p : UInt8 → Prop} (h : ∀ x ∈ l, ∀ b ∈ x, p b) (h32 : p 32) : ∀ b ∈ joinSp l, p b := by
  induction l with
  | nil => intro b hb; simp [joinSp] at hb
  | cons x r ih =>
    intro b hb
    cases r with
    | nil => exact h x (by simp) b (by simpa [joinSp] using hb)
    | cons y r =>
      simp only [joinSp, List.mem_append, List.mem_cons] at hb
      rcases hb with hb | hb | hb
      · exact h x (by simp) b hb
      · subst hb; exact h32
      · exact ih (fun z hz => h z (by simp [hz])) b hb

theorem fieldsGo_word : ∀ (w cur r : List UInt8), (∀ b ∈ w, Lib.isSp b = false) → Lib.fieldsGo cur (w ++ r) = Lib.fieldsGo (cur ++ w) r
  | [], cur, r, _ => by simp
  | b :: w, cur, r, h => by
    rw [List.cons_append, Lib.fieldsGo_more cur b _ (h b (by simp)), fieldsGo_word w (cur ++ [b]) r (fun c hc => h c (by simp [hc]))]
    simp

/-- The fields of words with a blank between are the words. -/
theorem fields_join : ∀ (l : List (List UInt8)), (∀ x ∈ l, x ≠ [] ∧ ∀ b ∈ x, Lib.isSp b = false) → Lib.fields (joinSp l) = l
  | [], _ => by simp [joinSp, Lib.fields, Lib.fieldsGo]
  | [x], h => by
    obtain ⟨hx, hb⟩ := h x (by simp)
    have := fieldsGo_word x [] [] hb
    simp only [List.append_nil, List.nil_append] at this
    simp only [joinSp, Lib.fields]
    rw [this]
    cases x with
    | nil => exact absurd rfl hx
    | cons _ _ => simp [Lib.fieldsGo]
  | x :: y :: r, h => by
    obtain ⟨hx, hb⟩ := h x (by simp)
    have ih := fields_join (y :: r) (fun z hz => h z (by simp [hz]))
    simp only [joinSp, Lib.fields]
    rw [fieldsGo_word x [] _ hb, List.nil_append, Lib.fieldsGo_end x 32 _ (by decide) hx]
    rw [Lib.fields] at ih
    rw [ih]

end Go.Proofs.YtaniejfkbapbbaaGreatDoor
namespace Go.Proofs.YtaniejfkbapbbaaGreatDoor
open Go.RowKit Go.Proofs.YtaniejfkbapbbaaGreatDoorW.PrintWords Go.Proofs.YtaniejfkbapbbaaGreatDoorW.PrintLast Go.Proofs.YtaniejfkbapbbaaGreatDoorW.PrintMore

/-- A call returns a value of which p holds. -/
def Ret (p : Value → World → Prop) (e : Ending) (w' : World) : Prop := ∃ v, e = .returned v ∧ p v w'
theorem Ret.mk {p : Value → World → Prop} {e : Ending} {w' : World} (v : Value) (he : e = .returned v) (h : p v w') : Ret p e w' := ⟨v, he, h⟩

def SomeBool (w : World) (v : Value) (w' : World) : Prop := ∃ b, v = .bool b ∧ w = w'
def U64 (n : Int) : Prop := 0 ≤ n ∧ n < 18446744073709551616

set_option maxHeartbeats 1000000 in
theorem plain_c (s : ByteArray) (w : World) (hs : s.size ≤ 40000) :
    Calls Tryz.prog 27 #[.string s] w (Ret (SomeBool w)) := by
  go_enter Tryz.func27, Tryz.ntmps27
  go_wp2
  go_loop [7] (fun i => ∃ k : Nat, k ≤ s.size ∧ i = .int .i64 k) (fun i => s.size - (intOf i).toNat)
  case atStart => exact ⟨0, by omega, rfl⟩
  case round =>
    obtain ⟨k, hk, rfl⟩ := hrel
    by_cases hlt : k < s.size
    · go_wp2
      all_goals first
        | (go_round
           case rel => exact ⟨k + 1, by omega, by go_num⟩
           case measure => simp [intOf]; omega)
        | (go_ret; exact .mk _ rfl ⟨_, rfl, rfl⟩)
    · go_wp2
      go_ret
      exact .mk _ rfl ⟨_, rfl, rfl⟩

def SomeDigit (w : World) (v : Value) (w' : World) : Prop := ∃ n : Int, v = .int .u64 n ∧ 0 ≤ n ∧ n ≤ 99 ∧ w = w'

set_option maxHeartbeats 1000000 in
theorem digit_c (c : Int) (w : World) (h0 : 0 ≤ c) (h1 : c ≤ 255) : Calls Tryz.prog 133 #[.int .u8 c] w (Ret (SomeDigit w)) := by
  go_enter Tryz.func133, Tryz.ntmps133
  go_wp2
  all_goals (go_ret; refine .mk _ rfl ⟨_, rfl, ?_, ?_, rfl⟩ <;> omega)

def SomeNum (w : World) (v : Value) (w' : World) : Prop := ∃ (n : Int) (b : Bool), v = .tuple #[.int .u64 n, .bool b] ∧ 0 ≤ n ∧ n < 18446744073709551616 ∧ w = w'

set_option maxHeartbeats 1000000 in
theorem number_c (s : ByteArray) (w : World) (hs : s.size ≤ 40000) : Calls Tryz.prog 128 #[.string s, .int .u64 10] w (Ret (SomeNum w)) := by
  go_enter Tryz.func128, Tryz.ntmps128
  go_wp2
  go_loop [6, 11] (fun n i => ∃ (k : Nat) (m : Int), k ≤ s.size ∧ i = .int .i64 k ∧ n = .int .u64 m ∧ 0 ≤ m ∧ m < 18446744073709551616) (fun _ i => s.size - (intOf i).toNat)
  case atStart => exact ⟨0, 0, by omega, rfl, rfl, by omega, by omega⟩
  case round =>
    obtain ⟨k, m, hk, rfl, rfl, hm0, hm1⟩ := hrel
    by_cases hlt : k < s.size
    · have hb : ((s[k].toNat : Nat) : Int) ≤ 255 := by have := s[k].toNat_lt; omega
      go_wp2_with (go_at_call 133; refine (digit_c _ _ (by omega) (by omega)).mono ?_; rintro e w' ⟨v, rfl, d, rfl, hd0, hd1, rfl⟩)
      all_goals first
        | (go_round
           case rel => exact ⟨k + 1, _, by omega, by go_num, rfl, by omega, by omega⟩
           case measure => simp [intOf]; omega)
        | (go_ret2; exact .mk _ rfl ⟨_, _, rfl, by omega, by omega, rfl⟩)
    · go_wp2
      go_ret2
      exact .mk _ rfl ⟨_, _, rfl, by omega, by omega, rfl⟩

set_option maxHeartbeats 1000000 in
theorem dec_c (s : ByteArray) (w : World) (hs : s.size ≤ 40000) : Calls Tryz.prog 117 #[.string s] w (Ret (SomeNum w)) := by
  go_enter Tryz.func117, Tryz.ntmps117
  go_wp2_with (go_at_call 128; refine (number_c s _ hs).mono ?_; rintro e w' ⟨v, rfl, n, b, rfl, h0, h1, rfl⟩)
  go_ret2
  exact .mk _ rfl ⟨_, _, rfl, by omega, by omega, rfl⟩

set_option maxHeartbeats 1000000 in
/-- spec.Ends with the empty text behind. -/
theorem ends_c (s : ByteArray) (w : World) (hs : s.size ≤ 40000) : Calls Tryz.prog 25 #[.string s, .string ⟨#[]⟩] w (Ret (SomeBool w)) := by
  go_enter Tryz.func25, Tryz.ntmps25
  go_wp2
  go_ret
  exact .mk _ rfl ⟨_, rfl, rfl⟩

/-- A slice of the call's own, of some texts, each no longer than m; at most n of them. -/
def SomeTexts (w : World) (n m : Nat) (v : Value) (w' : World) : Prop :=
  ∃ l : List ByteArray, Kd.R Kd.string 9 w' w.heap.size (fun _ => True) v l ∧ l.length ≤ n ∧ (∀ x ∈ l, x.size ≤ m) ∧ Below w.heap.size w w'

open Go.Proofs.YtaniejfkbapbbaaGreatDoor.PFnXfsNormal (info5 info9 info31 info50 info126)
set_option maxHeartbeats 1000000 in
theorem lines_c (s : ByteArray) (w : World) (hs : s.size ≤ 40000) : Calls Tryz.prog 12 #[.string s] w (Ret (SomeTexts w 40001 40000)) := by
  go_enter Tryz.func12, Tryz.ntmps12
  go_wp2
  go_loopw [3, 4, 8] (fun v f i wr => ∃ (k m : Nat) (l : List ByteArray), k ≤ s.size ∧ m ≤ k ∧ i = .int .i64 k ∧ f = .int .i64 m ∧ l.length ≤ k ∧ (∀ x ∈ l, x.size ≤ 40000) ∧ Kd.R Kd.string 9 wr w.heap.size (fun _ => True) v l ∧ Below w.heap.size w wr) (fun _ _ i _ => s.size - (intOf i).toNat)
  case atStart => exact ⟨0, 0, [], by omega, by omega, rfl, rfl, by simp, by simp, Kd.R_nil _ _ _ _ _, Below.refl _ _⟩
  case round =>
    obtain ⟨k, m, l, hk, hm, rfl, rfl, hl, hx, hR, hB⟩ := hrel
    have hx1 : ∀ x ∈ l ++ [s.extract m k], x.size ≤ 40000 := by
      intro x h
      rcases List.mem_append.1 h with h | h
      · exact hx x h
      · rw [List.mem_singleton.1 h]; simp; omega
    have hx2 : ∀ x ∈ l ++ [s.extract m s.size], x.size ≤ 40000 := by
      intro x h
      rcases List.mem_append.1 h with h | h
      · exact hx x h
      · rw [List.mem_singleton.1 h]; simp; omega
    have HX1 := Lib.hid hx1; have HX2 := Lib.hid hx2; have HX := Lib.hid hx
    clear hx hx1 hx2
    by_cases hlt : k < s.size
    · go_wp2_with (at_builtin; refine Kd.R_append Kd.string (w0 := w) w.heap.size rfl (.tmp 15) (.tmp 20) 44 9 (.string ⟨#[]⟩) 16 rfl Tryz.underlying44 info9 rfl (by decide) (by omega) _ l (s.extract m k) [.string (s.extract m k)] (fun _ => True) (fun _ => False) rfl rfl rfl (fun _ h => h.elim) (fun _ _ => trivial) hR hB hB.size (by omega) ?_; intro v1 w1 hR1 hB1 _ _; clear hR hB)
      · go_roundw
        case rel => exact ⟨k + 1, k + 1, _, by omega, by omega, by go_num, by go_num, by simp; omega, HX1.out, hR1, hB1⟩
        case measure => simp [intOf]; omega
      · go_roundw
        case rel => exact ⟨k + 1, m, l, by omega, by omega, by go_num, rfl, by omega, HX.out, hR, hB⟩
        case measure => simp [intOf]; omega
    · go_wp2_with (at_builtin; refine Kd.R_append Kd.string (w0 := w) w.heap.size rfl (.tmp 29) (.tmp 33) 44 9 (.string ⟨#[]⟩) 16 rfl Tryz.underlying44 info9 rfl (by decide) (by omega) _ l (s.extract m s.size) [.string (s.extract m s.size)] (fun _ => True) (fun _ => False) rfl rfl rfl (fun _ h => h.elim) (fun _ _ => trivial) hR hB hB.size (by omega) ?_; intro v1 w1 hR1 hB1 _ _; clear hR hB)
      · go_ret
        exact .mk _ rfl ⟨_, hR1, by simp; omega, HX2.out, hB1⟩
      · go_ret
        exact .mk _ rfl ⟨_, hR, by omega, HX.out, hB⟩

theorem ext_le {s : ByteArray} (hs : s.size ≤ 40000) {l : List ByteArray} (hx : ∀ x ∈ l, x.size ≤ 40000) (m k : Nat) : ∀ x ∈ l ++ [s.extract m k], x.size ≤ 40000 := by
  intro x h
  rcases List.mem_append.1 h with h | h
  · exact hx x h
  · rw [List.mem_singleton.1 h]; simp; omega

set_option maxHeartbeats 1000000 in
theorem fields_c (s : ByteArray) (w : World) (hs : s.size ≤ 40000) : Calls Tryz.prog 24 #[.string s] w (Ret (SomeTexts w 40001 40000)) := by
  go_enter Tryz.func24, Tryz.ntmps24
  go_wp2
  go_loopw [3, 4, 9] (fun v f i wr => ∃ (k : Nat) (l : List ByteArray), k ≤ s.size ∧ i = .int .i64 k ∧ (f = .int .i64 (-1) ∨ ∃ m : Nat, m ≤ k ∧ f = .int .i64 m) ∧ l.length ≤ k ∧ (∀ x ∈ l, x.size ≤ 40000) ∧ Kd.R Kd.string 9 wr w.heap.size (fun _ => True) v l ∧ Below w.heap.size w wr) (fun _ _ i _ => s.size - (intOf i).toNat)
  case atStart => exact ⟨0, [], by omega, rfl, .inl rfl, by simp, by simp, Kd.R_nil _ _ _ _ _, Below.refl _ _⟩
  case round =>
    obtain ⟨k, l, hk, rfl, hf, hl, hx, hR, hB⟩ := hrel
    have HX := Lib.hid hx
    clear hx
    by_cases hlt : k < s.size
    · rcases hf with rfl | ⟨m, hm, rfl⟩
      · go_wp2
        all_goals go_roundw
        all_goals first
          | (case measure => simp [intOf]; omega)
          | (case rel => exact ⟨k + 1, l, by omega, by go_num, .inl rfl, by omega, HX.out, hR, hB⟩)
          | (case rel => exact ⟨k + 1, l, by omega, by go_num, .inr ⟨k, by omega, rfl⟩, by omega, HX.out, hR, hB⟩)
      · go_wp2_with (at_builtin; refine Kd.R_append Kd.string (w0 := w) w.heap.size rfl (.tmp 28) (.tmp 33) 44 9 (.string ⟨#[]⟩) 16 rfl Tryz.underlying44 info9 rfl (by decide) (by omega) _ l (s.extract m k) [.string (s.extract m k)] (fun _ => True) (fun _ => False) rfl rfl rfl (fun _ h => h.elim) (fun _ _ => trivial) hR hB hB.size (by omega) ?_; intro v1 w1 hR1 hB1 _ _; clear hR hB)
        all_goals go_roundw
        all_goals first
          | (case measure => simp [intOf]; omega)
          | (case rel => exact ⟨k + 1, _, by omega, by go_num, .inl rfl, by simp; omega, ext_le hs HX.out _ _, hR1, hB1⟩)
          | (case rel => exact ⟨k + 1, l, by omega, by go_num, .inr ⟨m, by omega, rfl⟩, by omega, HX.out, hR, hB⟩)
    · rcases hf with rfl | ⟨m, hm, rfl⟩
      · go_wp2
        go_ret
        exact .mk _ rfl ⟨_, hR, by omega, HX.out, hB⟩
      · go_wp2_with (at_builtin; refine Kd.R_append Kd.string (w0 := w) w.heap.size rfl (.tmp 46) (.tmp 50) 44 9 (.string ⟨#[]⟩) 16 rfl Tryz.underlying44 info9 rfl (by decide) (by omega) _ l (s.extract m s.size) [.string (s.extract m s.size)] (fun _ => True) (fun _ => False) rfl rfl rfl (fun _ h => h.elim) (fun _ _ => trivial) hR hB hB.size (by omega) ?_; intro v1 w1 hR1 hB1 _ _; clear hR hB)
        go_ret
        exact .mk _ rfl ⟨_, hR1, by simp; omega, ext_le hs HX.out _ _, hB1⟩

/-- Numbers as they are read. -/
def Nums (l : List Int) : Prop := ∀ x ∈ l, 0 ≤ x ∧ x < 18446744073709551616
def SomeNums (w : World) (n : Nat) (v : Value) (w' : World) : Prop :=
  ∃ (u : Value) (l : List Int) (b : Bool), v = .tuple #[u, .bool b] ∧ Kd.R (Kd.int .u64) 31 w' w.heap.size (fun _ => True) u l ∧ l.length ≤ n ∧ Nums l ∧ Below w.heap.size w w'
end Go.Proofs.YtaniejfkbapbbaaGreatDoor
namespace Go.Proofs.YtaniejfkbapbbaaGreatDoor
open Go.RowKit Go.Proofs.YtaniejfkbapbbaaGreatDoorW.PrintWords Go.Proofs.YtaniejfkbapbbaaGreatDoorW.PrintLast Go.Proofs.YtaniejfkbapbbaaGreatDoorW.PrintMore
open Go.Proofs.YtaniejfkbapbbaaGreatDoor.PFnXfsNormal

theorem hex_at : ∀ d : Nat, d < 10 → bt (⟨#[48, 49, 50, 51, 52, 53, 54, 55, 56, 57, 97, 98, 99, 100, 101, 102]⟩ : ByteArray) (d : Int) = ((dg d).toNat : Int) := by decide
theorem str_one (b : UInt8) : strOfNums [(b.toNat : Int)] = B [b] := by
  simp [strOfNums, B]
theorem digs_len : ∀ (k n : Nat), n < 10 ^ (k + 1) → (digs n).length ≤ k + 1
  | 0, n, h => by rw [digs_lt (by simpa using h)]; simp
  | k + 1, n, h => by
    by_cases h10 : n < 10
    · rw [digs_lt h10]; simp
    · have := digs_len k (n / 10) (by rw [Nat.pow_succ] at h; omega)
      rw [digs_ge h10, List.length_append]
      simp; omega
theorem digits_f : ∀ (k n : Nat), n < 10 ^ (k + 1) → n < 18446744073709551616 → spec_Digits.f (k + 1) (n : Int) 10 = some (B (digs n)) := by
  intro k
  induction k with
  | zero =>
    intro n h _
    have hn : n < 10 := by simpa using h
    have ht : Int.tmod (n : Int) 10 = ((n % 10 : Nat) : Int) := by rw [Int.tmod_eq_emod_of_nonneg (by omega)]; omega
    simp only [spec_Digits.f]
    rw [if_neg (by decide), ht, if_pos (by omega), if_pos (by omega), if_pos (by omega), hex_at _ (by omega), str_one, digs_lt hn, Nat.mod_eq_of_lt hn]
  | succ k ih =>
    intro n h hb
    have ht : Int.tmod (n : Int) 10 = ((n % 10 : Nat) : Int) := by rw [Int.tmod_eq_emod_of_nonneg (by omega)]; omega
    have hd : Int.tdiv (n : Int) 10 = ((n / 10 : Nat) : Int) := by rw [Int.tdiv_eq_ediv_of_nonneg (by omega)]; omega
    rw [spec_Digits.f, if_neg (by decide), ht, if_pos (by omega), if_pos (by omega)]
    by_cases hn : n < 10
    · rw [if_pos (by omega), hex_at _ (by omega), str_one, digs_lt hn, Nat.mod_eq_of_lt hn]
    · have hw : IntKind.u64.wrap ((n / 10 : Nat) : Int) = ((n / 10 : Nat) : Int) := by
        rw [IntKind.wrap_u64]; omega
      have hp : n / 10 < 10 ^ (k + 1) := by rw [Nat.pow_succ] at h; omega
      rw [if_neg (by omega), hd, hw, ih (n / 10) hp (by omega)]
      simp only [Option.bind_some]
      rw [hex_at _ (by omega), str_one, B_size, B_size, if_pos (by have := digs_len 19 (n / 10) (by omega); simp; omega), B_append, digs_ge hn]
theorem text_f (k n : Nat) (hk : 20 ≤ k) (hn : n < 18446744073709551616) : spec_Text.f k (n : Int) = some (B (digs n)) := by
  obtain ⟨j, rfl⟩ : ∃ j, k = j + 1 := ⟨k - 1, by omega⟩
  have hp : n < 10 ^ (j + 1) := Nat.lt_of_lt_of_le (Nat.lt_of_lt_of_le hn (show 18446744073709551616 ≤ 10 ^ 20 by decide)) (Nat.pow_le_pow_right (by omega) (by omega))
  rw [spec_Text.f, digits_f j n hp hn]; rfl

/-- The texts of numbers. -/
def txts (l : List Int) : List (List UInt8) := l.map fun n => digs n.toNat
theorem rdOf_at {l : List ByteArray} {j : Nat} {x : ByteArray} {r : List ByteArray} (h : l.drop j = x :: r) : rdOf ByteArray.empty l (j : Int) = x := by
  have hj : l[j]? = some x := by
    have := congrArg (·[0]?) h
    simpa [List.getElem?_drop] using this
  simp [rdOf, List.getD_eq_getElem?_getD, hj]
theorem rd_at {l : List Int} {j : Nat} {x : Int} {r : List Int} (h : l.drop j = x :: r) : rd l (j : Int) = x := by
  have hj : l[j]? = some x := by
    have := congrArg (·[0]?) h
    simpa [List.getElem?_drop] using this
  simp [rd, List.getD_eq_getElem?_getD, hj]
theorem drop_next {α : Type} {l r : List α} {j : Nat} {x : α} (h : l.drop j = x :: r) : l.drop (j + 1) = r := by
  rw [← List.tail_drop, h]; rfl

/-- What Join has behind some of its texts. -/
def joinOn (s : List UInt8) : List (List UInt8) → List UInt8
  | [] => s
  | x :: r => joinOn (s ++ 32 :: x) r
theorem joinOn_eq : ∀ (r : List (List UInt8)) (s : List UInt8), joinOn s r = if r = [] then s else s ++ 32 :: joinSp r
  | [], s => by simp [joinOn]
  | [x], s => by simp [joinOn, joinSp]
  | x :: y :: r, s => by
    rw [joinOn, joinOn_eq (y :: r)]
    simp [joinSp]
theorem wrap_next {j : Nat} (h : j ≤ 1000000) : wrap64 ((j : Int) + 1) = ((j + 1 : Nat) : Int) := by unfold wrap64; omega

theorem join_on (T : List ByteArray) (hT : T.length ≤ 40001) (hx : ∀ x ∈ T, x.size ≤ 40000) : ∀ (r : List ByteArray) (j k : Nat) (s : List UInt8), T.drop j = r → 0 < j → j ≤ T.length → r.length < k → s.length ≤ 40001 * j →
    spec_Join.l0 k (B [32]) (B s) T (T.length : Int) (j : Int) = some (B (joinOn s (r.map (·.data.toList))))
  | [], j, k, s, hd, _, hl, hk, _ => by
    obtain ⟨k, rfl⟩ : ∃ m, k = m + 1 := ⟨k - 1, by omega⟩
    have hj : T.length ≤ j := by
      have := congrArg List.length hd
      simp at this; omega
    rw [spec_Join.l0, if_neg (by omega)]; rfl
  | x :: r, j, k, s, hd, h0, hl, hk, hs => by
    obtain ⟨k, rfl⟩ : ∃ m, k = m + 1 := ⟨k - 1, by omega⟩
    have hj : j < T.length := by
      have := congrArg List.length hd
      simp at this; omega
    have hxs : x.size ≤ 40000 := hx x (by
      have : x ∈ T.drop j := by rw [hd]; simp
      exact List.mem_of_mem_drop this)
    have hxl : x.data.toList.length = x.size := by rw [Array.length_toList]; rfl
    simp only [List.length_cons] at hk
    rw [spec_Join.l0, if_pos (by omega), if_pos (by omega), if_pos (by omega), if_pos (by omega), B_append]
    rw [if_pos (by rw [B_size, B_size]; simp; omega), rdOf_at hd, if_pos (by rw [B_size]; simp; omega), wrap_next (by omega)]
    rw [show B (s ++ [32]) ++ x = B (s ++ 32 :: x.data.toList) by rw [← B_of x, B_append, B_data]; simp]
    have := join_on T hT hx r (j + 1) k (s ++ 32 :: x.data.toList) (drop_next hd) (by omega) (by omega) (by omega) (by simp only [List.length_append, List.length_cons, hxl]; omega)
    rw [this]; rfl

theorem join_f (T : List ByteArray) (k : Nat) (hT : T.length ≤ 40001) (hx : ∀ x ∈ T, x.size ≤ 40000) (hk : T.length + 1 < k) : spec_Join.f k T (B [32]) = some (B (joinSp (T.map (·.data.toList)))) := by
  obtain ⟨k, rfl⟩ : ∃ m, k = m + 1 := ⟨k - 1, by omega⟩
  unfold spec_Join.f
  cases T with
  | nil => rw [spec_Join.l0, if_neg (by simp)]; rfl
  | cons x r =>
    have hxs : x.size ≤ 40000 := hx x (by simp)
    have hxl : x.data.toList.length = x.size := by rw [Array.length_toList]; rfl
    have hr : rdOf ByteArray.empty (x :: r) 0 = x := by simp [rdOf]
    simp only [List.length_cons] at hT hk
    rw [spec_Join.l0, if_pos (by simp), if_pos (by omega), if_pos (by simp), if_neg (by omega), hr, if_pos (by show 0 + x.size ≤ _; omega)]
    have hw : wrap64 (0 + 1) = ((1 : Nat) : Int) := by unfold wrap64; omega
    have he : (⟨#[]⟩ : ByteArray) ++ x = B x.data.toList := by rw [show (⟨#[]⟩ : ByteArray) = B [] from rfl, ← B_of x, B_append, B_data]; rfl
    rw [hw, he]
    have := join_on (x :: r) (by simp; omega) hx r 1 k x.data.toList (by simp) (by omega) (by simp) (by omega) (by rw [hxl]; omega)
    rw [this, joinOn_eq]
    cases r with
    | nil => simp [joinSp]
    | cons y r => simp [joinSp]

theorem numbers_on (l : List Int) (hl : l.length ≤ 40000) (hn : ∀ x ∈ l, 0 ≤ x ∧ x < 18446744073709551616) : ∀ (r : List Int) (j k : Nat), l.drop j = r → j ≤ l.length → l.length + r.length + 40 ≤ k →
    spec_numbers.l0 k (B [32]) ((l.take j).map fun n => B (digs n.toNat)) l (l.length : Int) (j : Int) = some (B (joinSp (txts l)))
  | [], j, k, hd, hj, hk => by
    obtain ⟨k, rfl⟩ : ∃ m, k = m + 1 := ⟨k - 1, by omega⟩
    have hjl : l.length ≤ j := by
      have := congrArg List.length hd
      simp at this; omega
    rw [spec_numbers.l0, if_neg (by omega), List.take_of_length_le (by omega), join_f _ k (by simp; omega) ?_ (by simp at hk ⊢; omega)]
    · simp only [List.map_map, Option.bind_some, txts]
      congr 4
    · intro x hx
      obtain ⟨n, hn', rfl⟩ := List.mem_map.1 hx
      have := hn n hn'
      have := digs_len 19 n.toNat (by omega)
      rw [B_size]; omega
  | x :: r, j, k, hd, hj, hk => by
    obtain ⟨k, rfl⟩ : ∃ m, k = m + 1 := ⟨k - 1, by omega⟩
    simp only [List.length_cons] at hk
    have hjl : j < l.length := by
      have := congrArg List.length hd
      simp at this; omega
    have hxm : x ∈ l := by
      have : x ∈ l.drop j := by rw [hd]; simp
      exact List.mem_of_mem_drop this
    have hx := hn x hxm
    have hget : l[j]? = some x := by
      have := congrArg (·[0]?) hd
      simpa [List.getElem?_drop] using this
    have ht := text_f k x.toNat (by omega) (by omega)
    rw [show ((x.toNat : Nat) : Int) = x by omega] at ht
    rw [spec_numbers.l0, if_pos (by omega), if_pos (by omega), if_pos (by omega), rd_at hd, ht]
    simp only [Option.bind_some]
    rw [if_pos (by simp; omega), wrap_next (by omega)]
    have := numbers_on l hl hn r (j + 1) k (drop_next hd) (by omega) (by omega)
    rw [List.take_add_one, hget] at this
    simpa using this

theorem numbers_f (l : List Int) (hl : l.length ≤ 40000) (hn : ∀ x ∈ l, 0 ≤ x ∧ x < 18446744073709551616) : spec_numbers.f 80100 l (B [32]) = some (B (joinSp (txts l))) := by
  unfold spec_numbers.f
  have := numbers_on l hl hn l 0 80100 rfl (by omega) (by omega)
  simpa using this

/-- spec.numbers: the numbers' digits, blanks between. -/
theorem numbers_c (A : Option Addr) (c : Nat) (l : List Int) (w : World) (hr : Kd.C (Kd.int .u64) w A l.length l) (hc : l.length ≤ c) (hl : l.length ≤ 40000) (hn : ∀ x ∈ l, 0 ≤ x ∧ x < 18446744073709551616) :
    Calls Tryz.prog 15 #[.slice A l.length c, .string ⟨#[32]⟩] w fun e w' => e = .returned (.string (B (joinSp (txts l)))) ∧ Below w.heap.size w w' :=
  spec_numbers.calls 80100 A c l (B [32]) _ w hr hc (numbers_f l hl hn)
/-- spec.Text: a number's digits. -/
theorem text_c (n : Int) (w : World) (h0 : 0 ≤ n) (h1 : n < 18446744073709551616) :
    Calls Tryz.prog 35 #[.int .u64 n] w fun e w' => e = .returned (.string (B (digs n.toNat))) ∧ Below w.heap.size w w' := by
  have := text_f 20 n.toNat (by omega) (by omega)
  rw [show ((n.toNat : Nat) : Int) = n by omega] at this
  exact spec_Text.calls 20 n _ w this
end Go.Proofs.YtaniejfkbapbbaaGreatDoor
namespace Go.Proofs.YtaniejfkbapbbaaGreatDoor
open Go.RowKit Go.Proofs.YtaniejfkbapbbaaGreatDoorW.PrintWords Go.Proofs.YtaniejfkbapbbaaGreatDoorW.PrintLast Go.Proofs.YtaniejfkbapbbaaGreatDoorW.PrintMore
open Go.Proofs.YtaniejfkbapbbaaGreatDoor.PFnXfsNormal (info5 info9 info31 info50 info126)

/-- A row of texts that is read: the address and the k-th cell. -/
theorem str_at {w : World} {A : Option Addr} {l : List ByteArray} (h : Kd.C Kd.string w A l.length l) {k : Nat} (hk : k < l.length) :
    ∃ ad, A = some ad ∧ w.cell? (ad.add k) = some (.string (l.getD k ByteArray.empty)) := by
  obtain ⟨ad, e, hc⟩ := Kd.at_string h (k : Int) (by omega) (by omega)
  exact ⟨ad, e, hc⟩
theorem getD_mem' {l : List ByteArray} {k : Nat} (hk : k < l.length) : l.getD k ByteArray.empty ∈ l := by
  rw [List.getD_eq_getElem?_getD, List.getElem?_eq_getElem hk]; exact List.getElem_mem _

set_option maxHeartbeats 1000000 in
theorem decimals_c (A : Option Addr) (c : Nat) (l : List ByteArray) (w : World) (hr : Kd.C Kd.string w A l.length l) (hl : l.length ≤ 40001) (hx : ∀ x ∈ l, x.size ≤ 40000) :
    Calls Tryz.prog 26 #[.slice A l.length c] w (Ret (SomeNums w l.length)) := by
  have HX := Lib.hid hx
  have HR := Lib.hid hr
  clear hx hr
  go_enter Tryz.func26, Tryz.ntmps26
  go_wp2
  go_loopw [4, 11] (fun v i wr => ∃ (k : Nat) (ns : List Int), k ≤ l.length ∧ i = .int .i64 k ∧ ns.length ≤ k ∧ Hid (Nums ns) ∧ Kd.R (Kd.int .u64) 31 wr w.heap.size (fun _ => True) v ns ∧ Below w.heap.size w wr) (fun _ i _ => l.length - (intOf i).toNat)
  case atStart => exact ⟨0, [], by omega, rfl, by simp, Lib.hid (fun x hx => by cases hx), Kd.R_nil _ _ _ _ _, Below.refl _ _⟩
  case round =>
    obtain ⟨k, ns, hk, rfl, hn, HN, hR, hB⟩ := hrel
    by_cases hlt : k < l.length
    · obtain ⟨ad, rfl, hcell⟩ := str_at HR.out hlt
      have hcell' := (hB.cell (World.block_lt_of_cell? w _ hcell)).trans hcell
      have hs := HX.out _ (getD_mem' hlt)
      obtain ⟨s, hse⟩ : ∃ s, l.getD k ByteArray.empty = s := ⟨_, rfl⟩
      rw [hse] at hcell' hs
      clear hcell hse
      go_wp2_with (go_at_call 117; refine (dec_c _ _ hs).mono ?_; rintro e w' ⟨v, rfl, n, b, rfl, h0, h1, rfl⟩; (cases b))
      · go_ret2
        exact .mk _ rfl ⟨_, [], _, rfl, Kd.R_nil _ _ _ _ _, by simp, (fun x hx => by cases hx), hB⟩
      · refine (text_c n _ h0 h1).mono ?_
        rintro e w1 ⟨rfl, hb1⟩
        have hB1 : Below w.heap.size w w1 := hB.trans (hb1.mono hB.size)
        have hR1 := Kd.R_below hR hb1
        have HN1 : Hid (Nums (ns ++ [n])) := Lib.hid (fun x hx => by
          rcases List.mem_append.1 hx with hx | hx
          · exact HN.out x hx
          · rw [List.mem_singleton.1 hx]; exact ⟨h0, h1⟩)
        clear hR hB hb1
        go_wp2_with (at_builtin; refine Kd.R_append (Kd.int .u64) (w0 := w) w.heap.size rfl (.tmp 28) (.tmp 30) 48 31 (.int .u64 0) 8 rfl Tryz.underlying48 info31 rfl (by decide) (by omega) _ ns n [.int .u64 n] (fun _ => True) (fun _ => False) rfl rfl rfl (fun _ h => h.elim) (fun _ _ => trivial) hR1 hB1 hB1.size (by omega) ?_; intro v2 w2 hR2 hB2 _ _; clear hR1 hB1)
        · go_ret2
          exact .mk _ rfl ⟨_, [], _, rfl, Kd.R_nil _ _ _ _ _, by simp, (fun x hx => by cases hx), hB1⟩
        · go_roundw
          case rel => exact ⟨k + 1, _, by omega, by go_num, by simp; omega, HN1, hR2, hB2⟩
          case measure => simp [intOf]; omega
    · go_wp2
      go_ret2
      exact .mk _ rfl ⟨_, _, _, rfl, hR, by omega, HN.out, hB⟩

open Go.Proofs.YtaniejfkbapbbaaGreatDoor.PFnXfsNormal (S50 k50 k50_mkM)
/-- What is known of rows that were read. -/
def RowsOk (l : List S50) : Prop := ∀ r ∈ l, Nums r.f1 ∧ r.f1.length ≤ 40000 ∧ r.f0.size ≤ 40000
def SomeRows (w : World) (n : Nat) (v : Value) (w' : World) : Prop :=
  ∃ (u : Value) (l : List S50) (b : Bool), v = .tuple #[u, .bool b] ∧ Kd.R k50 50 w' w.heap.size (fun _ => True) u l ∧ l.length ≤ n ∧ RowsOk l ∧ Below w.heap.size w w'

theorem str_tail {w : World} {ad : Addr} {x : ByteArray} {l : List ByteArray} (h : Kd.C Kd.string w (some ad) (l.length + 1) (x :: l)) : Kd.C Kd.string w (some ⟨ad.block, ad.off + 1, none⟩) l.length l := by
  obtain ⟨h1, h2, h3⟩ := h
  refine ⟨rfl, by omega, fun h0 => ⟨_, rfl, fun j p hj => ?_⟩⟩
  obtain ⟨ad', e, hc⟩ := h3 (by omega)
  cases e
  obtain ⟨c, hl, hp, hcell⟩ := hc (j + 1) p (by simpa using hj)
  refine ⟨c, hl, hp, fun i u hu => ?_⟩
  have := hcell i u hu
  rw [← this]
  have e1 : Kd.string.sz = 1 := rfl
  rw [e1]
  congr 1
  unfold Addr.add
  simp only [Nat.mul_one]
  rw [if_neg (show ¬ (j + 1 + i = 0) by omega)]
  split
  · next h => rw [show j + 1 + i = 1 by omega]
  · rw [show ad.off + (j + 1 + i) = ad.off + 1 + (j + i) by omega]
theorem str_none {w : World} {A : Option Addr} {l : List ByteArray} (h : l.length ≤ 0) : Kd.C Kd.string w A l.length l := ⟨rfl, by omega, fun h0 => by omega⟩

theorem wrap_small {n : Int} (h0 : 0 ≤ n) (h1 : n < 9223372036854775808) : IntKind.i64.wrap n = n := by rw [IntKind.wrap_i64]; omega
theorem cell_alloc_drew {w : World} {a : Addr} {v : Value} {o : Obj} (h : w.cell? a = some v) : (w.alloc o).drew.cell? a = some v := by
  have : (w.alloc o).cell? a = w.cell? a := World.cell?_alloc_some w a o (by rw [h]; rfl)
  exact this.trans h

set_option maxRecDepth 100000 in
set_option maxHeartbeats 1000000 in
theorem table_c (A : Option Addr) (c : Nat) (l : List ByteArray) (w : World) (hr : Kd.C Kd.string w A l.length l) (hl : l.length ≤ 40001) (hx : ∀ x ∈ l, x.size ≤ 40000) :
    Calls Tryz.prog 11 #[.slice A l.length c, .string ⟨#[]⟩] w (Ret (SomeRows w 40001)) := by
  have HX := Lib.hid hx
  have HR := Lib.hid hr
  clear hx hr
  go_enter Tryz.func11, Tryz.ntmps11
  go_wp2
  go_loopw [6, 14] (fun v i wr => ∃ (k : Nat) (rs : List S50), k ≤ l.length ∧ i = .int .i64 k ∧ rs.length ≤ k ∧ Hid (RowsOk rs) ∧ Kd.R k50 50 wr w.heap.size (fun _ => True) v rs ∧ Below w.heap.size w wr) (fun _ i _ => l.length - (intOf i).toNat)
  case atStart => exact ⟨0, [], by omega, rfl, by simp, Lib.hid (fun x hx => by cases hx), Kd.R_nil _ _ _ _ _, Below.refl _ _⟩
  case round =>
    obtain ⟨k, rs, hk, rfl, hn, HN, hR, hB⟩ := hrel
    by_cases hlt : k < l.length
    · obtain ⟨ad, rfl, hcell⟩ := str_at HR.out hlt
      have hcell' := (hB.cell (World.block_lt_of_cell? w _ hcell)).trans hcell
      have hs := HX.out _ (getD_mem' hlt)
      obtain ⟨s, hse⟩ : ∃ s, l.getD k ByteArray.empty = s := ⟨_, rfl⟩
      rw [hse] at hcell' hs
      clear hcell hse
      go_wp2_with fail
      go_outline
      refine (fields_c _ _ hs).mono ?_
      rintro e w1 ⟨v1, rfl, f, hf, hfl, hfx, hb1⟩
      clear hcell'
      have hB1 : Below w.heap.size w w1 := hB.trans (hb1.mono hB.size)
      have hR1 := Kd.R_below hR hb1
      obtain ⟨A1, c1, rfl, hc1, hf1⟩ := Kd.R_reads hf
      have HFX := Lib.hid hfx
      have HF1 := Lib.hid hf1
      have hf9 := hf
      clear hR hB hb1 hf hfx hf1
      cases f with
      | nil =>
        go_wp2
        go_ret2
        exact .mk _ rfl ⟨_, [], _, rfl, Kd.R_nil _ _ _ _ _, by simp, (fun x hx => by cases hx), hB1⟩
      | cons f0 fr =>
        have hf0 : f0.size ≤ 40000 := HFX.out f0 (by simp)
        obtain ⟨ad1, rfl, hcell1⟩ := str_at HF1.out (k := 0) (by simp)
        simp only [List.getD_cons_zero] at hcell1
        rw [Addr.add_zero'] at hcell1
        simp only [List.length_cons] at hfl hc1 HF1 ⊢
        go_wp2_with fail
        refine (ends_c _ _ hf0).mono ?_
        rintro e w' ⟨v, rfl, b, rfl, rfl⟩
        have HT := str_tail HF1.out
        cases b with
        | false =>
          go_wp2
          go_ret2
          exact .mk _ rfl ⟨_, [], _, rfl, Kd.R_nil _ _ _ _ _, by simp, (fun x hx => by cases hx), hB1⟩
        | true =>
          go_wp2_with fail
          all_goals
            refine (decimals_c _ _ fr _ (by first | exact str_tail HF1.out | exact str_none (by omega)) (by omega) (fun x hx => HFX.out x (by simp [hx]))).mono ?_
            rintro e w2 ⟨v, rfl, u, ns, b2, rfl, hu, hul, hun, hb2⟩
            have hB2 : Below w.heap.size w w2 := hB1.trans (hb2.mono hB1.size)
            have hR2 := Kd.R_below hR1 hb2
            have hc2 : w2.cell? ad1 = some (.string f0) := (hb2.cell (World.block_lt_of_cell? w1 _ hcell1)).trans hcell1
            have HU := Lib.hid hun
            clear hun
            cases b2 with
            | false =>
              go_wp2
              go_ret2
              exact .mk _ rfl ⟨_, [], _, rfl, Kd.R_nil _ _ _ _ _, by simp, (fun x hx => by cases hx), hB2⟩
            | true =>
              go_wp2_with fail
              have hB3 := hB2.drew
              have hR3 := Kd.R_drew hR2
              generalize hW : w2.drew = W at hB3 hR3 ⊢
              clear HT
              have hlt1 := World.block_lt_of_cell? w2 _ hc2
              subst hW
              clear hB2 hR2 
              obtain ⟨A2, c2, rfl⟩ := Kd.R_slice hu
              have HN1 : Hid (RowsOk (rs ++ [⟨f0, ns, []⟩])) := Lib.hid (fun x hx => by
                rcases List.mem_append.1 hx with hx | hx
                · exact HN.out x hx
                · rw [List.mem_singleton.1 hx]; exact ⟨HU.out, (by show ns.length ≤ _; omega), hf0⟩)
              have fz0 : (0 : Int) ≤ (f0.size : Int) := Int.natCast_nonneg _
              have fz1 : IntKind.i64.wrap (f0.size : Int) = f0.size := wrap_small (by omega) (by omega)
              have fz2 : IntKind.i64.wrap ((f0.size : Int) - 0) = f0.size := by rw [Int.sub_zero]; exact fz1
              have fz3 : f0.data.size = f0.size := rfl
              have hne : some ad1.block ≠ u6.ownBlock := by
                obtain ⟨cs, hcs⟩ := Kd.R_typed hf9 _ rfl
                exact Kd.R_ne hR3 ((hb2.block _ (World.block_lt_of_cell? w1 _ hcell1)).trans hcs) (by decide)
              clear hb2 hf9
              go_region_held3 (fun w' => w'.cell? ad1 = some (.string f0)) (first | assumption | exact cell_alloc_drew hc2) ((refine Kd.R_append_step k50 (w0 := w) (W := w2.drew) w.heap.size (by rfl) (.tmp 39) (.tmp 53) 27 50 (.agg #[.string ⟨#[]⟩, .slice none 0 0, .slice none 0 0]) 64 rfl Tryz.underlying27 info50 rfl (by decide) (by omega) u6 rs ⟨f0, ns, []⟩ _ (fun _ => True) (fun k => some k ≠ u6.ownBlock) rfl rfl (k50_mkM _ _ _ ⟨f0, ns, []⟩ (Kd.R_mono (Kd.R_lower (Kd.R_apart' (Kd.R_drew hu) (Kd.R_typed hR3) (by decide)) hB1.size) (fun k hk => hk.2)) (Kd.R_nil _ _ _ _ _)) (fun k hk => ⟨trivial, hk⟩) (fun _ _ => trivial) hR3 hB3 hB3.size (by omega) ?_; intro v4 w4 hR4 hB4 hg4 _; have hA4 : w4.cell? ad1 = some (.string f0) := (World.cell?_of_block (hg4.block _ hlt1 hne)).trans hc2))
              clear hR3 hB3 hu
              go_wp2
              go_roundw
              case rel => exact ⟨k + 1, _, by omega, by go_num, by simp; omega, HN1, hR4, hB4⟩
              case measure => simp [intOf]; omega
    · go_wp2
      go_ret2
      exact .mk _ rfl ⟨_, _, _, rfl, hR, by omega, HN.out, hB⟩
end Go.Proofs.YtaniejfkbapbbaaGreatDoor
namespace Go.Proofs.YtaniejfkbapbbaaGreatDoor
open Go.RowKit Go.Proofs.YtaniejfkbapbbaaGreatDoorW.PrintWords Go.Proofs.YtaniejfkbapbbaaGreatDoorW.PrintLast Go.Proofs.YtaniejfkbapbbaaGreatDoorW.PrintMore
open Go.Proofs.YtaniejfkbapbbaaGreatDoor.PFnXfsNormal (S50 k50 k50_mkM info5 info9 info31 info50 info126)

/-- A truth value that, if true, tells p; the world is as it was. -/
def TellsBool (p : Prop) (w : World) (v : Value) (w' : World) : Prop := ∃ b, v = .bool b ∧ (b = true → p) ∧ w = w'
/-- The same; the world has grown. -/
def GrowsBool (p : Prop) (w : World) (v : Value) (w' : World) : Prop := ∃ b, v = .bool b ∧ (b = true → p) ∧ Below w.heap.size w w'
theorem int_at {ik : IntKind} {w : World} {A : Option Addr} {l : List Int} (h : Kd.C (Kd.int ik) w A l.length l) {k : Nat} (hk : k < l.length) :
    ∃ ad, A = some ad ∧ w.cell? (ad.add k) = some (.int ik (l.getD k 0)) := by
  obtain ⟨ad, e, hc⟩ := Kd.at_int h (k : Int) (by omega) (by omega)
  exact ⟨ad, e, hc⟩

set_option maxHeartbeats 1000000 in
theorem sized_c (a : ByteArray) (A1 : Option Addr) (n c : Nat) (A2 : Option Addr) (n2 c2 : Nat) (k : Nat) (w : World) :
    Calls Tryz.prog 32 #[.agg #[.string a, .slice A1 n c, .slice A2 n2 c2], .int .i64 k, .int .i64 0] w (Ret (fun v w' => v = .bool (decide (n = k ∧ n2 = 0)) ∧ Below w.heap.size w w')) := by
  go_enter Tryz.func32, Tryz.ntmps32
  go_wp2
  all_goals
    go_ret
    refine .mk _ rfl ⟨?_, below_alloc (Below.refl _ _) _⟩
    first
      | (have h1 : n = k := by omega
         show Value.bool _ = Value.bool _
         congr 1
         by_cases h2 : n2 = 0
         · subst h2; simp [h1]
         · have h3 : ¬ ((n2 : Int) = 0) := by omega
           simp [h2])
      | (have h1 : ¬ n = k := by omega
         show Value.bool _ = Value.bool _
         congr 1
         simp [h1])

set_option maxHeartbeats 1000000 in
theorem small_c (A : Option Addr) (c : Nat) (l : List Int) (w : World) (hr : Kd.C (Kd.int .u64) w A l.length l) (hl : l.length ≤ 40001) :
    Calls Tryz.prog 33 #[.int .u64 4294967296, .slice A l.length c] w (Ret (TellsBool (∀ x ∈ l, x < 4294967296) w)) := by
  have HR := Lib.hid hr
  clear hr
  go_enter Tryz.func33, Tryz.ntmps33
  go_wp2
  go_loopw [9] (fun i wr => ∃ (k : Nat), k ≤ l.length ∧ i = .int .i64 k ∧ Hid (∀ x ∈ l.take k, x < 4294967296) ∧ w = wr) (fun i _ => l.length - (intOf i).toNat)
  case atStart => exact ⟨0, by omega, rfl, Lib.hid (fun x hx => by simp at hx), rfl⟩
  case round =>
    obtain ⟨k, hk, rfl, HK, rfl⟩ := hrel
    by_cases hlt : k < l.length
    · obtain ⟨ad, e, hcell⟩ := int_at HR.out hlt
      subst e
      obtain ⟨x, hx⟩ : ∃ x, l.getD k 0 = x := ⟨_, rfl⟩
      rw [hx] at hcell
      by_cases hb : x < 4294967296
      · have hb' : ¬ (4294967296 ≤ x) := by omega
        have HK1 : Hid (∀ x ∈ l.take (k+1), x < 4294967296) := Lib.hid (fun y hy => by
          rw [List.take_succ_eq_append_getElem hlt] at hy
          rcases List.mem_append.1 hy with hy | hy
          · exact HK.out y hy
          · rw [List.mem_singleton.1 hy]
            rw [List.getD_eq_getElem?_getD, List.getElem?_eq_getElem hlt] at hx
            exact (show l[k] = x from hx) ▸ hb)
        go_wp2
        go_roundw
        case rel => exact ⟨k + 1, by omega, by go_num, HK1, by trivial⟩
        case measure => simp [intOf]; omega
      · have hb' : 4294967296 ≤ x := by omega
        go_wp2
        go_ret
        exact .mk _ rfl ⟨false, rfl, by simp, rfl⟩
    · go_wp2
      go_ret
      exact .mk _ rfl ⟨true, rfl, fun _ x hx => HK.out x (by rw [List.take_of_length_le (by omega)]; exact hx), rfl⟩

/-- Rows that are read: the three cells of row k. -/
theorem row_at {w : World} {A : Option Addr} {l : List S50} (h : Kd.C k50 w A l.length l) {k : Nat} (hk : k < l.length) :
    ∃ ad x A1 c1 A2 c2, A = some ad ∧ l[k]? = some x ∧ w.cell? (ad.add (k * 3)) = some (.string x.f0) ∧ w.cell? ⟨(ad.add (k * 3)).block, (ad.add (k * 3)).off + 1, none⟩ = some (.slice A1 x.f1.length c1) ∧ w.cell? ⟨(ad.add (k * 3)).block, (ad.add (k * 3)).off + 2, none⟩ = some (.slice A2 x.f2.length c2) ∧ x.f1.length ≤ c1 ∧ (Kd.int .u64).C w A1 x.f1.length x.f1 := by
  obtain ⟨ad, A1, c1, A2, c2, e, h0, h1, h2, h3, h4, h5, h6⟩ := Go.Proofs.YtaniejfkbapbbaaGreatDoor.PFnXfsNormal.at_T50 h (k : Int) (by omega) (by omega)
  refine ⟨ad, PFnXfsNormal.rd_T50 l k, A1, c1, A2, c2, e, ?_, h0, h1, h2, h3, h4⟩
  show l[k]? = some (l.getD k _)
  rw [List.getD_eq_getElem?_getD, List.getElem?_eq_getElem hk]; rfl

set_option maxRecDepth 100000 in
set_option maxHeartbeats 1000000 in
theorem distinct_c (A : Option Addr) (c : Nat) (l : List S50) (w : World) (hr : Kd.C k50 w A l.length l) (hl : l.length ≤ 40001) :
    Calls Tryz.prog 34 #[.slice A l.length c] w (Ret (GrowsBool True w)) := by
  have HR := Lib.hid hr
  clear hr
  go_enter Tryz.func34, Tryz.ntmps34
  go_wp2
  go_loopw [7] (fun i wr => ∃ (k : Nat), k ≤ l.length ∧ i = .int .i64 k ∧ Below w.heap.size w wr) (fun i _ => l.length - (intOf i).toNat)
  case atStart => exact ⟨0, by omega, rfl, Below.refl _ _⟩
  case round =>
    obtain ⟨k, hk, rfl, hB⟩ := hrel
    by_cases hlt : k < l.length
    · obtain ⟨ad, x, A1, c1, A2, c2, rfl, hx, h0, -⟩ := row_at HR.out hlt
      obtain ⟨s, hs⟩ : ∃ s, x.f0 = s := ⟨_, rfl⟩
      rw [hs] at h0
      go_wp2
      go_loopw [11] (fun i wr => ∃ (j : Nat), j ≤ k ∧ i = .int .i64 j ∧ Below w.heap.size w wr) (fun i _ => k - (intOf i).toNat)
      case atStart => exact ⟨0, by omega, rfl, hB⟩
      case round =>
        obtain ⟨j, hj, rfl, hB2⟩ := hrel
        by_cases hjt : j < k
        · have hjl : j < l.length := by omega
          obtain ⟨ad', y, A1, c1, A2, c2, e, hy, h0', -⟩ := row_at HR.out hjl
          cases e
          obtain ⟨s', hs'⟩ : ∃ s, y.f0 = s := ⟨_, rfl⟩
          rw [hs'] at h0'
          have g0 := (hB2.cell (World.block_lt_of_cell? w _ h0)).trans h0
          have g1 := (hB2.cell (World.block_lt_of_cell? w _ h0')).trans h0'
          go_wp2_with fail
          go_region_held3 (fun w' => w'.cell? (ad.add (k * 3)) = some (.string s) ∧ w'.cell? (ad.add (j * 3)) = some (.string s')) (first | assumption | exact ⟨g0, g1⟩) (fail)
          have hB3 := below_drew hB2
          cases hh : (s.toList == s'.toList)
          · go_wp2
            go_roundw
            case rel => exact ⟨j + 1, by omega, by go_num, hB3⟩
            case measure => simp [intOf]; omega
          · go_wp2
            go_ret
            exact .mk _ rfl ⟨false, rfl, by simp, hB3⟩
        · go_wp2
          go_roundw
          case rel => exact ⟨k + 1, by omega, by go_num, hB2⟩
          case measure => simp [intOf]; omega
    · go_wp2
      go_ret
      exact .mk _ rfl ⟨true, rfl, fun _ => trivial, hB⟩

set_option maxHeartbeats 1000000 in
theorem btree2_c (w : World) : Calls Tryz.prog 118 #[] w (Ret (fun v w' => ∃ ad, v = .slice (some ad) 15 15 ∧ Below w.heap.size w w')) := by
  go_enter Tryz.func118, Tryz.ntmps118
  go_wp2
  go_ret
  exact .mk _ rfl ⟨_, rfl, below_alloc (Below.refl _ _) _⟩
end Go.Proofs.YtaniejfkbapbbaaGreatDoor
namespace Go.Proofs.YtaniejfkbapbbaaGreatDoor
open Go.RowKit Go.Proofs.YtaniejfkbapbbaaGreatDoorW.PrintWords Go.Proofs.YtaniejfkbapbbaaGreatDoorW.PrintLast Go.Proofs.YtaniejfkbapbbaaGreatDoorW.PrintMore
open Go.Proofs.YtaniejfkbapbbaaGreatDoor.PFnXfsNormal (S50 k50 k50_mkM info5 info9 info31 info50 info126)

/-- The labels, and how many numbers each has. -/
def XT : List (ByteArray × Nat) := [
  (⟨#[101, 120, 116, 101, 110, 116, 95, 97, 108, 108, 111, 99]⟩, 4),
  (⟨#[97, 98, 116]⟩, 4),
  (⟨#[98, 108, 107, 95, 109, 97, 112]⟩, 7),
  (⟨#[98, 109, 98, 116]⟩, 4),
  (⟨#[100, 105, 114]⟩, 4),
  (⟨#[116, 114, 97, 110, 115]⟩, 3),
  (⟨#[105, 103]⟩, 7),
  (⟨#[108, 111, 103]⟩, 5),
  (⟨#[114, 119]⟩, 2),
  (⟨#[97, 116, 116, 114]⟩, 4),
  (⟨#[105, 99, 108, 117, 115, 116, 101, 114]⟩, 3),
  (⟨#[118, 110, 111, 100, 101, 115]⟩, 8),
  (⟨#[98, 117, 102]⟩, 9),
  (⟨#[120, 112, 99]⟩, 3),
  (⟨#[120, 115, 116, 114, 97, 116]⟩, 2),
  (⟨#[112, 117, 115, 104, 95, 97, 105, 108]⟩, 10),
  (⟨#[100, 101, 98, 117, 103]⟩, 1),
  (⟨#[113, 109]⟩, 9),
  (⟨#[97, 98, 116, 98, 50]⟩, 15),
  (⟨#[97, 98, 116, 99, 50]⟩, 15),
  (⟨#[98, 109, 98, 116, 50]⟩, 15),
  (⟨#[105, 98, 116, 50]⟩, 15),
  (⟨#[102, 105, 98, 116, 50]⟩, 15),
  (⟨#[114, 109, 97, 112, 98, 116]⟩, 15),
  (⟨#[114, 101, 102, 99, 110, 116, 98, 116]⟩, 15),
  (⟨#[114, 109, 97, 112, 98, 116, 95, 109, 101, 109]⟩, 15),
  (⟨#[114, 99, 98, 97, 103, 98, 116]⟩, 15),
  (⟨#[114, 116, 114, 109, 97, 112, 98, 116]⟩, 15),
  (⟨#[114, 116, 114, 109, 97, 112, 98, 116, 95, 109, 101, 109]⟩, 15),
  (⟨#[114, 116, 114, 101, 102, 99, 110, 116, 98, 116]⟩, 15),
  (⟨#[122, 111, 110, 101, 100]⟩, 3),
  (⟨#[109, 101, 116, 97, 102, 105, 108, 101]⟩, 1),
  (⟨#[100, 101, 102, 101, 114, 95, 114, 101, 108, 111, 103]⟩, 1),
  (⟨#[103, 99]⟩, 1)]
/-- Cells of groups: a label, a name, a row of so many texts. -/
def rowsOf : List (ByteArray × Nat) → List Value → Prop
  | [], [] => True
  | (l, n) :: t, .string a :: .string _ :: .slice _ m _ :: r => a = l ∧ m = n ∧ rowsOf t r
  | _, _ => False
theorem rowsOf_get : ∀ (T : List (ByteArray × Nat)) (cs : List Value), rowsOf T cs → ∀ k (l : ByteArray) (n : Nat), T[k]? = some (l, n) → ∃ N A c, cs[k * 3]? = some (.string l) ∧ cs[k * 3 + 1]? = some (.string N) ∧ cs[k * 3 + 2]? = some (.slice A n c) := by
  intro T
  induction T with
  | nil => intro cs _ k l n h; simp at h
  | cons x t ih =>
    intro cs h k l n hk
    obtain ⟨l0, n0⟩ := x
    match cs, h with
    | .string a :: .string b :: .slice A m c :: r, h =>
      obtain ⟨h1, h2, h3⟩ := h
      cases k with
      | zero =>
        simp only [List.getElem?_cons_zero, Option.some.injEq, Prod.mk.injEq] at hk
        obtain ⟨rfl, rfl⟩ := hk
        subst h1 h2
        exact ⟨b, A, c, rfl, rfl, rfl⟩
      | succ k =>
        obtain ⟨N, A', c', g0, g1, g2⟩ := ih r h3 k l n (by simpa using hk)
        refine ⟨N, A', c', ?_, ?_, ?_⟩
        · rw [show (k + 1) * 3 = k * 3 + 1 + 1 + 1 by omega]; exact g0
        · rw [show (k + 1) * 3 + 1 = k * 3 + 1 + 1 + 1 + 1 by omega]; exact g1
        · rw [show (k + 1) * 3 + 2 = k * 3 + 2 + 1 + 1 + 1 by omega]; exact g2
/-- A row of groups lies at an address. -/
def Groups (w' : World) (ad : Addr) : Prop := ∃ cs, rowsOf XT cs ∧ ∀ j u, cs[j]? = some u → w'.cell? (ad.add j) = some u
def SomeGroups (w : World) (v : Value) (w' : World) : Prop := ∃ ad, v = .slice (some ad) 34 34 ∧ Groups w' ad ∧ Below w.heap.size w w'

theorem below_step {w W w' : World} (h : Below w.heap.size w W) (h2 : Below W.heap.size W w') : Below w.heap.size w w' := h.trans (h2.mono h.size)
theorem groups_new {w W : World} {cs : List Value} {n : Nat} {t : TypeId} (h : rowsOf XT cs) (hb : Below w.heap.size w W) (hn : n = W.heap.size) : SomeGroups w (.slice (some ⟨n, 0, none⟩) 34 34) (W.alloc (.cells cs.toArray t)) := by
  subst hn
  refine ⟨_, rfl, ⟨cs, h, fun j u hu => ?_⟩, below_alloc hb _⟩
  exact World.news_of_block (heap_alloc_new W _) j u (by simpa using hu)

set_option maxRecDepth 100000 in
set_option maxHeartbeats 4000000 in
theorem xfsLines_c (w : World) : Calls Tryz.prog 31 #[] w (Ret (SomeGroups w)) := by
  go_enter Tryz.func31, Tryz.ntmps31
  have hB := Below.refl w.heap.size w
  go_wp2_with (refine (btree2_c _).mono ?_; rintro e w' ⟨v, rfl, ad, rfl, hb⟩; replace hB := below_step (by (repeat (first | exact hB | apply below_alloc))) hb; clear hb)
  go_ret
  refine .mk _ rfl ?_
  refine groups_new ?_ ?_ ?_
  · (repeat (refine ⟨rfl, rfl, ?_⟩)); exact trivial
  · (repeat (first | exact hB | apply below_alloc))
  · first | rfl | simp

theorem blk_old (w : World) (o : Obj) (k : Nat) (h : k < w.heap.size) : (w.alloc o).heap[k]? = w.heap[k]? := by
  show (w.heap.push o)[k]? = _
  rw [Array.getElem?_push, if_neg (by omega)]
/-- What lineOf answers. -/
def SomeGroup (w : World) (s : ByteArray) (v : Value) (w' : World) : Prop :=
  ∃ (a N : ByteArray) (A : Option Addr) (n c : Nat) (b : Bool), v = .tuple #[.agg #[.string a, .string N, .slice A n c], .bool b] ∧ (b = true → (s, n) ∈ XT) ∧ Below w.heap.size w w'
theorem eq_of_toList {s t : ByteArray} (h : (s.toList == t.toList) = true) : s = t := by
  have h1 : s.toList = t.toList := by simpa using h
  rw [ByteArray.toList_eq, ByteArray.toList_eq] at h1
  exact ByteArray.ext (Array.toList_inj.1 h1)

set_option maxRecDepth 100000 in
set_option maxHeartbeats 4000000 in
theorem lineOf_c (s : ByteArray) (ad : Addr) (w : World) (hg : Groups w ad) :
    Calls Tryz.prog 30 #[.slice (some ad) 34 34, .string s] w (Ret (SomeGroup w s)) := by
  have HG := Lib.hid hg
  clear hg
  go_enter Tryz.func30, Tryz.ntmps30
  go_wp2
  go_loopw [10] (fun i wr => ∃ (k : Nat), k ≤ 34 ∧ i = .int .i64 k ∧ Below w.heap.size w wr ∧ wr.heap[w.heap.size]? = some (.cells #[.string ⟨#[]⟩, .string ⟨#[]⟩, .slice none 0 0] 126 (0, 0))) (fun i _ => 34 - (intOf i).toNat)
  case atStart => exact ⟨0, by omega, rfl, below_alloc (Below.refl _ _) _, heap_alloc_new w _⟩
  case round =>
    obtain ⟨k, hk, rfl, hB, hb⟩ := hrel
    have hgl := (Array.getElem?_eq_some_iff.1 hb).1
    have c0 : wr.cell? ⟨w.heap.size, 0, none⟩ = some (.string ⟨#[]⟩) := cell_of_row wr _ 0 _ _ _ hb
    have c1 : wr.cell? ⟨w.heap.size, 1, none⟩ = some (.string ⟨#[]⟩) := cell_of_row wr _ 1 _ _ _ hb
    have c2 : wr.cell? ⟨w.heap.size, 2, none⟩ = some (.slice none 0 0) := cell_of_row wr _ 2 _ _ _ hb
    have z0 := frozen_of_row wr _ 0 _ _ hb
    have z1 := frozen_of_row wr _ 1 _ _ hb
    have z2 := frozen_of_row wr _ 2 _ _ hb
    by_cases hlt : k < 34
    · obtain ⟨cs, hcs, hat⟩ := HG.out
      obtain ⟨x, hx⟩ : ∃ x, XT[k]? = some x := ⟨_, List.getElem?_eq_getElem (show k < XT.length from hlt)⟩
      obtain ⟨l, n⟩ := x
      obtain ⟨N, A, c, e0, e1, e2⟩ := rowsOf_get _ _ hcs k l n hx
      have d0 := hat _ _ e0
      have d1 := hat _ _ e1
      have d2 := hat _ _ e2
      rw [add_field _ _ 1 (by omega)] at d1
      rw [add_field _ _ 2 (by omega)] at d2
      replace d0 := (hB.cell (World.block_lt_of_cell? w _ d0)).trans d0
      replace d1 := (hB.cell (World.block_lt_of_cell? w _ d1)).trans d1
      replace d2 := (hB.cell (World.block_lt_of_cell? w _ d2)).trans d2
      have hmem : (l, n) ∈ XT := List.mem_of_getElem? hx
      clear hx e0 e1 e2 hcs hat
      cases hh : (l.toList == s.toList)
      · go_wp2
        go_roundw
        case rel => exact ⟨k + 1, by omega, by go_num, below_alloc hB _, (blk_old wr _ _ hgl).trans hb⟩
        case measure => simp [intOf]; omega
      · have he := eq_of_toList hh
        subst he
        have hb3 := blk_set (blk_set (blk_set hb 0 (.string l)) 1 (.string N)) 2 (.slice A n c)
        have hb4 := (blk_old _ (Obj.cells #[Value.string l, Value.string N, Value.slice A n c] 126) _ (blk_lt hb3)).trans hb3
        have hB4 := below_alloc (below_set (below_set (below_set hB (Nat.le_refl _) (j := 0) (v := .string l)) (Nat.le_refl _) (j := 1) (v := .string N)) (Nat.le_refl _) (j := 2) (v := .slice A n c)) (Obj.cells #[Value.string l, Value.string N, Value.slice A n c] 126)
        go_wp2
        try simp only [Exit.inBlock, Exit.then]
        refine bodyPost_ret (results_ct rfl _ _ w.heap.size 126 #[.string l, .string N, .slice A n c] (0, 0) _ rfl hb4 Tryz.underlying126 rfl (by kernel_rfl)) rfl (.mk _ rfl ⟨_, _, _, _, _, _, rfl, fun _ => hmem, hB4⟩)
    · have hb3 := blk_set (blk_set (blk_set hb 0 (.string ⟨#[]⟩)) 1 (.string ⟨#[]⟩)) 2 (.slice none 0 0)
      have hB4 := below_set (below_set (below_set hB (Nat.le_refl _) (j := 0) (v := .string ⟨#[]⟩)) (Nat.le_refl _) (j := 1) (v := .string ⟨#[]⟩)) (Nat.le_refl _) (j := 2) (v := .slice none 0 0)
      go_wp2
      try simp only [Exit.inBlock, Exit.then]
      refine bodyPost_ret (results_ct rfl _ _ w.heap.size 126 #[.string ⟨#[]⟩, .string ⟨#[]⟩, .slice none 0 0] (0, 0) _ rfl hb3 Tryz.underlying126 rfl (by kernel_rfl)) rfl (.mk _ rfl ⟨_, _, _, _, _, _, rfl, fun h => by simp at h, hB4⟩)
end Go.Proofs.YtaniejfkbapbbaaGreatDoor
namespace Go.Proofs.YtaniejfkbapbbaaGreatDoor
open Go.RowKit Go.Proofs.YtaniejfkbapbbaaGreatDoorW.PrintWords Go.Proofs.YtaniejfkbapbbaaGreatDoorW.PrintLast Go.Proofs.YtaniejfkbapbbaaGreatDoorW.PrintMore
open Go.Proofs.YtaniejfkbapbbaaGreatDoor.PFnXfsNormal (S50 k50 k50_mkM info5 info9 info31 info50 info126)

def sGc : ByteArray := ⟨#[103, 99]⟩
def sXpc : ByteArray := ⟨#[120, 112, 99]⟩
def sDefer : ByteArray := ⟨#[100, 101, 102, 101, 114, 95, 114, 101, 108, 111, 103]⟩
/-- A row that the door can read: a label of the table (not gc), so many numbers, small ones but for two labels. -/
def FineRow (r : S50) : Prop := (r.f0, r.f1.length) ∈ XT ∧ r.f0 ≠ sGc ∧ (r.f0 = sXpc ∨ r.f0 = sDefer ∨ ∀ x ∈ r.f1, x < 4294967296)
def Fine (l : List S50) : Prop := ∀ r ∈ l, FineRow r

theorem cell_old {w : World} {a : Addr} {v : Value} {o : Obj} (h : w.cell? a = some v) : (w.alloc o).cell? a = some v := (World.cell?_alloc_some w a o (by rw [h]; rfl)).trans h
theorem cell_far {w : World} {a b : Addr} {v u : Value} (h : w.cell? a = some v) (hne : a.block ≠ b.block) : (w.setCell b u).cell? a = some v :=
  (World.cell?_of_block (Below.heap_setCell w b u a.block hne)).trans h
theorem cell_old_d {w : World} {a : Addr} {v : Value} {o : Obj} (h : w.drew.cell? a = some v) : (w.alloc o).drew.cell? a = some v := cell_old (w := w.drew) h
theorem below_alloc_d {w W : World} {o : Obj} (h : Below w.heap.size w W.drew) : Below w.heap.size w (W.alloc o).drew := below_alloc (W := W.drew) h o


theorem cell_keep {X Y : World} {a : Addr} {v : Value} (h : Below X.heap.size X Y) (hc : X.cell? a = some v) : Y.cell? a = some v := (h.cell (World.block_lt_of_cell? X _ hc)).trans hc
theorem blk_keep {X Y : World} {m : Nat} {o : Obj} (h : Below X.heap.size X Y) (hc : X.heap[m]? = some o) : Y.heap[m]? = some o := (h.block m (blk_lt hc)).trans hc
theorem groups_old {w : World} {ad : Addr} {o : Obj} (h : Groups w ad) : Groups (w.alloc o) ad := by
  obtain ⟨cs, h1, h2⟩ := h
  exact ⟨cs, h1, fun j u hu => cell_old (h2 j u hu)⟩
theorem zero126 {w : World} {m : Nat} (h : w.heap[m]? = some (.cells #[.string ⟨#[]⟩, .string ⟨#[]⟩, .slice none 0 0] 126 (0, 0))) :
    w.cell? ⟨m, 0, none⟩ = some (.string ⟨#[]⟩) ∧ w.cell? ⟨m, 1, none⟩ = some (.string ⟨#[]⟩) ∧ w.cell? ⟨m, 2, none⟩ = some (.slice none 0 0) ∧ w.frozen? ⟨m, 0, none⟩ = false ∧ w.frozen? ⟨m, 1, none⟩ = false ∧ w.frozen? ⟨m, 2, none⟩ = false ∧ m < w.heap.size :=
  ⟨blk_cell h 0, blk_cell h 1, blk_cell h 2, frozen_of_row w m 0 _ _ h, frozen_of_row w m 1 _ _ h, frozen_of_row w m 2 _ _ h, blk_lt h⟩

theorem eq_of_list {s : ByteArray} {l : List UInt8} (h : (s.toList == l) = true) : s = ⟨l.toArray⟩ := by
  have h1 : s.toList = l := by simpa using h
  subst h1
  rw [ByteArray.toList_eq]
theorem set126 {w X : World} {m g : Nat} {a b : Value} {A1 A2 : Value} {s : Value} {e : Value} (hB : Below w.heap.size w X) (hm : w.heap.size ≤ m) (hne : g ≠ m)
    (k : X.heap[m]? = some (.cells #[.string ⟨#[]⟩, .string ⟨#[]⟩, .slice none 0 0] 126 (0, 0))) (h0 : X.cell? ⟨g, 0, none⟩ = some s) (h1 : X.cell? ⟨g, 1, none⟩ = some A1) (h2 : X.cell? ⟨g, 2, none⟩ = some A2) :
    ∃ V, V = ((X.setCell ⟨m, 0, none⟩ a).setCell ⟨m, 1, none⟩ b).setCell ⟨m, 2, none⟩ e ∧ Below w.heap.size w V ∧ V.cell? ⟨g, 0, none⟩ = some s ∧ V.cell? ⟨g, 1, none⟩ = some A1 ∧ V.cell? ⟨g, 2, none⟩ = some A2 ∧ V.cell? ⟨m, 2, none⟩ = some e := by
  refine ⟨_, rfl, below_set (below_set (below_set hB hm) hm) hm, cell_far (cell_far (cell_far h0 hne) hne) hne, cell_far (cell_far (cell_far h1 hne) hne) hne, cell_far (cell_far (cell_far h2 hne) hne) hne, ?_⟩
  exact blk_cell (blk_set (blk_set (blk_set k 0 a) 1 b) 2 e) 2

set_option maxRecDepth 100000 in
set_option maxHeartbeats 4000000 in
theorem xfsFine_c (A : Option Addr) (c : Nat) (l : List S50) (w : World) (hr : Kd.C k50 w A l.length l) (hl : l.length ≤ 40001) (hn : ∀ r ∈ l, r.f1.length ≤ 40000) :
    Calls Tryz.prog 14 #[.slice A l.length c] w (Ret (GrowsBool (Fine l) w)) := by
  have HR := Lib.hid hr
  have HN := Lib.hid hn
  clear hr hn
  go_enter Tryz.func14, Tryz.ntmps14
  go_wp2
  go_loopw [9] (fun i wr => ∃ (k : Nat), k ≤ l.length ∧ i = .int .i64 k ∧ Hid (Fine (l.take k)) ∧ Below w.heap.size w wr) (fun i _ => l.length - (intOf i).toNat)
  case atStart => exact ⟨0, by omega, rfl, Lib.hid (fun r hr => by simp at hr), Below.refl _ _⟩
  case round =>
    obtain ⟨k, hk, rfl, HF, hB⟩ := hrel
    by_cases hlt : k < l.length
    · obtain ⟨ad, x, A1, c1, A2, c2, rfl, hx, h0, h1, h2, hc1, hC1⟩ := row_at HR.out hlt
      have hxm : x ∈ l := List.mem_of_getElem? hx
      have hxn := HN.out x hxm
      have g0 := (hB.cell (World.block_lt_of_cell? w _ h0)).trans h0
      have g1 := (hB.cell (World.block_lt_of_cell? w _ h1)).trans h1
      have g2 := (hB.cell (World.block_lt_of_cell? w _ h2)).trans h2
      have HC1 := Lib.hid hC1
      clear h0 h1 h2 hC1
      obtain ⟨s, hs⟩ : ∃ s, x.f0 = s := ⟨_, rfl⟩
      rw [hs] at g0
      go_wp2_with fail
      clear g0 g1 g2
      obtain ⟨W, hW⟩ : ∃ W, W = wr.alloc (Obj.cells #[Value.string s, Value.slice A1 x.f1.length c1, Value.slice A2 x.f2.length c2] 50) := ⟨_, rfl⟩
      have hBW : Below w.heap.size w W := hW ▸ below_alloc hB _
      have p0 : W.cell? ⟨wr.heap.size, 0, none⟩ = some (.string s) := by subst hW; exact cell_of_row _ _ 0 _ _ _ (heap_alloc_new wr _)
      have p1 : W.cell? ⟨wr.heap.size, 1, none⟩ = some (.slice A1 x.f1.length c1) := by subst hW; exact cell_of_row _ _ 1 _ _ _ (heap_alloc_new wr _)
      have p2 : W.cell? ⟨wr.heap.size, 2, none⟩ = some (.slice A2 x.f2.length c2) := by subst hW; exact cell_of_row _ _ 2 _ _ _ (heap_alloc_new wr _)
      rw [← hW]
      clear hW
      generalize wr.heap.size = g at p0 p1 p2 ⊢
      have hg := World.block_lt_of_cell? W _ p0
      have hwW := hBW.size
      have p0' : W.drew.cell? ⟨g, 0, none⟩ = some (.string s) := p0
      have hBWd : Below w.heap.size w W.drew := below_drew hBW
      go_region_held3 (fun w' => Below w.heap.size w w' ∧ w'.cell? ⟨g, 0, none⟩ = some (.string s))
        ((go_split_ands; refine ⟨?_, ?_⟩ <;> with_reducible first | assumption | exact below_alloc (by assumption) _ | exact below_alloc_d (by assumption) | exact cell_old (by assumption) | exact cell_old_d (by assumption) | (repeat (first | assumption | apply below_alloc | (refine below_set ?_ (by omega)) | apply cell_old | (refine cell_far ?_ (by show _ ≠ _; simp; omega))))))
        (first
          | (go_split_ands; go_at_call 31; refine (xfsLines_c _).mono ?_; rintro e w1 ⟨v, rfl, ad1, rfl, hG, hb1⟩
             have q0 : w1.cell? ⟨g, 0, none⟩ = some (.string s) := cell_keep hb1 (by assumption)
             have hg1 := World.block_lt_of_cell? _ _ q0
             have hB1 : Below w.heap.size w w1 := below_step (by assumption) hb1
             have hs1 := hB1.size)
          | (go_split_ands; go_at_call 30; refine (lineOf_c s _ _ (by first | assumption | exact groups_old hG)).mono ?_; rintro e w2 ⟨v, rfl, la, lN, lA, ln, lc, lb, rfl, hL, hb2⟩
             have r0 : w2.cell? ⟨g, 0, none⟩ = some (.string s) := cell_keep hb2 (by assumption)
             have hg2 := World.block_lt_of_cell? _ _ r0
             have hB2 : Below w.heap.size w w2 := below_step (by assumption) hb2
             have hs2 := hB2.size
             first
               | (have k2 := blk_keep hb2 (blk_keep hb1 (heap_alloc_new W _)); obtain ⟨l0, l1, l2, z0, z1, z2, lm⟩ := zero126 k2)
               | (have k2 := blk_keep hb2 (heap_alloc_new w1 _); obtain ⟨l0, l1, l2, z0, z1, z2, lm⟩ := zero126 k2)
               | skip))
      have v1 : w2.cell? ⟨g, 1, none⟩ = _ := cell_keep hb2 (cell_keep hb1 p1)
      have v2 : w2.cell? ⟨g, 2, none⟩ = _ := cell_keep hb2 (cell_keep hb1 p2)
      have e0 := cell_old (o := Obj.cells #[Value.string la, Value.string lN, Value.slice lA ln lc] 126) r0
      have e1 := cell_old (o := Obj.cells #[Value.string la, Value.string lN, Value.slice lA ln lc] 126) v1
      have e2 := cell_old (o := Obj.cells #[Value.string la, Value.string lN, Value.slice lA ln lc] 126) v2
      have f2 : (w2.alloc (Obj.cells #[Value.string la, Value.string lN, Value.slice lA ln lc] 126)).cell? ⟨w2.heap.size, 2, none⟩ = some (.slice lA ln lc) := cell_of_row _ _ 2 _ _ _ (heap_alloc_new w2 _)
      have hV := below_alloc hB2 (Obj.cells #[Value.string la, Value.string lN, Value.slice lA ln lc] 126)
      generalize w2.alloc (Obj.cells #[Value.string la, Value.string lN, Value.slice lA ln lc] 126) = V at e0 e1 e2 f2 hV ⊢
      generalize w2.heap.size = m at f2 ⊢
      rotate_left
      have v1 : w2.cell? ⟨g, 1, none⟩ = _ := cell_keep hb2 (cell_old (cell_keep hb1 p1))
      have v2 : w2.cell? ⟨g, 2, none⟩ = _ := cell_keep hb2 (cell_old (cell_keep hb1 p2))
      obtain ⟨V, hVe, hV, e0, e1, e2, f2⟩ := set126 (a := .string la) (b := .string lN) (e := .slice lA ln lc) hB2 (m := w1.heap.size) hs1 (by omega) k2 r0 v1 v2
      rw [← hVe]
      generalize w1.heap.size = m at f2 ⊢
      clear hVe k2
      rotate_left
      have v1 : w2.cell? ⟨g, 1, none⟩ = _ := cell_keep hb2 (cell_keep hb1 (cell_old_d (w := W) p1))
      have v2 : w2.cell? ⟨g, 2, none⟩ = _ := cell_keep hb2 (cell_keep hb1 (cell_old_d (w := W) p2))
      obtain ⟨V, hVe, hV, e0, e1, e2, f2⟩ := set126 (a := .string la) (b := .string lN) (e := .slice lA ln lc) hB2 (m := W.heap.size) hwW (by omega) k2 r0 v1 v2
      rw [← hVe]
      generalize W.heap.size = m at f2 ⊢
      clear hVe k2
      rotate_left
      all_goals
        clear hb1 hb2 v1 v2 q0 r0 hB1 hB2 p0 p1 p2 p0' hBWd
        cases lb with
        | false =>
          go_wp2
          go_ret
          exact .mk _ rfl ⟨false, rfl, by simp, hV⟩
        | true =>
          have hin := hL rfl
          cases hgc : (s.toList == [103, 99]) with
          | true =>
            go_wp2
            go_ret
            exact .mk _ rfl ⟨false, rfl, by simp, hV⟩
          | false =>
            cases hsd : decide (x.f1.length = ln ∧ x.f2.length = 0) with
            | false =>
              go_wp2_with (go_at_call 32; refine (sized_c _ _ _ _ _ _ _ _ _).mono ?_; rintro e w3 ⟨v, rfl, hv, hb3⟩; rw [hsd] at hv; subst hv)
              go_ret
              exact .mk _ rfl ⟨false, rfl, by simp, below_step hV hb3⟩
            | true =>
              have HSZ := Lib.hid (of_decide_eq_true hsd)
              have HSD := Lib.hid hsd
              clear hsd
              have hfr : x.f0 ≠ sGc := by
                rw [hs]
                rintro rfl
                rw [ByteArray.toList_eq] at hgc
                exact absurd hgc (by decide)
              have hfine : (x.f0 = sXpc ∨ x.f0 = sDefer ∨ ∀ y ∈ x.f1, y < 4294967296) → Hid (Fine (l.take (k + 1))) := fun h => Lib.hid (fun r hr => by
                rw [List.take_succ_eq_append_getElem hlt] at hr
                rcases List.mem_append.1 hr with hr | hr
                · exact HF.out r hr
                · rw [List.mem_singleton.1 hr]
                  rw [List.getElem?_eq_getElem hlt] at hx
                  have hx' := Option.some.inj hx
                  rw [hx']
                  refine ⟨?_, hfr, h⟩
                  rw [hs, HSZ.out.1]
                  exact hin)
              cases hxp : (s.toList == [120, 112, 99]) with
              | true =>
                have hxp' : (s.toList != [120, 112, 99]) = false := by rw [bne, hxp]; rfl
                have HF1 := hfine (.inl (by rw [hs]; exact eq_of_list hxp))
                go_wp2_with (go_at_call 32; refine (sized_c _ _ _ _ _ _ _ _ _).mono ?_; rintro e w3 ⟨v, rfl, hv, hb3⟩; rw [HSD.out] at hv; subst hv; have d0 := cell_keep hb3 e0; have d1 := cell_keep hb3 e1)
                go_roundw
                case rel => exact ⟨k + 1, by omega, by go_num, HF1, below_step hV hb3⟩
                case measure => simp [intOf]; omega
              | false =>
                have hxp' : (s.toList != [120, 112, 99]) = true := by rw [bne, hxp]; rfl
                cases hdf : (s.toList == [100, 101, 102, 101, 114, 95, 114, 101, 108, 111, 103]) with
                | true =>
                  have hdf' : (s.toList != [100, 101, 102, 101, 114, 95, 114, 101, 108, 111, 103]) = false := by rw [bne, hdf]; rfl
                  have HF1 := hfine (.inr (.inl (by rw [hs]; exact eq_of_list hdf)))
                  go_wp2_with (go_at_call 32; refine (sized_c _ _ _ _ _ _ _ _ _).mono ?_; rintro e w3 ⟨v, rfl, hv, hb3⟩; rw [HSD.out] at hv; subst hv; have d0 := cell_keep hb3 e0; have d1 := cell_keep hb3 e1)
                  go_roundw
                  case rel => exact ⟨k + 1, by omega, by go_num, HF1, below_step hV hb3⟩
                  case measure => simp [intOf]; omega
                | false =>
                  have hdf' : (s.toList != [100, 101, 102, 101, 114, 95, 114, 101, 108, 111, 103]) = true := by rw [bne, hdf]; rfl
                  go_wp2_with (first
                    | (go_at_call 32; refine (sized_c _ _ _ _ _ _ _ _ _).mono ?_; rintro e w3 ⟨v, rfl, hv, hb3⟩; rw [HSD.out] at hv; subst hv; have d0 := cell_keep hb3 e0; have d1 := cell_keep hb3 e1)
                    | (go_at_call 33; refine (small_c _ _ _ _ (Kd.C_below HC1.out (below_step hV hb3)) (by omega)).mono ?_; rintro e w4 ⟨v, rfl, b, rfl, hsm, rfl⟩; cases b))
                  · go_ret
                    exact .mk _ rfl ⟨false, rfl, by simp, below_step hV hb3⟩
                  · have HF1 := hfine (.inr (.inr (hsm (by trivial))))
                    go_roundw
                    case rel => exact ⟨k + 1, by omega, by go_num, HF1, below_step hV hb3⟩
                    case measure => simp [intOf]; omega
    · go_wp2_with fail
      refine (distinct_c _ _ _ _ (Kd.C_below HR.out hB) hl).mono ?_
      rintro e w' ⟨v, rfl, b, rfl, -, hb⟩
      go_wp2
      go_ret
      exact .mk _ rfl ⟨b, rfl, fun _ => by have := HF.out; rw [List.take_of_length_le (by omega)] at this; exact this, below_step hB hb⟩
end Go.Proofs.YtaniejfkbapbbaaGreatDoor
namespace Go.Proofs.YtaniejfkbapbbaaGreatDoor
open Go.RowKit Go.Proofs.YtaniejfkbapbbaaGreatDoorW.PrintWords Go.Proofs.YtaniejfkbapbbaaGreatDoorW.PrintLast Go.Proofs.YtaniejfkbapbbaaGreatDoorW.PrintMore
open Go.Proofs.YtaniejfkbapbbaaGreatDoor.PFnXfsNormal (S50 k50 k50_mkM info5 info9 info31 info50 info126)

/-- The line of a row, and the text of rows. -/
def lineX (r : S50) : ByteArray := r.f0 ++ ⟨#[32]⟩ ++ B (joinSp (txts r.f1)) ++ ⟨#[10]⟩
def printX (l : List S50) : ByteArray := l.foldl (fun a r => a ++ lineX r) ⟨#[]⟩
theorem printX_snoc (l : List S50) (r : S50) : printX (l ++ [r]) = printX l ++ lineX r := by simp [printX]
def PrintPost (l : List S50) (w : World) (v : Value) (w' : World) : Prop :=
  ∃ (b : Bool), (b = true → Fine l) ∧ v = .tuple #[.string (if b = true then printX l else ⟨#[]⟩), .int .i64 (if b = true then 1 else 2)] ∧ Below w.heap.size w w'

theorem joinSp_len : ∀ (l : List (List UInt8)), (∀ x ∈ l, x.length ≤ 20) → (joinSp l).length ≤ 21 * l.length
  | [], _ => by simp [joinSp]
  | [x], h => by have := h x (by simp); simp [joinSp]; omega
  | x :: y :: r, h => by
    have h1 := h x (by simp)
    have h2 := joinSp_len (y :: r) (fun z hz => h z (by simp [hz]))
    simp only [joinSp, List.length_append, List.length_cons] at h2 ⊢
    omega
theorem nums_size {l : List Int} (h : Nums l) : (B (joinSp (txts l))).size ≤ 21 * l.length := by
  rw [B_size]
  have := joinSp_len (txts l) (fun x hx => by
    obtain ⟨n, hn, rfl⟩ := List.mem_map.1 hx
    have := h n hn
    exact digs_len 19 _ (by have := this.2; omega))
  simpa [txts] using this
theorem lineX_size {r : S50} (h : Nums r.f1 ∧ r.f1.length ≤ 40000 ∧ r.f0.size ≤ 40000) : (lineX r).size ≤ 900000 := by
  have h1 := nums_size h.1
  have h2 := h.2.1
  have h3 := h.2.2
  unfold lineX
  simp only [ByteArray.size_append]
  show r.f0.size + 1 + _ + 1 ≤ _
  omega
theorem printX_size : ∀ (l : List S50), RowsOk l → (printX l).size ≤ 900000 * l.length := by
  have key : ∀ (l : List S50) (a : ByteArray), RowsOk l → (l.foldl (fun a r => a ++ lineX r) a).size ≤ a.size + 900000 * l.length := by
    intro l
    induction l with
    | nil => intro a _; simp
    | cons r l ih =>
      intro a h
      have h1 := ih (a ++ lineX r) (fun x hx => h x (by simp [hx]))
      have h2 := lineX_size (h r (by simp))
      rw [ByteArray.size_append] at h1
      simp only [List.foldl_cons, List.length_cons]
      omega
  intro l h
  have := key l ⟨#[]⟩ h
  have h0 : (⟨#[]⟩ : ByteArray).size = 0 := rfl
  rw [h0] at this
  unfold printX
  omega

set_option maxRecDepth 100000 in
set_option maxHeartbeats 4000000 in
theorem XfsPrint_c (A : Option Addr) (c : Nat) (l : List S50) (w : World) (hr : Kd.C k50 w A l.length l) (hl : l.length ≤ 40001) (hn : RowsOk l) :
    Calls Tryz.prog 6 #[.slice A l.length c] w (Ret (PrintPost l w)) := by
  have HR := Lib.hid hr
  have HN := Lib.hid hn
  have hn' : ∀ r ∈ l, r.f1.length ≤ 40000 := fun r h => (hn r h).2.1
  go_enter Tryz.func6, Tryz.ntmps6
  go_wp2_with fail
  refine (xfsFine_c _ _ _ _ hr hl hn').mono ?_
  rintro e w0 ⟨v, rfl, b, rfl, hf, hb0⟩
  clear hr hn hn'
  cases b with
  | false =>
    go_wp2
    go_ret2
    exact .mk _ rfl ⟨false, by simp, rfl, hb0⟩
  | true =>
    have HF := Lib.hid (hf rfl)
    clear hf
    go_wp2
    go_loopw [4, 12] (fun t i wr => ∃ (k : Nat), k ≤ l.length ∧ i = .int .i64 k ∧ t = .string (printX (l.take k)) ∧ Below w.heap.size w wr) (fun _ i _ => l.length - (intOf i).toNat)
    case atStart => exact ⟨0, by omega, rfl, rfl, hb0⟩
    case round =>
      obtain ⟨k, hk, rfl, rfl, hB⟩ := hrel
      by_cases hlt : k < l.length
      · obtain ⟨ad, x, A1, c1, A2, c2, rfl, hx, h0, h1, h2, hc1, hC1⟩ := row_at HR.out hlt
        have hxm : x ∈ l := List.mem_of_getElem? hx
        have hxn := HN.out x hxm
        have g0 := (hB.cell (World.block_lt_of_cell? w _ h0)).trans h0
        have g1 := (hB.cell (World.block_lt_of_cell? w _ h1)).trans h1
        have g2 := (hB.cell (World.block_lt_of_cell? w _ h2)).trans h2
        have HC1 := Lib.hid (Kd.C_below hC1 hB)
        have HX := Lib.hid hxn
        clear h0 h1 h2 hC1 hxn
        have hp : printX (l.take (k + 1)) = printX (l.take k) ++ (x.f0 ++ ⟨#[32]⟩ ++ B (joinSp (txts x.f1)) ++ ⟨#[10]⟩) := by
          rw [List.take_succ_eq_append_getElem hlt, printX_snoc]
          rw [List.getElem?_eq_getElem hlt] at hx
          rw [Option.some.inj hx]
          rfl
        have HP := Lib.hid hp
        clear hp
        have hts := printX_size (l.take k) (fun r hr => HN.out r (List.mem_of_mem_take hr))
        have hns := nums_size HX.out.1
        have hln := HX.out.2.1
        have hss := HX.out.2.2
        have htk : (l.take k).length ≤ 40001 := by rw [List.length_take]; omega
        have HM : Hid ((printX (l.take k)).size ≤ 40000000000 ∧ (B (joinSp (txts x.f1))).size ≤ 1000000 ∧ x.f0.size ≤ 40000) := Lib.hid ⟨by omega, by omega, hss⟩
        clear hts hns hln hss htk
        obtain ⟨s, hs⟩ : ∃ s, x.f0 = s := ⟨_, rfl⟩
        obtain ⟨t, ht⟩ : ∃ t, printX (l.take k) = t := ⟨_, rfl⟩
        rw [hs] at g0 HP HM
        rw [ht] at HP HM ⊢
        obtain ⟨N, hN⟩ : ∃ N, B (joinSp (txts x.f1)) = N := ⟨_, rfl⟩
        rw [hN] at HP HM
        have m1 : ¬ 9223372036854775807 < s.size + 1 := by have := HM.out; omega
        have m2 : ¬ 9223372036854775807 < s.size + 1 + N.size := by have := HM.out; omega
        have m3 : ¬ 9223372036854775807 < s.size + 1 + N.size + 1 := by have := HM.out; omega
        have m4 : ¬ 9223372036854775807 < t.size + (s.size + 1 + N.size + 1) := by have := HM.out; omega
        go_wp2_with fail
        clear g0 g1 g2
        obtain ⟨W, hW⟩ : ∃ W, W = wr.alloc (Obj.cells #[Value.string s, Value.slice A1 x.f1.length c1, Value.slice A2 x.f2.length c2] 50) := ⟨_, rfl⟩
        have hBW : Below w.heap.size w W := hW ▸ below_alloc hB _
        have hC3 := Kd.C_below HC1.out (hW ▸ below_alloc (Below.refl _ _) _ : Below wr.heap.size wr W)
        have p0 : W.cell? ⟨wr.heap.size, 0, none⟩ = some (.string s) := by subst hW; exact cell_of_row _ _ 0 _ _ _ (heap_alloc_new wr _)
        have p1 : W.cell? ⟨wr.heap.size, 1, none⟩ = some (.slice A1 x.f1.length c1) := by subst hW; exact cell_of_row _ _ 1 _ _ _ (heap_alloc_new wr _)
        rw [← hW]
        clear hW
        generalize wr.heap.size = g at p0 p1 ⊢
        have p0' : W.drew.cell? ⟨g, 0, none⟩ = some (.string s) := p0
        have p1' : W.drew.cell? ⟨g, 1, none⟩ = some (.slice A1 x.f1.length c1) := p1
        go_region_held3 (fun w' => w'.cell? ⟨g, 0, none⟩ = some (.string s) ∧ w'.cell? ⟨g, 1, none⟩ = some (.slice A1 x.f1.length c1)) (with_reducible (go_split_ands; refine ⟨?_, ?_⟩ <;> assumption))
          ((go_at_call 15; refine (numbers_c _ _ _ _ (Kd.C_below hC3 (below_drew (Below.refl _ _))) hc1 HX.out.2.1 HX.out.1).mono ?_; rintro e w1 ⟨rfl, hb1⟩; rw [hN]; have q0 := cell_keep hb1 p0'; have q1 := cell_keep hb1 p1'))
        all_goals
          have HB1 : Below w.heap.size w w1 := below_step (below_drew hBW) hb1
          clear hb1
          rw [← HP.out]
          go_wp2
          go_roundw
          case rel => exact ⟨k + 1, by omega, by go_num, rfl, HB1⟩
          case measure => simp [intOf]; omega
      · have HT : Hid (l.take k = l) := Lib.hid (List.take_of_length_le (by omega))
        go_wp2
        go_ret2
        exact .mk _ rfl ⟨true, fun _ => HF.out, by rw [HT.out]; rfl, hB⟩

end Go.Proofs.YtaniejfkbapbbaaGreatDoor
namespace Go.Proofs.YtaniejfkbapbbaaGreatDoor
open Go.RowKit Go.Proofs.YtaniejfkbapbbaaGreatDoorW.PrintWords Go.Proofs.YtaniejfkbapbbaaGreatDoorW.PrintLast Go.Proofs.YtaniejfkbapbbaaGreatDoorW.PrintMore
open Go.Proofs.YtaniejfkbapbbaaGreatDoor.PFnXfsNormal (S50 k50 k50_mkM info5 info9 info31 info50 info126)

/-- What was read: rows whose text is the text; or nothing is told. -/
def ReadPost (s : ByteArray) (w : World) (v : Value) (w' : World) : Prop :=
  ∃ (u : Value) (l : List S50) (b : Bool) (t : Int), v = .tuple #[u, .bool b, .int .i64 t] ∧ Kd.R k50 50 w' w.heap.size (fun _ => True) u l ∧ l.length ≤ 40001 ∧ RowsOk l ∧ (t = 1 → b = true → Fine l ∧ printX l = s) ∧ Below w.heap.size w w'

set_option maxRecDepth 100000 in
set_option maxHeartbeats 4000000 in
theorem meant_c (s : ByteArray) (u : Value) (l : List S50) (ok : Bool) (w0 w : World) (hr : Kd.R k50 50 w w0.heap.size (fun _ => True) u l) (hB : Below w0.heap.size w0 w) (hl : l.length ≤ 40001) (hn : RowsOk l) (hs : s.size ≤ 40000) :
    Calls Tryz.prog 13 #[.string s, u, .bool ok, .func (.func 6) #[] #[], .bool false] w (Ret (ReadPost s w0)) := by
  obtain ⟨A, c, rfl, hc, hC⟩ := Kd.R_reads hr
  have HR := Lib.hid hr
  have HN := Lib.hid hn
  have HC := Lib.hid hC
  clear hr hn hC
  go_enter Tryz.func13, Tryz.ntmps13
  cases ok with
  | false =>
    go_wp2
    go_ret3
    exact .mk _ rfl ⟨_, _, _, _, rfl, Kd.R_nil _ _ _ _ _, by simp, (fun x hx => by cases hx), by simp, hB⟩
  | true =>
    go_wp2_with (go_at_call 27; refine (plain_c _ _ hs).mono ?_; rintro e w1 ⟨v, rfl, b, rfl, rfl⟩; cases b)
    · go_ret3
      exact .mk _ rfl ⟨_, _, _, _, rfl, Kd.R_nil _ _ _ _ _, by simp, (fun x hx => by cases hx), by simp, hB⟩
    · refine (XfsPrint_c _ _ l _ HC.out hl HN.out).mono ?_
      rintro e w2 ⟨v, rfl, b, hf, rfl, hb2⟩
      have hB2 : Below w0.heap.size w0 w2 := hB.trans (hb2.mono hB.size)
      have HF := Lib.hid hf
      have HR2 := Lib.hid (Kd.R_below HR.out hb2)
      clear hf
      cases b with
      | false =>
        go_wp2
        go_ret3
        exact .mk _ rfl ⟨_, _, _, _, rfl, Kd.R_nil _ _ _ _ _, by simp, (fun x hx => by cases hx), by simp, hB2⟩
      | true =>
        obtain ⟨p, hp⟩ : ∃ p, printX l = p := ⟨_, rfl⟩
        rw [if_pos rfl, if_pos rfl, hp]
        cases hh : (p.toList == s.toList) with
        | false =>
          have hh' : (p.toList != s.toList) = true := by rw [bne, hh]; rfl
          go_wp2
          go_ret3
          exact .mk _ rfl ⟨_, _, _, _, rfl, Kd.R_nil _ _ _ _ _, by simp, (fun x hx => by cases hx), by simp, hB2⟩
        | true =>
          have hh' : (p.toList != s.toList) = false := by rw [bne, hh]; rfl
          have he := Lib.hid (hp.trans (eq_of_toList hh))
          go_wp2
          go_ret3
          exact .mk _ rfl ⟨_, _, _, _, rfl, HR2.out, hl, HN.out, fun _ _ => ⟨HF.out (by trivial), he.out⟩, hB2⟩

set_option maxRecDepth 100000 in
set_option maxHeartbeats 4000000 in
theorem XfsRead_c (s : ByteArray) (w : World) (hs : s.size ≤ 40000) :
    Calls Tryz.prog 5 #[.string s] w (Ret (ReadPost s w)) := by
  go_enter Tryz.func5, Tryz.ntmps5
  go_wp2_with fail
  refine (lines_c _ _ hs).mono ?_
  rintro e w1 ⟨v1, rfl, f, hf, hfl, hfx, hb1⟩
  obtain ⟨A1, c1, rfl, hc1, hf1⟩ := Kd.R_reads hf
  have HF1 := Lib.hid hf1
  have HFX := Lib.hid hfx
  clear hf hf1 hfx
  go_wp2_with fail
  refine (table_c _ _ f _ HF1.out hfl HFX.out).mono ?_
  rintro e w2 ⟨v, rfl, u, l, b, rfl, hR, hl, hn, hb2⟩
  clear HF1 HFX
  have hB2 : Below w.heap.size w w2 := below_step hb1 hb2
  have HN := Lib.hid hn
  clear hn
  go_wp2_with fail
  refine (meant_c s u l b w w2 (Kd.R_lower hR hb1.size) hB2 hl HN.out hs).mono ?_
  rintro e w3 ⟨v, rfl, u3, l3, b3, t3, rfl, hR3, hl3, hn3, ht3, hb3⟩
  have HT := Lib.hid ht3
  have HN3 := Lib.hid hn3
  clear hn3 ht3 hR
  go_wp2
  go_ret3
  exact .mk _ rfl ⟨_, _, _, _, rfl, hR3, hl3, HN3.out, HT.out, hb3⟩
end Go.Proofs.YtaniejfkbapbbaaGreatDoor
