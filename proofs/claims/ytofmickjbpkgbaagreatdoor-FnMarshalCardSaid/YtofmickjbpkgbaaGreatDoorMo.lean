import Derived.Test.YtofmickjbpkgbaaGreatDoorMn
import Derived.Deep.DeepCutAuto
set_option maxRecDepth 100000
namespace Go.Proofs.YtofmickjbpkgbaaGreatDoor
section
open Go.RowKit

/-- A Decimal block with a nil coefficient. -/
abbrev DN (w : World) (b f : Nat) (neg : Bool) (ex : Int) : Prop := w.heap[b]? = some (.cells #[.int .i8 f, .bool neg, .int .i32 ex, .bool false, .slice none 0 0, .bool false] 69 (0, 0))

theorem prefix_head (c : UInt8) (l : List UInt8) (h : ∀ d ∈ l.head?, d ≠ c) : Lib.hasPrefix l [c] = false := by
  cases l with
  | nil => rfl
  | cons d l =>
    have := h d (by simp)
    simp only [Lib.hasPrefix, List.isPrefixOf, Bool.and_eq_false_imp]
    intro h2
    exact absurd (by simpa using h2 : c = d).symm this

/-- The bytes of the sign. -/
theorem sgn_prefix (neg : Bool) (l : List UInt8) (h : ∀ c ∈ l.head?, c ≠ 45) : Lib.hasPrefix (sgnL neg ++ l) [45] = neg := by
  cases neg
  · exact prefix_head 45 l h
  · simp [sgnL, Lib.hasPrefix]

/-- What a text without its sign must be. -/
structure Bare (l : List UInt8) : Prop where
  len : l.length ≤ 406
  ascii : ∀ b ∈ l, b.toNat < 128
  m : ∀ c ∈ l.head?, c ≠ 45
  p : ∀ c ∈ l.head?, c ≠ 43
  ml : ∀ c ∈ (Lib.toLowerA l).head?, c ≠ 45
  pl : ∀ c ∈ (Lib.toLowerA l).head?, c ≠ 43

theorem bytes_ne (l m : List UInt8) (h : l.head? ≠ m.head?) : (l == m) = false := by
  rw [beq_eq_false_iff_ne]
  rintro rfl
  exact h rfl

theorem hasPrefix_ne (l : List UInt8) (c : UInt8) (m : List UInt8) (h : l.head? ≠ some c) : Lib.hasPrefix l (c :: m) = false := by
  cases l with
  | nil => rfl
  | cons d l =>
    simp only [Lib.hasPrefix, List.isPrefixOf, Bool.and_eq_false_imp]
    intro h2
    have : c = d := by simpa using h2
    exact absurd (by simp [this]) h

theorem shape_head {s : Shape} {V : Nat} {e : Int} (h : ShapeOK s V e) (E : UInt8) : ∃ c, (s.list E).head? = some c ∧ 48 ≤ c.toNat ∧ c.toNat ≤ 57 := by
  unfold Shape.list
  cases hi : s.ip with
  | nil => exact absurd hi h.ne
  | cons c r =>
    refine ⟨c, by simp, h.ip c (by rw [hi]; simp)⟩

theorem head_ne {o : Option UInt8} {c d : UInt8} (h : o = some c) (h1 : 48 ≤ c.toNat ∧ c.toNat ≤ 57) (hd : d.toNat < 48 ∨ 57 < d.toNat) : o ≠ some d := by
  rw [h]
  intro h2
  have : c = d := by simpa using h2
  subst this
  omega

theorem tail_at (P r : List UInt8) (c : UInt8) : (ByteArray.mk (P ++ c :: r).toArray).extract (P.length + 1) (P.length + (r.length + 1)) = ⟨r.toArray⟩ := by
  rw [extract_list, show P ++ c :: r = (P ++ [c]) ++ r by simp, show P.length + 1 = (P ++ [c]).length by simp, List.drop_left, List.take_of_length_le (by simp; omega)]
theorem head_at (P q : List UInt8) : (ByteArray.mk (P ++ q).toArray).extract 0 P.length = ⟨P.toArray⟩ := by
  rw [extract_list, List.drop_zero, Nat.sub_zero, List.take_left]

theorem Tryz.info2 : (Tryz.prog.info? 2).map (fun i => (i.zero, i.size, i.bytes)) = some (some (.int .i64 0), 1, 8) := by kernel_rfl

/-- The exponents that have been gathered. -/
structure EXS (B : Nat) (w : World) (v : Value) (n : Nat) (x : Nat → Int) : Prop where
  is : ∃ g c, v = .slice (some ⟨g, 0, none⟩) n c ∧ B ≤ g ∧ n ≤ c ∧ c ≤ 9223372036854775807 ∧ Row w g 2 c (fun j => .int .i64 (x j)) n
  le : ∀ j, j < n → -400 ≤ x j ∧ x j ≤ 400

theorem EXS.sv {B : Nat} {w : World} {v : Value} {n : Nat} {x : Nat → Int} (h : EXS B w v n x) : SV (· = 2) B w v n (fun j => .int .i64 (x j)) := by
  obtain ⟨g, c, h1, h2, h3, h4, h5⟩ := h.is
  exact .inr ⟨g, c, 2, h1, h2, h3, h4, rfl, h5⟩
theorem EXS.keep {B : Nat} {w w' : World} {v : Value} {n : Nat} {x : Nat → Int} (h : EXS B w v n x) (k : Kept [] w w') : EXS B w' v n x := by
  obtain ⟨g, c, h1, h2, h3, h4, h5⟩ := h.is
  exact ⟨⟨g, c, h1, h2, h3, h4, h5.kept k (by simp)⟩, h.le⟩
theorem EXS.own {B : Nat} {w : World} {v : Value} {n : Nat} {x : Nat → Int} (h : EXS B w v n x) : ∀ k ∈ v.ownBlock.toList, B ≤ k := by
  obtain ⟨g, c, rfl, h2, h3, h4, h5⟩ := h.is
  intro k hk
  simp [Value.ownBlock] at hk
  omega
/-- One more exponent. -/
def snocI (n : Nat) (x : Nat → Int) (a : Int) : Nat → Int := fun j => if j < n then x j else a
theorem EXS.snoc {B : Nat} {w w' : World} {v v' : Value} {n : Nat} {x : Nat → Int} {a : Int} (h : EXS B w v n x) (h' : SV (· = 2) B w' v' (n + 1) (appF n (fun j => .int .i64 (x j)) (fun _ => .int .i64 a))) (ha : -400 ≤ a ∧ a ≤ 400) : EXS B w' v' (n + 1) (snocI n x a) := by
  refine ⟨?_, fun j hj => ?_⟩
  · rcases h' with ⟨_, h2⟩ | ⟨g, c, t, h1, h2, h3, h4, h5, h6⟩
    · omega
    · subst h5
      refine ⟨g, c, h1, h2, h3, h4, h6.congr (Nat.le_refl _) fun j hj => ?_⟩
      unfold appF snocI
      split <;> rfl
  · unfold snocI
    split
    · exact h.le j (by omega)
    · exact ha
theorem EXS.store {B : Nat} {w w' : World} {v : Value} {n b : Nat} {x : Nat → Int} {cs : Array Value} {fr : Nat × Nat} (h : EXS B w v n x) (hb : w.heap[b]? = some (.cells cs 69 fr)) (k : Kept [b] w w') : EXS B w' v n x := by
  obtain ⟨g, c, h1, h2, h3, h4, h5⟩ := h.is
  refine ⟨⟨g, c, h1, h2, h3, h4, h5.kept k fun hm => ?_⟩, h.le⟩
  obtain ⟨cur, hg, _⟩ := h5
  have : g = b := by simpa using hm
  subst this
  rw [hg] at hb
  cases hb
theorem psum_snoc (n : Nat) (x : Nat → Int) (a : Int) : psum (snocI n x a) (n + 1) = psum x n + a := by
  have : ∀ k, k ≤ n → psum (snocI n x a) k = psum x k := by
    intro k
    induction k with
    | zero => intro _; rfl
    | succ k ih =>
      intro hk
      simp only [psum]
      rw [ih (by omega)]
      simp [snocI, show k < n by omega]
  simp only [psum]
  rw [this n (Nat.le_refl _)]
  simp [snocI]

theorem next_dig (w : World) (m : List UInt8) (k : Nat) (ty : TypeId) (h : k < m.length) (hd : 48 ≤ m[k].toNat ∧ m[k].toNat ≤ 57) :
    (Instr.next (.pointer (some ⟨w.heap.size, 0, none⟩)) true ty).run Tryz.prog (w.iter ⟨m.toArray⟩ k) = .ok (.tuple #[.bool true, .int .i64 k, .int .i32 (m[k].toNat : Nat)]) (w.iter ⟨m.toArray⟩ (k + 1)) := by
  have hs : k < (ByteArray.mk m.toArray).size := by show k < m.toArray.size; simpa using h
  have he : (ByteArray.mk m.toArray)[k]'hs = m[k] := by show m.toArray[k]'_ = m[k]; simp
  have := run_next_ascii (P := Tryz.prog) w ⟨m.toArray⟩ k ty hs (by rw [he]; omega)
  rw [he] at this
  exact this
theorem next_done (w : World) (m : List UInt8) (ty : TypeId) :
    (Instr.next (.pointer (some ⟨w.heap.size, 0, none⟩)) true ty).run Tryz.prog (w.iter ⟨m.toArray⟩ m.length) = .ok (.tuple #[.bool false]) (w.iter ⟨m.toArray⟩ m.length) :=
  run_next_end (P := Tryz.prog) w ⟨m.toArray⟩ m.length ty (by show ¬ m.length < m.toArray.size; simp)
theorem Kept.iter {bs : List Nat} {a w : World} (h : Kept bs a w) (s : ByteArray) (k : Nat) : Kept bs a (w.iter s k) := h.alloc _

/-- What the text in lower case says. -/
def Says (f V : Nat) (e : Int) (l' : List UInt8) : Prop :=
  (f = 0 ∧ ∃ s, ShapeOK s V e ∧ l' = s.list 101) ∨ (f = 1 ∧ l' = [105, 110, 102, 105, 110, 105, 116, 121]) ∨ (f = 3 ∧ l' = [110, 97, 110])

/-- The Decimal that a text is read into: form, sign; of a finite one the number and the exponent. -/
def ReadAs (w : World) (b f : Nat) (neg : Bool) (e : Int) (V : Nat) : Prop :=
  ∃ ex' V', (f = 0 → ex' = e ∧ V' = V) ∧ -400 ≤ ex' ∧ ex' ≤ 400 ∧ V' < 2 ^ (64 * 3) ∧ DA w b f neg ex' V'

set_option maxHeartbeats 8000000 in
/-- Decimal.setString of a text that a Decimal has written. -/
theorem setString_any (b f V : Nat) (neg : Bool) (e : Int) (l : List UInt8) (w : World) (hl : Bare l) (hsay : Says f V e (Lib.toLowerA l)) (hV : V < 2 ^ (64 * 3)) (he : -400 ≤ e ∧ e ≤ 400) (hb : DN w b 0 false 0) (hG : Glob2 w) (hb20 : 20 ≤ b) :
    Calls Tryz.prog 52 #[.pointer (some ⟨b, 0, none⟩), .pointer (some ⟨1, 0, none⟩), .string ⟨(sgnL neg ++ l).toArray⟩] w fun r w' =>
      r = .returned (.tuple #[.int .u32 0, .nilIface]) ∧ ReadAs w' b f neg e V ∧ Kept [b] w w' := by
  have HSAY := hid hsay
  have HV := hid hV
  have hsl : (sgnL neg ++ l).length ≤ 407 := by have := hl.len; cases neg <;> simp [sgnL] <;> omega
  have C1 : Hid (∀ w, _) := hid fun w => consume_at [45] (sgnL neg ++ l) l neg (sgn_prefix neg l hl.m) (by rintro rfl; exact ⟨by simp [sgnL], rfl⟩) (by rintro rfl; rfl) (by omega) w
  have C2 : Hid (∀ w, _) := hid fun w => consume_at [43] l l false (prefix_head 43 l hl.p) (by simp) (fun _ => rfl) (by have := hl.len; omega) w
  have C3 : Hid (∀ w, _) := hid fun w => toLower_at l (by have := hl.len; omega) hl.ascii w
  have C4 : Hid (∀ w, _) := hid fun w => Tryz.strings_HasPrefix ⟨(Lib.toLowerA l).toArray⟩ ⟨#[45]⟩ w
  have C5 : Hid (∀ w, _) := hid fun w => Tryz.strings_HasPrefix ⟨(Lib.toLowerA l).toArray⟩ ⟨#[43]⟩ w
  have P4 : Hid (Lib.hasPrefix (ByteArray.mk (Lib.toLowerA l).toArray).data.toList (ByteArray.mk #[45]).data.toList = false) := hid (prefix_head 45 _ hl.ml)
  have P5 : Hid (Lib.hasPrefix (ByteArray.mk (Lib.toLowerA l).toArray).data.toList (ByteArray.mk #[43]).data.toList = false) := hid (prefix_head 43 _ hl.pl)
  have HB := hid hb
  have HG := hid hG
  have z1 := cell_of_heap HB.out 1
  have fz1 := frozen_of_heap HB.out 1
  have hb1 : DN (w.setCell ⟨b, 1, none⟩ (.bool neg)) b 0 neg 0 := heap_setCell_self hb 1 (.bool neg)
  have hk1 : Kept [b] w (w.setCell ⟨b, 1, none⟩ (.bool neg)) := (Kept.refl [b] w).setCell ⟨b, 1, none⟩ _ (.inl (by simp))
  have HB1 := hid hb1
  have HK1 := hid hk1
  clear hl hsl hb hG hb1 hk1 hsay hV
  generalize hl' : Lib.toLowerA l = l' at *
  clear hl'
  go_enter Tryz.func52, Tryz.ntmps52
  go_wp2_with fail
  refine (C1.out _).mono ?_
  rintro r w1 ⟨rfl, rfl⟩
  go_upto_if 36 with fail
  go_cut [2] (fun s2 wx => s2 = .string ⟨l.toArray⟩ ∧ wx = w1.setCell ⟨b, 1, none⟩ (.bool neg))
  case first =>
    cases neg
    · go_wp2_with fail
      refine (C2.out _).mono ?_
      rintro r w2 ⟨rfl, rfl⟩
      go_wp2_with fail
      go_meet
      exact ⟨rfl, rfl⟩
    · go_wp2_with fail
      go_meet
      exact ⟨rfl, rfl⟩
  case rest =>
    obtain ⟨rfl, rfl⟩ := hcut
    clear C1 C2 z1 fz1
    generalize w1.setCell ⟨b, 1, none⟩ (.bool neg) = w2 at *
    go_wp2_with fail
    refine (C3.out _).mono ?_
    rintro r w3 ⟨rfl, hk3⟩
    have hb3 := hk3.heap HB1.out (by simp)
    have hk3' := HK1.out.trans hk3 (ds := [b]) (by simp) (by simp)
    have HK3 := hid hk3'
    have z2 := cell_of_heap hb3 2
    have fz2 := frozen_of_heap hb3 2
    have hb4 : DN (w3.setCell ⟨b, 2, none⟩ (.int .i32 0)) b 0 neg 0 := heap_setCell_self hb3 2 (.int .i32 0)
    have hk4 : Kept [b] w1 (w3.setCell ⟨b, 2, none⟩ (.int .i32 0)) := hk3'.setCell ⟨b, 2, none⟩ _ (.inl (by simp))
    have HK4 := hid hk4
    have H66 := hid (bigSetInt64_0 b 0 neg 0 _ hb4)
    clear C3 hk3 hk3' hb3 hb4 hk4 HK1 HB1
    go_wp2_with fail
    refine (H66.out).mono ?_
    rintro r w5 ⟨rfl, hk5, hb5⟩
    have z0 := cell_of_heap hb5 0
    have fz0 := frozen_of_heap hb5 0
    have hb6 : DN (w5.setCell ⟨b, 0, none⟩ (.int .i8 3)) b 3 neg 0 := heap_setCell_self hb5 0 (.int .i8 3)
    have hk6 : Kept [b] w1 (w5.setCell ⟨b, 0, none⟩ (.int .i8 3)) := (HK4.out.trans hk5 (ds := [b]) (by simp) (by simp)).setCell ⟨b, 0, none⟩ _ (.inl (by simp))
    have HB6 := hid hb6
    have HK6 := hid hk6
    clear hk5 hb5 hb6 hk6 z2 fz2 HK3 HK4 H66
    go_wp2_with fail
    clear z0 fz0
    generalize w5.setCell ⟨b, 0, none⟩ (.int .i8 3) = w6 at *
    refine (C4.out _).mono ?_
    rintro r w7 ⟨rfl, rfl⟩
    rw [P4.out]
    go_wp2_with fail
    refine (C5.out _).mono ?_
    rintro r w8 ⟨rfl, rfl⟩
    rw [P5.out]
    clear C4 C5 P4 P5
    rcases HSAY.out with ⟨rfl, s, hs, hl'⟩ | ⟨rfl, rfl⟩ | ⟨rfl, rfl⟩
    · have HS := hid hs
      have HL := hid hl'
      clear HSAY hs hl'
      obtain ⟨c, hc1, hc2⟩ := shape_head HS.out 101
      rw [← HL.out] at hc1
      have q1 : (l' == [105, 110, 102, 105, 110, 105, 116, 121]) = false := bytes_ne l' [105, 110, 102, 105, 110, 105, 116, 121] (head_ne hc1 hc2 (by decide))
      have q2 : (l' == [105, 110, 102]) = false := bytes_ne l' [105, 110, 102] (head_ne hc1 hc2 (by decide))
      have C6 : Hid (∀ w, _) := hid fun w => consume_at [110, 97, 110] l' l' false (hasPrefix_ne _ _ _ (head_ne hc1 hc2 (by decide))) (by simp) (fun _ => rfl) (by rw [HL.out]; have := shape_len HS.out 101; omega) w
      have C7 : Hid (∀ w, _) := hid fun w => consume_at [115, 110, 97, 110] l' l' false (hasPrefix_ne _ _ _ (head_ne hc1 hc2 (by decide))) (by simp) (fun _ => rfl) (by rw [HL.out]; have := shape_len HS.out 101; omega) w
      clear hc1 hc2
      go_wp2_with fail
      refine (C6.out _).mono ?_
      rintro r w9 ⟨rfl, rfl⟩
      go_wp2_with fail
      refine (C7.out _).mono ?_
      rintro r w10 ⟨rfl, rfl⟩
      clear q1 q2 C6 C7
      have C8 : Hid (∀ w, _) := hid fun w => indexByteAt l' 101 101 (by decide) w
      obtain ⟨i2, hi2, hz0, hz1, hz2⟩ := info_parts Tryz.info2
      have hE0 : EXS w10.heap.size (w10.alloc (.cells (reps (.int .i64 0) 2) 2)) (.slice (some ⟨w10.heap.size, 0, none⟩) 0 2) 0 (fun _ => 0) := ⟨⟨_, 2, rfl, Nat.le_refl _, by omega, by omega, (Row.made w10 (.int .i64 0) 2 2).congr (by omega) (fun j hj => by omega)⟩, fun j hj => by omega⟩
      generalize (fun _ => 0 : Nat → Int) = x0 at hE0
      have HE0 := hid hE0
      have HK11 := hid ((Kept.refl [] w10).alloc (.cells (reps (.int .i64 0) 2) 2))
      clear hE0
      go_wp2_with (at_make; refine wpList_make_any _ rfl _ _ 132 rfl 2 i2 (.int .i64 0) 8 Tryz.underlying132 hi2 hz0 hz1 hz2 rfl .i64 .i64 _ _ 0 2 rfl rfl rfl rfl (by omega) (by omega) (by omega) ?_)
      generalize (w10.alloc (.cells (reps (.int .i64 0) 2) 2)) = w11 at *
      obtain ⟨P, hP⟩ : ∃ P, P = s.ip ++ dotL s.dot s.fp := ⟨_, rfl⟩
      have hP1 : ∀ c ∈ P, c ≠ 101 := by
        intro c hc
        rw [hP] at hc
        rcases List.mem_append.1 hc with h | h
        · exact HS.out.ip.ne h (by decide)
        · unfold dotL at h
          split at h
          · rcases List.mem_cons.1 h with rfl | h
            · decide
            · exact HS.out.fp.ne h (by decide)
          · simp at h
      have hL : l' = P ++ exL 101 s.ex := by rw [HL.out, hP]; simp [Shape.list]
      have hPl : P.length ≤ 401 := by
        have h1 := HS.out.len
        rw [hP, List.length_append]
        unfold dotL
        split <;> simp <;> omega
      have HP := hid hP
      have HLL := hid hL
      have HP1 := hid hP1
      clear hP HL hL hP1
      refine (C8.out _).mono ?_
      rintro r w12 ⟨rfl, rfl⟩
      clear C8
      go_upto_if 100 with fail
      go_cut [2, 13, 14, 15, 16] (fun s2 s13 s14 s15 s16 wx => s2 = .string ⟨P.toArray⟩ ∧ (∃ n x, n ≤ 1 ∧ Hid (EXS w10.heap.size wx s13 n x) ∧ Hid (psum x n = s.ex.getD 0)) ∧ Hid (Kept [] w10 wx))
      case first =>
        cases hx : s.ex with
        | none =>
          obtain rfl : l' = P := by rw [HLL.out, hx]; simp [exL]
          rw [indexByte_none l' 101 HP1.out]
          clear HLL HP1
          go_wp2_with fail
          go_meet
          exact ⟨rfl, ⟨0, _, by omega, HE0, hid (by rw [hx]; rfl)⟩, HK11⟩
        | some a =>
          have ha := HS.out.small a hx
          obtain ⟨r, hr⟩ : ∃ r, r = (if a < 0 then (45 : UInt8) else 43) :: Lib.decDigits a.natAbs := ⟨_, rfl⟩
          have hr2 : r.length ≤ 5 := by have := exL_len 101 (some a) (fun b hb => by cases hb; exact ha); rw [hr]; simp [exL] at this ⊢; omega
          have CP : Hid (∀ w, Calls Tryz.prog 70 #[.string ⟨r.toArray⟩, .int .i64 10, .int .i64 32] w fun e w' => e = .returned (.tuple #[.int .i64 a, .nilIface]) ∧ Kept [] w w') := hid fun w => by rw [hr]; exact parseInt_at a ha w
          obtain rfl : l' = P ++ 101 :: r := by rw [HLL.out, hx, hr]; rfl
          rw [indexByte_at P _ 101 HP1.out]
          have HX := hid hx
          clear HLL HP1 hx hr
          have hPL : P.length + 1 ≤ (P ++ 101 :: r).length := by simp
          have e1 := tail_at P r 101
          have e2 := head_at P (101 :: r)
          go_wp2_with fail
          refine (CP.out _).mono ?_
          rintro r2 w13 ⟨rfl, hk13⟩
          have hE := HE0.out.keep hk13
          have hk14 := (HK11.out.then hk13).alloc (.cells #[.int .i64 a] 2)
          have hs20 : 20 ≤ w10.heap.size := Nat.le_trans (HG.out.size) HK6.out.size
          have hs14 := hk14.size
          have HE := hid hE
          have HK14 := hid hk14
          clear hk13 hE hk14 HE0 HK11 CP
          go_wp2_with (at_builtin; refine wpList_append_sv _ rfl (.tmp 112) (.tmp 114) 132 132 rfl 2 i2 (.int .i64 0) 8 Tryz.underlying132 hi2 hz0 hz1 hz2 rfl (· = 2) rfl w10.heap.size 0 1 _ _ (fun j => .int .i64 (x0 j)) (fun _ => .int .i64 a) rfl (HE.out.sv.alloc _) rfl (Src.one _ 132 2 2 _ Tryz.underlying132 rfl) (by omega) (by omega) (by omega) ?_)
          intro v' w14 hsv' hk15 hown
          have hE2 := HE.out.snoc hsv' (by omega)
          have hk16 := HK14.out.trans hk15 (ds := []) (by simp) (fun y hy => .inr (HE.out.own y hy))
          have HE2 := hid hE2
          have HK16 := hid hk16
          clear hsv' hk15 hown hE2 hk16 HE HK14 hs14
          go_wp2_with fail
          go_meet
          exact ⟨rfl, ⟨1, _, by omega, HE2, hid (by rw [psum_snoc, HX.out]; simp [psum])⟩, HK16⟩
      case rest =>
        obtain ⟨rfl, ⟨n, x, hn, HE, HPS⟩, HK12⟩ := hcut
        clear HE0 HK11 HLL HP1
        have C9 : Hid (∀ w, _) := hid fun w => indexByteAt P 46 46 (by decide) w
        go_wp2_with fail
        refine (C9.out _).mono ?_
        rintro r w13 ⟨rfl, rfl⟩
        clear C9
        go_upto_if 122 with fail
        go_cut [2, 13, 17, 18] (fun s2 s13 s17 s18 wx => s2 = .string ⟨(s.ip ++ s.fp).toArray⟩ ∧ (∃ n x, n ≤ 2 ∧ Hid (EXS w10.heap.size wx s13 n x) ∧ Hid (psum x n = e)) ∧ Hid (Kept [] w10 wx))
        case first =>
          have hIP : ∀ c ∈ s.ip, c ≠ 46 := fun c hc => HS.out.ip.ne hc (by decide)
          cases hd : s.dot with
          | false =>
            have hf := HS.out.dot hd
            obtain rfl : P = s.ip := by rw [HP.out, hd]; simp [dotL]
            rw [indexByte_none _ 46 hIP]
            have HD : Hid (s.fp = []) := hid hf
            clear hf hd hIP HP
            go_wp2_with fail
            go_meet
            exact ⟨by rw [HD.out, List.append_nil], ⟨n, x, by omega, HE, hid (by have := HS.out.exp; rw [HD.out] at this; rw [HPS.out]; simpa using this)⟩, HK12⟩
          | true =>
            obtain rfl : P = s.ip ++ 46 :: s.fp := by rw [HP.out, hd]; simp [dotL]
            rw [indexByte_at _ _ 46 hIP]
            clear hd hIP HP
            have hfl : s.fp.length ≤ 400 := by have := HS.out.len; omega
            have e1 := tail_at s.ip s.fp 46
            have e2 := head_at s.ip (46 :: s.fp)
            have e3 : (s.ip.length : Int) + ((s.fp.length : Int) + 1) - s.ip.length - 1 = s.fp.length := by omega
            have hs20 : 20 ≤ w10.heap.size := Nat.le_trans (HG.out.size) HK6.out.size
            have hk14 := HK12.out.alloc (.cells #[.int .i64 (-(s.fp.length : Int))] 2)
            have hs14 := hk14.size
            have HK14 := hid hk14
            clear hk14
            go_wp2_with (at_builtin; refine wpList_append_sv _ rfl (.tmp 128) (.tmp 131) 132 132 rfl 2 i2 (.int .i64 0) 8 Tryz.underlying132 hi2 hz0 hz1 hz2 rfl (· = 2) rfl w10.heap.size n 1 _ _ (fun j => .int .i64 (x j)) (fun _ => .int .i64 (-(s.fp.length : Int))) rfl (HE.out.sv.alloc _) rfl (Src.one _ 132 2 2 _ Tryz.underlying132 rfl) (by omega) (by omega) (by omega) ?_)
            intro v' w14 hsv' hk15 hown
            have hE2 := HE.out.snoc hsv' (by omega)
            have hk16 := HK14.out.trans hk15 (ds := []) (by simp) (fun y hy => .inr (HE.out.own y hy))
            have HE2 := hid hE2
            have HK16 := hid hk16
            clear hsv' hk15 hown hE2 hk16 HE HK14 hs14
            go_wp2_with fail
            have hW : RowKit.wrap64 ((s.ip.length : Int) + 1) = (s.ip.length : Int) + 1 := by
              have : (s.ip ++ 46 :: s.fp).length ≤ 401 := hPl
              simp at this
              simp only [RowKit.wrap64]
              omega
            have hAdd2 : ∀ w : World, (Op.stringOp .add ⟨s.ip.toArray⟩ ⟨s.fp.toArray⟩).run Tryz.prog w = .ok (.string ⟨(s.ip ++ s.fp).toArray⟩) w := by
              intro w
              have h1 : (s.ip ++ 46 :: s.fp).length ≤ 401 := hPl
              simp at h1
              exact run_string_add_lists w s.ip s.fp (by omega) (by omega)
            have hAdd : ∀ w : World, (binOp .add 9 (.string ⟨s.ip.toArray⟩) (.string ⟨s.fp.toArray⟩)).run Tryz.prog w = .ok (.string ⟨(s.ip ++ s.fp).toArray⟩) w := by
              intro w
              rw [binOp_string_add]
              exact hAdd2 w
            go_big_region
            go_wp2_with fail
            go_meet
            exact ⟨rfl, ⟨n + 1, _, by omega, hid (HE2.out.keep (Kept.refl [] w14).drew), hid (by rw [psum_snoc, HPS.out]; have := HS.out.exp; omega)⟩, hid HK16.out.drew⟩
        case rest =>
          obtain ⟨rfl, ⟨n2, x2, hn2, HE2, HPS2⟩, HK14⟩ := hcut
          clear HE HPS HK12 hn HP
          rename_i w14
          have HDG : Hid (∀ j (h : j < (s.ip ++ s.fp).length), 48 ≤ (s.ip ++ s.fp)[j].toNat ∧ (s.ip ++ s.fp)[j].toNat ≤ 57) := hid fun j h => (HS.out.ip.append HS.out.fp) _ (List.getElem_mem h)
          have HVAL := hid HS.out.val
          have hne : s.ip ++ s.fp ≠ [] := by simp [HS.out.ne]
          have hlen : (s.ip ++ s.fp).length ≤ 400 := by have := HS.out.len; simp; omega
          have HNE := hid hne
          clear hne HS
          generalize s.ip ++ s.fp = m at *
          go_wp2_with fail
          go_loopw [20] (fun i wr => ∃ k, k ≤ m.length ∧ wr = wc.iter ⟨m.toArray⟩ k) (fun _ wr => m.length - wr.iterPos wc.heap.size)
          case atStart => exact ⟨0, Nat.zero_le _, rfl⟩
          case round =>
            obtain ⟨k, hk, rfl⟩ := hrel
            by_cases hlt : k < m.length
            · have hd := HDG.out k hlt
              have hnx : ∀ ty, _ := fun ty => next_dig wc m k ty hlt hd
              generalize m[k].toNat = d at hd hnx
              have hm1 : m.length - (k + 1) < m.length - k := by omega
              go_wp2
              go_roundw
              case rel => exact ⟨k + 1, by omega, rfl⟩
              case measure => simp; omega
            · obtain rfl : k = m.length := by omega
              have hnx : ∀ ty, _ := fun ty => next_done wc m ty
              clear hk hlt
              have hkI : Kept [] w10 (wc.iter ⟨m.toArray⟩ m.length) := HK14.out.iter _ _
              have hbI : DN (wc.iter ⟨m.toArray⟩ m.length) b 3 neg 0 := hkI.heap HB6.out (by simp)
              have hEI := HE2.out.keep ((Kept.refl [] wc).iter ⟨m.toArray⟩ m.length)
              have hKI := HK6.out.trans hkI (ds := [b]) (by simp) (by simp)
              have hGI := HG.out.kept hKI (by simp; omega)
              obtain ⟨ea, hea⟩ := hGI.eof
              have hm0 : 0 < m.length := List.length_pos_iff.2 HNE.out
              have H71 : Calls Tryz.prog 71 #[.pointer (some ⟨b, 3, none⟩), .string ⟨m.toArray⟩, .int .i64 10] (wc.iter ⟨m.toArray⟩ m.length) _ := bigSetString_any b 3 false false _ 69 ea m _ hm0 (by omega) (fun c hc => by obtain ⟨j, hj, rfl⟩ := List.mem_iff_getElem.1 hc; exact HDG.out j hj) hea (by omega) (by decide) hbI rfl rfl rfl
              have H71 := hid H71
              have HBI := hid hbI
              have HEI := hid hEI
              have HKI := hid hKI
              have HGI := hid hGI
              clear hkI hbI hEI hKI hGI hea HE2 HK14 HK6 HB6 HB HDG
              go_upto_region 48 with fail
              generalize wc.iter ⟨m.toArray⟩ m.length = wI at *
              clear hnx
              go_wp2_with fail
              refine (H71.out).mono ?_
              rintro r w16 ⟨rfl, v16, hv16, hk16, hh16⟩
              have hh16' : w16.heap[b]? = some (.cells #[.int .i8 3, .bool neg, .int .i32 0, .bool false, v16, .bool false] 69 (0, 0)) := hh16
              have z0 := cell_of_heap hh16' 0
              have fz0 := frozen_of_heap hh16' 0
              have hh17 : (w16.setCell ⟨b, 0, none⟩ (.int .i8 0)).heap[b]? = some (.cells #[.int .i8 0, .bool neg, .int .i32 0, .bool false, v16, .bool false] 69 (0, 0)) := heap_setCell_self hh16' 0 (.int .i8 0)
              have hks : Kept [b] w16 (w16.setCell ⟨b, 0, none⟩ (.int .i8 0)) := (Kept.refl [b] w16).setCell ⟨b, 0, none⟩ _ (.inl (by simp))
              have hn17 := (hv16.store hh16' (by decide) hks).mono (Nat.le_trans HG.out.size HKI.out.size)
              rw [HVAL.out] at hn17
              have hk17 := hk16.trans hks (ds := [b]) (by simp) (by simp)
              have hE17 := HEI.out.store HBI.out hk17
              have hK17 := HKI.out.trans hk17 (ds := [b]) (by simp) (by simp)
              have hD17 : DA (w16.setCell ⟨b, 0, none⟩ (.int .i8 0)) b 0 neg 0 V := ⟨v16, hh17, hn17⟩
              have hG17 := HG.out.kept hK17 (by simp; omega)
              obtain ⟨g17, c17, hu13, hg1, hg2, hg3, hrow⟩ := hE17.is
              subst hu13
              have H72 := hid (setExponent_any b g17 c17 n2 0 V neg 0 (-1) x2 _ hD17 HV.out (.inl rfl) hn2 hrow hE17.le hG17)
              have HK17 := hid hK17
              clear hD17 hG17 hrow hE17 hK17 hk17 hn17 hks hh17 hh16' hh16 hk16 hv16 HBI HEI H71 hg1 hg2 hg3
              go_wp2_with fail
              refine (H72.out).mono ?_
              rintro r w18 ⟨rfl, hD18, hk18⟩
              have hk19 := HK17.out.trans hk18 (ds := [b]) (by simp) (by simp)
              have HD18 := hid hD18
              have HK19 := hid hk19
              clear hD18 hk18 hk19 H72 z0 fz0
              go_wp2_with fail
              refine (goError_0 w18).mono ?_
              rintro r w19 ⟨rfl, rfl⟩
              go_wp2
              go_ret2
              exact ⟨rfl, ⟨e, V, fun _ => ⟨rfl, rfl⟩, he.1, he.2, HV.out, by rw [← HPS2.out]; exact HD18.out⟩, HK19.out⟩
    · clear HSAY
      have z0 := cell_of_heap HB6.out 0
      have fz0 := frozen_of_heap HB6.out 0
      go_wp2
      go_ret2
      have h1 := heap_setCell_self HB6.out 0 (.int .i8 1)
      exact ⟨rfl, ⟨0, 0, fun h => absurd h (by decide), by omega, by omega, Nat.pow_pos (by omega), _, h1, NumV.nil _ _⟩, HK6.out.setCell ⟨b, 0, none⟩ _ (.inl (by simp))⟩
    · clear HSAY
      have C6 : Hid (∀ w, _) := hid fun w => consume_at [110, 97, 110] [110, 97, 110] [] true rfl (fun _ => ⟨by decide, rfl⟩) (by simp) (by decide) w
      have C7 : Hid (∀ w, _) := hid fun w => consume_at [115, 110, 97, 110] [] [] false rfl (by simp) (fun _ => rfl) (by decide) w
      go_wp2_with fail
      refine (C6.out _).mono ?_
      rintro r w9 ⟨rfl, rfl⟩
      go_wp2_with fail
      refine (C7.out _).mono ?_
      rintro r w10 ⟨rfl, rfl⟩
      clear C6 C7
      go_wp2
      go_ret2
      exact ⟨rfl, ⟨0, 0, fun h => absurd h (by decide), by omega, by omega, Nat.pow_pos (by omega), _, HB6.out, NumV.nil _ _⟩, HK6.out⟩
end

end Go.Proofs.YtofmickjbpkgbaaGreatDoor
