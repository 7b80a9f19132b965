import Derived.Test.YtofmickjbpkgbaaGreatDoorMb
import Derived.Test.YtofmickjbpkgbaaGreatDoorMc
import Derived.Lib.ItoaNum
import Derived.Lib.ParseIntB
import Derived.Lib.Case
import Derived.Lib.Bytealg
import Derived.Test.YtofmickjbpkgbaaGreatDoorMa
import Derived.Test.YtofmickjbpkgbaaGreatDoorMshelf1
import Derived.Laws.Externs
set_option maxRecDepth 100000
namespace Go.Proofs.YtofmickjbpkgbaaGreatDoor
section
open Go.RowKit

theorem pow64_succ (i : Nat) : (2 : Nat) ^ (64 * (i + 1)) = 18446744073709551616 * 2 ^ (64 * i) := by
  rw [show 64 * (i + 1) = 64 + 64 * i by omega, Nat.pow_add]

theorem val_succ (x : Nat → Nat) (n : Nat) : val x (n + 1) = val x n + x n * 2 ^ (64 * n) := rfl

theorem val_congr {x y : Nat → Nat} : ∀ {n : Nat}, (∀ j, j < n → x j = y j) → val x n = val y n
  | 0, _ => rfl
  | n + 1, h => by rw [val_succ, val_succ, val_congr fun j hj => h j (by omega), h n (by omega)]

theorem val_norm {x : Nat → Nat} {l n : Nat} (h : NormAt x l n) : val x l = val x n := by
  have : ∀ d, n + d ≤ l → val x (n + d) = val x n := by
    intro d
    induction d with
    | zero => intro _; rfl
    | succ d ih =>
      intro hd
      rw [← Nat.add_assoc, val_succ, h.2.2 (n + d) (by omega) (by omega), ih (by omega)]
      omega
  have := this (l - n) (by have := h.1; omega)
  rwa [show n + (l - n) = l by have := h.1; omega] at this

theorem val_shift (x : Nat → Nat) (i : Nat) : ∀ n, val x (i + n) = val x i + 2 ^ (64 * i) * val (fun j => x (i + j)) n
  | 0 => by simp [val]
  | n + 1 => by
    rw [← Nat.add_assoc, val_succ, val_shift x i n, val_succ, show 64 * (i + n) = 64 * i + 64 * n by omega, Nat.pow_add]
    grind

theorem mulAdd_step {x z : Nat → Nat} {y r c c' zi i : Nat} (h : val z i + c * 2 ^ (64 * i) = val x i * y + r) (hs : c' * 18446744073709551616 + zi = x i * y + c) :
    (val z i + zi * 2 ^ (64 * i)) + c' * 2 ^ (64 * (i + 1)) = val x (i + 1) * y + r := by
  rw [pow64_succ, val_succ]
  generalize 2 ^ (64 * i) = P at *
  have := congrArg (· * P) hs
  grind

theorem addMul_step {x y z : Nat → Nat} {m a c c' zi i : Nat} (h : val z i + c * 2 ^ (64 * i) = val x i + val y i * m + a) (hs : c' * 18446744073709551616 + zi = y i * m + x i + c) :
    (val z i + zi * 2 ^ (64 * i)) + c' * 2 ^ (64 * (i + 1)) = val x (i + 1) + val y (i + 1) * m + a := by
  rw [pow64_succ, val_succ, val_succ]
  generalize 2 ^ (64 * i) = P at *
  have := congrArg (· * P) hs
  grind

/-- One step of the division from the top: z i and r out of the rest above and x i. -/
theorem div_down {x z : Nat → Nat} {y r r' zi i n : Nat} (hi : i < n) (h : val (fun j => z (i + 1 + j)) (n - (i + 1)) * y + r = val (fun j => x (i + 1 + j)) (n - (i + 1))) (hs : zi * y + r' = r * 18446744073709551616 + x i) :
    val (fun j => if j = 0 then zi else z (i + j)) (n - i) * y + r' = val (fun j => x (i + j)) (n - i) := by
  obtain ⟨d, hd⟩ : ∃ d, n - (i + 1) = d := ⟨_, rfl⟩
  rw [hd] at h
  rw [show n - i = 1 + d by omega, val_shift _ 1 d, val_shift _ 1 d]
  have e1 : val (fun j => if 1 + j = 0 then zi else z (i + (1 + j))) d = val (fun j => z (i + 1 + j)) d := val_congr fun j hj => by
    rw [if_neg (by omega), ← Nat.add_assoc]
  have e2 : val (fun j => x (i + (1 + j))) d = val (fun j => x (i + 1 + j)) d := val_congr fun j hj => by rw [← Nat.add_assoc]
  rw [e1, e2, ← h]
  generalize val (fun j => z (i + 1 + j)) d = A
  have f1 : val (fun j => if j = 0 then zi else z (i + j)) 1 = zi := by simp [val]
  have f2 : val (fun j => x (i + j)) 1 = x i := by simp [val]
  rw [f1, f2]
  have : (2 : Nat) ^ (64 * 1) = 18446744073709551616 := by decide
  rw [this]
  grind

theorem val_lt_of_words {x : Nat → Nat} {n L : Nat} (h : ∀ j, j < n → x j < 18446744073709551616) (hnz : n = 0 ∨ x (n - 1) ≠ 0) (hV : val x n < 2 ^ (64 * L)) : n ≤ L := by
  rcases Nat.lt_or_ge L n with hl | hl
  · exfalso
    obtain ⟨m, rfl⟩ : ∃ m, n = m + 1 := ⟨n - 1, by omega⟩
    rw [val_succ] at hV
    have h0 : x m ≠ 0 := by rcases hnz with h | h; omega; simpa using h
    have h1 : (2 : Nat) ^ (64 * L) ≤ 2 ^ (64 * m) := Nat.pow_le_pow_right (by omega) (by omega)
    have h2 : 2 ^ (64 * m) ≤ x m * 2 ^ (64 * m) := Nat.le_mul_of_pos_left _ (by omega)
    omega
  · exact hl

/-- The value v is the natural number V: its words without noughts at their end, at the head of a row of their own from block B on. -/
def NumV (B : Nat) (w : World) (v : Value) (V : Nat) : Prop := ∃ n x, NatV B w v n x ∧ (∀ j, j < n → x j < 18446744073709551616) ∧ (n = 0 ∨ x (n - 1) ≠ 0) ∧ val x n = V

theorem NumV.drew {B V : Nat} {w : World} {v : Value} (h : NumV B w v V) : NumV B w.drew v V := h
theorem NumV.alloc {B V : Nat} {w : World} {v : Value} (h : NumV B w v V) (o : Obj) : NumV B (w.alloc o) v V := by
  obtain ⟨n, x, h1, h2, h3, h4⟩ := h
  exact ⟨n, x, h1.alloc o, h2, h3, h4⟩
theorem NumV.mono {B B' V : Nat} {w : World} {v : Value} (h : NumV B w v V) (hB : B' ≤ B) : NumV B' w v V := by
  obtain ⟨n, x, h1, h2, h3, h4⟩ := h
  exact ⟨n, x, h1.mono hB, h2, h3, h4⟩
theorem NumV.keep {B V : Nat} {w w' : World} {v : Value} (h : NumV B w v V) (k : Kept [] w w') : NumV B w' v V := by
  obtain ⟨n, x, h1, h2, h3, h4⟩ := h
  exact ⟨n, x, h1.kept k (by simp), h2, h3, h4⟩
theorem NumV.kept {B V : Nat} {w w' : World} {v : Value} {bs : List Nat} (h : NumV B w v V) (k : Kept bs w w') (hb : ∀ b ∈ bs, v.ownBlock ≠ some b) : NumV B w' v V := by
  obtain ⟨n, x, h1, h2, h3, h4⟩ := h
  refine ⟨n, x, h1.kept k fun b hm => .inr fun ao c e a ha hab => ?_, h2, h3, h4⟩
  subst e ha hab
  exact hb a.block hm rfl
theorem NumV.store {B V : Nat} {w w' : World} {v : Value} {b : Nat} {c : Array Value} {t : TypeId} {fr : Nat × Nat} (h : NumV B w v V) (hb : w.heap[b]? = some (.cells c t fr)) (ht : t ≠ 88) (k : Kept [b] w w') : NumV B w' v V := by
  obtain ⟨n, x, h1, h2, h3, h4⟩ := h
  exact ⟨n, x, h1.store hb ht k, h2, h3, h4⟩
theorem NumV.nil (B : Nat) (w : World) : NumV B w (.slice none 0 0) 0 := ⟨0, fun _ => 0, .inl ⟨rfl, rfl⟩, fun j hj => by omega, .inl rfl, rfl⟩
theorem NumV.own_lt {B V k : Nat} {w : World} {v : Value} (h : NumV B w v V) (hk : v.ownBlock = some k) : k < w.heap.size := by
  obtain ⟨n, x, h1, _⟩ := h
  rcases h1 with ⟨rfl, _⟩ | ⟨g, c, rfl, _, _, _, h5⟩
  · simp [Value.ownBlock] at hk
  · simp [Value.ownBlock] at hk; subst hk; exact h5.lt
theorem NumV.own_ge {B V k : Nat} {w : World} {v : Value} (h : NumV B w v V) (hk : v.ownBlock = some k) : B ≤ k := by
  obtain ⟨n, x, h1, _⟩ := h
  rcases h1 with ⟨rfl, _⟩ | ⟨g, c, rfl, hB, _, _, h5⟩
  · simp [Value.ownBlock] at hk
  · simp [Value.ownBlock] at hk; subst hk; exact hB
theorem NumV.words {B V L : Nat} {w : World} {v : Value} (h : NumV B w v V) (hV : V < 2 ^ (64 * L)) : ∃ n x, n ≤ L ∧ NatV B w v n x ∧ (∀ j, j < n → x j < 18446744073709551616) ∧ (n = 0 ∨ x (n - 1) ≠ 0) ∧ val x n = V := by
  obtain ⟨n, x, h1, h2, h3, h4⟩ := h
  exact ⟨n, x, val_lt_of_words h2 h3 (by rw [h4]; exact hV), h1, h2, h3, h4⟩

theorem Kept.ofBelow {w w' : World} (h : Below w.heap.size w w') : Kept [] w w' := ⟨h.os, h.tape, h.output, h.size, fun k hk _ => h.block k hk⟩
end

section
open Go.RowKit

/-- All bytes are decimal figures. -/
def IsDig (l : List UInt8) : Prop := ∀ b ∈ l, 48 ≤ b.toNat ∧ b.toNat ≤ 57

/-- The number that figures spell. -/
def dval (l : List UInt8) : Nat := l.foldl (fun a c => a * 10 + (c.toNat - 48)) 0

theorem dval_snoc (l : List UInt8) (c : UInt8) : dval (l ++ [c]) = dval l * 10 + (c.toNat - 48) := by
  unfold dval
  rw [List.foldl_append]
  rfl

theorem dval_append (a : List UInt8) : ∀ (n : Nat) (b : List UInt8), b.length = n → dval (a ++ b) = dval a * 10 ^ b.length + dval b := by
  intro n
  induction n with
  | zero =>
    intro b hb
    obtain rfl := List.length_eq_zero_iff.1 hb
    simp [dval]
  | succ n ih =>
    intro b hb
    obtain ⟨b', c, rfl⟩ : ∃ b' c, b = b' ++ [c] := ⟨b.dropLast, b.getLast (by intro h; subst h; simp at hb), (List.dropLast_concat_getLast _).symm⟩
    simp at hb
    rw [← List.append_assoc, dval_snoc, ih b' hb, dval_snoc, List.length_append, List.length_singleton, Nat.pow_succ]
    rw [Nat.add_mul, ← Nat.mul_assoc]
    omega

theorem dval_zeros (z : Nat) (l : List UInt8) : dval (List.replicate z 48 ++ l) = dval l := by
  have h0 : dval (List.replicate z 48) = 0 := by
    induction z with
    | zero => rfl
    | succ z ih => rw [List.replicate_succ', dval_snoc, ih]; rfl
  rw [dval_append _ _ l rfl, h0]
  omega

/-- V's figures, D of them. -/
def digL (V D : Nat) : List UInt8 := (List.range D).map fun k => UInt8.ofNat (48 + fig V (D - 1 - k))

theorem digL_length (V D : Nat) : (digL V D).length = D := by simp [digL]

theorem digB_nat (V k : Nat) : (UInt8.ofNat (48 + fig V k)).toNat = 48 + fig V k := by
  have := fig_lt V k
  rw [UInt8.toNat_ofNat']
  omega

theorem digL_isDig (V D : Nat) : IsDig (digL V D) := by
  intro b hb
  obtain ⟨k, hk, rfl⟩ := List.mem_map.1 hb
  rw [digB_nat]
  have := fig_lt V (D - 1 - k)
  omega

theorem fig_div (V k : Nat) : fig (V / 10) k = fig V (k + 1) := by
  unfold fig
  rw [Nat.div_div_eq_div_mul, Nat.pow_succ, Nat.mul_comm (10 ^ k)]

theorem digL_succ (V D : Nat) : digL V (D + 1) = digL (V / 10) D ++ [UInt8.ofNat (48 + V % 10)] := by
  unfold digL
  rw [List.range_succ, List.map_append, List.map_singleton]
  congr 1
  · refine List.map_congr_left fun k hk => ?_
    have hk := List.mem_range.1 hk
    rw [fig_div, show D - 1 - k + 1 = D + 1 - 1 - k by omega]
  · rw [show D + 1 - 1 - D = 0 by omega]
    simp [fig]

theorem dval_digL : ∀ (D V : Nat), V < 10 ^ D → dval (digL V D) = V
  | 0, V, h => by simp at h; subst h; rfl
  | D + 1, V, h => by
    rw [digL_succ, dval_snoc, dval_digL D (V / 10) (by rw [Nat.div_lt_iff_lt_mul (by omega), ← Nat.pow_succ]; exact h), UInt8.toNat_ofNat']
    have := Nat.mod_lt V (show 10 > 0 by omega)
    omega

theorem IsDig.append {a b : List UInt8} (ha : IsDig a) (hb : IsDig b) : IsDig (a ++ b) := fun x hx => by
  rcases List.mem_append.1 hx with h | h
  · exact ha x h
  · exact hb x h
theorem IsDig.zeros (z : Nat) : IsDig (List.replicate z 48) := fun x hx => by rw [List.eq_of_mem_replicate hx]; decide
theorem IsDig.take {a : List UInt8} (ha : IsDig a) (k : Nat) : IsDig (a.take k) := fun x hx => ha x (List.mem_of_mem_take hx)
theorem IsDig.drop {a : List UInt8} (ha : IsDig a) (k : Nat) : IsDig (a.drop k) := fun x hx => ha x (List.mem_of_mem_drop hx)

/-- A decimal's text without its sign: figures, a point with figures, an exponent. -/
structure Shape where
  ip : List UInt8
  fp : List UInt8
  dot : Bool
  ex : Option Int

/-- The exponent's part, E the letter. -/
def exL (E : UInt8) : Option Int → List UInt8
  | none => []
  | some a => E :: (if a < 0 then 45 else 43) :: Lib.decDigits a.natAbs
def dotL (dot : Bool) (fp : List UInt8) : List UInt8 := if dot then 46 :: fp else []
def Shape.list (E : UInt8) (s : Shape) : List UInt8 := s.ip ++ (dotL s.dot s.fp ++ exL E s.ex)
def sgnL (neg : Bool) : List UInt8 := if neg then [45] else []

/-- The text that 'G' gives of V (D figures) times 10 to the power of e. -/
def decShape (V D : Nat) (e : Int) : Shape :=
  let dl : Int := if V = 0 ∧ e < 0 then D - e else D
  if e ≤ 0 ∧ -6 ≤ e + dl - 1 then
    if e = 0 then ⟨digL V D, [], false, none⟩
    else if D ≤ e.natAbs then ⟨[48], List.replicate (e.natAbs - D) 48 ++ digL V D, true, none⟩
    else ⟨(digL V D).take (D - e.natAbs), (digL V D).drop (D - e.natAbs), true, none⟩
  else if D = 1 then ⟨digL V D, [], false, some (e + D - 1)⟩ else ⟨(digL V D).take 1, (digL V D).drop 1, true, some (e + D - 1)⟩

/-- What such a shape must be for it to be read as V times 10 to the power of e. -/
structure ShapeOK (s : Shape) (V : Nat) (e : Int) : Prop where
  ne : s.ip ≠ []
  ip : IsDig s.ip
  fp : IsDig s.fp
  dot : s.dot = false → s.fp = []
  dotne : s.dot = true → s.fp ≠ []
  val : dval (s.ip ++ s.fp) = V
  exp : s.ex.getD 0 - s.fp.length = e
  small : ∀ a, s.ex = some a → -200 ≤ a ∧ a ≤ 200
  len : s.ip.length + s.fp.length ≤ 400

theorem decShape_ok (V D : Nat) (e : Int) (h1 : 1 ≤ D) (h2 : D ≤ 60) (hV : V < 10 ^ D) (he : -100 ≤ e ∧ e ≤ 100) : ShapeOK (decShape V D e) V e := by
  have hl := digL_length V D
  have hd := digL_isDig V D
  have hv := dval_digL D V hV
  have hne : digL V D ≠ [] := fun h => by rw [h] at hl; simp at hl; omega
  unfold decShape
  generalize digL V D = l at *
  dsimp only
  generalize (if V = 0 ∧ e < 0 then (D : Int) - e else D) = dl
  split
  · split
    · rename_i h0 h
      subst h
      exact ⟨hne, hd, fun b hb => by simp at hb, fun _ => rfl, fun h => by simp at h, by simpa using hv, by simp, fun a h => by simp at h, by simp; omega⟩
    · split
      · refine ⟨by simp, fun b hb => by simp at hb; subst hb; decide, (IsDig.zeros _).append hd, fun h => by simp at h, fun _ => by simp [hne], ?_, ?_, fun a h => by simp at h, ?_⟩
        · have := dval_zeros (e.natAbs - D + 1) l
          rw [List.replicate_succ] at this
          simpa [hv] using this
        · simp; omega
        · simp; omega
      · refine ⟨?_, hd.take _, hd.drop _, fun h => by simp at h, ?_, by rw [List.take_append_drop]; exact hv, ?_, fun a h => by simp at h, ?_⟩
        · intro h
          have := congrArg List.length h
          rw [List.length_take, List.length_nil] at this
          omega
        · intro _ h
          have := congrArg List.length h
          rw [List.length_drop, List.length_nil] at this
          omega
        · simp; omega
        · simp; omega
  · split
    · refine ⟨hne, hd, fun b hb => by simp at hb, fun _ => rfl, fun h => by simp at h, by simpa using hv, ?_, ?_, by simp; omega⟩
      · simp; omega
      · intro a h
        simp at h
        omega
    · refine ⟨?_, hd.take _, hd.drop _, fun h => by simp at h, ?_, by rw [List.take_append_drop]; exact hv, ?_, ?_, ?_⟩
      · intro h
        have := congrArg List.length h
        rw [List.length_take, List.length_nil] at this
        omega
      · intro _ h
        have := congrArg List.length h
        rw [List.length_drop, List.length_nil] at this
        omega
      · simp; omega
      · intro a h
        simp at h
        omega
      · simp; omega

/-! ### Reading it -/

theorem dec_all : (List.range 201).all (fun n => Lib.parseIntB 32 (43 :: Lib.decDigits n) == .ok (n : Int) && Lib.parseIntB 32 (45 :: Lib.decDigits n) == .ok (-(n : Int)) && decide ((Lib.decDigits n).length ≤ 3) && (Lib.decDigits n).all (fun b => decide (48 ≤ b.toNat ∧ b.toNat ≤ 57))) = true := by decide +kernel

theorem dec_at (n : Nat) (h : n ≤ 200) : Lib.parseIntB 32 (43 :: Lib.decDigits n) = .ok (n : Int) ∧ Lib.parseIntB 32 (45 :: Lib.decDigits n) = .ok (-(n : Int)) ∧ (Lib.decDigits n).length ≤ 3 ∧ IsDig (Lib.decDigits n) := by
  have := List.all_eq_true.1 dec_all n (List.mem_range.2 (by omega))
  simp only [Bool.and_eq_true, beq_iff_eq, decide_eq_true_eq] at this
  refine ⟨this.1.1.1, this.1.1.2, this.1.2, fun b hb => ?_⟩
  have := List.all_eq_true.1 this.2 b hb
  simpa using this

theorem exL_parse (a : Int) (h : -200 ≤ a ∧ a ≤ 200) : Lib.parseIntB 32 ((if a < 0 then 45 else 43) :: Lib.decDigits a.natAbs) = .ok a := by
  obtain ⟨h1, h2, _⟩ := dec_at a.natAbs (by omega)
  split
  · rw [h2]; congr 1; omega
  · rw [h1]; congr 1; omega

theorem exL_len (E : UInt8) (ex : Option Int) (h : ∀ a, ex = some a → -200 ≤ a ∧ a ≤ 200) : (exL E ex).length ≤ 5 := by
  cases ex with
  | none => simp [exL]
  | some a =>
    have := (dec_at a.natAbs (by have := h a rfl; omega)).2.2.1
    simp [exL]; omega

theorem indexByte_none (l : List UInt8) (c : UInt8) (h : ∀ b ∈ l, b ≠ c) : Lib.indexByte l c = -1 := by
  induction l with
  | nil => rfl
  | cons b l ih =>
    unfold Lib.indexByte
    have hb : (b == c) = false := by simpa using h b (by simp)
    rw [ih fun x hx => h x (by simp [hx]), hb]
    rfl

theorem indexByte_at (l r : List UInt8) (c : UInt8) (h : ∀ b ∈ l, b ≠ c) : Lib.indexByte (l ++ c :: r) c = l.length := by
  induction l with
  | nil => simp [Lib.indexByte]
  | cons b l ih =>
    have hb : (b == c) = false := by simpa using h b (by simp)
    have := ih fun x hx => h x (by simp [hx])
    rw [List.cons_append]
    unfold Lib.indexByte
    rw [this, hb]
    have h2 : ((l.length : Int) == -1) = false := by rw [beq_eq_false_iff_ne]; omega
    rw [h2]
    simp

theorem IsDig.ne {l : List UInt8} (h : IsDig l) {b c : UInt8} (hb : b ∈ l) (hc : c.toNat < 48 ∨ 57 < c.toNat) : b ≠ c := by
  rintro rfl
  have := h b hb
  omega

theorem lowerB_dig {l : List UInt8} (h : IsDig l) : l.map Lib.lowerB = l := by
  refine Lib.map_of_none _ Lib.isUpperB Lib.lowerB_of_not l ?_
  rw [List.any_eq_false]
  intro b hb
  have h1 := h b hb
  rw [Lib.isUpperB_int]
  simp; omega

theorem toLower_shape {s : Shape} {V : Nat} {e : Int} (h : ShapeOK s V e) : Lib.toLowerA (s.list 69) = s.list 101 := by
  unfold Lib.toLowerA Shape.list
  rw [List.map_append, List.map_append, lowerB_dig h.ip]
  have h1 : (dotL s.dot s.fp).map Lib.lowerB = dotL s.dot s.fp := by
    unfold dotL
    split
    · rw [List.map_cons, lowerB_dig h.fp]; rfl
    · rfl
  have h2 : (exL 69 s.ex).map Lib.lowerB = exL 101 s.ex := by
    cases hx : s.ex with
    | none => rfl
    | some a =>
      have h3 := (dec_at a.natAbs (by have := h.small a hx; omega)).2.2.2
      by_cases ha : a < 0
      · simp only [exL, if_pos ha, List.map_cons, lowerB_dig h3]; rfl
      · simp only [exL, if_neg ha, List.map_cons, lowerB_dig h3]; rfl
  rw [h1, h2]

/-- A decimal's text's bytes are ASCII. -/
theorem shape_ascii {s : Shape} {V : Nat} {e : Int} (h : ShapeOK s V e) : ∀ b ∈ s.list 69, b.toNat < 128 := by
  intro b hb
  unfold Shape.list at hb
  rcases List.mem_append.1 hb with hb | hb
  · have := h.ip b hb; omega
  · rcases List.mem_append.1 hb with hb | hb
    · unfold dotL at hb
      split at hb
      · rcases List.mem_cons.1 hb with rfl | hb
        · decide
        · have := h.fp b hb; omega
      · simp at hb
    · cases hx : s.ex with
      | none => rw [hx] at hb; simp [exL] at hb
      | some a =>
        rw [hx] at hb
        have h3 := (dec_at a.natAbs (by have := h.small a hx; omega)).2.2.2
        unfold exL at hb
        rcases List.mem_cons.1 hb with rfl | hb
        · decide
        · rcases List.mem_cons.1 hb with rfl | hb
          · split <;> decide
          · have := h3 b hb; omega

theorem shape_len {s : Shape} {V : Nat} {e : Int} (h : ShapeOK s V e) (E : UInt8) : (s.list E).length ≤ 406 := by
  unfold Shape.list
  have h1 := exL_len E s.ex h.small
  have h2 := h.len
  have h3 : (dotL s.dot s.fp).length ≤ s.fp.length + 1 := by unfold dotL; split <;> simp
  simp only [List.length_append]
  omega
end

section
open Go.RowKit

theorem NumV.shape {B V : Nat} {w : World} {v : Value} (h : NumV B w v V) : ∃ ao n c, v = .slice ao n c := by
  obtain ⟨n, x, h1, _⟩ := h
  obtain ⟨ao, c, h⟩ := h1.shape
  exact ⟨ao, n, c, h⟩

theorem Row.ofAlloc (w : World) (cur : Array Value) (e : TypeId) (f : Nat → Value) (c n : Nat) (hc : cur.size = c) (h : ∀ j, j < n → cur[j]? = some (f j)) : Row (w.alloc (.cells cur e)) w.heap.size e c f n :=
  ⟨cur, heap_alloc_new w _, hc, h⟩

/-- nat.setWord onto a nat without room. -/
theorem setWord_nil (k : Nat) (w : World) (hk : k < 18446744073709551616) :
    Calls Tryz.prog 205 #[.slice none 0 0, .int .u64 k] w fun e w' => ∃ v', e = .returned v' ∧ NumV w.heap.size w' v' k ∧ Kept [] w w' ∧ (k ≠ 0 → v' = .slice (some ⟨w.heap.size, 0, none⟩) 1 1) ∧ (k = 0 → v' = .slice none 0 0) := by
  by_cases h0 : k = 0
  · subst h0
    go_enter Tryz.func205, Tryz.ntmps205
    go_wp2
    go_ret
    exact ⟨_, rfl, NumV.nil _ _, Kept.refl _ _, fun h => absurd rfl h, fun _ => rfl⟩
  · have hz : ((k : Int) == 0) = false := by simp; omega
    go_enter Tryz.func205, Tryz.ntmps205
    go_wp2_with fail
    refine (make_one none 0 w).mono ?_
    rintro e w' ⟨rfl, rfl⟩
    have hR := Row.made w (.int .u64 0) 1 88
    have hc := hR.cell (j := 0) (by omega)
    have hf := hR.free 0
    have hrow := hid (Row.ofAlloc w ((reps (.int .u64 0) 1).setIfInBounds 0 (.int .u64 (k : Nat))) 88 (fun _ => .int .u64 (k : Nat)) 1 1 (by simp [size_reps]) (fun j hj => by obtain rfl : j = 0 := by omega
                                                                                                                                                                               exact Array.getElem?_setIfInBounds_self_of_lt (by rw [size_reps]; omega)))
    have hkk := hid ((Kept.refl [] w).alloc (.cells ((reps (.int .u64 0) 1).setIfInBounds 0 (.int .u64 (k : Nat))) 88))
    clear hR
    go_wp2
    go_ret
    refine ⟨_, rfl, ⟨1, fun _ => k, .inr ⟨_, 1, rfl, Nat.le_refl _, Nat.le_refl _, by omega, hrow.out⟩, fun _ _ => hk, .inr h0, by simp [val]⟩, hkk.out, fun _ => rfl, fun h => absurd h h0⟩

theorem setUint64_nil (k : Nat) (w : World) (hk : k < 18446744073709551616) :
    Calls Tryz.prog 155 #[.slice none 0 0, .int .u64 k] w fun e w' => ∃ v', e = .returned v' ∧ NumV w.heap.size w' v' k ∧ Kept [] w w' ∧ (k ≠ 0 → v' = .slice (some ⟨w.heap.size, 0, none⟩) 1 1) := by
  go_enter Tryz.func155, Tryz.ntmps155
  go_wp2_with fail
  refine (setWord_nil k w hk).mono ?_
  rintro e w' ⟨v', rfl, h1, h2, h3, _⟩
  have H1 := hid h1
  have H3 := hid h3
  clear h1 h3
  go_wp2
  go_ret
  exact ⟨v', rfl, H1.out, h2, H3.out⟩

/-- Int.SetInt64 of a number not below 0, onto a nil one. -/
theorem intSetInt64_walk (b o k : Nat) (zneg : Bool) (cz : Array Value) (tz : TypeId) (w : World) (hk : k < 9223372036854775808)
    (hb : w.heap[b]? = some (.cells cz tz (0, 0))) (h0 : cz[o]? = some (.bool zneg)) (h1 : cz[o + 1]? = some (.slice none 0 0)) :
    Calls Tryz.prog 98 #[.pointer (some ⟨b, o, none⟩), .int .i64 k] w fun e w' => e = .returned (.pointer (some ⟨b, o, none⟩)) ∧ ∃ v' w1, NumV w.heap.size w1 v' k ∧ Kept [] w w1 ∧ (k ≠ 0 → v' = .slice (some ⟨w.heap.size, 0, none⟩) 1 1) ∧ w' = (w1.setCell ⟨b, o + 1, none⟩ v').setCell ⟨b, o, none⟩ (.bool false) := by
  have z0 := (cell_of_heap hb o).trans h0
  have z1 := (cell_of_heap hb (o + 1)).trans h1
  have fz0 := frozen_of_heap hb o
  have fz1 := frozen_of_heap hb (o + 1)
  have HB := hid hb
  clear hb h0 h1
  go_enter Tryz.func98, Tryz.ntmps98
  go_wp2_with fail
  refine (setUint64_nil k w (by omega)).mono ?_
  rintro e w1 ⟨v', rfl, hv, hkp, hs⟩
  obtain ⟨ao, nn, cc, rfl⟩ := hv.shape
  have k0 := hkp.cellOf z0 (by simp)
  have k1 := hkp.cellOf z1 (by simp)
  have k2 := (hkp.frozen (p := ⟨b, o, none⟩) (lt_of_heap HB.out) (by simp)).trans fz0
  have k3 := (hkp.frozen (p := ⟨b, o + 1, none⟩) (lt_of_heap HB.out) (by simp)).trans fz1
  have HV := hid hv
  have HS := hid hs
  have HK := hid hkp
  clear hv hs hkp z0 z1 fz0 fz1
  go_wp2
  go_ret
  exact ⟨rfl, _, w1, HV.out, HK.out, HS.out, rfl⟩

theorem intSetInt64_any (b o k : Nat) (zneg : Bool) (cz : Array Value) (tz : TypeId) (w : World) (hk : k < 9223372036854775808)
    (hb : w.heap[b]? = some (.cells cz tz (0, 0))) (h0 : cz[o]? = some (.bool zneg)) (h1 : cz[o + 1]? = some (.slice none 0 0)) (ht : tz ≠ 88) :
    Calls Tryz.prog 98 #[.pointer (some ⟨b, o, none⟩), .int .i64 k] w fun e w' => e = .returned (.pointer (some ⟨b, o, none⟩)) ∧ ∃ v', NumV w.heap.size w' v' k ∧ (k ≠ 0 → v' = .slice (some ⟨w.heap.size, 0, none⟩) 1 1) ∧ Kept [b] w w' ∧
      w'.heap[b]? = some (.cells ((cz.setIfInBounds (o + 1) v').setIfInBounds o (.bool false)) tz (0, 0)) := by
  refine (intSetInt64_walk b o k zneg cz tz w hk hb h0 h1).mono ?_
  rintro e w' ⟨he, v', w1, hv, hkp, hs, rfl⟩
  have h2 := two_stores hkp hb (o + 1) o v' (.bool false)
  exact ⟨he, v', hv.store (hkp.heap hb (by simp)) ht (((Kept.refl [b] w1).setCell ⟨b, o + 1, none⟩ v' (.inl (by simp))).setCell ⟨b, o, none⟩ (.bool false) (.inl (by simp))), hs, h2.1, h2.2⟩

/-- BigInt.SetInt64 of a number not below 0, onto a nil one. -/
theorem bigSetInt64_any (b o k : Nat) (zneg zm : Bool) (cz : Array Value) (tz : TypeId) (w : World) (hk : k < 9223372036854775808)
    (hb : w.heap[b]? = some (.cells cz tz (0, 0))) (h0 : cz[o]? = some (.bool zneg)) (h1 : cz[o + 1]? = some (.slice none 0 0)) (h2 : cz[o + 2]? = some (.bool zm)) (ht : tz ≠ 88) :
    Calls Tryz.prog 66 #[.pointer (some ⟨b, o, none⟩), .int .i64 k] w fun e w' => e = .returned (.pointer (some ⟨b, o, none⟩)) ∧ ∃ v', NumV w.heap.size w' v' k ∧ (k ≠ 0 → v' = .slice (some ⟨w.heap.size, 0, none⟩) 1 1) ∧ Kept [b] w w' ∧
      w'.heap[b]? = some (.cells (((cz.setIfInBounds (o + 2) (.bool false)).setIfInBounds (o + 1) v').setIfInBounds o (.bool false)) tz (0, 0)) := by
  have z2 := (cell_of_heap hb (o + 2)).trans h2
  have fz2 := frozen_of_heap hb (o + 2)
  have hb1 := heap_setCell_self hb (o + 2) (.bool false)
  have C0 : (cz.setIfInBounds (o + 2) (.bool false))[o]? = some (.bool zneg) := get_set_ne (by omega) h0
  have C1 : (cz.setIfInBounds (o + 2) (.bool false))[o + 1]? = some (.slice none 0 0) := get_set_ne (by omega) h1
  have hk1 := hid ((Kept.refl [b] w).setCell ⟨b, o + 2, none⟩ (.bool false) (.inl (by simp)))
  have H := hid (intSetInt64_any b o k zneg _ tz _ hk hb1 C0 C1 ht)
  clear hb h0 h1 h2 hb1 C0 C1
  go_enter Tryz.func66, Tryz.ntmps66
  go_wp2_with fail
  refine (H.out).mono ?_
  rintro e w1 ⟨rfl, v', hv, hs, hkp, hh⟩
  have HV := hid hv
  have HS := hid hs
  have HH := hid hh
  have HK := hid hkp
  clear hv hs hh hkp
  go_wp2
  go_ret
  exact ⟨rfl, v', by simpa using HV.out, by simpa using HS.out, hk1.out.trans HK.out (by simp) (by simp), HH.out⟩

/-- apd.NewBigInt of a number not below 0. -/
theorem newBigInt_any (k : Nat) (w : World) (hk : k < 9223372036854775808) :
    Calls Tryz.prog 173 #[.int .i64 k] w fun e w' => ∃ v', e = .returned (.pointer (some ⟨w.heap.size, 0, none⟩)) ∧ NumV (w.heap.size + 1) w' v' k ∧ (k ≠ 0 → v' = .slice (some ⟨w.heap.size + 1, 0, none⟩) 1 1) ∧ Kept [] w w' ∧
      w'.heap[w.heap.size]? = some (.cells #[.bool false, v', .bool false] 67 (0, 0)) := by
  have h1 := heap_alloc_new w (.cells #[.bool false, .slice none 0 0, .bool false] 67)
  have H := hid (intSetInt64_any w.heap.size 0 k false _ 67 _ hk h1 rfl rfl (by decide))
  have hk1 := hid ((Kept.refl [] w).alloc (.cells #[.bool false, .slice none 0 0, .bool false] 67))
  clear h1
  go_enter Tryz.func173, Tryz.ntmps173
  go_wp2_with fail
  refine (H.out).mono ?_
  rintro e w1 ⟨rfl, v', hv, hs, hkp, hh⟩
  have HV := hid hv
  have HS := hid hs
  have HH := hid hh
  have HK := hid hkp
  clear hv hs hh hkp
  go_wp2
  go_ret
  refine ⟨v', rfl, by simpa using HV.out, by simpa using HS.out, hk1.out.trans HK.out (by simp) (by simp), by simpa using HH.out⟩
end

section
open Go.RowKit

/-- The cells of a list of bytes. -/
def bytesF (l : List UInt8) : Nat → Value := fun j => .int .u8 ((l.getD j 0).toNat : Nat)

/-- v is a slice of the bytes l at the head of a row of its own. -/
def BS (B : Nat) (w : World) (v : Value) (l : List UInt8) : Prop := SV (fun _ => True) B w v l.length (bytesF l)

theorem bytesF_append (l l' : List UInt8) (j : Nat) : appF l.length (bytesF l) (bytesF l') j = bytesF (l ++ l') j := by
  unfold appF bytesF
  split
  · rename_i h
    rw [List.getD_eq_getElem?_getD, List.getD_eq_getElem?_getD, List.getElem?_append_left h]
  · rename_i h
    rw [List.getD_eq_getElem?_getD, List.getD_eq_getElem?_getD, List.getElem?_append_right (by omega)]

theorem BS.ofApp {B : Nat} {w : World} {v : Value} {l l' : List UInt8} (h : SV (fun _ => True) B w v (l.length + l'.length) (appF l.length (bytesF l) (bytesF l'))) : BS B w v (l ++ l') := by
  unfold BS
  rw [List.length_append]
  exact h.congr fun j _ => bytesF_append l l' j

theorem digF_bytes (V D j : Nat) (hj : j < D) : digF V D j = bytesF (digL V D) j := by
  unfold digF bytesF digL
  rw [List.getD_eq_getElem?_getD, List.getElem?_map, List.getElem?_range hj]
  simp only [Option.map_some, Option.getD_some]
  rw [digB_nat]

theorem bytesF_one (l : List UInt8) (j : Nat) : (bytesF l j).oneCell' = true := rfl

theorem Src.oneB {P : Program} (w : World) (t e e' : TypeId) (b : UInt8) (z : Int) (hz : (b.toNat : Int) = z) (hk : P.underlying t = some (.slice e)) :
    Src P 1 t (.slice (some ⟨w.heap.size, 0, none⟩) 1 1) 1 ((List.range 1).map (bytesF [b])) (w.alloc (.cells #[.int .u8 z] e')) := by
  subst hz
  exact Src.one w t e e' (.int .u8 (b.toNat : Nat)) hk rfl

theorem byteCells_bytesF (l : List UInt8) : byteCells ⟨l.toArray⟩ = (List.range l.length).map (bytesF l) := by
  unfold byteCells
  refine List.ext_getElem? fun j => ?_
  by_cases hj : j < l.length
  · simp [hj, bytesF]
  · simp [hj]

theorem Src.strB {P : Program} (w : World) (t : TypeId) (l : List UInt8) (hk : P.underlying t = some .string) : Src P 1 t (.string ⟨l.toArray⟩) l.length ((List.range l.length).map (bytesF l)) w := by
  have := Src.ofString (P := P) (w := w) hk ⟨l.toArray⟩
  rw [byteCells_bytesF] at this
  exact this

theorem BS.src {P : Program} {B : Nat} {w : World} {v : Value} {l : List UInt8} (t e : TypeId) (hk : P.underlying t = some (.slice e)) (h : BS B w v l) : Src P 1 t v l.length ((List.range l.length).map (bytesF l)) w :=
  SV.src t e hk h fun _ _ => rfl

/-- What a piece of such a slice yields. -/
theorem Row.srcB {P : Program} {w : World} {g c : Nat} {e' : TypeId} {l : List UInt8} (t e : TypeId) (hk : P.underlying t = some (.slice e)) (h : Row w g e' c (bytesF l) l.length) (off m cap : Nat) (hm : off + m ≤ l.length) :
    Src P 1 t (.slice (some ⟨g, off, none⟩) m cap) ((l.drop off).take m).length ((List.range ((l.drop off).take m).length).map (bytesF ((l.drop off).take m))) w := by
  have hlen : ((l.drop off).take m).length = m := by simp; omega
  have := h.src (P := P) t e hk off m cap hm fun _ _ => rfl
  rw [hlen]
  have e : (List.range m).map (fun j => bytesF l (off + j)) = (List.range m).map (bytesF ((l.drop off).take m)) := by
    refine List.map_congr_left fun j hj => ?_
    have hj := List.mem_range.1 hj
    unfold bytesF
    rw [List.getD_eq_getElem?_getD, List.getD_eq_getElem?_getD, List.getElem?_take_of_lt hj, List.getElem?_drop]
  rwa [e] at this

theorem run_convert_bs {B : Nat} {w : World} {v : Value} {l : List UInt8} (h : BS B w v l) (hl : l ≠ []) : (convert 40 9 v).run Tryz.prog w = .ok (.string ⟨l.toArray⟩) w := by
  have hn : 0 < l.length := List.length_pos_iff.2 hl
  have := run_convert_sv (fun j => (l.getD j 0).toNat) h hn fun j hj => ⟨UInt8.toNat_lt _, rfl⟩
  rw [this]
  unfold strC
  congr 3
  refine congrArg _ (List.ext_getElem? fun j => ?_)
  by_cases hj : j < l.length
  · simp [hj, UInt8.ofNat_toNat]
  · simp [hj]

/-- What an appending of l' leaves. -/
def AddL (B : Nat) (w : World) (v : Value) (l l' : List UInt8) (e : Ending) (w' : World) : Prop :=
  ∃ v', e = .returned v' ∧ BS B w' v' (l ++ l') ∧ Kept v.ownBlock.toList w w' ∧ (∀ k, v'.ownBlock = some k → v.ownBlock = some k ∨ w.heap.size ≤ k)

/-- An appending behind an appending. -/
theorem AddL.next {w w1 w2 : World} {v v1 v2 : Value} (k1 : Kept v.ownBlock.toList w w1) (o1 : ∀ k, v1.ownBlock = some k → v.ownBlock = some k ∨ w.heap.size ≤ k)
    (k2 : Kept v1.ownBlock.toList w1 w2) (o2 : ∀ k, v2.ownBlock = some k → v1.ownBlock = some k ∨ w1.heap.size ≤ k) :
    Kept v.ownBlock.toList w w2 ∧ ∀ k, v2.ownBlock = some k → v.ownBlock = some k ∨ w.heap.size ≤ k := by
  refine ⟨k1.trans k2 (fun y hy => .inl hy) fun y hy => ?_, fun k hk => ?_⟩
  · rcases o1 y (by simpa using hy) with h | h
    · left; simpa using h
    · exact .inr h
  · rcases o2 k hk with h | h
    · exact o1 k h
    · right; have := k1.size; omega

theorem wpList_append_bs {P : Program} (w : World) {ops : Array Oper} {rest : List Oper} {o : Oper} {a : Act} {Q : Exit → Act → World → Prop}
    (hg : o.guard = none) (s x : Operand) (t tx : TypeId) (hop : o.op = Op.call { callee := Callee.builtin Builtin.append, args := #[s, x], argTypes := #[t, tx] })
    (e : TypeId) (i : TypeInfo) (z : Value) (h1 : P.underlying t = some (.slice e)) (h2 : P.info? e = some i) (h3 : i.zero = some z) (h4 : i.size = 1) (h5 : i.bytes = 1) (h6 : z.cells.size = 1)
    (B : Nat) (v xv : Value) (l l' : List UInt8) (hsv : a.eval s = v) (hv : BS B w v l) (hxv : a.eval x = xv) (hs : Src P 1 tx xv l'.length ((List.range l'.length).map (bytesF l')) w)
    (hb : l.length + l'.length ≤ 1000000) (hB : B ≤ w.heap.size)
    (hK : ∀ v' w', BS B w' v' (l ++ l') → Kept v.ownBlock.toList w w' → Hid (∀ k, v'.ownBlock = some k → v.ownBlock = some k ∨ w.heap.size ≤ k) → wpList P ops Q rest (a.put o.dst v') w') :
    wpList P ops Q (o :: rest) a w :=
  wpList_append_sv w hg s x t tx hop e i z 1 h1 h2 h3 h4 h5 h6 (fun _ => True) trivial B l.length l'.length v xv (bytesF l) (bytesF l') hsv hv hxv hs (by omega) (by omega) hB fun v' w' g1 g2 g3 => hK v' w' (BS.ofApp g1) g2 g3

theorem step_append_bs {P : Program} {ops : Array Oper} {o : Oper} {a : Act} {w : World} {K : Act → World → Prop} {Q : Exit → Act → World → Prop} {E : Prop}
    (hg : o.guard = none) (s x : Operand) (t tx : TypeId) (hop : o.op = Op.call { callee := Callee.builtin Builtin.append, args := #[s, x], argTypes := #[t, tx] })
    (e : TypeId) (i : TypeInfo) (z : Value) (h1 : P.underlying t = some (.slice e)) (h2 : P.info? e = some i) (h3 : i.zero = some z) (h4 : i.size = 1) (h5 : i.bytes = 1) (h6 : z.cells.size = 1)
    (B : Nat) (v xv : Value) (l l' : List UInt8) (hsv : a.eval s = v) (hv : BS B w v l) (hxv : a.eval x = xv) (hs : Src P 1 tx xv l'.length ((List.range l'.length).map (bytesF l')) w)
    (hb : l.length + l'.length ≤ 1000000) (hB : B ≤ w.heap.size)
    (hK : ∀ v' w', BS B w' v' (l ++ l') → Kept v.ownBlock.toList w w' → Hid (∀ k, v'.ownBlock = some k → v.ownBlock = some k ∨ w.heap.size ≤ k) → K (a.put o.dst v') w') :
    if Region.wanted o (yielded ops a.tmps) = true then Oper.wp P o a w K Q else E :=
  step_append_sv hg s x t tx hop e i z 1 h1 h2 h3 h4 h5 h6 (fun _ => True) trivial B l.length l'.length v xv (bytesF l) (bytesF l') hsv hv hxv hs (by omega) (by omega) hB fun v' w' g1 g2 g3 => hK v' w' (BS.ofApp g1) g2 g3

theorem BS.alloc {B : Nat} {w : World} {v : Value} {l : List UInt8} (h : BS B w v l) (o : Obj) : BS B (w.alloc o) v l := SV.alloc h o
theorem BS.drew {B : Nat} {w : World} {v : Value} {l : List UInt8} (h : BS B w v l) : BS B w.drew v l := h
theorem BS.kept {B : Nat} {w w' : World} {v : Value} {l : List UInt8} {bs : List Nat} (h : BS B w v l) (k : Kept bs w w') (hb : ∀ b ∈ bs, v.ownBlock ≠ some b) : BS B w' v l := SV.kept h k hb
theorem BS.row {B : Nat} {w : World} {v : Value} {l : List UInt8} (h : BS B w v l) (hl : l ≠ []) : ∃ g c t, v = .slice (some ⟨g, 0, none⟩) l.length c ∧ B ≤ g ∧ l.length ≤ c ∧ c ≤ 9223372036854775807 ∧ Row w g t c (bytesF l) l.length := by
  rcases h with ⟨_, h⟩ | ⟨g, c, t, h1, h2, h3, h4, _, h6⟩
  · exact absurd (List.length_eq_zero_iff.1 h) hl
  · exact ⟨g, c, t, h1, h2, h3, h4, h6⟩
theorem BS.own_ge {B k : Nat} {w : World} {v : Value} {l : List UInt8} (h : BS B w v l) (hk : v.ownBlock = some k) : B ≤ k := by
  rcases h with ⟨rfl, _⟩ | ⟨g, c, t, rfl, h1, _, _, _, h6⟩
  · simp [Value.ownBlock] at hk
  · simp [Value.ownBlock] at hk; subst hk; exact h1
theorem BS.own_lt {B k : Nat} {w : World} {v : Value} {l : List UInt8} (h : BS B w v l) (hk : v.ownBlock = some k) : k < w.heap.size := SV.own_lt h hk
end

section
open Go.RowKit

theorem call_add64 (x y c : Nat) (hc : c ≤ 1) (w : World) :
    Sem.run Tryz.prog (callFunc 320 #[Value.int .u64 x, Value.int .u64 y, Value.int .u64 c]) w = .ok (.value (.tuple #[.int .u64 ((x + y + c) % 18446744073709551616 : Nat), .int .u64 ((x + y + c) / 18446744073709551616 : Nat)])) w := by
  rw [run_callFunc_extern (e := add64Entry) Tryz.func320 (by kernel_rfl) (by kernel_rfl) (by kernel_rfl) (by kernel_rfl), run_add64 (x : Int) (y : Int) (c : Int) (by omega) (by omega) (by omega) (by omega) w]
  rfl

def subEntry : Array Value → Sem Value := fun args => do
  let (x, y, b) ← Extern.MathBitsCarry.three "Sub64" args
  pure (Extern.MathBitsCarry.pair ((x + Extern.MathBitsCarry.m64 - y - b) % Extern.MathBitsCarry.m64) (if x < y + b then 1 else 0))

theorem call_sub64 (x y b : Nat) (hb : b ≤ 1) (w : World) :
    Sem.run Tryz.prog (callFunc 322 #[Value.int .u64 x, Value.int .u64 y, Value.int .u64 b]) w = .ok (.value (.tuple #[.int .u64 ((x + 18446744073709551616 - y - b) % 18446744073709551616 : Nat), .int .u64 ((if x < y + b then 1 else 0 : Nat) : Int)])) w := by
  rw [run_callFunc_extern (e := subEntry) Tryz.func322 (by kernel_rfl) (by kernel_rfl) (by kernel_rfl) (by kernel_rfl)]
  have key : (subEntry #[.int .u64 x, .int .u64 y, .int .u64 b]).run Tryz.prog w = .ok (Extern.MathBitsCarry.pair ((x + Extern.MathBitsCarry.m64 - y - b) % Extern.MathBitsCarry.m64) (if x < y + b then 1 else 0)) w := by
    have : b = 0 ∨ b = 1 := by omega
    rcases this with rfl | rfl <;> rfl
  rw [key]
  rfl

theorem bits_add (x y c : Nat) (hc : c ≤ 1) (w : World) :
    Calls Tryz.prog 288 #[.int .u64 x, .int .u64 y, .int .u64 c] w fun e w' => e = .returned (.tuple #[.int .u64 ((x + y + c) % 18446744073709551616 : Nat), .int .u64 ((x + y + c) / 18446744073709551616 : Nat)]) ∧ w' = w := by
  have h := call_add64 x y c hc
  generalize (x + y + c) % 18446744073709551616 = A at *
  generalize (x + y + c) / 18446744073709551616 = B at *
  go_enter Tryz.func288, Tryz.ntmps288
  go_wp2
  go_ret2
  exact ⟨rfl, rfl⟩

theorem bits_sub (x y c : Nat) (hc : c ≤ 1) (w : World) :
    Calls Tryz.prog 290 #[.int .u64 x, .int .u64 y, .int .u64 c] w fun e w' => e = .returned (.tuple #[.int .u64 ((x + 18446744073709551616 - y - c) % 18446744073709551616 : Nat), .int .u64 ((if x < y + c then 1 else 0 : Nat) : Int)]) ∧ w' = w := by
  have h := call_sub64 x y c hc
  generalize (x + 18446744073709551616 - y - c) % 18446744073709551616 = A at *
  generalize (if x < y + c then 1 else 0 : Nat) = B at *
  go_enter Tryz.func290, Tryz.ntmps290
  go_wp2
  go_ret2
  exact ⟨rfl, rfl⟩

theorem bits_mul (x y : Nat) (hx : x < 18446744073709551616) (hy : y < 18446744073709551616) (w : World) :
    Calls Tryz.prog 263 #[.int .u64 x, .int .u64 y] w fun e w' => e = .returned (.tuple #[.int .u64 (x * y / 18446744073709551616 : Nat), .int .u64 (x * y % 18446744073709551616 : Nat)]) ∧ w' = w := by
  have h := hid (Tryz.bits_Mul64 x y hx hy w)
  generalize x * y / 18446744073709551616 = A at *
  generalize x * y % 18446744073709551616 = B at *
  go_enter Tryz.func263, Tryz.ntmps263
  go_wp2_with fail
  refine (h.out).mono ?_
  rintro e w' ⟨rfl, rfl⟩
  go_wp2
  go_ret2
  exact ⟨rfl, rfl⟩
theorem nlz_ten19 (w : World) : Calls Tryz.prog 261 #[.int .u64 10000000000000000000] w fun e w' => e = .returned (.int .u64 0) ∧ w' = w := by
  have hl : Lib.len8 138 = 8 := by kernel_rfl
  go_enter Tryz.func261, Tryz.ntmps261
  go_wp2
  go_ret
  exact ⟨rfl, rfl⟩

theorem lz64_ten19 (w : World) : Calls Tryz.prog 326 #[.int .u64 10000000000000000000] w fun e w' => e = .returned (.int .i64 0) ∧ w' = w := by
  have hl : Lib.len8 138 = 8 := by kernel_rfl
  go_enter Tryz.func326, Tryz.ntmps326
  go_wp2
  go_ret
  exact ⟨rfl, rfl⟩

set_option maxHeartbeats 2000000 in
theorem bitsDiv64_rec (w : World) : Calls Tryz.prog 316 #[.int .u64 8446744073709551615, .int .u64 18446744073709551615, .int .u64 10000000000000000000] w fun e w' => e = .returned (.tuple #[.int .u64 15581492618384294730, .int .u64 3374607431768211455]) ∧ w' = w := by
  go_enter Tryz.func316, Tryz.ntmps316
  go_wp2_with (go_at_call 326; refine (lz64_ten19 _).mono ?_; rintro e w' ⟨rfl, rfl⟩)
  have hb1 : bits .and .u64 10000000000000000000 4294967295 = 2313682944 := by kernel_rfl
  have hb2 : bits .and .u64 18446744073709551615 4294967295 = 4294967295 := by kernel_rfl
  have hb3 : bits .or .u64 8446744073709551615 0 = 8446744073709551615 := by kernel_rfl
  have w1 : IntKind.u64.wrap 36278489554264337589248983040 = 8509551491621584896 := by decide
  have w2 : IntKind.u64.wrap 36278489550000000000000000000 = 4245213902372601856 := by decide
  have w3 : IntKind.u64.wrap 18315190503374607427473244160 = 12216013984947503104 := by decide
  have w4 : IntKind.u64.wrap 18315190500000000000000000000 = 8841406557474258944 := by decide
  go_rounds 2
  go_wp2
  go_rounds 1
  go_wp2
  go_ret2
  exact ⟨rfl, rfl⟩

theorem bitsDiv_rec (w : World) : Calls Tryz.prog 275 #[.int .u64 8446744073709551615, .int .u64 18446744073709551615, .int .u64 10000000000000000000] w fun e w' => e = .returned (.tuple #[.int .u64 15581492618384294730, .int .u64 3374607431768211455]) ∧ w' = w := by
  go_enter Tryz.func275, Tryz.ntmps275
  go_wp2_with fail
  refine (bitsDiv64_rec w).mono ?_
  rintro e w' ⟨rfl, rfl⟩
  go_wp2
  go_ret2
  exact ⟨rfl, rfl⟩

theorem reciprocal_ten19 (w : World) : Calls Tryz.prog 276 #[.int .u64 10000000000000000000] w fun e w' => e = .returned (.int .u64 15581492618384294730) ∧ w' = w := by
  go_enter Tryz.func276, Tryz.ntmps276
  go_wp2_with (first | (go_at_call 261; refine (nlz_ten19 _).mono ?_; rintro e w' ⟨rfl, rfl⟩) | (go_at_call 275; refine (bitsDiv_rec _).mono ?_; rintro e w' ⟨rfl, rfl⟩))
  go_ret
  exact ⟨rfl, rfl⟩
theorem divWW_math0 (x1 x0 s qq : Nat) (h1 : x1 < 10000000000000000000) (h0 : x0 < 18446744073709551616)
    (hs : s < 18446744073709551616) (hq : 18446744073709551616 * qq + s = 34028236692093846346 * x1 + x0) :
    10000000000000000000 * qq ≤ x1 * 18446744073709551616 + x0 ∧ x1 * 18446744073709551616 + x0 < 10000000000000000000 * qq + 28000000000000000000 := by
  constructor <;> omega
theorem divWW_math (x1 x0 A B C qq : Nat) (h1 : x1 < 10000000000000000000) (h0 : x0 < 18446744073709551616)
    (hA : 18446744073709551616 * A + B = 15581492618384294730 * x1) (_hB : B < 18446744073709551616) (hC : C = (B + x0) / 18446744073709551616) (hq : qq = A + x1 + C) :
    10000000000000000000 * qq ≤ x1 * 18446744073709551616 + x0 ∧ x1 * 18446744073709551616 + x0 < 10000000000000000000 * qq + 28000000000000000000 := by
  refine divWW_math0 x1 x0 ((B + x0) % 18446744073709551616) qq h1 h0 (Nat.mod_lt _ (by omega)) ?_
  have := Nat.div_add_mod (B + x0) 18446744073709551616
  rw [← hC] at this
  omega
end

section
open Go.RowKit

theorem mul_le_BB (x y : Nat) (hx : x < 18446744073709551616) (hy : y < 18446744073709551616) : x * y ≤ 340282366920938463426481119284349108225 :=
  Nat.le_trans (Nat.mul_le_mul (Nat.le_of_lt_succ hx) (Nat.le_of_lt_succ hy)) (by decide)

theorem split_BB (P : Nat) (h : P ≤ 340282366920938463426481119284349108225) : P / 18446744073709551616 * 18446744073709551616 + P % 18446744073709551616 = P ∧ P / 18446744073709551616 < 18446744073709551616 ∧ P % 18446744073709551616 < 18446744073709551616 := by
  omega

theorem mulWW_any (x y : Nat) (hx : x < 18446744073709551616) (hy : y < 18446744073709551616) (w : World) :
    Calls Tryz.prog 222 #[.int .u64 x, .int .u64 y] w fun e w' => ∃ z1 z0 : Nat, z1 * 18446744073709551616 + z0 = x * y ∧ z1 < 18446744073709551616 ∧ z0 < 18446744073709551616 ∧ e = .returned (.tuple #[.int .u64 z1, .int .u64 z0]) ∧ w' = w := by
  have hxy := mul_le_BB x y hx hy
  obtain ⟨z1, z0, h1, h2, h3, hm⟩ : ∃ z1 z0 : Nat, z1 * 18446744073709551616 + z0 = x * y ∧ z1 < 18446744073709551616 ∧ z0 < 18446744073709551616 ∧ ∀ w, Calls Tryz.prog 263 #[.int .u64 x, .int .u64 y] w fun e w' => e = .returned (.tuple #[.int .u64 z1, .int .u64 z0]) ∧ w' = w :=
    ⟨x * y / 18446744073709551616, x * y % 18446744073709551616, (split_BB _ hxy).1, (split_BB _ hxy).2.1, (split_BB _ hxy).2.2, bits_mul x y hx hy⟩
  have HM := hid hm
  have H1 := hid h1
  clear hm hxy h1
  go_enter Tryz.func222, Tryz.ntmps222
  go_wp2_with fail
  refine (HM.out _).mono ?_
  rintro e w' ⟨rfl, rfl⟩
  go_wp2
  go_ret2
  exact ⟨z1, z0, H1.out, h2, h3, rfl, rfl⟩

theorem split_1 (lo c : Nat) (h : lo < 18446744073709551616) (hc : c < 18446744073709551616) : (lo + c + 0) / 18446744073709551616 * 18446744073709551616 + (lo + c + 0) % 18446744073709551616 = lo + c ∧ (lo + c + 0) % 18446744073709551616 < 18446744073709551616 ∧ (lo + c + 0) / 18446744073709551616 ≤ 1 := by
  omega

theorem mulAdd_math (P c hi lo s cc : Nat) (h1 : hi * 18446744073709551616 + lo = P) (h4 : cc * 18446744073709551616 + s = lo + c) (hP : P ≤ 340282366920938463426481119284349108225) (hc : c < 18446744073709551616) :
    (hi + cc) * 18446744073709551616 + s = P + c ∧ hi + cc < 18446744073709551616 := by
  omega

theorem mulAddWWW_any (x y c : Nat) (hx : x < 18446744073709551616) (hy : y < 18446744073709551616) (hc : c < 18446744073709551616) (w : World) :
    Calls Tryz.prog 271 #[.int .u64 x, .int .u64 y, .int .u64 c] w fun e w' => ∃ z1 z0 : Nat, z1 * 18446744073709551616 + z0 = x * y + c ∧ z1 < 18446744073709551616 ∧ z0 < 18446744073709551616 ∧ e = .returned (.tuple #[.int .u64 z1, .int .u64 z0]) ∧ w' = w := by
  have hxy := mul_le_BB x y hx hy
  obtain ⟨hi, lo, h1, h2, h3, hm⟩ : ∃ z1 z0 : Nat, z1 * 18446744073709551616 + z0 = x * y ∧ z1 < 18446744073709551616 ∧ z0 < 18446744073709551616 ∧ ∀ w, Calls Tryz.prog 263 #[.int .u64 x, .int .u64 y] w fun e w' => e = .returned (.tuple #[.int .u64 z1, .int .u64 z0]) ∧ w' = w :=
    ⟨x * y / 18446744073709551616, x * y % 18446744073709551616, (split_BB _ hxy).1, (split_BB _ hxy).2.1, (split_BB _ hxy).2.2, bits_mul x y hx hy⟩
  obtain ⟨s, cc, h4, h5, h6, ha⟩ : ∃ s cc : Nat, cc * 18446744073709551616 + s = lo + c ∧ s < 18446744073709551616 ∧ cc ≤ 1 ∧ ∀ w, Calls Tryz.prog 288 #[.int .u64 lo, .int .u64 c, .int .u64 0] w fun e w' => e = .returned (.tuple #[.int .u64 s, .int .u64 cc]) ∧ w' = w :=
    ⟨(lo + c + 0) % 18446744073709551616, (lo + c + 0) / 18446744073709551616, (split_1 lo c h3 hc).1, (split_1 lo c h3 hc).2.1, (split_1 lo c h3 hc).2.2, bits_add lo c 0 (Nat.zero_le _)⟩
  obtain ⟨hsum, hb⟩ := mulAdd_math _ c hi lo s cc h1 h4 hxy hc
  have HM := hid hm
  have HA := hid ha
  have HS := hid hsum
  clear hm ha hxy hsum h1 h4
  go_enter Tryz.func271, Tryz.ntmps271
  go_wp2_with fail
  refine (HM.out _).mono ?_
  rintro e w' ⟨rfl, rfl⟩
  go_wp2_with fail
  refine (HA.out _).mono ?_
  rintro e w' ⟨rfl, rfl⟩
  go_wp2
  go_ret2
  exact ⟨hi + cc, s, HS.out, hb, h5, by simp, rfl⟩
end

section
open Go.RowKit

theorem cell_set_ne {w : World} {p q : Addr} {v : Value} (h : p ≠ q) : (w.setCell p v).cell? q = w.cell? q := World.cell?_setCell_other w _ _ _ h

/-- A function of the places, turned at one. -/
def upd (z : Nat → Nat) (k v : Nat) : Nat → Nat := fun j => if j = k then v else z j
theorem upd_self (z : Nat → Nat) (k v : Nat) : upd z k v k = v := by simp [upd]
theorem upd_ne (z : Nat → Nat) (k v j : Nat) (h : j ≠ k) : upd z k v j = z j := by simp [upd, h]
theorem val_upd (z : Nat → Nat) (k v : Nat) : val (upd z k v) (k + 1) = val z k + v * 2 ^ (64 * k) := by
  rw [val_succ, upd_self, val_congr fun j hj => upd_ne z k v j (by omega)]

theorem mulAddVWW_g_any (gz gx m cz cx capz y r : Nat) (x : Nat → Nat) (f : Nat → Value) (w : World) (hm : m ≤ 900000) (hcz : m ≤ cz) (hcz' : cz ≤ 9223372036854775807) (hcx : m ≤ cx) (hcx' : cx ≤ 9223372036854775807) (hcap : m ≤ capz)
    (hz : Row w gz 88 capz f 0) (hxc : ∀ j, j < m → w.cell? ⟨gx, j, none⟩ = some (.int .u64 (x j : Nat))) (hx : ∀ j, j < m → x j < 18446744073709551616) (hy : y < 18446744073709551616) (hr : r < 18446744073709551616) :
    Calls Tryz.prog 227 #[.slice (some ⟨gz, 0, none⟩) m cz, .slice (some ⟨gx, 0, none⟩) m cx, .int .u64 y, .int .u64 r] w fun e w' =>
      ∃ (c : Nat) (z : Nat → Nat), e = .returned (.int .u64 c) ∧ c < 18446744073709551616 ∧ WRow w' gz capz z m ∧ (∀ j, j < m → z j < 18446744073709551616) ∧ val z m + c * 2 ^ (64 * m) = val x m * y + r ∧ Kept [gz] w w' := by
  have HXC := hid hxc
  have HX := hid hx
  have HZ := hid hz
  clear hxc hx hz
  go_enter Tryz.func227, Tryz.ntmps227
  go_wp2
  go_loopw [8, 19] (fun c i wr => ∃ (k c' : Nat) (z : Nat → Nat), c = .int .u64 c' ∧ c' < 18446744073709551616 ∧ i = .int .i64 k ∧ k ≤ m ∧ Hid (WRow wr gz capz z k) ∧ Hid (∀ j, k ≤ j → j < m → wr.cell? ⟨gx, j, none⟩ = some (.int .u64 (x j : Nat))) ∧
      Hid (∀ j, j < k → z j < 18446744073709551616) ∧ Hid (val z k + c' * 2 ^ (64 * k) = val x k * y + r) ∧ Hid (Kept [gz] w wr)) (fun _ i _ => m - (intOf i).toNat)
  case atStart => exact ⟨0, r, fun _ => 0, rfl, hr, rfl, Nat.zero_le _, HZ.out.congr (Nat.le_refl _) (fun j hj => by omega), fun j _ hj => HXC.out j hj, fun j hj => by omega, by simp [Hid, val], Kept.refl _ _⟩
  case round =>
    obtain ⟨k, c', z, rfl, hc', rfl, hk, HR, HC, HB, HV, HK⟩ := hrel
    by_cases hlt : k < m
    · have hck := HC.out k (Nat.le_refl _) hlt
      have hxk := HX.out k hlt
      obtain ⟨v0, hz0⟩ := HR.out.has (j := k) (by omega)
      have hf0 := HR.out.free k
      go_wp2_with fail
      refine (mulAddWWW_any (x k) y c' hxk hy hc' wr).mono ?_
      rintro e w1 ⟨z1, z0, h1, h2, h3, rfl, rfl⟩
      have H1 := hid h1
      clear h1
      go_wp2
      have hrow := hid (HR.out.store k (.int .u64 (z0 : Nat)) (f' := fun j => .int .u64 (upd z k z0 j : Nat)) (m := k + 1) (by omega) (fun i hi => by omega) (fun _ => by rw [upd_self]) (fun i _ hi => by rw [upd_ne _ _ _ _ hi]))
      have hkk := hid (HK.out.setCell ⟨gz, k, none⟩ (.int .u64 (z0 : Nat)) (.inl (by simp)))
      go_roundw
      case rel =>
        refine ⟨k + 1, z1, upd z k z0, rfl, h2, by go_num, by omega, hrow, ?_, ?_, ?_, hkk⟩
        · intro j h4 h5
          refine Eq.trans (cell_set_ne fun h => ?_) (HC.out j (by omega) h5)
          have := congrArg Addr.off h
          simp only at this
          omega
        · intro j hj
          by_cases h : j = k
          · subst h; rw [upd_self]; exact h3
          · rw [upd_ne _ _ _ _ h]; exact HB.out j (by omega)
        · show val (upd z k z0) (k + 1) + z1 * 2 ^ (64 * (k + 1)) = val x (k + 1) * y + r
          rw [val_upd]
          exact mulAdd_step HV.out H1.out
      case measure => simp [intOf]; omega
    · obtain rfl : k = m := by omega
      go_wp2
      go_ret
      exact ⟨c', z, rfl, hc', HR.out, HB.out, HV.out, HK.out⟩

theorem mulAddVWW_any (gz gx m cz cx capz y r : Nat) (x : Nat → Nat) (f : Nat → Value) (w : World) (hm : m ≤ 900000) (hcz : m ≤ cz) (hcz' : cz ≤ 9223372036854775807) (hcx : m ≤ cx) (hcx' : cx ≤ 9223372036854775807) (hcap : m ≤ capz)
    (hz : Row w gz 88 capz f 0) (hxc : ∀ j, j < m → w.cell? ⟨gx, j, none⟩ = some (.int .u64 (x j : Nat))) (hx : ∀ j, j < m → x j < 18446744073709551616) (hy : y < 18446744073709551616) (hr : r < 18446744073709551616) :
    Calls Tryz.prog 187 #[.slice (some ⟨gz, 0, none⟩) m cz, .slice (some ⟨gx, 0, none⟩) m cx, .int .u64 y, .int .u64 r] w fun e w' =>
      ∃ (c : Nat) (z : Nat → Nat), e = .returned (.int .u64 c) ∧ c < 18446744073709551616 ∧ WRow w' gz capz z m ∧ (∀ j, j < m → z j < 18446744073709551616) ∧ val z m + c * 2 ^ (64 * m) = val x m * y + r ∧ Kept [gz] w w' := by
  have H := hid (mulAddVWW_g_any gz gx m cz cx capz y r x f w hm hcz hcz' hcx hcx' hcap hz hxc hx hy hr)
  clear hz hxc hx
  go_enter Tryz.func187, Tryz.ntmps187
  go_wp2_with fail
  refine (H.out).mono ?_
  rintro e w' ⟨c, z, rfl, h1, h2, h3, h4, h5⟩
  have H2 := hid h2
  have H3 := hid h3
  have H4 := hid h4
  clear h2 h3 h4
  go_wp2
  go_ret
  exact ⟨c, z, rfl, h1, H2.out, H3.out, H4.out, h5⟩

/-- nat.make where there may be room: z's own row, or a new one. -/
theorem make_row (g l c n : Nat) (w : World) (hn : n ≤ 900000) (hc : c ≤ 9223372036854775807) (f : Nat → Value) (hR : Row w g 88 c f 0) (hn1 : 1 ≤ n) :
    Calls Tryz.prog 58 #[.slice (some ⟨g, 0, none⟩) l c, .int .i64 n] w fun e w' => ∃ g' c' f', (g' = g ∨ w.heap.size ≤ g') ∧ n ≤ c' ∧ c' ≤ 9223372036854775807 ∧ e = .returned (.slice (some ⟨g', 0, none⟩) n c') ∧ Row w' g' 88 c' f' 0 ∧ Kept [] w w' := by
  rcases Nat.lt_or_ge c n with h | h
  · refine (make_any (some ⟨g, 0, none⟩) l c n w h hn).mono ?_
    rintro e w' ⟨m, h1, h2, rfl, rfl⟩
    exact ⟨_, m, fun _ => .int .u64 0, .inr (Nat.le_refl _), h1, by omega, rfl, (Row.made w _ m 88).congr (Nat.zero_le _) (fun _ _ => rfl), (Kept.refl _ _).alloc _⟩
  · refine (make_reuse (some ⟨g, 0, none⟩) l c n w h hc).mono ?_
    rintro e w' ⟨rfl, rfl⟩
    exact ⟨g, c, f, .inl rfl, h, hc, rfl, hR, Kept.refl _ _⟩

set_option maxHeartbeats 1000000 in
/-- nat.mulAddWW of what has a word, in place or onto a nat of another row. -/
theorem mulAddWW_pos (gx n cx y r : Nat) (zv : Value) (x : Nat → Nat) (B : Nat) (w : World) (h0 : 0 < n) (hn : n ≤ 800000) (hcx : n ≤ cx) (hcx' : cx ≤ 9223372036854775807)
    (hR : WRow w gx cx x n) (hx : ∀ j, j < n → x j < 18446744073709551616) (hy : y < 18446744073709551616) (hy0 : y ≠ 0) (hr : r < 18446744073709551616)
    (hzv : zv = .slice none 0 0 ∨ ∃ gz lz cz f, zv = .slice (some ⟨gz, 0, none⟩) lz cz ∧ cz ≤ 9223372036854775807 ∧ B ≤ gz ∧ Row w gz 88 cz f 0) (hB : B ≤ w.heap.size) :
    Calls Tryz.prog 278 #[zv, .slice (some ⟨gx, 0, none⟩) n cx, .int .u64 y, .int .u64 r] w fun e w' => ∃ v', e = .returned v' ∧ NumV B w' v' (val x n * y + r) ∧ Kept zv.ownBlock.toList w w' ∧ (∀ k, v'.ownBlock = some k → zv.ownBlock = some k ∨ w.heap.size ≤ k) := by
  have hyz : ((y : Int) == 0) = false := by simp; omega
  have hnz : ((n : Int) == 0) = false := by simp; omega
  have HMK : Hid (Calls Tryz.prog 58 #[zv, .int .i64 (n + 1 : Nat)] w fun e w' => ∃ g' c' f', (zv.ownBlock = some g' ∨ w.heap.size ≤ g') ∧ n + 1 ≤ c' ∧ c' ≤ 9223372036854775807 ∧ e = .returned (.slice (some ⟨g', 0, none⟩) (n + 1 : Nat) c') ∧ Row w' g' 88 c' f' 0 ∧ Kept [] w w') := by
    rcases hzv with rfl | ⟨gz, lz, cz, f, rfl, h1, h2, h3⟩
    · refine (make_any none 0 0 (n + 1) w (by omega) (by omega)).mono ?_
      rintro e w' ⟨m, h1, h2, rfl, rfl⟩
      exact ⟨_, m, fun _ => .int .u64 0, .inr (Nat.le_refl _), h1, by omega, rfl, (Row.made w _ m 88).congr (Nat.zero_le _) (fun _ _ => rfl), (Kept.refl _ _).alloc _⟩
    · refine (make_row gz lz cz (n + 1) w (by omega) h1 f h3 (by omega)).mono ?_
      rintro e w' ⟨g', c', f', h4, h5, h6, h7, h8, h9⟩
      exact ⟨g', c', f', h4.imp (fun h => by rw [h]; rfl) id, h5, h6, h7, h8, h9⟩
  have HZB : Hid (∀ k, zv.ownBlock = some k → B ≤ k) := by
    rcases hzv with rfl | ⟨gz, lz, cz, f, rfl, h1, h2, h3⟩
    · intro k hk; simp [Value.ownBlock] at hk
    · intro k hk; simp [Value.ownBlock] at hk; omega
  have HR := hid hR
  have HX := hid hx
  clear hzv hR hx
  go_enter Tryz.func278, Tryz.ntmps278
  go_wp2_with fail
  refine (HMK.out).mono ?_
  rintro e w1 ⟨gz, cz, f, hgz, hcz, hcz', rfl, hz, hk1⟩
  have HZ := hid hz
  have HC1 : Hid (∀ j, j < n → w1.cell? ⟨gx, j, none⟩ = some (.int .u64 (x j : Nat))) := fun j hj => hk1.cellOf (HR.out.cell hj) (by simp)
  have HK1 := hid hk1
  clear hz hk1
  go_wp2_with fail
  refine (mulAddVWW_any gz gx n cz cx cz y r x f w1 (by omega) (by omega) (by omega) hcx hcx' (by omega) HZ.out HC1.out HX.out hy hr).mono ?_
  rintro e w2 ⟨c, z, rfl, hc, hz2, hzb, hv, hk2⟩
  obtain ⟨v0, hc0⟩ := hz2.has (j := n) (by omega)
  have hf0 := hz2.free n
  have HZ2 := hid (hz2.store n (.int .u64 (c : Nat)) (f' := fun j => .int .u64 (upd z n c j : Nat)) (m := n + 1) (by omega) (fun i hi => by omega) (fun _ => by rw [upd_self]) (fun i _ hi => by rw [upd_ne _ _ _ _ hi]))
  have HV : Hid (val (upd z n c) (n + 1) = val x n * y + r) := by
    unfold Hid
    rw [val_upd]; exact hv
  have HZB2 : Hid (∀ j, j < n + 1 → upd z n c j < 18446744073709551616) := fun j hj => by
    by_cases h : j = n
    · subst h; rw [upd_self]; exact hc
    · rw [upd_ne _ _ _ _ h]; exact hzb j (by omega)
  have HK2 := hid ((HK1.out.trans hk2 (ds := [gz]) (by simp) (by simp)).setCell ⟨gz, n, none⟩ (.int .u64 (c : Nat)) (.inl (by simp)))
  clear hz2 hzb hv hk2
  go_wp2_with fail
  refine (norm_any gz 0 (n + 1) cz (upd z n c) _ hcz hcz' (fun j hj => by rw [Nat.zero_add]; exact HZ2.out.cell hj)).mono ?_
  rintro e w3 ⟨k, hk, rfl, rfl⟩
  have HKN := hid hk
  clear hk
  go_wp2
  go_ret
  refine ⟨_, rfl, ⟨k, upd z n c, .inr ⟨gz, cz, rfl, ?_, by have := HKN.out.1; omega, hcz', HZ2.out.congr HKN.out.1 (fun _ _ => rfl)⟩, fun j hj => HZB2.out j (by have := HKN.out.1; omega), HKN.out.2.1, by rw [← val_norm HKN.out]; exact HV.out⟩, ?_, ?_⟩
  · rcases hgz with h | h
    · exact HZB.out gz h
    · omega
  · refine HK2.out.mono fun y hy => ?_
    obtain rfl : y = gz := by simpa using hy
    rcases hgz with h | h
    · left; simpa using h
    · exact .inr h
  · intro k' hk'
    simp [Value.ownBlock] at hk'
    subst hk'
    exact hgz
end

end Go.Proofs.YtofmickjbpkgbaaGreatDoor
