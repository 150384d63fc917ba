/- The way to the laws, part 3 of 6 (the engine of the walks; contracts of the functions that the laws reach), joined by a program of ours out of: R2 R3 R4 N9 N10 N11 N12 I1 I2 I3 I4 I5 T1 T2 R5 F1 F2 F3 F4 -/
import Derived.Test.YtfbbkngonohlkaaGreatDoorZ02
namespace Go.Proofs.YtfbbkngonohlkaaGreatDoor
open Go
set_option linter.unusedVariables false
set_option linter.unusedSimpArgs false
set_option exponentiation.threshold 20000
section
set_option maxRecDepth 100000
set_option pp.deepTerms false
variable {V : Addr}
theorem ten_le {n m : Nat} (h : n ≤ m) : 10 ^ n ≤ 10 ^ m := Nat.pow_le_pow_right (by decide) h
theorem ten19 : 10 ^ 19 = 10000000000000000000 := by decide
theorem maxPow_spec : Spec (cx V) 142 #[.int .u64 ((10 : Nat) : Int)] [] [] (fun _ : Unit => .tuple #[.int .u64 ((10 ^ 19 : Nat) : Int), .int .i64 ((19 : Nat) : Int)]) (fun _ => []) (fun _ => True) := by
  refine Spec.enter Tryz.func142 rfl Tryz.ntmps142 (by simp) [(0, .int .u64 ((10 : Nat) : Int))] (by simp) ?_
  intro X hR
  try simp only [apC, apN]
  refine G.seq (G.region (J.assign rfl rfl (J.assign rfl rfl (J.nil (G.seq (G.region (J.move rfl rfl (J.assign rfl rfl ?_))))))))
  refine J.assign rfl rfl (J.nil (G.seq (G.seq (G.region (J.move rfl rfl (J.quoU rfl rfl rfl (by omega) (by omega) (J.assign rfl rfl (J.nil ?_))))))))
  refine G.block ?_
  refine G.loopW (σ := { n : Nat // 1 ≤ n ∧ n ≤ 19 }) (fun n => [(0, .int .u64 ((10 : Nat) : Int)), (2, .int .u64 ((10 ^ n.1 : Nat) : Int)), (3, .int .i64 (n.1 : Nat)), (4, .int .u64 ((18446744073709551615 / 10 : Nat) : Int))]) (fun _ => []) (fun n => 19 - n.1) ⟨1, by decide, by decide⟩ (by repeat (first | exact SubSlots.nil _ | refine SubSlots.cons rfl ?_)) [] rfl (by decide) ?_
  rintro ⟨n, h1, h2⟩ ih
  simp only at ih ⊢
  have hb := ten_le h2
  rw [ten19] at hb
  refine G.seq (G.seq (G.region (J.move rfl rfl (J.move rfl rfl ?_))))
  (first | refine J.leN rfl rfl rfl ?_ | refine J.leZ rfl rfl rfl ?_)
  refine J.nil ?_
  by_cases h : n ≤ 18
  · have hb2 := ten_le h
    have e18 : 10 ^ 18 = 1000000000000000000 := by decide
    rw [e18] at hb2
    refine G.cT rfl (G.skip (G.block (G.seq (G.region (J.move rfl rfl (J.move rfl rfl (J.mulU rfl rfl rfl (by omega) (J.assign rfl rfl ?_))))))))
    refine J.nil (G.prune [0, 2, 3, 4] rfl (G.region (J.move rfl rfl ?_)))
    (first | refine J.addI rfl rfl rfl (by omega) ?_ | refine J.addZ rfl rfl rfl (by omega) (by omega) ?_)
    refine J.assign rfl rfl (J.nil (G.inBlock ?_))
    rw [← Nat.pow_succ]
    exact G.wk [] (ih ⟨n + 1, by omega, by omega⟩ (by simp only; omega))
  · obtain rfl : n = 19 := by omega
    refine G.condF rfl (by decide) (G.exit rfl (G.ret (hR _) ?_))
    exact GL.done (()) rfl rfl (trivial) rfl [] rfl (by decide) (by simp)
theorem pow_spec {n : Nat} (hn : n ≤ 19) : Spec (cx V) 144 #[.int .u64 ((10 : Nat) : Int), .int .i64 n] [] [] (fun _ : Unit => .int .u64 ((10 ^ n : Nat) : Int)) (fun _ => []) (fun _ => True) := by
  have hb := ten_le hn
  rw [ten19] at hb
  refine Spec.enter Tryz.func144 rfl Tryz.ntmps144 (by simp) [(0, .int .u64 ((10 : Nat) : Int)), (1, .int .i64 n)] (by simp) ?_
  intro X hR
  try simp only [apC, apN]
  refine G.seq (G.region (J.assign rfl rfl (J.nil (G.seq (G.region (J.assign rfl rfl (J.nil (G.seq ?_))))))))
  refine G.block ?_
  refine G.loopW (σ := { t : Nat × Nat × Nat // t.1 < 18446744073709551616 ∧ t.1 * t.2.1 ^ t.2.2 % 18446744073709551616 = 10 ^ n ∧ t.2.2 ≤ 19 }) (fun t => [(0, .int .u64 (t.1.2.1 : Nat)), (1, .int .i64 (t.1.2.2 : Nat)), (4, .int .u64 (t.1.1 : Nat))]) (fun _ => []) (fun t => t.1.2.2) ⟨(1, 10, n), Nat.one_lt_two_pow (n := 64) (by decide), by simp only [Nat.one_mul]; exact Nat.mod_eq_of_lt (by omega), hn⟩ (by repeat (first | exact SubSlots.nil _ | refine SubSlots.cons rfl ?_)) [] rfl (by decide) ?_
  rintro ⟨⟨p, x, m⟩, h1, h2, h3⟩ ih
  simp only at ih h1 h2 h3 ⊢
  refine G.seq (G.seq (G.region (J.move rfl rfl ?_)))
  (first | refine J.gtN rfl rfl rfl ?_ | refine J.gtZ rfl rfl rfl ?_)
  refine J.nil ?_
  refine G.condP rfl (fun hc => ?_) (fun hc => ?_)
  · refine G.skip ?_
    refine G.block (G.seq (G.seq (G.region (J.move rfl rfl (J.andI rfl rfl rfl (by omega) (by omega) ?_)))))
    (first | refine J.neN rfl rfl rfl ?_ | refine J.neZ rfl rfl rfl ?_)
    refine J.nil ?_
    have e1 : m &&& 1 = m % 2 := Nat.and_one_is_mod m
    rw [e1]
    refine G.condP rfl (fun hm => ?_) (fun hm => ?_)
    · refine G.region ?_
      refine J.move rfl rfl (J.move rfl rfl (J.mulUm rfl rfl rfl (J.assign rfl rfl (J.nil (G.prune [0, 1, 4] rfl (G.seq (G.region (J.move rfl rfl ?_))))))))
      refine J.move rfl rfl (J.mulUm rfl rfl rfl (J.assign rfl rfl (J.nil (G.prune [0, 1, 4] rfl (G.region (J.move rfl rfl (J.shrI rfl rfl rfl (by omega) (J.assign rfl rfl ?_))))))))
      refine J.nil (G.inBlock ?_)
      rw [Nat.pow_one]
      refine G.weak (by repeat (first | exact SubSlots.nil _ | refine SubSlots.cons rfl ?_)) [] rfl (by decide) (ih ⟨(p * x % 18446744073709551616, x * x % 18446744073709551616, m / 2), Nat.mod_lt _ (by decide), ?_, by simp only; omega⟩ (by simp only; omega))
      simp only
      rw [← h2, Nat.mul_mod (p * x % _), Nat.mod_mod, ← Nat.pow_mod, ← Nat.mul_mod, ← Nat.pow_two, ← Nat.pow_mul, Nat.mul_assoc, ← Nat.pow_succ', show (2 * (m / 2)).succ = m by omega]
    · refine G.skip ?_
      refine G.seq (G.region (J.move rfl rfl (J.move rfl rfl (J.mulUm rfl rfl rfl (J.assign rfl rfl (J.nil (G.prune [0, 1, 4] rfl (G.region ?_))))))))
      refine J.move rfl rfl (J.shrI rfl rfl rfl (by omega) (J.assign rfl rfl (J.nil (G.inBlock ?_))))
      rw [Nat.pow_one]
      refine G.weak (by repeat (first | exact SubSlots.nil _ | refine SubSlots.cons rfl ?_)) [] rfl (by decide) (ih ⟨(p, x * x % 18446744073709551616, m / 2), h1, ?_, by simp only; omega⟩ (by simp only; omega))
      simp only
      rw [← h2, Nat.mul_mod p, ← Nat.pow_mod, ← Nat.mul_mod, ← Nat.pow_two, ← Nat.pow_mul, show 2 * (m / 2) = m by omega]
  · refine G.exit rfl ?_
    have hm0 : m = 0 := by omega
    subst hm0
    rw [Nat.pow_zero, Nat.mul_one, Nat.mod_eq_of_lt h1] at h2
    subst h2
    refine G.ret (hR _) ?_
    exact GL.done (()) rfl rfl (trivial) rfl [] rfl (by decide) (by simp)
end
section
set_option maxRecDepth 100000
set_option pp.deepTerms false
variable {V : Addr}
def Byt (s : ByteArray) (i v : Nat) : Prop := ∃ c : UInt8, s[i]? = some c ∧ c.toNat = v
theorem Byt.lt {s : ByteArray} {i v : Nat} (h : Byt s i v) : i < s.size := by
  obtain ⟨c, h, _⟩ := h
  rcases Nat.lt_or_ge i s.size with h1 | h1
  · exact h1
  · rw [getElem?_neg s i (by omega)] at h; cases h
theorem Byt.uniq {s : ByteArray} {i v v' : Nat} (h : Byt s i v) (h' : Byt s i v') : v = v' := by
  obtain ⟨c, h, e⟩ := h
  obtain ⟨c', h', e'⟩ := h'
  rw [h] at h'; cases h'; omega
theorem Byt.at {s : ByteArray} {i : Nat} (h : i < s.size) : ∃ v, Byt s i v := ⟨_, _, getElem?_pos s i h, rfl⟩
theorem Byt.b {s : ByteArray} {i v : Nat} (h : Byt s i v) : v < 256 := by
  obtain ⟨c, _, e⟩ := h
  have := c.toNat_lt
  omega
def Cur (V : Addr) (s : ByteArray) (p ch : Nat) (er : Value) (rp : Nat) : Prop :=
  (er = .nilIface ∧ rp = p + 1 ∧ Byt s p ch) ∨ (er = .iface 275 (.pointer (some V)) ∧ rp = s.size ∧ p = s.size ∧ ch = 0)
theorem readCur_spec {b i : Nat} {s : ByteArray} (h : i ≤ s.size) (hs : s.size < 9223372036854775807) :
    Spec (cx V) 103 #[.pointer (some ⟨b, 0, none⟩)] (rd b s i) [] (fun t : Nat × Value × Nat => .tuple #[.int .u8 (t.1 : Nat), t.2.1]) (fun t => rd b s t.2.2) (fun t => Cur V s i t.1 t.2.1 t.2.2) := by
  rcases Nat.lt_or_ge i s.size with h1 | h1
  · obtain ⟨v, c, hc, hv⟩ := Byt.at h1
    intro w hp
    refine (readByte_spec (V := V) hc hs w hp).mono fun e w' ⟨_, _, he, hq⟩ => ⟨(v, .nilIface, i + 1), .inl ⟨rfl, rfl, c, hc, hv⟩, ?_, hq⟩
    rw [he, ← hv]
  · obtain rfl : i = s.size := by omega
    intro w hp
    refine (readByte_end (V := V) hs w hp).mono fun e w' ⟨_, _, he, hq⟩ => ⟨(0, .iface 275 (.pointer (some V)), s.size), .inr ⟨rfl, rfl, rfl, rfl⟩, he, hq⟩
def dv (dg : Nat → Nat) : Nat → Nat
  | 0 => 0
  | n + 1 => dv dg n * 10 + dg n
structure Txt (s : ByteArray) (a b : Nat) (dot : Bool) (dg : Nat → Nat) : Prop where
  d9 : ∀ j, dg j ≤ 9
  ha : ∀ j, j < a → Byt s j (48 + dg j)
  dt : dot = true → Byt s a 46
  hb : ∀ j, j < b → Byt s (a + 1 + j) (48 + dg (a + j))
  nb : dot = false → b = 0
  sz : s.size ≤ 1000
  ab : 0 < a + b
  ab2 : a + b ≤ 25
  en : s.size = a + b + dot.toNat ∨ Byt s (a + b + dot.toNat) 101 ∨ Byt s (a + b + dot.toNat) 69
def dc (a p : Nat) : Nat := if p ≤ a then p else p - 1
def dpv (a p : Nat) : Int := if p ≤ a then -1 else (a : Int)
theorem Txt.char {s : ByteArray} {a b p v : Nat} {dot : Bool} {dg : Nat → Nat} (T : Txt s a b dot dg) (hp : p ≤ a + b + dot.toNat) (h : Byt s p v) :
    (p < a ∧ v = 48 + dg p) ∨ (p = a ∧ dot = true ∧ v = 46) ∨ (dot = true ∧ a < p ∧ p < a + b + 1 ∧ v = 48 + dg (p - 1)) ∨ (p = a + b + dot.toNat ∧ (v = 101 ∨ v = 69)) := by
  rcases Nat.lt_or_ge p a with h1 | h1
  · exact .inl ⟨h1, h.uniq (T.ha p h1)⟩
  · cases dot with
    | false =>
      have hb := T.nb rfl
      subst hb
      simp only [Bool.toNat_false, Nat.add_zero] at hp ⊢
      obtain rfl : p = a := by omega
      refine .inr (.inr (.inr ⟨rfl, ?_⟩))
      have e := T.en
      simp only [Bool.toNat_false, Nat.add_zero] at e
      rcases e with e | e | e
      · have := h.lt; omega
      · exact .inl (h.uniq e)
      · exact .inr (h.uniq e)
    | true =>
      simp only [Bool.toNat_true] at hp ⊢
      rcases Nat.eq_or_lt_of_le h1 with h2 | h2
      · subst h2
        exact .inr (.inl ⟨by trivial, by trivial, h.uniq (T.dt rfl)⟩)
      · rcases Nat.lt_or_ge p (a + b + 1) with h3 | h3
        · have e := T.hb (p - a - 1) (by omega)
          rw [show a + 1 + (p - a - 1) = p by omega, show a + (p - a - 1) = p - 1 by omega] at e
          exact .inr (.inr (.inl ⟨by trivial, h2, h3, h.uniq e⟩))
        · obtain rfl : p = a + b + 1 := by omega
          refine .inr (.inr (.inr ⟨rfl, ?_⟩))
          have e := T.en
          simp only [Bool.toNat_true] at e
          rcases e with e | e | e
          · have := h.lt; omega
          · exact .inl (h.uniq e)
          · exact .inr (h.uniq e)
theorem dv_lt {dg : Nat → Nat} (h : ∀ j, dg j ≤ 9) (n : Nat) : dv dg n < 10 ^ n := by
  induction n with
  | zero => simp [dv]
  | succ n ih => rw [dv, Nat.pow_succ]; have := h n; omega
structure Ac (dg : Nat → Nat) (m : Nat) (z : Option RS) (w n : Nat) : Prop where
  r : Res z (zn z)
  n18 : n ≤ 18
  w10 : w < 10 ^ n
  e : zn z * 10 ^ n + w = dv dg m
theorem Ac.len {dg : Nat → Nat} {m w n : Nat} {z : Option RS} (h : Ac dg m z w n) (hd : ∀ j, dg j ≤ 9) (hm : m ≤ 25) : zlen z ≤ 2 := by
  refine h.r.len_le (k := 2) ?_
  have h1 := dv_lt hd m
  have h2 : 10 ^ m ≤ 10 ^ 25 := ten_le hm
  have h3 : 1 ≤ 10 ^ n := Nat.pow_pos (by decide)
  have h4 : zn z * 1 ≤ zn z * 10 ^ n := Nat.mul_le_mul_left _ h3
  have e := h.e
  have h5 : 10 ^ 25 < 18446744073709551616 ^ 2 := by decide
  omega
theorem Ac.w18 {dg : Nat → Nat} {m w n : Nat} {z : Option RS} (h : Ac dg m z w n) : w < 1000000000000000000 := by
  have h1 := ten_le h.n18
  have h2 : 10 ^ 18 = 1000000000000000000 := by decide
  have := h.w10
  omega
theorem Ac.dig {dg : Nat → Nat} {m w n : Nat} {z : Option RS} (h : Ac dg m z w n) (hd : ∀ j, dg j ≤ 9) : w * 10 + dg m < 10 ^ (n + 1) ∧ zn z * 10 ^ (n + 1) + (w * 10 + dg m) = dv dg (m + 1) := by
  have hw := h.w10
  have e := h.e
  have := hd m
  rw [dv, ← e, Nat.pow_succ, ← Nat.mul_assoc]
  constructor
  · omega
  · rw [Nat.add_mul]; omega
theorem scan_spec {s : ByteArray} {a b rb : Nat} {dot : Bool} {dg : Nat → Nat} (T : Txt s a b dot dg) :
    Spec (cx V) 102 #[.slice none 0 0, .iface 127 (.pointer (some ⟨rb, 0, none⟩)), .int .i64 0, .bool true] (rd rb s 0) []
      (fun q : Option RS => .tuple #[zv q, .int .i64 ((10 : Nat) : Int), .int .i64 (if dot then -(b : Int) else (a : Int)), .nilIface]) (fun q => zh true q ++ rd rb s (a + b + dot.toNat)) (fun q => Res q (dv dg (a + b))) := by
  have hs := T.sz
  have hab := T.ab
  have hab2 := T.ab2
  have hd9 := T.d9
  have hsz : a + b + dot.toNat ≤ s.size := by
    rcases T.en with e | e | e
    · omega
    · have := e.lt; omega
    · have := e.lt; omega
  have hdot : dot.toNat ≤ 1 := by cases dot <;> decide
  have hdot0 : dot = false → b = 0 := T.nb
  refine Spec.enter Tryz.func102 rfl Tryz.ntmps102 (by simp) [(0, .slice none 0 0), (1, .iface 127 (.pointer (some ⟨rb, 0, none⟩))), (2, .int .i64 0), (3, .bool true)] (by simp) ?_
  intro X hR
  try simp only [apC, apN]
  refine G.seq (G.region (J.assign rfl rfl (J.assign rfl rfl (J.assign rfl rfl (J.assign rfl rfl (J.nil (G.prune [0, 1, 2, 3, 8, 9, 10, 11, 23, 81] rfl (G.seq ?_))))))))
  refine G.region (J.move rfl rfl ?_)
  (first | refine J.eqN rfl rfl rfl ?_ | refine J.eqZ rfl rfl rfl ?_)
  refine J.move rfl rfl (J.sk rfl rfl rfl rfl (J.sk rfl rfl rfl rfl (J.sk rfl rfl rfl rfl (J.skipU rfl rfl rfl rfl (J.skipU rfl rfl rfl rfl (J.sk rfl rfl rfl rfl (J.sk rfl rfl rfl rfl (J.skipU rfl rfl rfl rfl ?_))))))))
  refine J.skipU rfl rfl rfl rfl (J.sk rfl rfl rfl rfl (J.pT rfl rfl rfl (J.move rfl rfl (J.sk rfl rfl rfl rfl (J.sk rfl rfl rfl rfl (J.skipU rfl rfl rfl rfl (J.skipU rfl rfl rfl rfl (J.skipU rfl rfl rfl rfl ?_))))))))
  refine J.skipU rfl rfl rfl rfl (J.skipU rfl rfl rfl rfl (J.skipU rfl rfl rfl rfl (J.skipU rfl rfl rfl rfl (J.skipU rfl rfl rfl rfl (J.skipU rfl rfl rfl rfl (J.skipU rfl rfl rfl rfl (J.skipU rfl rfl rfl rfl (J.skipU rfl rfl rfl rfl ?_))))))))
  refine J.skipU rfl rfl rfl rfl (J.skipU rfl rfl rfl rfl (J.sk rfl rfl rfl rfl (J.pT rfl rfl rfl (J.assign rfl rfl (J.nil (G.prune [0, 1, 2, 3, 8, 9, 10, 11, 12, 23, 81] rfl (G.seq (G.seq ?_))))))))
  refine G.region (J.move rfl rfl (J.not rfl rfl (J.nil (G.cF rfl (G.skip (G.seq (G.region (J.assign rfl rfl ?_))))))))
  refine J.nil (G.seq (G.region (J.assign rfl rfl (J.nil (G.seq (G.region (J.move rfl rfl (J.eff (E.inv0 (readCur_spec (i := 0) (by omega) (by omega)) [0] [] (method_read _) rfl rfl rfl rfl rfl) rfl fun t0 ht0 => ?_))))))))
  try simp only [apC, apN]
  obtain ⟨ch, er, rp⟩ := t0
  simp only at ht0 ⊢
  rcases ht0 with ⟨rfl, rfl, hch⟩ | ⟨_, _, he, _⟩
  rotate_left
  · exfalso; omega
  refine J.move rfl rfl (J.extractL rfl rfl rfl (J.extractL rfl rfl rfl (J.assign rfl rfl (J.assign rfl rfl (J.nil (G.prune [0, 1, 2, 3, 8, 9, 10, 11, 12, 13, 14, 15, 23, 81] rfl (G.seq (G.region ?_))))))))
  refine J.move rfl rfl (J.assign rfl rfl (J.assign rfl rfl (J.nil (G.seq (G.seq (G.region (J.move rfl rfl ?_)))))))
  (first | refine J.eqN rfl rfl rfl ?_ | refine J.eqZ rfl rfl rfl ?_)
  refine J.nil ?_
  refine G.cut (σ := Nat × Nat × Value × Nat × Nat) (fun t => t.1 ≤ a ∧ t.1 ≤ 1 ∧ dv dg t.1 = 0 ∧ Cur V s t.1 t.2.1 t.2.2.1 t.2.2.2.1 ∧ (t.2.2.2.2 = 46 ∨ t.2.2.2.2 = 48)) (fun t => [(0, .slice none 0 0), (1, .iface 127 (.pointer (some ⟨rb, 0, none⟩))), (2, .int .i64 0), (3, .bool true), (9, .int .i64 ((10 : Nat) : Int)), (10, .int .i64 (t.1 : Nat)), (11, t.2.2.1), (13, .int .i32 (t.2.2.2.2 : Nat)), (14, .bool false), (15, .int .u8 (t.2.1 : Nat)), (16, .int .i64 0)]) (fun t => rd rb s t.2.2.2.1) (fun hk => ?_) ?_
  · skip
    refine G.cT rfl (G.seq (G.region (J.assign rfl rfl (J.nil (G.seq (G.region (J.move rfl rfl ?_)))))))
    (first | refine J.nilNilE rfl rfl ?_ | refine J.ifNilE rfl rfl ?_)
    refine J.move rfl rfl (J.wT rfl rfl (J.move rfl rfl (J.wT rfl rfl ?_)))
    (first | refine J.eqN rfl rfl rfl ?_ | refine J.eqZ rfl rfl rfl ?_)
    refine J.pT rfl rfl rfl (J.nil (G.prune [0, 1, 2, 3, 8, 9, 10, 11, 12, 13, 14, 15, 16, 23, 73, 81] rfl ?_))
    by_cases h48 : ch = 48
    · subst h48
      have ha : 0 < a ∧ dg 0 = 0 := by
        have h := T.char (Nat.zero_le _) hch
        have := hd9 0
        rcases h with ⟨h1, h2⟩ | ⟨_, _, h2⟩ | ⟨_, h1, _⟩ | ⟨h1, h2⟩ <;> omega
      refine G.cT rfl (G.seq (G.region (J.assign rfl rfl (J.nil (G.seq (G.region (J.assign rfl rfl (J.nil ?_))))))))
      refine G.seq (G.region (J.move rfl rfl (J.eff (E.inv0 (readCur_spec (i := 1) (by omega) (by omega)) [0] [] (method_read _) rfl rfl rfl rfl rfl) rfl fun t1 ht1 => ?_)))
      try simp only [apC, apN]
      obtain ⟨ch1, er1, rp1⟩ := t1
      simp only at ht1 ⊢
      have hfin : Cur V s 1 ch1 er1 rp1 := ht1
      rcases ht1 with ⟨rfl, rfl, hch1⟩ | ⟨rfl, rfl, he, rfl⟩
      · have h := T.char (p := 1) (by omega) hch1
        have := hd9 1
        have := hd9 (1 - 1)
        have hc1 : 46 ≤ ch1 ∧ ch1 ≠ 98 ∧ ch1 ≠ 66 ∧ ch1 ≠ 111 ∧ ch1 ≠ 79 ∧ ch1 ≠ 120 ∧ ch1 ≠ 88 := by
          rcases h with ⟨h1, h2⟩ | ⟨_, _, h2⟩ | ⟨_, h1, _, h2⟩ | ⟨h1, h2⟩ <;> omega
        refine J.move rfl rfl (J.extractL rfl rfl rfl (J.extractL rfl rfl rfl (J.assign rfl rfl (J.assign rfl rfl (J.nil (G.prune [0, 1, 2, 3, 8, 9, 10, 11, 12, 13, 14, 15, 16, 23, 81] rfl (G.seq (G.region ?_))))))))
        refine J.move rfl rfl ?_
        (first | refine J.nilNilE rfl rfl ?_ | refine J.ifNilE rfl rfl ?_)
        refine J.nil (G.cT rfl (G.seq (G.seq (G.region (J.move rfl rfl (J.nil (G.block (G.seq ?_))))))))
        refine G.seq (G.region ?_)
        (first | refine J.eqN rfl rfl rfl ?_ | refine J.eqZ rfl rfl rfl ?_)
        refine J.assign rfl rfl (J.nil (G.cF rfl (G.region ?_)))
        (first | refine J.eqN rfl rfl rfl ?_ | refine J.eqZ rfl rfl rfl ?_)
        refine J.assign rfl rfl (J.nil (G.cF rfl (G.seq (G.seq (G.region ?_)))))
        (first | refine J.eqN rfl rfl rfl ?_ | refine J.eqZ rfl rfl rfl ?_)
        refine J.assign rfl rfl (J.nil (G.cF rfl (G.region ?_)))
        (first | refine J.eqN rfl rfl rfl ?_ | refine J.eqZ rfl rfl rfl ?_)
        refine J.assign rfl rfl (J.nil (G.cF rfl (G.seq (G.seq (G.region ?_)))))
        (first | refine J.eqN rfl rfl rfl ?_ | refine J.eqZ rfl rfl rfl ?_)
        refine J.assign rfl rfl (J.nil (G.cF rfl (G.region ?_)))
        (first | refine J.eqN rfl rfl rfl ?_ | refine J.eqZ rfl rfl rfl ?_)
        refine J.assign rfl rfl (J.nil (G.cF rfl (G.seq (G.region (J.move rfl rfl (J.not rfl rfl (J.nil (G.cF rfl ?_))))))))
        refine G.skip (G.inBlock (G.seq (G.region (J.move rfl rfl ?_))))
        (first | refine J.neN rfl rfl rfl ?_ | refine J.neZ rfl rfl rfl ?_)
        refine J.nil (G.cF rfl (G.skip ?_))
        exact G.wk [0] (hk (1, ch1, .nilIface, 1 + 1, 48) ⟨ha.1, Nat.le_refl _, by simp [dv, ha.2], hfin, .inr rfl⟩)
      · skip
        refine J.move rfl rfl (J.extractL rfl rfl rfl (J.extractL rfl rfl rfl (J.assign rfl rfl (J.assign rfl rfl (J.nil (G.prune [0, 1, 2, 3, 8, 9, 10, 11, 12, 13, 14, 15, 16, 23, 81] rfl (G.seq (G.region ?_))))))))
        refine J.move rfl rfl ?_
        (first | refine J.nilNilE rfl rfl ?_ | refine J.ifNilE rfl rfl ?_)
        refine J.nil (G.cF rfl (G.skip ?_))
        exact G.wk [0] (hk (1, 0, .iface 275 (.pointer (some V)), s.size, 48) ⟨ha.1, Nat.le_refl _, by simp [dv, ha.2], hfin, .inr rfl⟩)
    · skip
      refine G.cF rfl (G.skip ?_)
      exact G.wk [0] (hk (0, ch, .nilIface, 0 + 1, 46) ⟨Nat.zero_le _, Nat.zero_le _, rfl, .inl ⟨rfl, rfl, hch⟩, .inl rfl⟩)
  rintro ⟨p0, ch0, er0, rp0, pv0⟩ ⟨hp0, hp1, hdv0, hcur0, hpv0⟩
  simp only at hp0 hp1 hdv0 hcur0 hpv0 ⊢
  refine G.seq (G.region (J.move rfl rfl (J.slH rfl rfl rfl (by omega) (J.assign rfl rfl (J.nil (G.seq (G.region (J.move rfl rfl ?_))))))))
  refine J.convN rfl rfl (by show _ < _; decide) (J.assign rfl rfl (J.nil (G.seq (G.region (J.assign rfl rfl (J.nil (G.seq (G.region ?_))))))))
  refine J.assign rfl rfl (J.nil (G.seq (G.seq (G.region (J.move rfl rfl (J.nil (G.block (G.seq ?_))))))))
  refine G.region ?_
  (first | refine J.eqN rfl rfl rfl ?_ | refine J.eqZ rfl rfl rfl ?_)
  refine J.assign rfl rfl (J.nil (G.cF rfl (G.seq (G.region ?_))))
  (first | refine J.eqN rfl rfl rfl ?_ | refine J.eqZ rfl rfl rfl ?_)
  refine J.assign rfl rfl (J.nil (G.cF rfl (G.seq (G.region ?_))))
  (first | refine J.eqN rfl rfl rfl ?_ | refine J.eqZ rfl rfl rfl ?_)
  refine J.assign rfl rfl (J.nil (G.cF rfl (G.region (J.move rfl rfl (J.eff (E.callP (maxPow_spec) [] [] rfl rfl rfl rfl rfl) rfl fun _ _ => ?_)))))
  try simp only [apC, apN]
  refine J.move rfl rfl (J.extractL rfl rfl rfl (J.extractL rfl rfl rfl (J.assign rfl rfl (J.assign rfl rfl (J.nil (G.prune [0, 1, 2, 3, 8, 9, 10, 11, 12, 13, 14, 15, 16, 17, 18, 19, 23, 81, 106] rfl (G.inBlock (G.seq ?_))))))))
  refine G.region (J.assign rfl rfl (J.nil (G.seq (G.region (J.assign rfl rfl (J.nil (G.seq (G.region ?_))))))))
  refine J.assign rfl rfl (J.nil (G.seq ?_))
  refine G.cut (σ := Value × Nat × Option RS × Nat × Nat) (fun t => (t.1 = .nilIface ∨ t.1 = .iface 275 (.pointer (some V))) ∧ (t.2.1 = 46 ∨ t.2.1 = 48) ∧ Ac dg (a + b) t.2.2.1 t.2.2.2.1 t.2.2.2.2)
    (fun t => [(0, zv t.2.2.1), (9, .int .i64 ((10 : Nat) : Int)), (10, .int .i64 ((a + b : Nat) : Int)), (11, t.1), (13, .int .i32 (t.2.1 : Nat)), (14, .bool false), (16, .int .i64 0), (17, .int .u64 ((10 : Nat) : Int)), (18, .int .u64 ((10 ^ 19 : Nat) : Int)), (19, .int .i64 ((19 : Nat) : Int)), (20, .int .u64 (t.2.2.2.1 : Nat)), (21, .int .i64 (t.2.2.2.2 : Nat)), (22, .int .i64 (dpv a (a + b + dot.toNat)))])
    (fun t => rd rb s (a + b + dot.toNat) ++ zh true t.2.2.1) (fun hk => ?_) ?_
  rotate_left
  · rintro ⟨er, pv, z, w, n⟩ ⟨her, hpv, hac⟩
    simp only at her hpv hac ⊢
    have k3 := hac.w18
    have k4 := hac.n18
    apply G.join (σ := Unit) (fun _ => True) (fun _ => [(0, zv z), (9, .int .i64 ((10 : Nat) : Int)), (10, .int .i64 ((a + b : Nat) : Int)), (11, .nilIface), (13, .int .i32 (pv : Nat)), (14, .bool false), (16, .int .i64 0), (17, .int .u64 ((10 : Nat) : Int)), (18, .int .u64 ((10 ^ 19 : Nat) : Int)), (19, .int .i64 ((19 : Nat) : Int)), (20, .int .u64 (w : Nat)), (21, .int .i64 (n : Nat)), (22, .int .i64 (dpv a (a + b + dot.toNat)))]) (fun _ => rd rb s (a + b + dot.toNat) ++ zh true z)
    · intro hk3
      rcases her with rfl | rfl
      · skip
        refine G.seq (G.seq (G.region (J.move rfl rfl (J.loadGi 0 rfl rfl rfl rfl ?_))))
        (first | refine J.ifSameE rfl rfl rfl ?_ | refine J.nilIfE rfl rfl rfl ?_)
        refine J.nil (G.cF rfl (G.skip ?_))
        exact G.wl (hk3 () trivial)
      · skip
        refine G.seq (G.seq (G.region (J.move rfl rfl (J.loadGi 0 rfl rfl rfl rfl ?_))))
        (first | refine J.ifSameE rfl rfl rfl ?_ | refine J.nilIfE rfl rfl rfl ?_)
        refine J.nil (G.cT rfl (G.region (J.assign rfl rfl (J.nil ?_))))
        exact G.wl (hk3 () trivial)
    rintro _ -
    refine G.seq (G.seq (G.region (J.move rfl rfl ?_)))
    (first | refine J.nilNilE rfl rfl ?_ | refine J.ifNilE rfl rfl ?_)
    refine J.move rfl rfl (J.wT rfl rfl (J.move rfl rfl (J.wT rfl rfl (J.move rfl rfl (J.wF rfl rfl (J.move rfl rfl (J.wF rfl rfl ?_)))))))
    (first | refine J.eqN rfl rfl rfl ?_ | refine J.eqZ rfl rfl rfl ?_)
    refine J.wT rfl rfl (J.pF rfl rfl rfl (J.pT rfl rfl rfl (J.nil (G.prune [0, 8, 9, 10, 11, 16, 17, 18, 19, 20, 21, 22, 218] rfl (G.cF rfl (G.skip (G.seq (G.seq ?_))))))))
    refine G.region (J.move rfl rfl ?_)
    (first | refine J.eqN rfl rfl rfl ?_ | refine J.eqZ rfl rfl rfl ?_)
    refine J.nil (G.cF rfl (G.skip (G.seq (G.seq (G.region (J.move rfl rfl ?_))))))
    (first | refine J.eqN rfl rfl rfl ?_ | refine J.eqZ rfl rfl rfl ?_)
    refine J.nil (G.condF rfl (by decide) (G.seq (G.region (J.move rfl rfl ?_))))
    (first | refine J.gtN rfl rfl rfl ?_ | refine J.gtZ rfl rfl rfl ?_)
    refine J.nil ?_
    apply G.join (σ := Option RS) (fun q => Res q (dv dg (a + b))) (fun q => [(0, zv q), (9, .int .i64 ((10 : Nat) : Int)), (10, .int .i64 ((a + b : Nat) : Int)), (11, .nilIface), (22, .int .i64 (dpv a (a + b + dot.toNat)))]) (fun q => rd rb s (a + b + dot.toNat) ++ zh true q)
    · intro hk3
      refine G.condP rfl (fun hn => ?_) (fun hn => ?_)
      · refine G.region ?_
        refine J.move rfl rfl (J.move rfl rfl (J.move rfl rfl (J.move rfl rfl (J.eff (E.callP (pow_spec (n := n) (by omega)) [] [] rfl rfl rfl rfl rfl) rfl fun _ _ => ?_))))
        try simp only [apC, apN]
        refine J.move rfl rfl ?_
        rcases z with _ | ⟨bz, lz, zs⟩
        · simp only [zv, zh] at *
          refine J.eff (E.callP (mulAddWW_same (z := none) hac.r.ok (Nat.le_trans (hac.len hd9 hab2) (by decide)) (Nat.lt_of_le_of_lt (ten_le k4) (by decide)) (by omega)) [] [] rfl rfl rfl rfl rfl) rfl fun q hq => ?_
          try simp only [apC, apN]
          refine J.assign rfl rfl (J.nil (G.prune [0, 8, 9, 10, 11, 22] rfl ?_))
          have hq2 : Res q (dv dg (a + b)) := ⟨hq.ok, hq.nm, by rw [hq.n]; exact hac.e⟩
          rcases q with _ | q
          · exact G.wk [0] (hk3 none hq2)
          · exact G.wk [1, 0] (hk3 (some q) hq2)
        · simp only [zv, zh] at *
          refine J.eff (E.callP (mulAddWW_same (z := some ⟨bz, lz, zs⟩) hac.r.ok (Nat.le_trans (hac.len hd9 hab2) (by decide)) (Nat.lt_of_le_of_lt (ten_le k4) (by decide)) (by omega)) [1] [] rfl rfl rfl rfl rfl) rfl fun q hq => ?_
          try simp only [apC, apN]
          refine J.assign rfl rfl (J.nil (G.prune [0, 8, 9, 10, 11, 22] rfl ?_))
          have hq2 : Res q (dv dg (a + b)) := ⟨hq.ok, hq.nm, by rw [hq.n]; exact hac.e⟩
          rcases q with _ | q
          · exact G.wk [0] (hk3 none hq2)
          · exact G.wk [1, 0] (hk3 (some q) hq2)
      · refine G.skip ?_
        have hn0 : n = 0 := by omega
        subst hn0
        refine G.weakL (by repeat (first | exact SubSlots.nil _ | refine SubSlots.cons rfl ?_)) (hk3 z ⟨hac.r.ok, hac.r.nm, ?_⟩)
        have h := hac.e
        have h1 := hac.w10
        simp only [Nat.pow_zero, Nat.mul_one] at h h1
        omega
    rintro q hq
    try simp only at hq ⊢
    refine G.seq (G.region (J.move rfl rfl (J.assign rfl rfl (J.nil (G.seq (G.seq (G.region (J.move rfl rfl ?_))))))))
    (first | refine J.geN rfl rfl rfl ?_ | refine J.geZ rfl rfl rfl ?_)
    refine J.nil ?_
    cases dot with
    | false =>
      have hb0 := hdot0 rfl
      subst hb0
      simp only [Bool.toNat_false, Nat.add_zero, dpv, if_pos (Nat.le_refl a)] at *
      refine G.cF rfl (G.skip ?_)
      simp only [Bool.false_eq_true, if_false] at hR
      rcases q with _ | q
      · skip
        refine G.ret (hR _) ?_
        exact GL.done none rfl rfl hq rfl [0] rfl (by decide) (by simp [zh, rd])
      · skip
        refine G.ret (hR _) ?_
        exact GL.done (some q) rfl rfl hq rfl [1, 0] rfl (by decide) (by simp [zh, rd])
    | true =>
      simp only [Bool.toNat_true, dpv, if_neg (by omega : ¬ a + b + 1 ≤ a)] at *
      refine G.cT rfl (G.region (J.move rfl rfl (J.move rfl rfl ?_)))
      (first | refine J.subI rfl rfl rfl (by omega) (by omega) ?_ | refine J.subZ rfl rfl rfl (by omega) (by omega) ?_)
      refine J.assign rfl rfl (J.nil (G.prune [8, 9, 10, 11] rfl ?_))
      simp only [if_true] at hR
      rw [show (a : Int) - ((a + b : Nat) : Int) = -(b : Int) by omega]
      rcases q with _ | q
      · skip
        refine G.ret (hR _) ?_
        exact GL.done none rfl rfl hq rfl [0] rfl (by decide) (by simp [zh, rd])
      · skip
        refine G.ret (hR _) ?_
        exact GL.done (some q) rfl rfl hq rfl [1, 0] rfl (by decide) (by simp [zh, rd])
  refine G.block ?_
  refine G.loopW (σ := { t : Nat × Nat × Value × Nat × Nat × Option RS × Nat × Nat // t.1 ≤ a + b + dot.toNat ∧ Cur V s t.1 t.2.1 t.2.2.1 t.2.2.2.1 ∧ (t.2.2.2.2.1 = 46 ∨ t.2.2.2.2.1 = 48) ∧ Ac dg (dc a t.1) t.2.2.2.2.2.1 t.2.2.2.2.2.2.1 t.2.2.2.2.2.2.2 })
    (fun t => [(0, zv t.1.2.2.2.2.2.1), (1, .iface 127 (.pointer (some ⟨rb, 0, none⟩))), (2, .int .i64 0), (3, .bool (decide (t.1.1 ≤ a))), (9, .int .i64 ((10 : Nat) : Int)), (10, .int .i64 ((dc a t.1.1 : Nat) : Int)), (11, t.1.2.2.1), (13, .int .i32 (t.1.2.2.2.2.1 : Nat)), (14, .bool false), (15, .int .u8 (t.1.2.1 : Nat)), (16, .int .i64 0), (17, .int .u64 ((10 : Nat) : Int)), (18, .int .u64 ((10 ^ 19 : Nat) : Int)), (19, .int .i64 ((19 : Nat) : Int)), (20, .int .u64 (t.1.2.2.2.2.2.2.1 : Nat)), (21, .int .i64 (t.1.2.2.2.2.2.2.2 : Nat)), (22, .int .i64 (dpv a t.1.1))])
    (fun t => rd rb s t.1.2.2.2.1 ++ zh true t.1.2.2.2.2.2.1) (fun t => a + b + dot.toNat + 1 - t.1.1) ⟨(p0, ch0, er0, rp0, pv0, none, 0, 0), by simp only; omega, hcur0, hpv0, ⟨⟨trivial, trivial, rfl⟩, Nat.zero_le _, Nat.pow_pos (by decide), by simp only [dc, if_pos hp0, hdv0]; rfl⟩⟩ (by
      simp only [dc, dpv, if_pos hp0, decide_eq_true hp0]
      exact (by repeat (first | exact SubSlots.nil _ | refine SubSlots.cons rfl ?_))) [0] rfl (by decide) ?_
  rintro ⟨⟨p, ch, er, rp, pv, z, w, n⟩, hp, hcur, hpv, hac⟩ ih
  simp only at ih hp hcur hpv hac ⊢
  rcases hcur with ⟨rfl, rfl, hch⟩ | ⟨rfl, rfl, he, rfl⟩
  rotate_left
  · skip
    refine G.seq (G.seq (G.region (J.move rfl rfl ?_)))
    (first | refine J.nilNilE rfl rfl ?_ | refine J.ifNilE rfl rfl ?_)
    refine J.nil (G.cF rfl (G.exit rfl ?_))
    have hpe : p = a + b + dot.toNat := by omega
    have hdc : dc a p = a + b := by
      unfold dc
      cases dot with
      | false => have := hdot0 rfl; simp at hpe; rw [if_pos (by omega)]; omega
      | true => simp at hpe; by_cases hb : b = 0
                · subst hb; rw [if_neg (by omega)]; omega
                · rw [if_neg (by omega)]; omega
    rw [hdc] at hac
    have hk' := hk (.iface 275 (.pointer (some V)), pv, z, w, n) ⟨.inr rfl, hpv, hac⟩
    subst he
    rw [← hpe, ← hdc] at hk'
    exact G.wl hk'
  have hchar := T.char hp hch
  have hch256 := hch.b
  refine G.seq (G.seq (G.region (J.move rfl rfl ?_)))
  (first | refine J.nilNilE rfl rfl ?_ | refine J.ifNilE rfl rfl ?_)
  refine J.nil (G.cT rfl (G.skip (G.block (G.seq (G.seq (G.region (J.move rfl rfl ?_)))))))
  (first | refine J.eqN rfl rfl rfl ?_ | refine J.eqZ rfl rfl rfl ?_)
  refine J.move rfl rfl ?_
  have hcase : (p = a ∧ dot = true ∧ ch = 46) ∨ (p = a + b + dot.toNat ∧ (ch = 101 ∨ ch = 69)) ∨ (p + 1 ≤ a + b + dot.toNat ∧ ch = 48 + dg (dc a p) ∧ dc a (p + 1) = dc a p + 1 ∧ decide (p + 1 ≤ a) = decide (p ≤ a) ∧ dpv a (p + 1) = dpv a p) := by
    rcases hchar with ⟨h1, h2⟩ | h1 | ⟨rfl, h1, h2, h3⟩ | h1
    · refine .inr (.inr ⟨by omega, ?_, ?_, ?_, ?_⟩)
      · rw [h2, dc, if_pos (by omega)]
      · rw [dc, dc, if_pos (by omega), if_pos (by omega)]
      · rw [decide_eq_true (by omega : p + 1 ≤ a), decide_eq_true (by omega : p ≤ a)]
      · rw [dpv, dpv, if_pos (by omega), if_pos (by omega)]
    · exact .inl h1
    · refine .inr (.inr ⟨by simp; omega, ?_, ?_, ?_, ?_⟩)
      · rw [h3, dc, if_neg (by omega)]
      · rw [dc, dc, if_neg (by omega), if_neg (by omega)]; omega
      · rw [decide_eq_false (by omega : ¬ p + 1 ≤ a), decide_eq_false (by omega : ¬ p ≤ a)]
      · rw [dpv, dpv, if_neg (by omega), if_neg (by omega)]
    · exact .inr (.inl h1)
  rcases hcase with ⟨rfl, rfl, rfl⟩ | ⟨hpe, hle⟩ | ⟨hp2, hchd, e1, e2, e3⟩
  · skip
    refine J.wT rfl rfl (J.move rfl rfl (J.pT rfl rfl rfl (J.nil (G.prune [0, 1, 2, 3, 8, 9, 10, 11, 12, 13, 14, 15, 16, 17, 18, 19, 20, 21, 22, 23, 81, 106, 124] rfl (G.cT rfl (G.seq (G.region (J.assign rfl rfl ?_))))))))
    refine J.nil (G.seq (G.seq (G.region (J.move rfl rfl ?_))))
    (first | refine J.eqN rfl rfl rfl ?_ | refine J.eqZ rfl rfl rfl ?_)
    refine J.nil (G.cF rfl (G.skip (G.seq (G.region (J.assign rfl rfl (J.nil (G.region (J.move rfl rfl ?_))))))))
    refine J.assign rfl rfl (J.nil (G.region (J.move rfl rfl (J.eff (E.inv0 (readCur_spec (i := p + 1) (by simp at hsz; omega) (by omega)) [0] [] (method_read _) rfl rfl rfl rfl rfl) rfl fun t1 ht1 => ?_))))
    try simp only [apC, apN]
    refine J.move rfl rfl (J.extractL rfl rfl rfl (J.extractL rfl rfl rfl (J.assign rfl rfl (J.assign rfl rfl (J.nil (G.prune [0, 1, 2, 3, 8, 9, 10, 11, 12, 13, 14, 15, 16, 17, 18, 19, 20, 21, 22, 23, 81, 106] rfl (G.inBlock ?_)))))))
    have e1 : dc p (p + 1) = p := by rw [dc, if_neg (by omega), Nat.add_sub_cancel]
    have e2 : dc p p = p := by rw [dc, if_pos (by omega)]
    have ih' := ih ⟨(p + 1, t1.1, t1.2.1, t1.2.2, 46, z, w, n), by simp only [Bool.toNat_true]; omega, ht1, .inl rfl, by simp only; rw [e1]; rw [e2] at hac; exact hac⟩ (by simp only; omega)
    simp only [e1, decide_eq_false (by omega : ¬ p + 1 ≤ p), dpv, if_neg (by omega : ¬ p + 1 ≤ p)] at ih'
    simp only [e2]
    exact G.wl ih'
  · have hdc : dc a p = a + b := by
      unfold dc
      cases dot with
      | false => have := hdot0 rfl; simp at hpe; rw [if_pos (by omega)]; omega
      | true => simp at hpe; rw [if_neg (by omega)]; omega
    rw [hdc] at hac
    have hk' := hk (.nilIface, pv, z, w, n) ⟨.inl rfl, hpv, hac⟩
    simp only at hk'
    rw [← hpe, ← hdc] at hk'
    rcases hle with rfl | rfl
    · skip
      refine J.sk rfl rfl rfl rfl (J.pF rfl rfl rfl (J.nil (G.prune [0, 1, 2, 3, 8, 9, 10, 11, 12, 13, 14, 15, 16, 17, 18, 19, 20, 21, 22, 23, 81, 106, 124] rfl (G.cF rfl (G.seq (G.region (J.move rfl rfl ?_)))))))
      (first | refine J.eqN rfl rfl rfl ?_ | refine J.eqZ rfl rfl rfl ?_)
      refine J.move rfl rfl (J.sk rfl rfl rfl rfl (J.sk rfl rfl rfl rfl (J.pF rfl rfl rfl (J.nil (G.prune [0, 1, 2, 3, 8, 9, 10, 11, 12, 13, 14, 15, 16, 17, 18, 19, 20, 21, 22, 23, 81, 106, 133] rfl (G.cF rfl (G.seq (G.region ?_))))))))
      refine J.assign rfl rfl (J.nil (G.seq (G.block (G.seq (G.region (J.move rfl rfl ?_))))))
      (first | refine J.leN rfl rfl rfl ?_ | refine J.leZ rfl rfl rfl ?_)
      refine J.move rfl rfl (J.wT rfl rfl (J.move rfl rfl (J.wT rfl rfl ?_)))
      (first | refine J.leN rfl rfl rfl ?_ | refine J.leZ rfl rfl rfl ?_)
      refine J.pT rfl rfl rfl (J.assign rfl rfl (J.nil (G.prune [0, 1, 2, 3, 8, 9, 10, 11, 12, 13, 14, 15, 16, 17, 18, 19, 20, 21, 22, 81, 106, 136] rfl (G.cF rfl (G.seq (G.region (J.move rfl rfl ?_)))))))
      (first | refine J.leN rfl rfl rfl ?_ | refine J.leZ rfl rfl rfl ?_)
      refine J.move rfl rfl (J.wT rfl rfl (J.move rfl rfl (J.wT rfl rfl ?_)))
      (first | refine J.leN rfl rfl rfl ?_ | refine J.leZ rfl rfl rfl ?_)
      refine J.pT rfl rfl rfl (J.assign rfl rfl (J.nil (G.prune [0, 1, 2, 3, 8, 9, 10, 11, 12, 13, 14, 15, 16, 17, 18, 19, 20, 21, 22, 81, 106, 146] rfl (G.cT rfl (G.region (J.move rfl rfl (J.sub8 rfl rfl rfl (by omega) (by omega) (J.add8 rfl rfl rfl (by omega) ?_))))))))
      refine J.convN rfl rfl (by show _ < _; decide) (J.assign rfl rfl (J.nil (G.prune [0, 1, 2, 3, 8, 9, 10, 11, 12, 13, 14, 15, 16, 17, 18, 19, 20, 21, 22, 23, 81, 106] rfl (G.inBlock (G.seq (G.seq (G.region (J.move rfl rfl ?_))))))))
      refine J.move rfl rfl ?_
      (first | refine J.geN rfl rfl rfl ?_ | refine J.geZ rfl rfl rfl ?_)
      refine J.nil (G.cT rfl (G.seq (G.region (J.move rfl rfl (J.eff (E.inv0 (unread_spec (i := p) (s := s) (by omega)) [0] [] (method_unread _) rfl rfl rfl rfl rfl) rfl fun _ _ => ?_)))))
      try simp only [apC, apN]
      refine J.nil (G.exit rfl ?_)
      exact G.wl hk'
    · skip
      refine J.sk rfl rfl rfl rfl (J.pF rfl rfl rfl (J.nil (G.prune [0, 1, 2, 3, 8, 9, 10, 11, 12, 13, 14, 15, 16, 17, 18, 19, 20, 21, 22, 23, 81, 106, 124] rfl (G.cF rfl (G.seq (G.region (J.move rfl rfl ?_)))))))
      (first | refine J.eqN rfl rfl rfl ?_ | refine J.eqZ rfl rfl rfl ?_)
      refine J.move rfl rfl (J.sk rfl rfl rfl rfl (J.sk rfl rfl rfl rfl (J.pF rfl rfl rfl (J.nil (G.prune [0, 1, 2, 3, 8, 9, 10, 11, 12, 13, 14, 15, 16, 17, 18, 19, 20, 21, 22, 23, 81, 106, 133] rfl (G.cF rfl (G.seq (G.region ?_))))))))
      refine J.assign rfl rfl (J.nil (G.seq (G.block (G.seq (G.region (J.move rfl rfl ?_))))))
      (first | refine J.leN rfl rfl rfl ?_ | refine J.leZ rfl rfl rfl ?_)
      refine J.move rfl rfl (J.wT rfl rfl (J.move rfl rfl (J.wT rfl rfl ?_)))
      (first | refine J.leN rfl rfl rfl ?_ | refine J.leZ rfl rfl rfl ?_)
      refine J.pT rfl rfl rfl (J.assign rfl rfl (J.nil (G.prune [0, 1, 2, 3, 8, 9, 10, 11, 12, 13, 14, 15, 16, 17, 18, 19, 20, 21, 22, 81, 106, 136] rfl (G.cF rfl (G.seq (G.region (J.move rfl rfl ?_)))))))
      (first | refine J.leN rfl rfl rfl ?_ | refine J.leZ rfl rfl rfl ?_)
      refine J.move rfl rfl (J.sk rfl rfl rfl rfl (J.sk rfl rfl rfl rfl (J.pF rfl rfl rfl (J.assign rfl rfl (J.nil (G.prune [0, 1, 2, 3, 8, 9, 10, 11, 12, 13, 14, 15, 16, 17, 18, 19, 20, 21, 22, 81, 106, 146] rfl (G.cF rfl (G.seq ?_))))))))
      refine G.region (J.move rfl rfl ?_)
      (first | refine J.leN rfl rfl rfl ?_ | refine J.leZ rfl rfl rfl ?_)
      refine J.move rfl rfl (J.wT rfl rfl (J.move rfl rfl (J.wT rfl rfl ?_)))
      (first | refine J.leN rfl rfl rfl ?_ | refine J.leZ rfl rfl rfl ?_)
      refine J.pT rfl rfl rfl (J.assign rfl rfl (J.nil (G.prune [0, 1, 2, 3, 8, 9, 10, 11, 12, 13, 14, 15, 16, 17, 18, 19, 20, 21, 22, 81, 106, 157] rfl (G.cT rfl (G.seq (G.region (J.move rfl rfl ?_)))))))
      (first | refine J.leN rfl rfl rfl ?_ | refine J.leZ rfl rfl rfl ?_)
      refine J.nil (G.cT rfl (G.region (J.move rfl rfl (J.sub8 rfl rfl rfl (by omega) (by omega) (J.add8 rfl rfl rfl (by omega) (J.convN rfl rfl (by show _ < _; decide) (J.assign rfl rfl (J.nil ?_))))))))
      refine G.prune [0, 1, 2, 3, 8, 9, 10, 11, 12, 13, 14, 15, 16, 17, 18, 19, 20, 21, 22, 23, 81, 106] rfl (G.inBlock (G.seq (G.seq (G.region (J.move rfl rfl (J.move rfl rfl ?_))))))
      (first | refine J.geN rfl rfl rfl ?_ | refine J.geZ rfl rfl rfl ?_)
      refine J.nil (G.cT rfl (G.seq (G.region (J.move rfl rfl (J.eff (E.inv0 (unread_spec (i := p) (s := s) (by omega)) [0] [] (method_unread _) rfl rfl rfl rfl rfl) rfl fun _ _ => ?_)))))
      try simp only [apC, apN]
      refine J.nil (G.exit rfl ?_)
      exact G.wl hk'
  · subst hchd
    have hdcb : dc a p ≤ 25 := by unfold dc; split <;> omega
    have hdm := hd9 (dc a p)
    obtain ⟨k1, k2⟩ := hac.dig hd9
    have k3 := hac.w18
    have k4 := hac.n18
    refine J.sk rfl rfl rfl rfl (J.pF rfl rfl rfl (J.nil (G.prune [0, 1, 2, 3, 8, 9, 10, 11, 12, 13, 14, 15, 16, 17, 18, 19, 20, 21, 22, 23, 81, 106, 124] rfl (G.cF rfl (G.seq (G.region (J.move rfl rfl ?_)))))))
    (first | refine J.eqN rfl rfl rfl ?_ | refine J.eqZ rfl rfl rfl ?_)
    refine J.move rfl rfl (J.sk rfl rfl rfl rfl (J.sk rfl rfl rfl rfl (J.pF rfl rfl rfl (J.nil (G.prune [0, 1, 2, 3, 8, 9, 10, 11, 12, 13, 14, 15, 16, 17, 18, 19, 20, 21, 22, 23, 81, 106, 133] rfl (G.cF rfl (G.seq (G.region ?_))))))))
    refine J.assign rfl rfl (J.nil (G.seq (G.block (G.seq (G.region (J.move rfl rfl ?_))))))
    (first | refine J.leN rfl rfl rfl ?_ | refine J.leZ rfl rfl rfl ?_)
    refine J.move rfl rfl (J.wT rfl rfl (J.move rfl rfl (J.wT rfl rfl ?_)))
    (first | refine J.leN rfl rfl rfl ?_ | refine J.leZ rfl rfl rfl ?_)
    refine J.pT rfl rfl rfl (J.assign rfl rfl (J.nil (G.prune [0, 1, 2, 3, 8, 9, 10, 11, 12, 13, 14, 15, 16, 17, 18, 19, 20, 21, 22, 81, 106, 136] rfl (G.cT rfl (G.region (J.move rfl rfl (J.sub8 rfl rfl rfl (by omega) (by omega) (J.convN rfl rfl (by show _ < _; omega) ?_))))))))
    refine J.assign rfl rfl (J.nil (G.prune [0, 1, 2, 3, 8, 9, 10, 11, 12, 13, 14, 15, 16, 17, 18, 19, 20, 21, 22, 23, 81, 106] rfl (G.inBlock (G.seq (G.seq (G.region (J.move rfl rfl (J.move rfl rfl ?_))))))))
    (first | refine J.geN rfl rfl rfl ?_ | refine J.geZ rfl rfl rfl ?_)
    refine J.nil ?_
    rw [Nat.add_sub_cancel_left]
    refine G.cF rfl (G.skip (G.seq (G.region (J.assign rfl rfl (J.nil (G.seq (G.region (J.move rfl rfl ?_))))))))
    (first | refine J.addI rfl rfl rfl (by omega) ?_ | refine J.addZ rfl rfl rfl (by omega) (by omega) ?_)
    refine J.assign rfl rfl (J.nil (G.seq (G.region (J.move rfl rfl (J.move rfl rfl (J.mulU rfl rfl rfl (by omega) (J.move rfl rfl (J.addU rfl rfl rfl (by omega) ?_))))))))
    refine J.assign rfl rfl (J.nil (G.prune [0, 1, 2, 3, 8, 9, 10, 11, 12, 13, 14, 16, 17, 18, 19, 20, 21, 22, 23, 81, 106] rfl (G.seq (G.region (J.move rfl rfl ?_)))))
    (first | refine J.addI rfl rfl rfl (by omega) ?_ | refine J.addZ rfl rfl rfl (by omega) (by omega) ?_)
    refine J.assign rfl rfl (J.nil (G.seq (G.region (J.move rfl rfl (J.move rfl rfl ?_)))))
    (first | refine J.eqN rfl rfl rfl ?_ | refine J.eqZ rfl rfl rfl ?_)
    refine J.nil ?_
    refine G.cut (σ := Option RS × Nat × Nat) (fun t => Ac dg (dc a p + 1) t.1 t.2.1 t.2.2)
      (fun t => [(0, zv t.1), (1, .iface 127 (.pointer (some ⟨rb, 0, none⟩))), (2, .int .i64 0), (3, .bool (decide (p ≤ a))), (9, .int .i64 ((10 : Nat) : Int)), (10, .int .i64 ((dc a p + 1 : Nat) : Int)), (13, .int .i32 ((48 : Nat) : Int)), (14, .bool false), (16, .int .i64 0), (17, .int .u64 ((10 : Nat) : Int)), (18, .int .u64 ((10 ^ 19 : Nat) : Int)), (19, .int .i64 ((19 : Nat) : Int)), (20, .int .u64 (t.2.1 : Nat)), (21, .int .i64 (t.2.2 : Nat)), (22, .int .i64 (dpv a p))])
      (fun t => rd rb s (p + 1) ++ zh true t.1) (fun hk2 => ?_) ?_
    · skip
      refine G.condP rfl (fun hn => ?_) (fun hn => ?_)
      · refine G.seq ?_
        refine G.seq (G.region (J.move rfl rfl ?_))
        (first | refine J.eqN rfl rfl rfl ?_ | refine J.eqZ rfl rfl rfl ?_)
        refine J.nil (G.condF rfl (by decide) (G.region (J.move rfl rfl (J.move rfl rfl (J.move rfl rfl (J.move rfl rfl ?_))))))
        rcases z with _ | ⟨bz, lz, zs⟩
        · simp only [zv, zh] at *
          refine J.eff (E.callP (mulAddWW_same (z := none) hac.r.ok (Nat.le_trans (hac.len hd9 hdcb) (by decide)) (by decide) (by omega)) [] [] rfl rfl rfl rfl rfl) rfl fun q hq => ?_
          try simp only [apC, apN]
          refine J.assign rfl rfl (J.nil (G.prune [0, 1, 2, 3, 8, 9, 10, 11, 12, 13, 14, 16, 17, 18, 19, 22, 23, 81, 106] rfl (G.seq (G.region (J.assign rfl rfl (J.nil (G.region (J.assign rfl rfl ?_))))))))
          refine J.nil ?_
          have hacq : Ac dg (dc a p + 1) q 0 0 := ⟨⟨hq.ok, hq.nm, rfl⟩, Nat.zero_le _, Nat.pow_pos (by decide), by rw [hq.n, ← k2, hn]; simp⟩
          rcases q with _ | q
          · exact G.wk [0] (hk2 (none, 0, 0) hacq)
          · exact G.wk [1, 0] (hk2 (some q, 0, 0) hacq)
        · simp only [zv, zh] at *
          refine J.eff (E.callP (mulAddWW_same (z := some ⟨bz, lz, zs⟩) hac.r.ok (Nat.le_trans (hac.len hd9 hdcb) (by decide)) (by decide) (by omega)) [1] [] rfl rfl rfl rfl rfl) rfl fun q hq => ?_
          try simp only [apC, apN]
          refine J.assign rfl rfl (J.nil (G.prune [0, 1, 2, 3, 8, 9, 10, 11, 12, 13, 14, 16, 17, 18, 19, 22, 23, 81, 106] rfl (G.seq (G.region (J.assign rfl rfl (J.nil (G.region (J.assign rfl rfl ?_))))))))
          refine J.nil ?_
          have hacq : Ac dg (dc a p + 1) q 0 0 := ⟨⟨hq.ok, hq.nm, rfl⟩, Nat.zero_le _, Nat.pow_pos (by decide), by rw [hq.n, ← k2, hn]; simp⟩
          rcases q with _ | q
          · exact G.wk [0] (hk2 (none, 0, 0) hacq)
          · exact G.wk [1, 0] (hk2 (some q, 0, 0) hacq)
      · refine G.skip ?_
        exact G.wl (hk2 (z, w * 10 + dg (dc a p), n + 1) ⟨hac.r, by simp only; omega, k1, k2⟩)
    rintro ⟨z2, w2, n2⟩ hac2
    simp only at hac2 ⊢
    refine G.region (J.move rfl rfl (J.eff (E.inv0 (readCur_spec (i := p + 1) (by omega) (by omega)) [0] [] (method_read _) rfl rfl rfl rfl rfl) rfl fun t1 ht1 => ?_))
    try simp only [apC, apN]
    refine J.move rfl rfl (J.extractL rfl rfl rfl (J.extractL rfl rfl rfl (J.assign rfl rfl (J.assign rfl rfl (J.nil (G.prune [0, 1, 2, 3, 8, 9, 10, 11, 12, 13, 14, 15, 16, 17, 18, 19, 20, 21, 22, 23, 81, 106] rfl (G.inBlock ?_)))))))
    have ih' := ih ⟨(p + 1, t1.1, t1.2.1, t1.2.2, 48, z2, w2, n2), hp2, ht1, .inr rfl, by simp only; rw [e1]; exact hac2⟩ (by simp only; omega)
    simp only [e1, e2, e3] at ih'
    exact G.wl ih'
end
section
set_option maxRecDepth 100000
set_option pp.deepTerms false
variable {V : Addr}
theorem scanExp_none {s : ByteArray} {rb : Nat} {b1 b2 : Bool} (hs : s.size ≤ 1000) :
    Spec (cx V) 105 #[.iface 127 (.pointer (some ⟨rb, 0, none⟩)), .bool b1, .bool b2] (rd rb s s.size) [] (fun _ : Unit => .tuple #[.int .i64 0, .int .i64 10, .nilIface]) (fun _ => rd rb s s.size) (fun _ => True) := by
  refine Spec.enter Tryz.func105 rfl Tryz.ntmps105 (by simp) [(0, .iface 127 (.pointer (some ⟨rb, 0, none⟩))), (1, .bool b1), (2, .bool b2)] (by simp) ?_
  intro X hR
  try simp only [apC, apN]
  refine G.seq (G.region (J.assign rfl rfl (J.assign rfl rfl (J.assign rfl rfl (J.nil (G.seq (G.region (J.move rfl rfl ?_))))))))
  refine J.eff (E.inv0 (readByte_end (s := s) (by omega)) [0] [] (method_read _) rfl rfl rfl rfl rfl) rfl fun _ _ => ?_
  try simp only [apC, apN]
  refine J.move rfl rfl (J.extractL rfl rfl rfl (J.extractL rfl rfl rfl (J.assign rfl rfl (J.assign rfl rfl (J.nil (G.prune [0, 1, 2, 6, 7, 8, 9, 10, 11, 12, 13] rfl (G.seq (G.seq ?_))))))))
  refine G.region (J.move rfl rfl ?_)
  (first | refine J.nilNilN rfl rfl ?_ | refine J.ifNilN rfl rfl ?_)
  refine J.nil (G.cT rfl (G.seq (G.seq (G.region (J.move rfl rfl (J.loadGi 0 rfl rfl rfl rfl ?_))))))
  (first | refine J.ifSameE rfl rfl rfl ?_ | refine J.nilIfE rfl rfl rfl ?_)
  refine J.nil (G.cT rfl (G.region (J.assign rfl rfl (J.nil (G.seq (G.region (J.move rfl rfl (J.assign rfl rfl ?_))))))))
  refine J.assign rfl rfl (J.assign rfl rfl (J.nil (G.prune [0, 1, 2, 6, 7, 8, 9, 10, 11, 12, 13] rfl (G.ret (hR _) ?_))))
  exact GL.done (()) rfl rfl (trivial) rfl [0] rfl (by decide) (by simp [rd])
structure Ex10 (s : ByteArray) (p q n sg : Nat) (dg : Nat → Nat) : Prop where
  l : Byt s p 101 ∨ Byt s p 69
  sg : (sg = 0 ∧ q = p + 1) ∨ ((sg = 43 ∨ sg = 45) ∧ q = p + 2 ∧ Byt s (p + 1) sg)
  d : ∀ j, j < n → Byt s (q + j) (48 + dg j)
  e : s.size = q + n
  n0 : 0 < n
  n17 : n ≤ 17
  d9 : ∀ j, dg j ≤ 9
  sz : s.size ≤ 1000
theorem Byt.ofList {ys : List Nat} {i v : Nat} (h : ys[i]? = some v) (h8 : v < 256) : Byt (bstr ys) i v := by
  have hi : i < ys.length := (List.getElem?_eq_some_iff.1 h).1
  have hv : ys[i]'hi = v := (List.getElem?_eq_some_iff.1 h).2
  have hsz : (bstr ys).size = ys.length := by show ((ys.map UInt8.ofNat).toArray).size = _; simp
  refine ⟨UInt8.ofNat v, ?_, UInt8.toNat_ofNat_of_lt' h8⟩
  rw [getElem?_pos (bstr ys) i (by rw [hsz]; exact hi)]
  have e : ((ys.map UInt8.ofNat).toArray)[i]? = some (UInt8.ofNat v) := by simp [h]
  have hi2 : i < ((ys.map UInt8.ofNat).toArray).size := by simpa using hi
  rw [Array.getElem?_eq_getElem hi2] at e
  exact e
theorem bstr_size (ys : List Nat) : (bstr ys).size = ys.length := by show ((ys.map UInt8.ofNat).toArray).size = _; simp
end
section
set_option maxRecDepth 100000
set_option pp.deepTerms false
variable {V : Addr}
theorem lsh_law {zs0 xs0 zs : List Nat} {k m s c x : Nat} (h : SL zs0 xs0 k 0 s m c zs) (hs : s ≤ 64) (hl : k + m < zs0.length) (hx : rv xs0 0 m = x) (hcw : c < 18446744073709551616) :
    Wd (splice (zs.set (k + m) c) 0 (List.replicate k 0)) ∧ (splice (zs.set (k + m) c) 0 (List.replicate k 0)).length = zs0.length ∧ rv (splice (zs.set (k + m) c) 0 (List.replicate k 0)) 0 (k + m + 1) = x * 2 ^ (64 * k + s) := by
  have hlen := h.w.len
  have hr : (List.replicate k 0).length = k := List.length_replicate ..
  have hsl : 0 + (List.replicate k 0).length ≤ (zs.set (k + m) c).length := by rw [List.length_set]; omega
  refine ⟨(h.w.wd.set hcw).splice (Wd.rep _) hsl, by rw [splice_len _ _ _ hsl, List.length_set, hlen], ?_⟩
  rw [Nat.add_assoc, rv_split]
  have e0 : rv (splice (zs.set (k + m) c) 0 (List.replicate k 0)) 0 k = 0 := rv_zero fun j hj => by
    rw [getD_splice hsl, if_pos (by omega)]
    simp [List.getD_eq_getElem?_getD, List.getElem?_replicate, hj]
  have e1 : rv (splice (zs.set (k + m) c) 0 (List.replicate k 0)) (0 + k) (m + 1) = rv zs k m + c * 18446744073709551616 ^ m := by
    have e2 : rv (splice (zs.set (k + m) c) 0 (List.replicate k 0)) (0 + k) (m + 1) = rv (zs.set (k + m) c) k (m + 1) := rv_congr fun j hj => by
      rw [getD_splice hsl, if_neg (by omega)]; congr 1; omega
    rw [e2, rv_put (by omega)]
  have e3 := rv_shl (n := m) hs h.e
  rw [← h.c, hx] at e3
  rw [e0, e1, e3, Nat.zero_add, Nat.pow_add, show (18446744073709551616 : Nat) = 2 ^ 64 by decide, ← Nat.pow_mul]
  rw [Nat.mul_left_comm, ← Nat.mul_assoc]
theorem SL.c_lt {zs0 xs0 zs : List Nat} {oz ox s n c : Nat} (h : SL zs0 xs0 oz ox s n c zs) (hw : Wd xs0) : c < 18446744073709551616 := by
  rw [h.c]; split
  · decide
  · exact Nat.lt_of_le_of_lt (Nat.div_le_self _ _) (hw _)
theorem lsh_same {z : RS} {v s : Nat} (hz : Res (some z) v) (h0 : 0 < z.len) (h9 : z.len ≤ 1000) (hs : 0 < s) (hs2 : s ≤ 100000) :
    Spec (cx V) 86 #[zv (some z), zv (some z), .int .u64 s] (zh true (some z)) [] zv (zh true) (fun q => Res q (v * 2 ^ s)) := by
  obtain ⟨b, l, zs⟩ := z
  obtain ⟨z1, z2, z3⟩ := hz.ok
  have hzn := hz.n
  simp only [zv, zh, zn] at *
  have hsv : 64 * (s / 64) + s % 64 = s := Nat.div_add_mod s 64
  obtain ⟨k, hk⟩ : ∃ k, k = s / 64 := ⟨_, rfl⟩
  obtain ⟨s', hs'⟩ : ∃ s', s' = s % 64 := ⟨_, rfl⟩
  have hs64 : s' < 64 := by omega
  rw [← hk, ← hs'] at hsv
  have hk2 : k ≤ 2000 := by omega
  refine Spec.enter Tryz.func86 rfl Tryz.ntmps86 (by simp) [(0, .slice (some ⟨b, 0, none⟩) l zs.length), (1, .slice (some ⟨b, 0, none⟩) l zs.length), (2, .int .u64 s)] (by simp) ?_
  intro X hR
  try simp only [apC, apN]
  refine G.seq (G.region (J.assign rfl rfl (J.nil (G.seq (G.seq (G.region (J.move rfl rfl ?_)))))))
  (first | refine J.eqN rfl rfl rfl ?_ | refine J.eqZ rfl rfl rfl ?_)
  refine J.nil (G.cF rfl (G.skip (G.seq (G.region (J.move rfl rfl (J.lenS rfl rfl (J.assign rfl rfl (J.nil ?_))))))))
  refine G.seq (G.seq (G.region (J.move rfl rfl ?_)))
  (first | refine J.eqN rfl rfl rfl ?_ | refine J.eqZ rfl rfl rfl ?_)
  refine J.nil (G.cF rfl (G.skip (G.seq (G.region (J.move rfl rfl (J.move rfl rfl (J.quoU rfl rfl rfl (by omega) (by omega) (J.convN rfl rfl (by show _ < _; omega) ?_))))))))
  (first | refine J.addI rfl rfl rfl (by omega) ?_ | refine J.addZ rfl rfl rfl (by omega) (by omega) ?_)
  refine J.assign rfl rfl (J.nil (G.prune [0, 1, 2, 6, 7, 8] rfl (G.seq (G.region (J.move rfl rfl (J.move rfl rfl ?_))))))
  (first | refine J.addI rfl rfl rfl (by omega) ?_ | refine J.addZ rfl rfl rfl (by omega) (by omega) ?_)
  rw [← hk]
  by_cases hf : l + k + 1 ≤ zs.length
  · skip
    refine J.eff (E.callP (make_fit hf) [] [] rfl rfl rfl rfl rfl) rfl fun _ _ => ?_
    try simp only [apC, apN]
    refine J.assign rfl rfl (J.nil (G.prune [0, 1, 2, 6, 7, 8] rfl (G.seq (G.seq (G.region (J.move rfl rfl (J.remN rfl rfl rfl (by omega) (J.assign rfl rfl ?_))))))))
    refine J.nil (G.seq (G.region (J.move rfl rfl ?_)))
    (first | refine J.eqN rfl rfl rfl ?_ | refine J.eqZ rfl rfl rfl ?_)
    refine J.nil ?_
    rw [← hs']
    refine G.cut (σ := Nat × List Nat) (fun t => SL zs zs k 0 s' l t.1 t.2) (fun t => [(0, .slice (some ⟨b, 0, none⟩) (l + k + 1) zs.length), (7, .int .i64 l), (8, .int .i64 ((l + k : Nat) : Int))]) (fun t => [⟨b, 162, cells .u64 (t.2.set (k + l) t.1), true⟩]) (fun hk3 => ?_) ?_
    · skip
      refine G.condP rfl (fun hs0 => ?_) (fun hs0 => ?_)
      · refine G.seq ?_
        refine G.region (J.move rfl rfl (J.move rfl rfl (J.move rfl rfl ?_)))
        (first | refine J.subI rfl rfl rfl (by omega) (by omega) ?_ | refine J.subZ rfl rfl rfl (by omega) (by omega) ?_)
        refine J.move rfl rfl ?_
        (first | refine J.slLH1 rfl rfl rfl rfl (by omega) (by omega) (by omega) ?_ | refine J.slLHnil rfl rfl rfl rfl (by omega) (by omega) ?_)
        refine J.move rfl rfl ?_
        simp only [Nat.zero_add, show l + k - l = k by omega, Nat.add_sub_cancel]
        refine J.eff (E.copy (xs := zs) (ys := zs) (o := k) (o2 := 0) (q := l) rfl rfl rfl Mem.h (Nat.min_self l) (by omega) (by omega) Upd1.h) rfl ?_
        have hsl := SL.copy (zs0 := zs) (xs0 := zs) (oz := k) (ox := 0) (n := l) (by omega) (by omega) z3 z3
        have hlen := hsl.w.len
        refine J.nil (G.prune [0, 6, 7, 8] rfl (G.region (J.move rfl rfl (J.move rfl rfl (J.ix rfl rfl rfl (J.eff (E.sc rfl rfl) rfl (J.nil (G.prune [0, 6, 7, 8] rfl ?_))))))))
        subst hs0
        have hk4 := hk3 (0, splice zs k ((zs.drop 0).take l)) hsl
        simp only [Nat.zero_add, Nat.add_comm l k]
        simp only [Nat.add_comm l k] at hk4
        exact G.wk [0] hk4
      · refine G.region ?_
        refine J.move rfl rfl (J.move rfl rfl (J.move rfl rfl (J.move rfl rfl (J.move rfl rfl ?_))))
        (first | refine J.subI rfl rfl rfl (by omega) (by omega) ?_ | refine J.subZ rfl rfl rfl (by omega) (by omega) ?_)
        refine J.move rfl rfl ?_
        (first | refine J.slLH1 rfl rfl rfl rfl (by omega) (by omega) (by omega) ?_ | refine J.slLHnil rfl rfl rfl rfl (by omega) (by omega) ?_)
        refine J.move rfl rfl (J.move rfl rfl ?_)
        simp only [Nat.zero_add, show l + k - l = k by omega, Nat.add_sub_cancel]
        refine J.eff (E.callP (lshVUS_spec (V := V) (oz := k) (n := l) (ox := 0) (zs0 := zs) (by omega) z3 (by omega) (.inl (Nat.zero_le _)) (by omega) hs64) [0] [] rfl rfl rfl rfl rfl) rfl fun p hp => ?_
        try simp only [apC, apN]
        have hlen := hp.w.len
        refine J.ix rfl rfl rfl (J.eff (E.sc rfl rfl) rfl (J.nil (G.prune [0, 6, 7, 8] rfl ?_)))
        have hk4 := hk3 p hp
        simp only [Nat.zero_add, Nat.add_comm l k]
        simp only [Nat.add_comm l k] at hk4
        exact G.wk [0] hk4
    rintro ⟨c, ts⟩ hsl
    simp only at hsl ⊢
    have hlen := hsl.w.len
    obtain ⟨q1, q2, q3⟩ := lsh_law hsl (by omega) (by omega) hzn (hsl.c_lt z3)
    refine G.seq (G.region (J.move rfl rfl (J.move rfl rfl (J.move rfl rfl ?_))))
    (first | refine J.subI rfl rfl rfl (by omega) (by omega) ?_ | refine J.subZ rfl rfl rfl (by omega) (by omega) ?_)
    refine J.slH0 rfl rfl rfl (by omega) rfl ?_
    simp only [show l + k - l = k by omega]
    refine J.eff (E.clear (xs := ts.set (k + l) c) rfl rfl (by rw [List.length_set]; omega) Upd1.h) rfl (J.nil (G.prune [0, 6] rfl (G.seq (G.region (J.move rfl rfl (J.eff (E.callP (norm_spec (o := 0) (len := l + k + 1) (xs := splice (ts.set (k + l) c) 0 (List.replicate k 0)) (by omega) (by omega) (by omega)) [] [0] rfl rfl rfl rfl rfl) rfl fun _ _ => ?_))))))
    try simp only [apC, apN]
    refine J.assign rfl rfl (J.nil (G.ret (hR _) ?_))
    rw [show k + l + 1 = l + k + 1 by omega, hsv] at q3
    exact GL.done (some ⟨b, nl (splice (ts.set (k + l) c) 0 (List.replicate k 0)) 0 (l + k + 1), splice (ts.set (k + l) c) 0 (List.replicate k 0)⟩) rfl rfl (Res.norm (by omega) (by omega) q1 q3) (by simp only [zv, q2]; rfl) [0] rfl (by decide) (by simp [zh])
  · skip
    have hc1 := mcap_ge (l + k + 1)
    have hc2 := mcap_le (l + k + 1)
    have hl2 : (List.replicate (mcap (l + k + 1)) 0).length = mcap (l + k + 1) := List.length_replicate ..
    refine J.eff (E.callP (make_new (n := l + k + 1) (by omega) (by omega)) [] [] rfl rfl rfl rfl rfl) rfl fun g _ => ?_
    try simp only [apC, apN]
    refine J.assign rfl rfl (J.nil (G.prune [0, 1, 2, 6, 7, 8] rfl (G.seq (G.seq (G.region (J.move rfl rfl (J.remN rfl rfl rfl (by omega) (J.assign rfl rfl ?_))))))))
    refine J.nil (G.seq (G.region (J.move rfl rfl ?_)))
    (first | refine J.eqN rfl rfl rfl ?_ | refine J.eqZ rfl rfl rfl ?_)
    refine J.nil ?_
    rw [← hs']
    refine G.cut (σ := Nat × List Nat) (fun t => SL (List.replicate (mcap (l + k + 1)) 0) zs k 0 s' l t.1 t.2) (fun t => [(0, .slice (some ⟨g, 0, none⟩) (l + k + 1) (mcap (l + k + 1))), (7, .int .i64 l), (8, .int .i64 ((l + k : Nat) : Int))]) (fun t => [⟨g, 162, cells .u64 (t.2.set (k + l) t.1), true⟩]) (fun hk3 => ?_) ?_
    · skip
      refine G.condP rfl (fun hs0 => ?_) (fun hs0 => ?_)
      · refine G.seq ?_
        refine G.region (J.move rfl rfl (J.move rfl rfl (J.move rfl rfl ?_)))
        (first | refine J.subI rfl rfl rfl (by omega) (by omega) ?_ | refine J.subZ rfl rfl rfl (by omega) (by omega) ?_)
        refine J.move rfl rfl ?_
        (first | refine J.slLH1 rfl rfl rfl rfl (by omega) (by omega) (by omega) ?_ | refine J.slLHnil rfl rfl rfl rfl (by omega) (by omega) ?_)
        refine J.move rfl rfl ?_
        simp only [Nat.zero_add, show l + k - l = k by omega, Nat.add_sub_cancel]
        refine J.eff (E.copy (xs := List.replicate (mcap (l + k + 1)) 0) (ys := zs) (o := k) (o2 := 0) (q := l) rfl rfl rfl (Mem.t Mem.h) (Nat.min_self l) (by omega) (by omega) Upd1.h) rfl ?_
        have hsl := SL.copy (zs0 := List.replicate (mcap (l + k + 1)) 0) (xs0 := zs) (oz := k) (ox := 0) (n := l) (by omega) (by omega) (Wd.rep _) z3
        have hlen := hsl.w.len
        refine J.nil (G.prune [0, 6, 7, 8] rfl (G.region (J.move rfl rfl (J.move rfl rfl (J.ix rfl rfl rfl (J.eff (E.sc rfl rfl) rfl (J.nil (G.prune [0, 6, 7, 8] rfl ?_))))))))
        subst hs0
        have hk4 := hk3 (0, splice (List.replicate (mcap (l + k + 1)) 0) k ((zs.drop 0).take l)) hsl
        simp only [Nat.zero_add, Nat.add_comm l k]
        simp only [Nat.add_comm l k] at hk4
        exact G.wk [0] hk4
      · refine G.region ?_
        refine J.move rfl rfl (J.move rfl rfl (J.move rfl rfl (J.move rfl rfl (J.move rfl rfl ?_))))
        (first | refine J.subI rfl rfl rfl (by omega) (by omega) ?_ | refine J.subZ rfl rfl rfl (by omega) (by omega) ?_)
        refine J.move rfl rfl ?_
        (first | refine J.slLH1 rfl rfl rfl rfl (by omega) (by omega) (by omega) ?_ | refine J.slLHnil rfl rfl rfl rfl (by omega) (by omega) ?_)
        refine J.move rfl rfl (J.move rfl rfl ?_)
        simp only [Nat.zero_add, show l + k - l = k by omega, Nat.add_sub_cancel]
        refine J.eff (E.callP (lshVUO_spec (V := V) (oz := k) (n := l) (ox := 0) (zs0 := List.replicate (mcap (l + k + 1)) 0) (xs0 := zs) (by omega) (Wd.rep _) (by omega) z3 (by omega) hs64) [0] [0] rfl rfl rfl rfl rfl) rfl fun p hp => ?_
        try simp only [apC, apN]
        have hlen := hp.w.len
        refine J.ix rfl rfl rfl (J.eff (E.sc rfl rfl) rfl (J.nil (G.prune [0, 6, 7, 8] rfl ?_)))
        have hk4 := hk3 p hp
        simp only [Nat.zero_add, Nat.add_comm l k]
        simp only [Nat.add_comm l k] at hk4
        exact G.wk [0] hk4
    rintro ⟨c, ts⟩ hsl
    simp only at hsl ⊢
    have hlen := hsl.w.len
    obtain ⟨q1, q2, q3⟩ := lsh_law hsl (by omega) (by omega) hzn (hsl.c_lt z3)
    refine G.seq (G.region (J.move rfl rfl (J.move rfl rfl (J.move rfl rfl ?_))))
    (first | refine J.subI rfl rfl rfl (by omega) (by omega) ?_ | refine J.subZ rfl rfl rfl (by omega) (by omega) ?_)
    refine J.slH0 rfl rfl rfl (by omega) rfl ?_
    simp only [show l + k - l = k by omega]
    refine J.eff (E.clear (xs := ts.set (k + l) c) rfl rfl (by rw [List.length_set]; omega) Upd1.h) rfl (J.nil (G.prune [0, 6] rfl (G.seq (G.region (J.move rfl rfl (J.eff (E.callP (norm_spec (o := 0) (len := l + k + 1) (xs := splice (ts.set (k + l) c) 0 (List.replicate k 0)) (by omega) (by omega) (by omega)) [] [0] rfl rfl rfl rfl rfl) rfl fun _ _ => ?_))))))
    try simp only [apC, apN]
    refine J.assign rfl rfl (J.nil (G.ret (hR _) ?_))
    rw [show k + l + 1 = l + k + 1 by omega, hsv] at q3
    exact GL.done (some ⟨g, nl (splice (ts.set (k + l) c) 0 (List.replicate k 0)) 0 (l + k + 1), splice (ts.set (k + l) c) 0 (List.replicate k 0)⟩) rfl rfl (Res.norm (by omega) (by omega) q1 q3) (by simp only [zv, q2, hl2]; rfl) [0] rfl (by decide) (by simp [zh])
end
section
set_option maxRecDepth 100000
set_option pp.deepTerms false
variable {V : Addr}
theorem dv_law {zs0 xs0 zs : List Nat} {y n r v : Nat} (h : DV zs0 xs0 0 0 y n r zs) (hy : y ≠ 0) (hv : rv xs0 0 n = v) : rv zs 0 n = v / y ∧ r = v % y := by
  have e := h.e
  have hlt := h.lt
  rw [hv] at e
  rw [← e, Nat.add_comm]
  constructor
  · rw [Nat.add_mul_div_right _ _ (by omega), Nat.div_eq_of_lt hlt, Nat.zero_add]
  · rw [Nat.add_mul_mod_self_right, Nat.mod_eq_of_lt hlt]
def zwv (t : Option RS × Nat) : Value := .tuple #[zv t.1, .int .u64 (t.2 : Nat)]
theorem divW_same {z : RS} {v y : Nat} (hz : Res (some z) v) (h0 : 0 < z.len) (hy : 2 ≤ y) (hyW : y < 18446744073709551616) :
    Spec (cx V) 187 #[zv (some z), zv (some z), .int .u64 y] (zh true (some z)) [] zwv (fun t => zh true t.1) (fun t => Res t.1 (v / y) ∧ t.2 = v % y) := by
  obtain ⟨b, l, zs⟩ := z
  obtain ⟨z1, z2, z3⟩ := hz.ok
  have hzn := hz.n
  simp only [zv, zh, zn] at *
  refine Spec.enter Tryz.func187 rfl Tryz.ntmps187 (by simp) [(0, .slice (some ⟨b, 0, none⟩) l zs.length), (1, .slice (some ⟨b, 0, none⟩) l zs.length), (2, .int .u64 y)] (by simp) ?_
  intro X hR
  try simp only [apC, apN]
  refine G.seq (G.region (J.assign rfl rfl (J.assign rfl rfl (J.nil (G.seq (G.region (J.move rfl rfl (J.lenS rfl rfl ?_))))))))
  refine J.assign rfl rfl (J.nil (G.seq (G.block (G.seq (G.region (J.move rfl rfl ?_))))))
  (first | refine J.eqN rfl rfl rfl ?_ | refine J.eqZ rfl rfl rfl ?_)
  refine J.assign rfl rfl (J.nil (G.cF rfl (G.seq (G.region (J.move rfl rfl ?_)))))
  (first | refine J.eqN rfl rfl rfl ?_ | refine J.eqZ rfl rfl rfl ?_)
  refine J.assign rfl rfl (J.nil (G.cF rfl (G.seq (G.region (J.move rfl rfl ?_)))))
  (first | refine J.eqN rfl rfl rfl ?_ | refine J.eqZ rfl rfl rfl ?_)
  refine J.assign rfl rfl (J.nil (G.cF rfl (G.skip (G.inBlock (G.seq (G.region (J.move rfl rfl (J.move rfl rfl ?_))))))))
  refine J.eff (E.callP (make_fit z1) [] [] rfl rfl rfl rfl rfl) rfl fun _ _ => ?_
  try simp only [apC, apN]
  refine J.assign rfl rfl (J.nil (G.prune [0, 1, 2, 6, 7] rfl (G.seq (G.region (J.move rfl rfl (J.move rfl rfl (J.move rfl rfl (J.eff (E.callP (divWVWS_spec (V := V) (oz := 0) (ox := 0) (zs0 := zs) (by omega) z3 (by omega) (.inl (Nat.le_refl _)) (by omega) h0 (by omega) hyW) [0] [] rfl rfl rfl rfl rfl) rfl fun p hp => ?_))))))))
  try simp only [apC, apN]
  have hlen := hp.w.len
  obtain ⟨q1, q2⟩ := dv_law hp (by omega) hzn
  refine J.assign rfl rfl (J.nil (G.prune [0, 6, 7] rfl (G.seq (G.region (J.move rfl rfl (J.eff (E.callP (norm_spec (o := 0) (len := l) (xs := p.2) (by omega) (by omega) (by omega)) [] [0] rfl rfl rfl rfl rfl) rfl fun _ _ => ?_))))))
  try simp only [apC, apN]
  refine J.assign rfl rfl (J.nil (G.ret (hR _) ?_))
  exact GL.done (some ⟨b, nl p.2 0 l, p.2⟩, p.1) rfl rfl ⟨Res.norm (by omega) (by omega) hp.w.wd q1, q2⟩ (by simp only [zwv, zv, hlen]; rfl) [0] rfl (by decide) (by simp [zh])
theorem divW_nil {x : RS} {v y : Nat} (hx : Res (some x) v) (h0 : 0 < x.len) (h9 : x.len ≤ 1000) (hy : y ≠ 0) (hyW : y < 18446744073709551616) :
    Spec (cx V) 187 #[.slice none 0 0, zv (some x), .int .u64 y] [] (zh false (some x)) zwv (fun t => zh true t.1) (fun t => Res t.1 (v / y) ∧ t.2 = v % y) := by
  obtain ⟨b, l, xs⟩ := x
  obtain ⟨z1, z2, z3⟩ := hx.ok
  have hzn := hx.n
  simp only [zv, zh, zn] at *
  refine Spec.enter Tryz.func187 rfl Tryz.ntmps187 (by simp) [(0, .slice none 0 0), (1, .slice (some ⟨b, 0, none⟩) l xs.length), (2, .int .u64 y)] (by simp) ?_
  intro X hR
  try simp only [apC, apN]
  refine G.seq (G.region (J.assign rfl rfl (J.assign rfl rfl (J.nil (G.seq (G.region (J.move rfl rfl (J.lenS rfl rfl ?_))))))))
  refine J.assign rfl rfl (J.nil (G.seq (G.block (G.seq (G.region (J.move rfl rfl ?_))))))
  (first | refine J.eqN rfl rfl rfl ?_ | refine J.eqZ rfl rfl rfl ?_)
  refine J.assign rfl rfl (J.nil (G.cF rfl (G.seq (G.region (J.move rfl rfl ?_)))))
  (first | refine J.eqN rfl rfl rfl ?_ | refine J.eqZ rfl rfl rfl ?_)
  refine J.assign rfl rfl (J.nil ?_)
  refine G.condP rfl (fun hy1 => ?_) (fun hy1 => ?_)
  · refine G.seq ?_
    refine G.region (J.move rfl rfl (J.move rfl rfl ?_))
    subst hy1
    refine J.eff (E.callP (set_nil (x := ⟨b, l, xs⟩) hx h0 (by simp only; omega)) [] [0] rfl rfl rfl rfl rfl) rfl fun q hq => ?_
    try simp only [apC, apN]
    refine J.assign rfl rfl (J.nil (G.prune [0, 1, 2, 6, 7, 8] rfl (G.ret (hR _) ?_)))
    exact GL.doneA (q, 0) rfl rfl ⟨by rw [Nat.div_one]; exact hq, (Nat.mod_one v).symm⟩ rfl _ rfl (zh_wr _)
  · refine G.seq ?_
    refine G.region (J.move rfl rfl ?_)
    (first | refine J.eqN rfl rfl rfl ?_ | refine J.eqZ rfl rfl rfl ?_)
    refine J.assign rfl rfl (J.nil (G.cF rfl (G.skip (G.inBlock (G.seq (G.region (J.move rfl rfl (J.move rfl rfl ?_))))))))
    have hc1 := mcap_ge l
    have hc2 := mcap_le l
    have hl2 : (List.replicate (mcap l) 0).length = mcap l := List.length_replicate ..
    refine J.eff (E.callP (make_new (n := l) (by omega) (by omega)) [] [] rfl rfl rfl rfl rfl) rfl fun g _ => ?_
    try simp only [apC, apN]
    refine J.assign rfl rfl (J.nil (G.prune [0, 1, 2, 6, 7] rfl (G.seq (G.region (J.move rfl rfl (J.move rfl rfl (J.move rfl rfl (J.eff (E.callP (divWVWO_spec (V := V) (n := l) (oz := 0) (ox := 0) (zs0 := List.replicate (mcap l) 0) (xs0 := xs) (by omega) (Wd.rep _) (by omega) z3 (by omega) h0 hy hyW) [0] [0] rfl rfl rfl rfl rfl) rfl fun p hp => ?_))))))))
    try simp only [apC, apN]
    have hlen := hp.w.len
    obtain ⟨q1, q2⟩ := dv_law hp hy hzn
    refine J.assign rfl rfl (J.nil (G.prune [0, 6, 7] rfl (G.seq (G.region (J.move rfl rfl (J.eff (E.callP (norm_spec (o := 0) (len := l) (xs := p.2) (by omega) (by omega) (by omega)) [] [0] rfl rfl rfl rfl rfl) rfl fun _ _ => ?_))))))
    try simp only [apC, apN]
    refine J.assign rfl rfl (J.nil (G.ret (hR _) ?_))
    exact GL.done (some ⟨g, nl p.2 0 l, p.2⟩, p.1) rfl rfl ⟨Res.norm (by omega) (by omega) hp.w.wd q1, q2⟩ (by simp only [zwv, zv, hlen, hl2]; rfl) [0] rfl (by decide) (by simp [zh])
end
section
set_option maxRecDepth 100000
set_option pp.deepTerms false
variable {V : Addr}
def zzv (t : Option RS × Option RS) : Value := .tuple #[zv t.1, zv t.2]
theorem app_wr (a b : Option RS) : ∀ e ∈ zh true a ++ zh true b, e.wr = true := fun e he => by
  rcases List.mem_append.1 he with h | h
  · exact zh_wr _ e h
  · exact zh_wr _ e h
theorem div_same {z y : RS} {v d : Nat} {sv : Value} (hz : Res (some z) v) (h0 : 0 < z.len) (hy : Res (some y) d) (hy1 : y.len = 1) (hd : 2 ≤ d) (hdW : d < 18446744073709551616) :
    Spec (cx V) 132 #[zv (some z), sv, .slice none 0 0, zv (some z), zv (some y)] (zh true (some z)) (zh false (some y)) zzv (fun t => zh true t.2 ++ zh true t.1) (fun t => Res t.1 (v / d) ∧ Res t.2 (v % d)) := by
  obtain ⟨b, l, zs⟩ := z
  obtain ⟨b2, ly, ys⟩ := y
  simp only at hy1
  subst hy1
  obtain ⟨z1, z2, z3⟩ := hz.ok
  obtain ⟨y1, y2, y3⟩ := hy.ok
  have hyn := hy.n
  simp only [zv, zh, zn, rv, Nat.zero_add, Nat.pow_zero, Nat.mul_one] at *
  refine Spec.enter Tryz.func132 rfl Tryz.ntmps132 (by simp) [(0, .slice (some ⟨b, 0, none⟩) l zs.length), (1, sv), (2, .slice none 0 0), (3, .slice (some ⟨b, 0, none⟩) l zs.length), (4, .slice (some ⟨b2, 0, none⟩) 1 ys.length)] (by simp) ?_
  intro X hR
  try simp only [apC, apN]
  refine G.seq (G.region (J.assign rfl rfl (J.assign rfl rfl (J.nil (G.seq (G.seq (G.region (J.move rfl rfl ?_))))))))
  refine J.lenS rfl rfl ?_
  (first | refine J.eqN rfl rfl rfl ?_ | refine J.eqZ rfl rfl rfl ?_)
  refine J.nil (G.cF rfl (G.skip (G.seq (G.seq (G.region (J.move rfl rfl (J.lenS rfl rfl ?_)))))))
  (first | refine J.eqN rfl rfl rfl ?_ | refine J.eqZ rfl rfl rfl ?_)
  refine J.nil (G.cT rfl (G.seq (G.region (J.assign rfl rfl (J.nil (G.seq (G.region (J.move rfl rfl ?_))))))))
  refine J.move rfl rfl (J.move rfl rfl (J.ix rfl rfl rfl (J.lc rfl rfl rfl ?_)))
  simp only [Nat.zero_add, hyn]
  refine J.eff (E.callP (divW_same (z := ⟨b, l, zs⟩) hz h0 hd hdW) [0] [] rfl rfl rfl rfl rfl) rfl fun t ht => ?_
  try simp only [apC, apN]
  obtain ⟨q, r⟩ := t
  obtain ⟨hq, hr⟩ := ht
  simp only [zwv] at hq hr ⊢
  subst hr
  refine J.move rfl rfl (J.extractL rfl rfl rfl (J.extractL rfl rfl rfl (J.assign rfl rfl (J.assign rfl rfl (J.nil (G.prune [0, 1, 2, 3, 4, 10, 11, 12] rfl (G.seq (G.region ?_))))))))
  refine J.move rfl rfl (J.move rfl rfl (J.eff (E.callP (setWord_spec (z := none) trivial (Nat.lt_trans (Nat.mod_lt v (by omega)) hdW)) [] [] rfl rfl rfl rfl rfl) rfl fun r hr => ?_))
  try simp only [apC, apN]
  refine J.assign rfl rfl (J.nil (G.prune [0, 1, 2, 3, 4, 10, 11] rfl (G.ret (hR _) ?_)))
  exact GL.doneA (q, r) rfl rfl ⟨hq, hr⟩ rfl _ (List.append_assoc ..).symm (app_wr _ _)
theorem div_nil {x y : RS} {v d : Nat} {sv : Value} (hx : Res (some x) v) (h0 : 0 < x.len) (h9 : x.len ≤ 1000) (hy : Res (some y) d) (hy1 : y.len = 1) (hd : d ≠ 0) (hdW : d < 18446744073709551616) :
    Spec (cx V) 132 #[.slice none 0 0, sv, .slice none 0 0, zv (some x), zv (some y)] [] (zh false (some x) ++ zh false (some y)) zzv (fun t => zh true t.2 ++ zh true t.1) (fun t => Res t.1 (v / d) ∧ Res t.2 (v % d)) := by
  obtain ⟨b, l, xs⟩ := x
  obtain ⟨b2, ly, ys⟩ := y
  simp only at hy1
  subst hy1
  obtain ⟨z1, z2, z3⟩ := hx.ok
  obtain ⟨y1, y2, y3⟩ := hy.ok
  have hyn := hy.n
  simp only [zv, zh, zn, rv, Nat.zero_add, Nat.pow_zero, Nat.mul_one, List.cons_append, List.nil_append] at *
  refine Spec.enter Tryz.func132 rfl Tryz.ntmps132 (by simp) [(0, .slice none 0 0), (1, sv), (2, .slice none 0 0), (3, .slice (some ⟨b, 0, none⟩) l xs.length), (4, .slice (some ⟨b2, 0, none⟩) 1 ys.length)] (by simp) ?_
  intro X hR
  try simp only [apC, apN]
  refine G.seq (G.region (J.assign rfl rfl (J.assign rfl rfl (J.nil (G.seq (G.seq (G.region (J.move rfl rfl ?_))))))))
  refine J.lenS rfl rfl ?_
  (first | refine J.eqN rfl rfl rfl ?_ | refine J.eqZ rfl rfl rfl ?_)
  refine J.nil (G.cF rfl (G.skip (G.seq (G.seq (G.region (J.move rfl rfl (J.lenS rfl rfl ?_)))))))
  (first | refine J.eqN rfl rfl rfl ?_ | refine J.eqZ rfl rfl rfl ?_)
  refine J.nil (G.cT rfl (G.seq (G.region (J.assign rfl rfl (J.nil (G.seq (G.region (J.move rfl rfl ?_))))))))
  refine J.move rfl rfl (J.move rfl rfl (J.ix rfl rfl rfl (J.lc rfl rfl rfl ?_)))
  simp only [Nat.zero_add, hyn]
  refine J.eff (E.callP (divW_nil (x := ⟨b, l, xs⟩) hx h0 h9 hd hdW) [] [0] rfl rfl rfl rfl rfl) rfl fun t ht => ?_
  try simp only [apC, apN]
  obtain ⟨q, r⟩ := t
  obtain ⟨hq, hr⟩ := ht
  simp only [zwv] at hq hr ⊢
  subst hr
  refine J.move rfl rfl (J.extractL rfl rfl rfl (J.extractL rfl rfl rfl (J.assign rfl rfl (J.assign rfl rfl (J.nil (G.prune [0, 1, 2, 3, 4, 10, 11, 12] rfl (G.seq (G.region ?_))))))))
  refine J.move rfl rfl (J.move rfl rfl (J.eff (E.callP (setWord_spec (z := none) trivial (Nat.lt_trans (Nat.mod_lt v (by omega)) hdW)) [] [] rfl rfl rfl rfl rfl) rfl fun r hr => ?_))
  try simp only [apC, apN]
  refine J.assign rfl rfl (J.nil (G.prune [0, 1, 2, 3, 4, 10, 11] rfl (G.ret (hR _) ?_)))
  exact GL.doneA (q, r) rfl rfl ⟨hq, hr⟩ rfl _ (List.append_assoc ..).symm (app_wr _ _)
end
section
set_option maxRecDepth 100000
set_option pp.deepTerms false
variable {V : Addr}
def cmpZ (v u : Nat) : Int := if v < u then -1 else if u < v then 1 else 0
structure Eqi (xs ys : List Nat) (m i : Nat) : Prop where
  h : ∀ j, i < j → j < m → xs.getD j 0 = ys.getD j 0
theorem rv_cut {xs : List Nat} {m i : Nat} (hi : i < m) : rv xs 0 m = rv xs 0 i + xs.getD i 0 * 18446744073709551616 ^ i + 18446744073709551616 ^ (i + 1) * rv xs (i + 1) (m - (i + 1)) := by
  have h := rv_split xs 0 (i + 1) (m - (i + 1))
  rw [show i + 1 + (m - (i + 1)) = m by omega, rv_succ, Nat.zero_add, Nat.zero_add] at h
  exact h
theorem Eqi.lt {xs ys : List Nat} {m i : Nat} (h : Eqi xs ys m i) (hi : i < m) (hx : Wd xs) (hl : xs.getD i 0 < ys.getD i 0) : rv xs 0 m < rv ys 0 m := by
  rw [rv_cut hi, rv_cut (xs := ys) hi]
  have e : rv xs (i + 1) (m - (i + 1)) = rv ys (i + 1) (m - (i + 1)) := rv_congr fun j hj => h.h _ (by omega) (by omega)
  rw [e]
  have h1 := rv_lt hx 0 i
  have h2 : (xs.getD i 0 + 1) * 18446744073709551616 ^ i ≤ ys.getD i 0 * 18446744073709551616 ^ i := Nat.mul_le_mul_right _ hl
  rw [Nat.add_mul, Nat.one_mul] at h2
  omega
theorem Eqi.eq {xs ys : List Nat} {m : Nat} (h : Eqi xs ys m 0) (hm : 0 < m) (hl : xs.getD 0 0 = ys.getD 0 0) : rv xs 0 m = rv ys 0 m :=
  rv_congr fun j hj => by
    rw [Nat.zero_add]
    rcases Nat.eq_zero_or_pos j with h0 | h0
    · subst h0; exact hl
    · exact h.h j h0 hj
theorem Eqi.symm {xs ys : List Nat} {m i : Nat} (h : Eqi xs ys m i) : Eqi ys xs m i := ⟨fun j h1 h2 => (h.h j h1 h2).symm⟩
theorem res_ge {r : RS} {v : Nat} (h : Res (some r) v) (h0 : 0 < r.len) : 18446744073709551616 ^ (r.len - 1) ≤ v := by
  have h1 := h.nm
  have h2 := h.n
  simp only [znm, zn] at h1 h2
  have h3 := rv_ge_top (xs := r.xs) (n := r.len - 1) (h1.resolve_left (by omega))
  rw [show r.len - 1 + 1 = r.len by omega, h2] at h3
  exact h3
theorem res_lt {r : RS} {v : Nat} (h : Res (some r) v) : v < 18446744073709551616 ^ r.len := by
  rw [← h.n]; exact rv_lt h.ok.2.2 _ _
theorem cmp_len {x y : RS} {v u : Nat} (hx : Res (some x) v) (hy : Res (some y) u) (h : x.len < y.len) : v < u := by
  have h1 := res_lt hx
  have h2 := res_ge hy (by omega)
  have h3 : 18446744073709551616 ^ x.len ≤ 18446744073709551616 ^ (y.len - 1) := Nat.pow_le_pow_right (by decide) (by omega)
  omega
theorem cmp_spec {x y : RS} {v u : Nat} (hx : Res (some x) v) (hy : Res (some y) u) (h0 : 0 < x.len) :
    Spec (cx V) 176 #[zv (some x), zv (some y)] [] (zh false (some x) ++ zh false (some y)) (fun _ : Unit => .int .i64 (cmpZ v u)) (fun _ => []) (fun _ => True) := by
  have c1 := cmp_len hx hy
  have c2 := cmp_len hy hx
  obtain ⟨b, l, xs⟩ := x
  obtain ⟨b2, ly, ys⟩ := y
  obtain ⟨x1, x2, x3⟩ := hx.ok
  obtain ⟨y1, y2, y3⟩ := hy.ok
  have hxn := hx.n
  have hyn := hy.n
  simp only [zv, zh, zn, List.cons_append, List.nil_append] at *
  refine Spec.enter Tryz.func176 rfl Tryz.ntmps176 (by simp) [(0, .slice (some ⟨b, 0, none⟩) l xs.length), (1, .slice (some ⟨b2, 0, none⟩) ly ys.length)] (by simp) ?_
  intro X hR
  try simp only [apC, apN]
  refine G.seq (G.region (J.assign rfl rfl (J.nil (G.seq (G.region (J.move rfl rfl (J.lenS rfl rfl (J.assign rfl rfl ?_))))))))
  refine J.nil (G.seq (G.region (J.move rfl rfl (J.lenS rfl rfl (J.assign rfl rfl (J.nil (G.seq (G.seq ?_))))))))
  refine G.region (J.move rfl rfl (J.move rfl rfl ?_))
  (first | refine J.neN rfl rfl rfl ?_ | refine J.neZ rfl rfl rfl ?_)
  refine J.move rfl rfl ?_
  rcases Nat.lt_trichotomy l ly with hl | hl | hl
  · have hc : cmpZ v u = -1 := by rw [cmpZ, if_pos (c1 hl)]
    refine J.sk rfl rfl rfl rfl (J.sk rfl rfl rfl rfl (J.pT rfl rfl rfl (J.nil (G.prune [0, 1, 4, 5, 6, 18] rfl (G.cT rfl (G.seq (G.block (G.seq ?_))))))))
    refine G.region (J.move rfl rfl (J.move rfl rfl ?_))
    (first | refine J.ltN rfl rfl rfl ?_ | refine J.ltZ rfl rfl rfl ?_)
    refine J.assign rfl rfl (J.nil (G.prune [0, 1, 4, 5, 6, 19] rfl (G.cT rfl (G.region (J.assign rfl rfl (J.nil (G.inBlock (G.ret (hR _) ?_))))))))
    exact GL.done () rfl rfl trivial (by rw [hc]; rfl) [] rfl (by decide) (by simp)
  · subst hl
    refine J.wF rfl rfl (J.move rfl rfl (J.wF rfl rfl ?_))
    (first | refine J.eqN rfl rfl rfl ?_ | refine J.eqZ rfl rfl rfl ?_)
    refine J.pF rfl rfl rfl (J.nil (G.prune [0, 1, 4, 5, 6, 18] rfl (G.cF rfl (G.skip (G.seq (G.region (J.move rfl rfl ?_)))))))
    (first | refine J.subI rfl rfl rfl (by omega) (by omega) ?_ | refine J.subZ rfl rfl rfl (by omega) (by omega) ?_)
    refine J.assign rfl rfl (J.nil (G.seq (G.block ?_)))
    refine G.loopW (σ := { i : Nat // i < l ∧ Eqi xs ys l i }) (fun i => [(0, .slice (some ⟨b, 0, none⟩) l xs.length), (1, .slice (some ⟨b2, 0, none⟩) l ys.length), (4, .int .i64 0), (7, .int .i64 (i.1 : Nat))]) (fun _ => [⟨b, 162, cells .u64 xs, false⟩, ⟨b2, 162, cells .u64 ys, false⟩]) (fun i => i.1) ⟨l - 1, by omega, ⟨fun j h1 h2 => absurd h2 (by omega)⟩⟩ (by repeat (first | exact SubSlots.nil _ | refine SubSlots.cons rfl ?_)) [0, 1] rfl (by decide) ?_
    rintro ⟨i, hi, hq⟩ ih
    simp only at ih hi ⊢
    have w1 := x3 i
    have w2 := y3 i
    have cl := hq.lt hi x3
    have cg := hq.symm.lt hi y3
    rw [hxn, hyn] at cl
    rw [hxn, hyn] at cg
    refine G.seq (G.seq (G.regionS [0, 1, 2, 3, 4, 5, 6, 7, 8, 9, 10, 11, 12] none none [⟨b, 162, cells .u64 xs, false⟩, ⟨b2, 162, cells .u64 ys, false⟩] (by kernel_rfl) (SubH.of [0, 1] rfl) rfl (J.move rfl rfl ?_)))
    (first | refine J.gtN rfl rfl rfl ?_ | refine J.gtZ rfl rfl rfl ?_)
    refine J.move rfl rfl ?_
    by_cases hgo : 0 < i ∧ xs.getD i 0 = ys.getD i 0
    · obtain ⟨hi0, he⟩ := hgo
      refine J.wT rfl rfl (J.move rfl rfl (J.wT rfl rfl (J.move rfl rfl (J.wT rfl rfl (J.ix rfl rfl rfl (J.wT rfl rfl (J.loadC rfl rfl rfl (by first | exact Mem.h | exact M1 | exact M2 | exact M3 | exact M4 | exact M5 | exact M6 | exact M7 | exact M8 | exact M9) (by first | omega | (simp only [Nat.mul_one, Nat.one_mul, Nat.zero_mul, List.length_set, List.length_cons, List.length_nil, List.length_replicate]; omega) | (simp; omega)) (J.wT rfl rfl ?_))))))))
      refine J.move rfl rfl (J.wT rfl rfl (J.move rfl rfl (J.wT rfl rfl (J.ix rfl rfl rfl (J.wT rfl rfl (J.loadC rfl rfl rfl (by first | exact Mem.h | exact M1 | exact M2 | exact M3 | exact M4 | exact M5 | exact M6 | exact M7 | exact M8 | exact M9) (by first | omega | (simp only [Nat.mul_one, Nat.one_mul, Nat.zero_mul, List.length_set, List.length_cons, List.length_nil, List.length_replicate]; omega) | (simp; omega)) (J.wT rfl rfl ?_)))))))
      (first | refine J.eqN rfl rfl rfl ?_ | refine J.eqZ rfl rfl rfl ?_)
      refine J.pT rfl rfl rfl (J.nil (G.prune [0, 1, 4, 5, 6, 7, 41] rfl ?_))
      simp only [Nat.zero_add]
      refine G.cT rfl (G.skip (G.block (G.region (J.move rfl rfl ?_))))
      (first | refine J.subI rfl rfl rfl (by omega) (by omega) ?_ | refine J.subZ rfl rfl rfl (by omega) (by omega) ?_)
      refine J.assign rfl rfl (J.nil (G.inBlock ?_))
      have hq' : Eqi xs ys l (i - 1) := ⟨fun j h1 h2 => by
        rcases Nat.eq_or_lt_of_le (show i ≤ j by omega) with h3 | h3
        · subst h3; exact he
        · exact hq.h j h3 h2⟩
      exact G.wk [0, 1] (ih ⟨i - 1, by omega, hq'⟩ (by simp only; omega))
    · by_cases hi0 : i = 0
      · subst hi0
        refine J.sk rfl rfl rfl rfl (J.sk rfl rfl rfl rfl (J.sk rfl rfl rfl rfl (J.sk rfl rfl rfl rfl (J.sk rfl rfl rfl rfl (J.sk rfl rfl rfl rfl (J.sk rfl rfl rfl rfl (J.sk rfl rfl rfl rfl (J.sk rfl rfl rfl rfl ?_))))))))
        refine J.pF rfl rfl rfl (J.nil (G.prune [0, 1, 4, 5, 6, 7, 41] rfl (G.cF rfl (G.exit rfl (G.seq (G.block (G.seq (G.regionS [0, 1, 2, 3, 4, 5, 6, 7, 8, 9] none none [⟨b, 162, cells .u64 xs, false⟩, ⟨b2, 162, cells .u64 ys, false⟩] (by kernel_rfl) (SubH.of [0, 1] rfl) rfl ?_))))))))
        refine J.move rfl rfl (J.move rfl rfl (J.ix rfl rfl rfl (J.loadC rfl rfl rfl (by first | exact Mem.h | exact M1 | exact M2 | exact M3 | exact M4 | exact M5 | exact M6 | exact M7 | exact M8 | exact M9) (by first | omega | (simp only [Nat.mul_one, Nat.one_mul, Nat.zero_mul, List.length_set, List.length_cons, List.length_nil, List.length_replicate]; omega) | (simp; omega)) (J.move rfl rfl (J.move rfl rfl (J.ix rfl rfl rfl (J.loadC rfl rfl rfl (by first | exact Mem.h | exact M1 | exact M2 | exact M3 | exact M4 | exact M5 | exact M6 | exact M7 | exact M8 | exact M9) (by first | omega | (simp only [Nat.mul_one, Nat.one_mul, Nat.zero_mul, List.length_set, List.length_cons, List.length_nil, List.length_replicate]; omega) | (simp; omega)) ?_)))))))
        (first | refine J.ltN rfl rfl rfl ?_ | refine J.ltZ rfl rfl rfl ?_)
        refine J.assign rfl rfl (J.nil (G.prune [0, 1, 4, 7, 44] rfl ?_))
        simp only [Nat.zero_add]
        refine G.condP rfl (fun hlt => ?_) (fun hlt => ?_)
        · refine G.region ?_
          refine J.assign rfl rfl (J.nil (G.inBlock (G.ret (hR _) ?_)))
          exact GL.done () rfl rfl trivial (by rw [cmpZ, if_pos (cl hlt)]; rfl) [] rfl (by decide) (by simp)
        · refine G.seq ?_
          refine G.regionS [0, 1, 2, 3, 4, 5, 6, 7, 8, 9] none none [⟨b, 162, cells .u64 xs, false⟩, ⟨b2, 162, cells .u64 ys, false⟩] (by kernel_rfl) (SubH.of [0, 1] rfl) rfl (J.move rfl rfl (J.move rfl rfl (J.ix rfl rfl rfl (J.loadC rfl rfl rfl (by first | exact Mem.h | exact M1 | exact M2 | exact M3 | exact M4 | exact M5 | exact M6 | exact M7 | exact M8 | exact M9) (by first | omega | (simp only [Nat.mul_one, Nat.one_mul, Nat.zero_mul, List.length_set, List.length_cons, List.length_nil, List.length_replicate]; omega) | (simp; omega)) (J.move rfl rfl (J.move rfl rfl (J.ix rfl rfl rfl (J.loadC rfl rfl rfl (by first | exact Mem.h | exact M1 | exact M2 | exact M3 | exact M4 | exact M5 | exact M6 | exact M7 | exact M8 | exact M9) (by first | omega | (simp only [Nat.mul_one, Nat.one_mul, Nat.zero_mul, List.length_set, List.length_cons, List.length_nil, List.length_replicate]; omega) | (simp; omega)) ?_))))))))
          (first | refine J.gtN rfl rfl rfl ?_ | refine J.gtZ rfl rfl rfl ?_)
          refine J.assign rfl rfl (J.nil (G.prune [4, 54] rfl ?_))
          simp only [Nat.zero_add]
          refine G.condP rfl (fun hgt => ?_) (fun hgt => ?_)
          · refine G.region ?_
            refine J.assign rfl rfl (J.nil (G.inBlock (G.ret (hR _) ?_)))
            exact GL.done () rfl rfl trivial (by have := cg hgt; rw [cmpZ, if_neg (by omega), if_pos this]; rfl) [] rfl (by decide) (by simp)
          · refine G.skip ?_
            refine G.inBlock ?_
            have he := hq.eq hi (by omega)
            rw [hxn, hyn] at he
            refine G.ret (hR _) ?_
            exact GL.done () rfl rfl trivial (by rw [cmpZ, if_neg (by omega), if_neg (by omega)]; rfl) [] rfl (by decide) (by simp)
      · have hne : xs.getD i 0 ≠ ys.getD i 0 := fun e => hgo ⟨by omega, e⟩
        refine J.wT rfl rfl (J.move rfl rfl (J.wT rfl rfl (J.move rfl rfl (J.wT rfl rfl (J.ix rfl rfl rfl (J.wT rfl rfl (J.loadC rfl rfl rfl (by first | exact Mem.h | exact M1 | exact M2 | exact M3 | exact M4 | exact M5 | exact M6 | exact M7 | exact M8 | exact M9) (by first | omega | (simp only [Nat.mul_one, Nat.one_mul, Nat.zero_mul, List.length_set, List.length_cons, List.length_nil, List.length_replicate]; omega) | (simp; omega)) (J.wT rfl rfl ?_))))))))
        refine J.move rfl rfl (J.wT rfl rfl (J.move rfl rfl (J.wT rfl rfl (J.ix rfl rfl rfl (J.wT rfl rfl (J.loadC rfl rfl rfl (by first | exact Mem.h | exact M1 | exact M2 | exact M3 | exact M4 | exact M5 | exact M6 | exact M7 | exact M8 | exact M9) (by first | omega | (simp only [Nat.mul_one, Nat.one_mul, Nat.zero_mul, List.length_set, List.length_cons, List.length_nil, List.length_replicate]; omega) | (simp; omega)) (J.wT rfl rfl ?_)))))))
        (first | refine J.eqN rfl rfl rfl ?_ | refine J.eqZ rfl rfl rfl ?_)
        refine J.pT rfl rfl rfl (J.nil (G.prune [0, 1, 4, 5, 6, 7, 41] rfl ?_))
        simp only [Nat.zero_add]
        refine G.cF rfl (G.exit rfl (G.seq (G.block (G.seq (G.regionS [0, 1, 2, 3, 4, 5, 6, 7, 8, 9] none none [⟨b, 162, cells .u64 xs, false⟩, ⟨b2, 162, cells .u64 ys, false⟩] (by kernel_rfl) (SubH.of [0, 1] rfl) rfl (J.move rfl rfl (J.move rfl rfl (J.ix rfl rfl rfl ?_))))))))
        refine J.loadC rfl rfl rfl (by first | exact Mem.h | exact M1 | exact M2 | exact M3 | exact M4 | exact M5 | exact M6 | exact M7 | exact M8 | exact M9) (by first | omega | (simp only [Nat.mul_one, Nat.one_mul, Nat.zero_mul, List.length_set, List.length_cons, List.length_nil, List.length_replicate]; omega) | (simp; omega)) (J.move rfl rfl (J.move rfl rfl (J.ix rfl rfl rfl (J.loadC rfl rfl rfl (by first | exact Mem.h | exact M1 | exact M2 | exact M3 | exact M4 | exact M5 | exact M6 | exact M7 | exact M8 | exact M9) (by first | omega | (simp only [Nat.mul_one, Nat.one_mul, Nat.zero_mul, List.length_set, List.length_cons, List.length_nil, List.length_replicate]; omega) | (simp; omega)) ?_))))
        (first | refine J.ltN rfl rfl rfl ?_ | refine J.ltZ rfl rfl rfl ?_)
        refine J.assign rfl rfl (J.nil (G.prune [0, 1, 4, 7, 44] rfl ?_))
        simp only [Nat.zero_add]
        refine G.condP rfl (fun hlt => ?_) (fun hlt => ?_)
        · refine G.region ?_
          refine J.assign rfl rfl (J.nil (G.inBlock (G.ret (hR _) ?_)))
          exact GL.done () rfl rfl trivial (by rw [cmpZ, if_pos (cl hlt)]; rfl) [] rfl (by decide) (by simp)
        · refine G.seq ?_
          refine G.regionS [0, 1, 2, 3, 4, 5, 6, 7, 8, 9] none none [⟨b, 162, cells .u64 xs, false⟩, ⟨b2, 162, cells .u64 ys, false⟩] (by kernel_rfl) (SubH.of [0, 1] rfl) rfl (J.move rfl rfl (J.move rfl rfl (J.ix rfl rfl rfl (J.loadC rfl rfl rfl (by first | exact Mem.h | exact M1 | exact M2 | exact M3 | exact M4 | exact M5 | exact M6 | exact M7 | exact M8 | exact M9) (by first | omega | (simp only [Nat.mul_one, Nat.one_mul, Nat.zero_mul, List.length_set, List.length_cons, List.length_nil, List.length_replicate]; omega) | (simp; omega)) (J.move rfl rfl (J.move rfl rfl (J.ix rfl rfl rfl (J.loadC rfl rfl rfl (by first | exact Mem.h | exact M1 | exact M2 | exact M3 | exact M4 | exact M5 | exact M6 | exact M7 | exact M8 | exact M9) (by first | omega | (simp only [Nat.mul_one, Nat.one_mul, Nat.zero_mul, List.length_set, List.length_cons, List.length_nil, List.length_replicate]; omega) | (simp; omega)) ?_))))))))
          (first | refine J.gtN rfl rfl rfl ?_ | refine J.gtZ rfl rfl rfl ?_)
          refine J.assign rfl rfl (J.nil (G.prune [4, 54] rfl ?_))
          simp only [Nat.zero_add]
          refine G.condP rfl (fun hgt => ?_) (fun hgt => ?_)
          · refine G.region ?_
            refine J.assign rfl rfl (J.nil (G.inBlock (G.ret (hR _) ?_)))
            exact GL.done () rfl rfl trivial (by have := cg hgt; rw [cmpZ, if_neg (by omega), if_pos this]; rfl) [] rfl (by decide) (by simp)
          · refine G.skip ?_
            refine G.inBlock ?_
            exfalso; omega
  · have hc : cmpZ v u = 1 := by have := c2 hl; rw [cmpZ, if_neg (by omega), if_pos this]
    refine J.sk rfl rfl rfl rfl (J.sk rfl rfl rfl rfl (J.pT rfl rfl rfl (J.nil (G.prune [0, 1, 4, 5, 6, 18] rfl (G.cT rfl (G.seq (G.block (G.seq ?_))))))))
    refine G.region (J.move rfl rfl (J.move rfl rfl ?_))
    (first | refine J.ltN rfl rfl rfl ?_ | refine J.ltZ rfl rfl rfl ?_)
    refine J.assign rfl rfl (J.nil (G.prune [0, 1, 4, 5, 6, 19] rfl (G.cF rfl (G.seq (G.region (J.move rfl rfl (J.move rfl rfl ?_)))))))
    (first | refine J.gtN rfl rfl rfl ?_ | refine J.gtZ rfl rfl rfl ?_)
    refine J.assign rfl rfl (J.nil (G.prune [0, 1, 4, 5, 6, 23] rfl (G.cT rfl (G.region (J.assign rfl rfl (J.nil (G.inBlock (G.ret (hR _) ?_))))))))
    exact GL.done () rfl rfl trivial (by rw [hc]; rfl) [] rfl (by decide) (by simp)
end
section
set_option maxRecDepth 100000
set_option pp.deepTerms false
variable {V : Addr}
theorem intSet_new {zb xb o T v : Nat} {cs : List Value} {neg : Bool} {x : RS} (hc0 : cs[o]? = some (.bool neg)) (hc1 : cs[o + 1]? = some (zv (some x))) (hx : Res (some x) v) (h0 : 0 < x.len) (h9 : x.len ≤ 1000000) (hv : v ≠ 0) :
    Spec (cx V) 182 #[.pointer (some ⟨zb, 0, none⟩), .pointer (some ⟨xb, o, none⟩)] [⟨zb, 110, [.bool false, .slice none 0 0], true⟩] (⟨xb, T, cs, false⟩ :: zh false (some x))
      (fun _ : RS => .pointer (some ⟨zb, 0, none⟩)) (fun q => ⟨zb, 110, [.bool neg, zv (some q)], true⟩ :: zh true (some q)) (fun q => Res (some q) v ∧ 0 < q.len) := by
  obtain ⟨b, l, xs⟩ := x
  simp only [zh] at *
  refine Spec.enter Tryz.func182 rfl Tryz.ntmps182 (by simp) [(0, .pointer (some ⟨zb, 0, none⟩)), (1, .pointer (some ⟨xb, o, none⟩))] (by simp) ?_
  intro X hR
  try simp only [apC, apN]
  refine G.sep 0 1 rfl rfl (by decide) (.inl rfl) fun hne => ?_
  simp only at hne
  refine G.seq (G.region (J.assign rfl rfl (J.nil (G.seq (G.seq (G.region (J.move rfl rfl (J.move rfl rfl ?_))))))))
  refine J.ptrOtherN rfl rfl rfl hne (by first | exact Mem.h | exact M1 | exact M2 | exact M3 | exact M4 | exact M5 | exact M6 | exact M7 | exact M8 | exact M9) (by first | exact Mem.h | exact M1 | exact M2 | exact M3 | exact M4 | exact M5 | exact M6 | exact M7 | exact M8 | exact M9) (J.nil (G.cT rfl (G.seq (G.regionS [0, 1, 2, 3, 4, 5, 6, 7, 8, 9, 10, 11, 12] (some 12) (some 0) [⟨zb, 110, [.bool false, .slice none 0 0], true⟩, ⟨xb, T, cs, false⟩] (by kernel_rfl) (SubH.of [0, 1] rfl) rfl (J.move rfl rfl (J.move rfl rfl (J.nc rfl rfl rfl (J.fieldAddr rfl rfl ?_))))))))
  refine J.ld rfl rfl rfl rfl rfl (J.move rfl rfl (J.nc rfl rfl rfl (J.fieldAddr rfl rfl (J.load rfl rfl rfl (by first | exact Mem.h | exact M1 | exact M2 | exact M3 | exact M4 | exact M5 | exact M6 | exact M7 | exact M8 | exact M9) hc1 ?_))))
  simp only [zv]
  refine J.effH (E.callP (set_nil (x := ⟨b, l, xs⟩) hx h0 h9) [] [2] rfl rfl rfl rfl rfl) rfl rfl fun q hq => ⟨fun _ => SubH.app (SubH.of [0, 1] rfl), ?_⟩
  try simp only [apC, apN]
  obtain ⟨q, rfl, hq0⟩ := Res.some hq hv
  simp only [zh, List.cons_append, List.nil_append]
  refine J.nc rfl rfl rfl (J.fieldAddr rfl rfl ?_)
  refine J.effH (E.storeI rfl rfl rfl (by first | omega | (simp only [Nat.mul_one, Nat.one_mul, Nat.zero_mul, List.length_set, List.length_cons, List.length_nil, List.length_replicate]; omega) | (simp; omega)) rfl) rfl rfl ⟨fun h => Bool.noConfusion h, ?_⟩
  refine J.nil (G.prune [0, 1, 4] rfl (G.region (J.move rfl rfl (J.move rfl rfl (J.nc rfl rfl rfl (J.fieldAddr rfl rfl (J.loadI rfl rfl rfl hc0 (J.nc rfl rfl rfl ?_))))))))
  refine J.fieldAddr rfl rfl (J.eff (E.si rfl rfl rfl rfl) rfl (J.nil (G.prune [0, 4] rfl (G.seq (G.region (J.move rfl rfl (J.assign rfl rfl (J.nil ?_))))))))
  refine G.ret (hR _) ?_
  exact GL.done q rfl rfl ⟨hq, hq0⟩ rfl [1, 0] rfl (by decide) (by simp [zh])
theorem intAbs_new {zb xb o T v : Nat} {cs : List Value} {neg : Bool} {x : RS} (hc0 : cs[o]? = some (.bool neg)) (hc1 : cs[o + 1]? = some (zv (some x))) (hx : Res (some x) v) (h0 : 0 < x.len) (h9 : x.len ≤ 1000000) (hv : v ≠ 0) :
    Spec (cx V) 175 #[.pointer (some ⟨zb, 0, none⟩), .pointer (some ⟨xb, o, none⟩)] [⟨zb, 110, [.bool false, .slice none 0 0], true⟩] (⟨xb, T, cs, false⟩ :: zh false (some x))
      (fun _ : RS => .pointer (some ⟨zb, 0, none⟩)) (fun q => ⟨zb, 110, [.bool false, zv (some q)], true⟩ :: zh true (some q)) (fun q => Res (some q) v ∧ 0 < q.len) := by
  obtain ⟨b, l, xs⟩ := x
  simp only [zh] at *
  refine Spec.enter Tryz.func175 rfl Tryz.ntmps175 (by simp) [(0, .pointer (some ⟨zb, 0, none⟩)), (1, .pointer (some ⟨xb, o, none⟩))] (by simp) ?_
  intro X hR
  try simp only [apC, apN]
  refine G.seq (G.region (J.assign rfl rfl (J.nil (G.seq (G.region (J.move rfl rfl (J.move rfl rfl ?_)))))))
  refine J.eff (E.callP (intSet_new (zb := zb) (T := T) (cs := cs) (neg := neg) (x := ⟨b, l, xs⟩) hc0 hc1 hx h0 h9 hv) [0] [0, 1] rfl rfl rfl rfl rfl) rfl fun q hq => ?_
  try simp only [apC, apN]
  obtain ⟨hq, hq0⟩ := hq
  simp only [zh, List.cons_append, List.nil_append]
  refine J.nil (G.seq (G.region (J.move rfl rfl (J.nc rfl rfl rfl (J.fieldAddr rfl rfl (J.eff (E.si rfl rfl rfl rfl) rfl (J.nil (G.prune [0, 4] rfl ?_))))))))
  refine G.seq (G.region (J.move rfl rfl (J.assign rfl rfl (J.nil (G.ret (hR _) ?_)))))
  exact GL.done q rfl rfl ⟨hq, hq0⟩ rfl [0, 1] rfl (by decide) (by simp [zh])
theorem built110 {b : Bool} {a : Option Addr} {l c : Nat} : (cx V).P.built 110 [(0, .bool b), (1, .slice a l c)] = some [.bool b, .slice a l c].toArray := by kernel_rfl
theorem natOne_spec : Spec (cx V) 186 #[] [] [] (fun g : Nat => zv (some ⟨g, 1, [1]⟩)) (fun g => zh true (some ⟨g, 1, [1]⟩)) (fun _ => True) := by
  refine Spec.enter Tryz.func186 rfl Tryz.ntmps186 (by simp) [] (by simp) ?_
  intro X hR
  try simp only [apC, apN]
  refine G.seq (G.region (J.assign rfl rfl (J.nil (G.seq (G.region (J.eff (E.slice1 rfl rfl) rfl fun g1 => J.assign rfl rfl (J.nil ?_)))))))
  refine G.ret (hR _) ?_
  exact GL.done (τ := Nat) g1 rfl rfl trivial rfl [0] rfl (by decide) (by simp [zh])
theorem res_one1 (g : Nat) : Res (some ⟨g, 1, [1]⟩) 1 := ⟨⟨by simp, by simp, Wd.one (by decide)⟩, .inr (by simp), by simp [zn, rv]⟩
theorem intOne_spec : Spec (cx V) 131 #[] [] [] (fun t : Nat × Nat => .pointer (some ⟨t.1, 0, none⟩)) (fun t => ⟨t.1, 110, [.bool false, zv (some ⟨t.2, 1, [1]⟩)], true⟩ :: zh true (some ⟨t.2, 1, [1]⟩)) (fun _ => True) := by
  refine Spec.enter Tryz.func131 rfl Tryz.ntmps131 (by simp) [] (by simp) ?_
  intro X hR
  try simp only [apC, apN]
  refine G.seq (G.region (J.assign rfl rfl (J.nil (G.seq (G.region (J.eff (E.callP (natOne_spec) [] [] rfl rfl rfl rfl rfl) rfl fun g _ => ?_))))))
  try simp only [apC, apN]
  simp only [zh, zv, List.cons_append, List.nil_append]
  refine J.build rfl rfl built110 (J.eff (E.box rfl rfl) rfl fun g3 => J.assign rfl rfl (J.nil (G.prune [0] rfl (G.ret (hR _) ?_))))
  exact GL.done (τ := Nat × Nat) (g3, g) rfl rfl trivial rfl [0, 1] rfl (by decide) (by simp [zh])
theorem newInt0_spec : Spec (cx V) 128 #[.int .i64 ((0 : Nat) : Int)] [] [] (fun g : Nat => .pointer (some ⟨g, 0, none⟩)) (fun g => [⟨g, 110, [.bool false, .slice none 0 0], true⟩]) (fun _ => True) := by
  refine Spec.enter Tryz.func128 rfl Tryz.ntmps128 (by simp) [(0, .int .i64 ((0 : Nat) : Int))] (by simp) ?_
  intro X hR
  try simp only [apC, apN]
  refine G.seq (G.region (J.assign rfl rfl (J.nil (G.seq (G.region (J.move rfl rfl (J.convN rfl rfl (by show _ < _; decide) (J.assign rfl rfl ?_))))))))
  refine J.nil (G.seq (G.seq (G.region (J.move rfl rfl ?_))))
  (first | refine J.ltN rfl rfl rfl ?_ | refine J.ltZ rfl rfl rfl ?_)
  refine J.nil (G.cF rfl (G.skip (G.seq (G.region (J.assign rfl rfl (J.nil (G.seq (G.seq ?_))))))))
  refine G.region (J.move rfl rfl ?_)
  (first | refine J.eqN rfl rfl rfl ?_ | refine J.eqZ rfl rfl rfl ?_)
  refine J.nil (G.cT rfl (G.skip (G.seq (G.region (J.move rfl rfl ?_)))))
  (first | refine J.ltN rfl rfl rfl ?_ | refine J.ltZ rfl rfl rfl ?_)
  refine J.move rfl rfl (J.build rfl rfl built110 (J.eff (E.box rfl rfl) rfl fun g28 => J.assign rfl rfl (J.nil (G.prune [2] rfl (G.ret (hR _) ?_)))))
  exact GL.done (τ := Nat) g28 rfl rfl trivial rfl [0] rfl (by decide) (by simp)
end
section
set_option maxRecDepth 100000
set_option pp.deepTerms false
variable {V : Addr}
theorem intCmp_spec {xb yb v u : Nat} {x y : RS} (hx : Res (some x) v) (hy : Res (some y) u) (h0 : 0 < x.len) (hne : xb ≠ yb) :
    Spec (cx V) 130 #[.pointer (some ⟨xb, 0, none⟩), .pointer (some ⟨yb, 0, none⟩)] [] (⟨xb, 110, [.bool false, zv (some x)], false⟩ :: ⟨yb, 110, [.bool false, zv (some y)], false⟩ :: (zh false (some x) ++ zh false (some y)))
      (fun _ : Unit => .int .i64 (cmpZ v u)) (fun _ => []) (fun _ => True) := by
  obtain ⟨b, l, xs⟩ := x
  obtain ⟨b2, ly, ys⟩ := y
  simp only [zh, zv, List.cons_append, List.nil_append] at *
  refine Spec.enter Tryz.func130 rfl Tryz.ntmps130 (by simp) [(0, .pointer (some ⟨xb, 0, none⟩)), (1, .pointer (some ⟨yb, 0, none⟩))] (by simp) ?_
  intro X hR
  try simp only [apC, apN]
  refine G.seq (G.region (J.assign rfl rfl (J.nil (G.seq (G.block (G.seq (G.region (J.move rfl rfl ?_))))))))
  refine J.move rfl rfl (J.ptrOther rfl rfl rfl hne (by first | exact Mem.h | exact M1 | exact M2 | exact M3 | exact M4 | exact M5 | exact M6 | exact M7 | exact M8 | exact M9) (by first | exact Mem.h | exact M1 | exact M2 | exact M3 | exact M4 | exact M5 | exact M6 | exact M7 | exact M8 | exact M9) (J.assign rfl rfl (J.nil (G.prune [0, 1, 4, 5] rfl (G.cF rfl (G.seq (G.regionS [0, 1, 2, 3, 4, 5, 6, 7, 8, 9] none none [⟨xb, 110, [.bool false, .slice (some ⟨b, 0, none⟩) l xs.length], false⟩, ⟨yb, 110, [.bool false, .slice (some ⟨b2, 0, none⟩) ly ys.length], false⟩] (by kernel_rfl) (SubH.of [0, 1] rfl) rfl (J.move rfl rfl ?_))))))))
  refine J.nc rfl rfl rfl (J.fieldAddr rfl rfl (J.ld rfl rfl rfl rfl rfl (J.move rfl rfl (J.nc rfl rfl rfl (J.fieldAddr rfl rfl (J.ld rfl rfl rfl rfl rfl (J.eqB rfl rfl rfl (J.assign rfl rfl ?_))))))))
  refine J.nil (G.prune [0, 1, 4, 9] rfl (G.cT rfl (G.seq (G.regionS [0, 1, 2, 3, 4, 5, 6, 7, 8, 9] none none [⟨xb, 110, [.bool false, .slice (some ⟨b, 0, none⟩) l xs.length], false⟩, ⟨yb, 110, [.bool false, .slice (some ⟨b2, 0, none⟩) ly ys.length], false⟩] (by kernel_rfl) (SubH.of [0, 1] rfl) rfl (J.move rfl rfl (J.nc rfl rfl rfl (J.fieldAddr rfl rfl (J.ld rfl rfl rfl rfl rfl ?_))))))))
  refine J.move rfl rfl (J.nc rfl rfl rfl (J.fieldAddr rfl rfl (J.ld rfl rfl rfl rfl rfl ?_)))
  refine J.effH (E.callP (cmp_spec (x := ⟨b, l, xs⟩) (y := ⟨b2, ly, ys⟩) hx hy h0) [] [2, 3] rfl rfl rfl rfl rfl) rfl rfl fun _ _ => ⟨fun _ => SubH.of [0, 1] rfl, ?_⟩
  try simp only [apC, apN]
  refine J.assign rfl rfl (J.nil (G.prune [0, 4] rfl (G.seq (G.region (J.move rfl rfl (J.nc rfl rfl rfl (J.fieldAddr rfl rfl (J.loadI rfl rfl rfl rfl ?_))))))))
  refine J.nil (G.prune [4, 31] rfl (G.cF rfl (G.skip (G.inBlock (G.ret (hR _) ?_)))))
  exact GL.done (()) rfl rfl (trivial) rfl [] rfl (by decide) (by simp [zh])
end
section
set_option maxRecDepth 100000
set_option pp.deepTerms false
variable {V : Addr}
def qrh (qb rb : Nat) (t : Option RS × Option RS) : Hp := ⟨qb, 110, [.bool false, zv t.1], true⟩ :: ⟨rb, 110, [.bool false, zv t.2], true⟩ :: (zh true t.2 ++ zh true t.1)
theorem qrh_wr (qb rb : Nat) (t : Option RS × Option RS) : ∀ e ∈ qrh qb rb t, e.wr = true := fun e he => by
  simp only [qrh, List.mem_cons] at he
  rcases he with rfl | rfl | he
  · rfl
  · rfl
  · exact app_wr _ _ e he
theorem quoRem_spec {qb rb ab bb v d : Nat} {x y : RS} (hx : Res (some x) v) (h0 : 0 < x.len) (h9 : x.len ≤ 1000) (hy : Res (some y) d) (hy1 : y.len = 1) (hd : d ≠ 0) (hdW : d < 18446744073709551616) (hvd : d ≤ v) :
    Spec (cx V) 228 #[.pointer (some ⟨qb, 0, none⟩), .pointer (some ⟨ab, 0, none⟩), .pointer (some ⟨bb, 0, none⟩), .pointer (some ⟨rb, 0, none⟩)]
      [⟨qb, 110, [.bool false, .slice none 0 0], true⟩, ⟨rb, 110, [.bool false, .slice none 0 0], true⟩]
      (⟨ab, 110, [.bool false, zv (some x)], false⟩ :: ⟨bb, 110, [.bool false, zv (some y)], false⟩ :: (zh false (some x) ++ zh false (some y)))
      (fun _ : Option RS × Option RS => .tuple #[.pointer (some ⟨qb, 0, none⟩), .pointer (some ⟨rb, 0, none⟩)]) (qrh qb rb) (fun t => Res t.1 (v / d) ∧ Res t.2 (v % d)) := by
  have hdn := div_nil (V := V) (sv := .pointer none) hx h0 h9 hy hy1 hd hdW
  obtain ⟨b, l, xs⟩ := x
  obtain ⟨b2, ly, ys⟩ := y
  simp only at hy1 h0 h9
  subst hy1
  simp only [zh, zv, List.cons_append, List.nil_append] at *
  refine Spec.enter Tryz.func228 rfl Tryz.ntmps228 (by simp) [(0, .pointer (some ⟨qb, 0, none⟩)), (1, .pointer (some ⟨ab, 0, none⟩)), (2, .pointer (some ⟨bb, 0, none⟩)), (3, .pointer (some ⟨rb, 0, none⟩))] (by simp) ?_
  intro X hR
  try simp only [apC, apN]
  try simp only [apC, apN]
  refine G.seq (G.region (J.assign rfl rfl (J.assign rfl rfl (J.nil (G.seq (G.regionS [0, 1, 2, 3, 4, 5, 6, 7, 8, 9, 10, 11, 12, 13, 14, 15, 16, 17, 18, 19, 20, 21, 22, 23, 24, 25, 26, 27] (some 24) (some 3) [⟨qb, 110, [.bool false, .slice none 0 0], true⟩, ⟨rb, 110, [.bool false, .slice none 0 0], true⟩, ⟨ab, 110, [.bool false, .slice (some ⟨b, 0, none⟩) l xs.length], false⟩, ⟨bb, 110, [.bool false, .slice (some ⟨b2, 0, none⟩) 1 ys.length], false⟩] (by kernel_rfl) (SubH.of [0, 1, 2, 3] rfl) rfl (J.move rfl rfl (J.move rfl rfl ?_))))))))
  refine J.move rfl rfl (J.nc rfl rfl rfl (J.fieldAddr rfl rfl (J.ld rfl rfl rfl rfl rfl (J.move rfl rfl (J.nc rfl rfl rfl (J.fieldAddr rfl rfl (J.ld rfl rfl rfl rfl rfl (J.move rfl rfl ?_))))))))
  refine J.nc rfl rfl rfl (J.fieldAddr rfl rfl (J.ld rfl rfl rfl rfl rfl (J.move rfl rfl (J.nc rfl rfl rfl (J.fieldAddr rfl rfl (J.ld rfl rfl rfl rfl rfl ?_))))))
  refine J.effH (E.callP (hdn) [] [4, 5] rfl rfl rfl rfl rfl) rfl rfl fun t ht => ⟨fun _ => SubH.app (SubH.of [0, 1, 2, 3] rfl), ?_⟩
  try simp only [apC, apN]
  obtain ⟨q, r⟩ := t
  obtain ⟨hq, hr⟩ := ht
  obtain ⟨⟨gq, lq, qs⟩, rfl, hq0⟩ := Res.some hq (Nat.ne_of_gt (Nat.div_pos hvd (Nat.pos_of_ne_zero hd)))
  simp only at hq0 hq hr
  rcases r with _ | ⟨gr, lr, rs⟩
  all_goals simp only [zzv, zh, zv, List.cons_append, List.nil_append]
  · skip
    refine J.move rfl rfl (J.extractL rfl rfl rfl (J.extractL rfl rfl rfl (J.nc rfl rfl rfl (J.fieldAddr rfl rfl ?_))))
    refine J.effH (E.si rfl rfl rfl rfl) rfl rfl ⟨fun h => Bool.noConfusion h, ?_⟩
    refine J.nc rfl rfl rfl (J.fieldAddr rfl rfl ?_)
    refine J.effH (E.si rfl rfl rfl rfl) rfl rfl ⟨fun h => Bool.noConfusion h, ?_⟩
    refine J.nil (G.prune [0, 1, 2, 3, 8, 9] rfl (G.seq (G.regionS [0, 1, 2, 3, 4, 5, 6, 7, 8, 9, 10, 11, 12, 13, 14, 15, 16, 17, 18, 19, 20, 21, 22, 23, 24, 25, 26, 27, 28, 29, 30, 31, 32, 33, 34, 35, 36] (some 33) (some 3) [⟨qb, 110, [.bool false, .slice (some ⟨gq, 0, none⟩) lq qs.length], true⟩, ⟨rb, 110, [.bool false, .slice none 0 0], true⟩, ⟨ab, 110, [.bool false, .slice (some ⟨b, 0, none⟩) l xs.length], false⟩, ⟨bb, 110, [.bool false, .slice (some ⟨b2, 0, none⟩) 1 ys.length], false⟩] (by kernel_rfl) (SubH.of [1, 2, 3, 4] rfl) rfl (J.move rfl rfl (J.move rfl rfl (J.move rfl rfl (J.nc rfl rfl rfl (J.fieldAddr rfl rfl ?_))))))))
    refine J.ld rfl rfl rfl rfl rfl (J.lenS rfl rfl ?_)
    (first | refine J.gtN rfl rfl rfl ?_ | refine J.gtZ rfl rfl rfl ?_)
    refine J.move rfl rfl (J.wT rfl rfl (J.move rfl rfl (J.wT rfl rfl (J.nc rfl rfl rfl (J.wT rfl rfl (J.fieldAddr rfl rfl (J.wT rfl rfl (J.ld rfl rfl rfl rfl rfl ?_))))))))
    refine J.wT rfl rfl (J.move rfl rfl (J.wT rfl rfl (J.nc rfl rfl rfl (J.wT rfl rfl (J.fieldAddr rfl rfl (J.wT rfl rfl (J.ld rfl rfl rfl rfl rfl (J.wT rfl rfl ?_))))))))
    refine J.neB rfl rfl rfl (J.pT rfl rfl rfl (J.move rfl rfl (J.nc rfl rfl rfl (J.fieldAddr rfl rfl (J.ld rfl rfl rfl rfl rfl (J.lenS rfl rfl ?_))))))
    (first | refine J.gtN rfl rfl rfl ?_ | refine J.gtZ rfl rfl rfl ?_)
    refine J.move rfl rfl (J.sk rfl rfl rfl rfl (J.sk rfl rfl rfl rfl (J.sk rfl rfl rfl rfl (J.sk rfl rfl rfl rfl (J.pF rfl rfl rfl (J.nc rfl rfl rfl (J.fieldAddr rfl rfl ?_)))))))
    refine J.effH (E.si rfl rfl rfl rfl) rfl rfl ⟨fun h => Bool.noConfusion h, ?_⟩
    refine J.nc rfl rfl rfl (J.fieldAddr rfl rfl ?_)
    refine J.effH (E.si rfl rfl rfl rfl) rfl rfl ⟨fun h => Bool.noConfusion h, ?_⟩
    refine J.nil (G.prune [0, 3, 8, 9] rfl (G.seq (G.region (J.move rfl rfl (J.move rfl rfl (J.assign rfl rfl (J.assign rfl rfl (J.nil ?_))))))))
    refine G.prune [8, 9] rfl (G.ret (hR _) ?_)
    exact GL.done (some ⟨gq, lq, qs⟩, none) rfl rfl ⟨hq, hr⟩ rfl [1, 2, 0] rfl (by decide) (qrh_wr _ _ _)
  · by_cases hl : 0 < lr
    · skip
      refine J.move rfl rfl (J.extractL rfl rfl rfl (J.extractL rfl rfl rfl (J.nc rfl rfl rfl (J.fieldAddr rfl rfl ?_))))
      refine J.effH (E.si rfl rfl rfl rfl) rfl rfl ⟨fun h => Bool.noConfusion h, ?_⟩
      refine J.nc rfl rfl rfl (J.fieldAddr rfl rfl ?_)
      refine J.effH (E.si rfl rfl rfl rfl) rfl rfl ⟨fun h => Bool.noConfusion h, ?_⟩
      refine J.nil (G.prune [0, 1, 2, 3, 8, 9] rfl (G.seq (G.regionS [0, 1, 2, 3, 4, 5, 6, 7, 8, 9, 10, 11, 12, 13, 14, 15, 16, 17, 18, 19, 20, 21, 22, 23, 24, 25, 26, 27, 28, 29, 30, 31, 32, 33, 34, 35, 36] (some 33) (some 3) [⟨qb, 110, [.bool false, .slice (some ⟨gq, 0, none⟩) lq qs.length], true⟩, ⟨rb, 110, [.bool false, .slice (some ⟨gr, 0, none⟩) lr rs.length], true⟩, ⟨ab, 110, [.bool false, .slice (some ⟨b, 0, none⟩) l xs.length], false⟩, ⟨bb, 110, [.bool false, .slice (some ⟨b2, 0, none⟩) 1 ys.length], false⟩] (by kernel_rfl) (SubH.of [2, 3, 4, 5] rfl) rfl (J.move rfl rfl (J.move rfl rfl (J.move rfl rfl (J.nc rfl rfl rfl (J.fieldAddr rfl rfl ?_))))))))
      refine J.ld rfl rfl rfl rfl rfl (J.lenS rfl rfl ?_)
      (first | refine J.gtN rfl rfl rfl ?_ | refine J.gtZ rfl rfl rfl ?_)
      refine J.move rfl rfl (J.wT rfl rfl (J.move rfl rfl (J.wT rfl rfl (J.nc rfl rfl rfl (J.wT rfl rfl (J.fieldAddr rfl rfl (J.wT rfl rfl (J.ld rfl rfl rfl rfl rfl ?_))))))))
      refine J.wT rfl rfl (J.move rfl rfl (J.wT rfl rfl (J.nc rfl rfl rfl (J.wT rfl rfl (J.fieldAddr rfl rfl (J.wT rfl rfl (J.ld rfl rfl rfl rfl rfl (J.wT rfl rfl ?_))))))))
      refine J.neB rfl rfl rfl (J.pT rfl rfl rfl (J.move rfl rfl (J.nc rfl rfl rfl (J.fieldAddr rfl rfl (J.ld rfl rfl rfl rfl rfl (J.lenS rfl rfl ?_))))))
      (first | refine J.gtN rfl rfl rfl ?_ | refine J.gtZ rfl rfl rfl ?_)
      refine J.move rfl rfl (J.wT rfl rfl (J.move rfl rfl (J.wT rfl rfl (J.nc rfl rfl rfl (J.wT rfl rfl (J.fieldAddr rfl rfl (J.wT rfl rfl (J.ld rfl rfl rfl rfl rfl ?_))))))))
      refine J.pT rfl rfl rfl (J.nc rfl rfl rfl (J.fieldAddr rfl rfl ?_))
      refine J.effH (E.si rfl rfl rfl rfl) rfl rfl ⟨fun h => Bool.noConfusion h, ?_⟩
      refine J.nc rfl rfl rfl (J.fieldAddr rfl rfl ?_)
      refine J.effH (E.si rfl rfl rfl rfl) rfl rfl ⟨fun h => Bool.noConfusion h, ?_⟩
      refine J.nil (G.prune [0, 3, 8, 9] rfl (G.seq (G.region (J.move rfl rfl (J.move rfl rfl (J.assign rfl rfl (J.assign rfl rfl (J.nil ?_))))))))
      refine G.prune [8, 9] rfl (G.ret (hR _) ?_)
      exact GL.done (some ⟨gq, lq, qs⟩, some ⟨gr, lr, rs⟩) rfl rfl ⟨hq, hr⟩ rfl [2, 3, 0, 1] rfl (by decide) (qrh_wr _ _ _)
    · skip
      refine J.move rfl rfl (J.extractL rfl rfl rfl (J.extractL rfl rfl rfl (J.nc rfl rfl rfl (J.fieldAddr rfl rfl ?_))))
      refine J.effH (E.si rfl rfl rfl rfl) rfl rfl ⟨fun h => Bool.noConfusion h, ?_⟩
      refine J.nc rfl rfl rfl (J.fieldAddr rfl rfl ?_)
      refine J.effH (E.si rfl rfl rfl rfl) rfl rfl ⟨fun h => Bool.noConfusion h, ?_⟩
      refine J.nil (G.prune [0, 1, 2, 3, 8, 9] rfl (G.seq (G.regionS [0, 1, 2, 3, 4, 5, 6, 7, 8, 9, 10, 11, 12, 13, 14, 15, 16, 17, 18, 19, 20, 21, 22, 23, 24, 25, 26, 27, 28, 29, 30, 31, 32, 33, 34, 35, 36] (some 33) (some 3) [⟨qb, 110, [.bool false, .slice (some ⟨gq, 0, none⟩) lq qs.length], true⟩, ⟨rb, 110, [.bool false, .slice (some ⟨gr, 0, none⟩) lr rs.length], true⟩, ⟨ab, 110, [.bool false, .slice (some ⟨b, 0, none⟩) l xs.length], false⟩, ⟨bb, 110, [.bool false, .slice (some ⟨b2, 0, none⟩) 1 ys.length], false⟩] (by kernel_rfl) (SubH.of [2, 3, 4, 5] rfl) rfl (J.move rfl rfl (J.move rfl rfl (J.move rfl rfl (J.nc rfl rfl rfl (J.fieldAddr rfl rfl ?_))))))))
      refine J.ld rfl rfl rfl rfl rfl (J.lenS rfl rfl ?_)
      (first | refine J.gtN rfl rfl rfl ?_ | refine J.gtZ rfl rfl rfl ?_)
      refine J.move rfl rfl (J.wT rfl rfl (J.move rfl rfl (J.wT rfl rfl (J.nc rfl rfl rfl (J.wT rfl rfl (J.fieldAddr rfl rfl (J.wT rfl rfl (J.ld rfl rfl rfl rfl rfl ?_))))))))
      refine J.wT rfl rfl (J.move rfl rfl (J.wT rfl rfl (J.nc rfl rfl rfl (J.wT rfl rfl (J.fieldAddr rfl rfl (J.wT rfl rfl (J.ld rfl rfl rfl rfl rfl (J.wT rfl rfl ?_))))))))
      refine J.neB rfl rfl rfl (J.pT rfl rfl rfl (J.move rfl rfl (J.nc rfl rfl rfl (J.fieldAddr rfl rfl (J.ld rfl rfl rfl rfl rfl (J.lenS rfl rfl ?_))))))
      (first | refine J.gtN rfl rfl rfl ?_ | refine J.gtZ rfl rfl rfl ?_)
      refine J.move rfl rfl (J.sk rfl rfl rfl rfl (J.sk rfl rfl rfl rfl (J.sk rfl rfl rfl rfl (J.sk rfl rfl rfl rfl (J.pF rfl rfl rfl (J.nc rfl rfl rfl (J.fieldAddr rfl rfl ?_)))))))
      refine J.effH (E.si rfl rfl rfl rfl) rfl rfl ⟨fun h => Bool.noConfusion h, ?_⟩
      refine J.nc rfl rfl rfl (J.fieldAddr rfl rfl ?_)
      refine J.effH (E.si rfl rfl rfl rfl) rfl rfl ⟨fun h => Bool.noConfusion h, ?_⟩
      refine J.nil (G.prune [0, 3, 8, 9] rfl (G.seq (G.region (J.move rfl rfl (J.move rfl rfl (J.assign rfl rfl (J.assign rfl rfl (J.nil ?_))))))))
      refine G.prune [8, 9] rfl (G.ret (hR _) ?_)
      exact GL.done (some ⟨gq, lq, qs⟩, some ⟨gr, lr, rs⟩) rfl rfl ⟨hq, hr⟩ rfl [2, 3, 0, 1] rfl (by decide) (qrh_wr _ _ _)
end
section
set_option maxRecDepth 100000
set_option pp.deepTerms false
variable {V : Addr}
theorem euclid_spec {qb rb ab bb v d : Nat} {x y : RS} (hx : Res (some x) v) (h0 : 0 < x.len) (h9 : x.len ≤ 1000) (hy : Res (some y) d) (hy1 : y.len = 1) (hd : d ≠ 0) (hdW : d < 18446744073709551616) (hvd : d ≤ v) :
    Spec (cx V) 179 #[.pointer (some ⟨ab, 0, none⟩), .pointer (some ⟨bb, 0, none⟩), .pointer none, .pointer none, .pointer (some ⟨qb, 0, none⟩), .pointer (some ⟨rb, 0, none⟩), .bool false]
      [⟨qb, 110, [.bool false, .slice none 0 0], true⟩, ⟨rb, 110, [.bool false, .slice none 0 0], true⟩]
      (⟨ab, 110, [.bool false, zv (some x)], false⟩ :: ⟨bb, 110, [.bool false, zv (some y)], false⟩ :: (zh false (some x) ++ zh false (some y)))
      (fun _ : Option RS × Option RS => .tuple #[.pointer (some ⟨bb, 0, none⟩), .pointer (some ⟨rb, 0, none⟩), .pointer (some ⟨ab, 0, none⟩), .pointer none, .pointer none]) (qrh qb rb) (fun t => Res t.1 (v / d) ∧ Res t.2 (v % d)) := by
  simp only [zh, zv, List.cons_append, List.nil_append] at *
  refine Spec.enter Tryz.func179 rfl Tryz.ntmps179 (by simp) [(0, .pointer (some ⟨ab, 0, none⟩)), (1, .pointer (some ⟨bb, 0, none⟩)), (2, .pointer none), (3, .pointer none), (4, .pointer (some ⟨qb, 0, none⟩)), (5, .pointer (some ⟨rb, 0, none⟩)), (6, .bool false)] (by simp) ?_
  intro X hR
  try simp only [apC, apN]
  refine G.seq (G.region (J.assign rfl rfl (J.assign rfl rfl (J.assign rfl rfl (J.assign rfl rfl (J.assign rfl rfl (J.nil (G.prune [0, 1, 2, 3, 4, 5, 6, 14, 15, 16, 17, 18] rfl ?_))))))))
  refine G.seq (G.region (J.move rfl rfl (J.move rfl rfl (J.move rfl rfl (J.move rfl rfl (J.eff (E.callP (quoRem_spec hx h0 h9 hy hy1 hd hdW hvd) [0, 0] [0, 1, 2, 3] rfl rfl rfl rfl rfl) rfl fun t ht => ?_))))))
  try simp only [apC, apN]
  refine J.nil (G.prune [0, 1, 2, 3, 4, 5, 6, 14, 15, 16, 17, 18] rfl (G.seq (G.seq (G.region (J.move rfl rfl (J.nil (G.cF rfl (G.skip ?_))))))))
  refine G.seq (G.region (J.move rfl rfl (J.move rfl rfl (J.move rfl rfl (J.move rfl rfl (J.move rfl rfl (J.assign rfl rfl (J.assign rfl rfl ?_))))))))
  refine J.assign rfl rfl (J.assign rfl rfl (J.assign rfl rfl (J.nil (G.prune [14, 15, 16, 17, 18] rfl (G.ret (hR _) ?_)))))
  exact GL.doneA t rfl rfl ht rfl _ rfl (qrh_wr _ _ _)
theorem resOne {b l n : Nat} {xs : List Nat} (h : Res (some ⟨b, l, xs⟩) n) (hl : l = 1) : xs.getD 0 0 = n ∧ n < 18446744073709551616 ∧ n ≠ 0 := by
  subst hl
  have h1 : n = xs.getD 0 0 := by rw [← h.n]; simp [zn, rv]
  have h2 : xs.getD 0 0 < _ := h.ok.2.2 0
  have h3 := h.nm
  simp only [znm] at h3
  refine ⟨h1.symm, by omega, ?_⟩
  rcases h3 with h3 | h3
  · omega
  · rw [h1]; simpa using h3
theorem resPos {b l n : Nat} {xs : List Nat} (h : Res (some ⟨b, l, xs⟩) n) (hn : n ≠ 0) : 0 < l := by
  rcases Nat.eq_zero_or_pos l with h0 | h0
  · subst h0; exact absurd h.n.symm (by simpa [zn, rv] using hn)
  · exact h0
theorem resOneOf {b l n : Nat} {xs : List Nat} (h : Res (some ⟨b, l, xs⟩) n) (hn : n ≠ 0) (hw : n < 18446744073709551616) : l = 1 := by
  have h1 := h.len_le (k := 1) (by simpa using hw)
  have h2 := resPos h hn
  simp only [zlen] at h1
  omega
theorem Res.lt {b l n : Nat} {xs : List Nat} (h : Res (.some ⟨b, l, xs⟩) n) : n < 18446744073709551616 ^ l := by
  rw [← h.n]; exact rv_lt h.ok.2.2 0 l
theorem lehmer_spec {zb rb T v u : Nat} {x y : RS} (hx : Res (some x) v) (h0 : 0 < x.len) (h9 : x.len ≤ 1000) (hy : Res (some y) u) (hy0 : 0 < y.len) (hy9 : y.len ≤ 1000) (hv : v ≠ 0) (hu : u ≠ 0) (hvu : v < 18446744073709551616 ∨ u < 18446744073709551616) :
    Spec (cx V) 129 #[.pointer (some ⟨zb, 0, none⟩), .pointer none, .pointer none, .pointer (some ⟨rb, 0, none⟩), .pointer (some ⟨rb, 2, none⟩)]
      [⟨zb, 110, [.bool false, .slice none 0 0], true⟩]
      (⟨rb, T, [.bool false, zv (some x), .bool false, zv (some y)], false⟩ :: (zh false (some x) ++ zh false (some y)))
      (fun _ : RS => .pointer (some ⟨zb, 0, none⟩)) (fun q => ⟨zb, 110, [.bool false, zv (some q)], true⟩ :: zh true (some q)) (fun q => Res (some q) (Nat.gcd v u) ∧ q.len = 1) := by
  obtain ⟨b1, l1, xs1⟩ := x
  obtain ⟨b2, l2, xs2⟩ := y
  simp only [zh, zv, List.cons_append, List.nil_append] at *
  refine Spec.enter Tryz.func129 rfl Tryz.ntmps129 (by simp) [(0, .pointer (some ⟨zb, 0, none⟩)), (1, .pointer none), (2, .pointer none), (3, .pointer (some ⟨rb, 0, none⟩)), (4, .pointer (some ⟨rb, 2, none⟩))] (by simp) ?_
  intro X hR
  try simp only [apC, apN]
  refine G.seq (G.region (J.assign rfl rfl (J.nil (G.seq (G.region (J.assign rfl rfl (J.assign rfl rfl (J.assign rfl rfl ?_))))))))
  refine J.assign rfl rfl (J.nil (G.prune [0, 1, 2, 3, 4, 10, 13, 14, 18, 19, 20, 21, 22, 23, 24, 25, 26, 27, 28, 29, 30, 31, 32] rfl (G.seq (G.region (J.eff (E.alloc rfl) rfl fun g33 => J.move rfl rfl ?_)))))
  refine J.eff (E.callP (intAbs_new (o := 0) (neg := false) (x := ⟨b1, l1, xs1⟩) rfl rfl hx h0 (by simp only; omega) hv) [0] [1, 2] rfl rfl rfl rfl rfl) rfl fun A hA => ?_
  try simp only [apC, apN]
  obtain ⟨hA, hA0⟩ := hA
  obtain ⟨ba, la, xa⟩ := A
  simp only [zh, zv, List.cons_append, List.nil_append] at hA0 ⊢
  refine J.assign rfl rfl (J.nil (G.prune [0, 1, 2, 3, 4, 10, 11, 13, 14, 18, 19, 20, 21, 22, 23, 24, 25, 26, 27, 28, 29, 30, 31, 32] rfl (G.seq (G.region (J.eff (E.alloc rfl) rfl fun g36 => J.move rfl rfl ?_)))))
  refine J.eff (E.callP (intAbs_new (o := 2) (neg := false) (x := ⟨b2, l2, xs2⟩) rfl rfl hy hy0 (by simp only; omega) hu) [0] [3, 5] rfl rfl rfl rfl rfl) rfl fun B hB => ?_
  try simp only [apC, apN]
  obtain ⟨hB, hB0⟩ := hB
  obtain ⟨bb, lb, xb⟩ := B
  simp only [zh, zv, List.cons_append, List.nil_append] at hB0 ⊢
  refine J.assign rfl rfl (J.nil (G.prune [0, 1, 2, 3, 4, 10, 11, 12, 13, 14, 18, 19, 20, 21, 22, 23, 24, 25, 26, 27, 28, 29, 30, 31, 32] rfl (G.seq (G.region (J.move rfl rfl (J.ptrNilN rfl rfl (J.move rfl rfl (J.wF rfl rfl ?_))))))))
  refine J.move rfl rfl (J.wF rfl rfl (J.ptrNilN rfl rfl (J.pF rfl rfl rfl (J.assign rfl rfl (J.nil (G.prune [0, 1, 2, 3, 4, 10, 11, 12, 13, 14, 15, 18, 19, 20, 21, 22, 23, 24, 25, 26, 27, 28, 29, 30, 31, 32] rfl (G.seq (G.seq ?_))))))))
  refine G.region (J.move rfl rfl (J.nil (G.cF rfl (G.skip (G.seq (G.region (J.eff (E.alloc rfl) rfl fun g49 => J.assign rfl rfl ?_)))))))
  refine J.nil (G.seq (G.region (J.eff (E.alloc rfl) rfl fun g50 => J.assign rfl rfl (J.nil (G.seq (G.seq (G.regionS [0, 1, 2, 3, 4, 5, 6, 7, 8, 9] none none [⟨g33, 110, [.bool false, .slice (some ⟨ba, 0, none⟩) la xa.length], true⟩, ⟨g36, 110, [.bool false, .slice (some ⟨bb, 0, none⟩) lb xb.length], true⟩] (by kernel_rfl) (SubH.of [4, 2] rfl) rfl ?_)))))))
  refine J.move rfl rfl (J.nc rfl rfl rfl (J.fieldAddr rfl rfl (J.ld rfl rfl rfl rfl rfl (J.move rfl rfl (J.nc rfl rfl rfl (J.fieldAddr rfl rfl (J.ld rfl rfl rfl rfl rfl ?_)))))))
  refine J.effH (E.callP (cmp_spec (x := ⟨ba, la, xa⟩) (y := ⟨bb, lb, xb⟩) hA hB hA0) [] [5, 3] rfl rfl rfl rfl rfl) rfl rfl fun _ _ => ⟨fun _ => SubH.of [4, 2] rfl, ?_⟩
  try simp only [apC, apN]
  (first | refine J.ltN rfl rfl rfl ?_ | refine J.ltZ rfl rfl rfl ?_)
  refine J.nil (G.prune [0, 1, 2, 3, 4, 10, 11, 12, 13, 14, 15, 16, 17, 18, 19, 20, 21, 22, 23, 24, 25, 26, 27, 28, 29, 30, 31, 32, 60] rfl ?_)
  refine G.cut (σ := Nat × Nat × RS × RS × Nat × Nat) (fun s => Res (some s.2.2.1) s.2.2.2.2.1 ∧ Res (some s.2.2.2.1) s.2.2.2.2.2 ∧ s.2.2.2.2.2 ≤ s.2.2.2.2.1 ∧ s.2.2.2.2.2 ≠ 0 ∧ s.2.2.2.2.2 < 18446744073709551616 ∧ s.2.2.1.len ≤ 1000 ∧ Nat.gcd s.2.2.2.2.1 s.2.2.2.2.2 = Nat.gcd v u)
    (fun s => [(0, .pointer (some ⟨zb, 0, none⟩)), (1, .pointer none), (2, .pointer none), (3, .pointer (some ⟨rb, 0, none⟩)), (11, .pointer (some ⟨s.1, 0, none⟩)), (12, .pointer (some ⟨s.2.1, 0, none⟩)), (13, .pointer none), (14, .pointer none), (15, .bool false), (16, .pointer (some ⟨g49, 0, none⟩)), (17, .pointer (some ⟨g50, 0, none⟩))])
    (fun s => [⟨s.1, 110, [.bool false, .slice (some ⟨s.2.2.1.b, 0, none⟩) s.2.2.1.len s.2.2.1.xs.length], true⟩, ⟨s.2.2.1.b, 162, cells .u64 s.2.2.1.xs, true⟩, ⟨s.2.1, 110, [.bool false, .slice (some ⟨s.2.2.2.1.b, 0, none⟩) s.2.2.2.1.len s.2.2.2.1.xs.length], true⟩, ⟨s.2.2.2.1.b, 162, cells .u64 s.2.2.2.1.xs, true⟩,
      ⟨g49, 110, [.bool false, .slice none 0 0], true⟩, ⟨g50, 110, [.bool false, .slice none 0 0], true⟩, ⟨zb, 110, [.bool false, .slice none 0 0], true⟩, ⟨rb, T, [.bool false, .slice (some ⟨b1, 0, none⟩) l1 xs1.length, .bool false, .slice (some ⟨b2, 0, none⟩) l2 xs2.length], false⟩]) (fun hk => ?_) ?_
  · skip
    by_cases hlt : v < u
    · skip
      have hc : cmpZ v u = -1 := by simp [cmpZ, hlt]
      simp only [hc]
      refine G.cT rfl (G.seq (G.region (J.move rfl rfl (J.move rfl rfl (J.assign rfl rfl (J.assign rfl rfl (J.nil (G.prune [0, 1, 2, 3, 4, 10, 11, 12, 13, 14, 15, 16, 17, 18, 19, 20, 21, 22, 23, 24, 25, 26, 27, 28, 29, 30, 31, 32] rfl ?_))))))))
      refine G.region (J.move rfl rfl (J.move rfl rfl (J.assign rfl rfl (J.assign rfl rfl (J.nil (G.prune [0, 1, 2, 3, 4, 10, 11, 12, 13, 14, 15, 16, 17, 18, 19, 20, 21, 22, 23, 24, 25, 26, 27, 28, 29, 30, 31, 32] rfl ?_))))))
      exact G.wk [2, 3, 4, 5, 1, 0, 6, 7] (hk ⟨g36, g33, ⟨bb, lb, xb⟩, ⟨ba, la, xa⟩, u, v⟩ ⟨hB, hA, Nat.le_of_lt hlt, hv, by simp only; omega, by simp only; have := hB.len_le (Res.lt hy); simp only [zlen] at this; omega, Nat.gcd_comm _ _⟩)
    · skip
      have hc : ¬ cmpZ v u < 0 := by
        unfold cmpZ
        rw [if_neg hlt]
        split <;> decide
      refine G.condF rfl (decide_eq_false hc) (G.skip ?_)
      exact G.wk [4, 5, 2, 3, 1, 0, 6, 7] (hk ⟨g33, g36, ⟨ba, la, xa⟩, ⟨bb, lb, xb⟩, v, u⟩ ⟨hA, hB, by simp only; omega, hu, by simp only; omega, by simp only; have := hA.len_le (Res.lt hx); simp only [zlen] at this; omega, rfl⟩)
  rintro ⟨pA, pB, ⟨b3, l3, xs3⟩, ⟨b4, l4, xs4⟩, v', u'⟩ ⟨hA', hB', hle, hu', huW, hlA, hg⟩
  simp only at hA' hB' hle hu' huW hlA hg
  have hl4 := resOneOf hB' hu' huW
  subst hl4
  have hl3 := resPos hA' (by omega)
  refine G.seq (G.block (G.loop1 (G.seq (G.seq (G.region (J.move rfl rfl (J.nc rfl rfl rfl (J.fieldAddr rfl rfl ?_))))))))
  refine J.loadI rfl rfl rfl rfl (J.lenS rfl rfl ?_)
  (first | refine J.gtN rfl rfl rfl ?_ | refine J.gtZ rfl rfl rfl ?_)
  refine J.nil (G.prune [0, 1, 2, 3, 4, 10, 11, 12, 13, 14, 15, 16, 17, 18, 19, 20, 21, 22, 23, 24, 25, 26, 27, 28, 29, 30, 31, 32, 70] rfl (G.cF rfl (G.exit rfl (G.seq (G.seq (G.region (J.move rfl rfl (J.nc rfl rfl rfl ?_))))))))
  refine J.fieldAddr rfl rfl (J.loadI rfl rfl rfl rfl (J.lenS rfl rfl ?_))
  (first | refine J.gtN rfl rfl rfl ?_ | refine J.gtZ rfl rfl rfl ?_)
  refine J.nil (G.prune [0, 1, 2, 3, 4, 10, 11, 12, 13, 14, 15, 16, 17, 18, 19, 20, 21, 22, 25, 26, 27, 28, 29, 30, 31, 32, 122] rfl (G.cT rfl (G.seq (G.seq (G.region (J.move rfl rfl (J.nc rfl rfl rfl (J.fieldAddr rfl rfl ?_))))))))
  refine J.loadI rfl rfl rfl rfl (J.lenS rfl rfl ?_)
  (first | refine J.gtN rfl rfl rfl ?_ | refine J.gtZ rfl rfl rfl ?_)
  refine J.nil (G.prune [0, 1, 2, 3, 4, 10, 11, 12, 13, 14, 15, 16, 17, 18, 19, 20, 21, 22, 25, 26, 27, 28, 29, 30, 31, 32, 128] rfl ?_)
  refine G.cut (σ := Nat × Nat × RS × Option RS × Nat × Nat) (fun s => Res (some s.2.2.1) s.2.2.2.2.1 ∧ Res s.2.2.2.1 s.2.2.2.2.2 ∧ s.2.2.1.len = 1 ∧ s.2.2.2.2.2 < 18446744073709551616 ∧ Nat.gcd s.2.2.2.2.1 s.2.2.2.2.2 = Nat.gcd v u)
    (fun s => [(0, .pointer (some ⟨zb, 0, none⟩)), (1, .pointer none), (2, .pointer none), (3, .pointer (some ⟨rb, 0, none⟩)), (11, .pointer (some ⟨s.1, 0, none⟩)), (12, .pointer (some ⟨s.2.1, 0, none⟩)), (15, .bool false)])
    (fun s => ⟨s.1, 110, [.bool false, .slice (some ⟨s.2.2.1.b, 0, none⟩) s.2.2.1.len s.2.2.1.xs.length], true⟩ :: ⟨s.2.2.1.b, 162, cells .u64 s.2.2.1.xs, true⟩ :: ⟨s.2.1, 110, [.bool false, zv s.2.2.2.1], true⟩ ::
      ⟨zb, 110, [.bool false, .slice none 0 0], true⟩ :: ⟨rb, T, [.bool false, .slice (some ⟨b1, 0, none⟩) l1 xs1.length, .bool false, .slice (some ⟨b2, 0, none⟩) l2 xs2.length], false⟩ :: zh true s.2.2.2.1) (fun hk2 => ?_) ?_
  · skip
    by_cases h1 : 1 < l3
    · skip
      refine G.cT rfl (G.region (J.move rfl rfl (J.move rfl rfl (J.move rfl rfl (J.move rfl rfl (J.move rfl rfl (J.move rfl rfl (J.move rfl rfl ?_))))))))
      refine J.eff (E.callP (euclid_spec (x := ⟨b3, l3, xs3⟩) (y := ⟨b4, 1, xs4⟩) hA' hl3 hlA hB' rfl hu' huW hle) [4, 4] [0, 2, 1, 3] rfl rfl rfl rfl rfl) rfl fun t ht => ?_
      try simp only [apC, apN]
      obtain ⟨q, r⟩ := t
      obtain ⟨hq, hr⟩ := ht
      simp only [qrh, List.cons_append, List.nil_append, List.append_assoc] at hq hr ⊢
      obtain ⟨⟨gq, lq, qs⟩, rfl, hq0⟩ := Res.some hq (Nat.ne_of_gt (Nat.div_pos hle (Nat.pos_of_ne_zero hu')))
      have hrW : v' % u' < 18446744073709551616 := Nat.lt_trans (Nat.mod_lt _ (Nat.pos_of_ne_zero hu')) huW
      have hg' : Nat.gcd u' (v' % u') = Nat.gcd v u := by rw [Nat.gcd_comm, ← Nat.gcd_rec, Nat.gcd_comm]; exact hg
      rcases r with _ | ⟨gr, lr, rs⟩
      all_goals simp only [zh, zv, List.cons_append, List.nil_append]
      · skip
        refine J.move rfl rfl (J.extractL rfl rfl rfl (J.extractL rfl rfl rfl (J.extractL rfl rfl rfl (J.extractL rfl rfl rfl (J.extractL rfl rfl rfl (J.assign rfl rfl (J.assign rfl rfl (J.assign rfl rfl ?_))))))))
        refine J.assign rfl rfl (J.assign rfl rfl (J.nil (G.prune [0, 1, 2, 3, 4, 10, 11, 12, 13, 14, 15, 16, 17, 18, 19, 20, 21, 22, 25, 26, 27, 28, 29, 30, 31, 32] rfl ?_)))
        exact G.wk [5, 6, 1, 7, 8] (hk2 ⟨pB, g50, ⟨b4, 1, xs4⟩, none, u', v' % u'⟩ ⟨hB', hr, rfl, hrW, hg'⟩)
      · skip
        refine J.move rfl rfl (J.extractL rfl rfl rfl (J.extractL rfl rfl rfl (J.extractL rfl rfl rfl (J.extractL rfl rfl rfl (J.extractL rfl rfl rfl (J.assign rfl rfl (J.assign rfl rfl (J.assign rfl rfl ?_))))))))
        refine J.assign rfl rfl (J.assign rfl rfl (J.nil (G.prune [0, 1, 2, 3, 4, 10, 11, 12, 13, 14, 15, 16, 17, 18, 19, 20, 21, 22, 25, 26, 27, 28, 29, 30, 31, 32] rfl ?_)))
        exact G.wk [6, 7, 1, 8, 9, 2] (hk2 ⟨pB, g50, ⟨b4, 1, xs4⟩, some ⟨gr, lr, rs⟩, u', v' % u'⟩ ⟨hB', hr, rfl, hrW, hg'⟩)
    · skip
      refine G.cF rfl (G.skip ?_)
      exact G.wk [0, 1, 2, 6, 7, 3] (hk2 ⟨pA, pB, ⟨b3, l3, xs3⟩, some ⟨b4, 1, xs4⟩, v', u'⟩ ⟨hA', hB', by simp only; omega, huW, hg⟩)
  clear hA hB hA0 hB0 hA' hB' hle hl3 hg hlA hu' huW
  rintro ⟨pA, pB, ⟨b3, l3, xs3⟩, t, v', u'⟩ ⟨hA', hB', hl, huW, hg⟩
  simp only at hA' hB' hl huW hg
  subst hl
  have hg0 : Nat.gcd v u ≠ 0 := fun h => hv (Nat.gcd_eq_zero_iff.1 h).1
  obtain ⟨hA1, hA2, hA3⟩ := resOne hA' rfl
  simp only
  refine G.cut (σ := Nat × RS) (fun s => Res (some s.2) (Nat.gcd v u) ∧ s.2.len = 1)
    (fun s => [(0, .pointer (some ⟨zb, 0, none⟩)), (1, .pointer none), (2, .pointer none), (3, .pointer (some ⟨rb, 0, none⟩)), (11, .pointer (some ⟨s.1, 0, none⟩))])
    (fun s => [⟨s.1, 110, [.bool false, .slice (some ⟨s.2.b, 0, none⟩) s.2.len s.2.xs.length], true⟩, ⟨s.2.b, 162, cells .u64 s.2.xs, true⟩, ⟨zb, 110, [.bool false, .slice none 0 0], true⟩, ⟨rb, T, [.bool false, .slice (some ⟨b1, 0, none⟩) l1 xs1.length, .bool false, .slice (some ⟨b2, 0, none⟩) l2 xs2.length], false⟩]) (fun hk3 => ?_) ?_
  · skip
    rcases t with _ | ⟨b4, l4, xs4⟩
    all_goals simp only [zh, zv, List.cons_append, List.nil_append]
    · have h0 : u' = 0 := hB'.n.symm
      subst h0
      rw [Nat.gcd_zero_right] at hg
      subst hg
      refine G.seq (G.region (J.move rfl rfl (J.nc rfl rfl rfl (J.fieldAddr rfl rfl (J.loadI rfl rfl rfl rfl (J.lenS rfl rfl ?_))))))
      (first | refine J.gtN rfl rfl rfl ?_ | refine J.gtZ rfl rfl rfl ?_)
      refine J.nil (G.prune [0, 1, 2, 3, 4, 10, 11, 12, 13, 14, 15, 16, 17, 18, 19, 20, 21, 22, 25, 26, 27, 28, 29, 30, 31, 32, 148] rfl (G.cF rfl (G.skip ?_)))
      exact G.wk [0, 1, 3, 4] (hk3 ⟨pA, ⟨b3, 1, xs3⟩⟩ ⟨hA', rfl⟩)
    · by_cases h4 : 0 < l4
      · have hu0 : u' ≠ 0 := fun h => by
          subst h
          have h5 := hB'.len_le (k := 0) (by decide)
          simp only [zlen] at h5
          omega
        have hl4 := resOneOf hB' hu0 huW
        subst hl4
        obtain ⟨hB1, hB2, hB3⟩ := resOne hB' rfl
        obtain ⟨o1, o2, o3⟩ := hA'.ok
        obtain ⟨p1, p2, p3⟩ := hB'.ok
        simp only at o1 o2 o3 p1 p2 p3
        refine G.seq (G.region (J.move rfl rfl (J.nc rfl rfl rfl (J.fieldAddr rfl rfl (J.loadI rfl rfl rfl rfl (J.lenS rfl rfl ?_))))))
        (first | refine J.gtN rfl rfl rfl ?_ | refine J.gtZ rfl rfl rfl ?_)
        refine J.nil (G.prune [0, 1, 2, 3, 4, 10, 11, 12, 13, 14, 15, 16, 17, 18, 19, 20, 21, 22, 25, 26, 27, 28, 29, 30, 31, 32, 148] rfl (G.cT rfl (G.seq (G.regionS [0, 1, 2, 3, 4, 5, 6, 7, 8, 9, 10, 11, 12, 13] none none [⟨pA, 110, [.bool false, .slice (some ⟨b3, 0, none⟩) 1 xs3.length], true⟩, ⟨b3, 162, cells .u64 xs3, true⟩, ⟨pB, 110, [.bool false, .slice (some ⟨b4, 0, none⟩) 1 xs4.length], true⟩, ⟨b4, 162, cells .u64 xs4, true⟩] (by kernel_rfl) (SubH.of [0, 1, 2, 5] rfl) rfl (J.move rfl rfl (J.nc rfl rfl rfl (J.fieldAddr rfl rfl (J.ld rfl rfl rfl rfl rfl ?_))))))))
        refine J.ix rfl rfl rfl (J.loadC rfl rfl rfl (by first | exact Mem.h | exact M1 | exact M2 | exact M3 | exact M4 | exact M5 | exact M6 | exact M7 | exact M8 | exact M9) (by first | omega | (simp only [Nat.mul_one, Nat.one_mul, Nat.zero_mul, List.length_set, List.length_cons, List.length_nil, List.length_replicate]; omega) | (simp; omega)) (J.move rfl rfl (J.nc rfl rfl rfl (J.fieldAddr rfl rfl (J.ld rfl rfl rfl rfl rfl (J.ix rfl rfl rfl (J.loadC rfl rfl rfl (by first | exact Mem.h | exact M1 | exact M2 | exact M3 | exact M4 | exact M5 | exact M6 | exact M7 | exact M8 | exact M9) (by first | omega | (simp only [Nat.mul_one, Nat.one_mul, Nat.zero_mul, List.length_set, List.length_cons, List.length_nil, List.length_replicate]; omega) | (simp; omega)) (J.assign rfl rfl ?_))))))))
        refine J.assign rfl rfl (J.nil (G.prune [0, 1, 2, 3, 4, 10, 11, 12, 13, 14, 15, 16, 17, 18, 19, 20, 21, 22, 23, 24, 25, 26, 27, 28, 29, 30, 31, 32] rfl (G.seq (G.seq (G.region (J.move rfl rfl (J.nil ?_)))))))
        simp only [Nat.zero_add, hA1, hB1]
        refine G.cF rfl (G.block ?_)
        refine G.loopW (σ := { p : Nat × Nat // p.1 < 18446744073709551616 ∧ p.2 < 18446744073709551616 ∧ Nat.gcd p.1 p.2 = Nat.gcd v u }) (fun p => [(0, .pointer (some ⟨zb, 0, none⟩)), (1, .pointer none), (2, .pointer none), (3, .pointer (some ⟨rb, 0, none⟩)), (11, .pointer (some ⟨pA, 0, none⟩)), (23, .int .u64 (p.1.1 : Nat)), (24, .int .u64 (p.1.2 : Nat))])
          (fun _ => [⟨pA, 110, [.bool false, .slice (some ⟨b3, 0, none⟩) 1 xs3.length], true⟩, ⟨b3, 162, cells .u64 xs3, true⟩, ⟨zb, 110, [.bool false, .slice none 0 0], true⟩, ⟨rb, T, [.bool false, .slice (some ⟨b1, 0, none⟩) l1 xs1.length, .bool false, .slice (some ⟨b2, 0, none⟩) l2 xs2.length], false⟩]) (fun p => p.1.2) ⟨(v', u'), hA2, hB2, hg⟩ (by repeat (first | exact SubSlots.nil _ | refine SubSlots.cons rfl ?_)) [0, 1, 3, 4] rfl (by decide) ?_
        rintro ⟨⟨a, b⟩, ha, hb, hab⟩ ih
        simp only at ha hb hab ih ⊢
        refine G.seq (G.seq (G.region (J.move rfl rfl ?_)))
        (first | refine J.neN rfl rfl rfl ?_ | refine J.neZ rfl rfl rfl ?_)
        refine J.nil ?_
        by_cases hb0 : b = 0
        · subst hb0
          rw [Nat.gcd_zero_right] at hab
          subst hab
          refine G.cF rfl (G.exit rfl (G.region (J.move rfl rfl (J.nc rfl rfl rfl (J.fieldAddr rfl rfl (J.loadI rfl rfl rfl rfl (J.move rfl rfl (J.ix rfl rfl rfl ?_))))))))
          refine J.eff (E.sc rfl rfl) rfl (J.nil (G.prune [0, 1, 2, 3, 4, 10, 11, 12, 13] rfl ?_))
          have h5 := hk3 ⟨pA, ⟨b3, 1, xs3.set 0 (Nat.gcd v u)⟩⟩ ⟨Res.one (by omega) o2 o3 ha hg0, rfl⟩
          simp only [List.length_set] at h5
          simp only [Nat.zero_add]
          exact G.wk [0, 1, 2, 3] h5
        · skip
          refine G.cT rfl (G.skip (G.block (G.regionS [0, 1, 2, 3, 4, 5] none none [] (by kernel_rfl) (SubH.of [] rfl) rfl (J.move rfl rfl (J.move rfl rfl (J.move rfl rfl (J.remN rfl rfl rfl (by omega) (J.assign rfl rfl ?_))))))))
          refine J.assign rfl rfl (J.nil (G.prune [0, 1, 2, 3, 4, 10, 11, 12, 13, 14, 15, 16, 17, 18, 19, 20, 21, 22, 23, 24, 25, 26, 27, 28, 29, 30, 31, 32] rfl (G.inBlock ?_)))
          exact G.wk [0, 1, 2, 3] (ih ⟨(b, a % b), hb, Nat.lt_trans (Nat.mod_lt _ (Nat.pos_of_ne_zero hb0)) hb, by simp only; rw [Nat.gcd_comm, ← Nat.gcd_rec, Nat.gcd_comm]; exact hab⟩ (Nat.mod_lt _ (Nat.pos_of_ne_zero hb0)))
      · have h0 : u' = 0 := by
          have : l4 = 0 := by omega
          subst this
          rw [← hB'.n]; rfl
        subst h0
        rw [Nat.gcd_zero_right] at hg
        subst hg
        refine G.seq (G.region (J.move rfl rfl (J.nc rfl rfl rfl (J.fieldAddr rfl rfl (J.loadI rfl rfl rfl rfl (J.lenS rfl rfl ?_))))))
        (first | refine J.gtN rfl rfl rfl ?_ | refine J.gtZ rfl rfl rfl ?_)
        refine J.nil (G.prune [0, 1, 2, 3, 4, 10, 11, 12, 13, 14, 15, 16, 17, 18, 19, 20, 21, 22, 25, 26, 27, 28, 29, 30, 31, 32, 148] rfl (G.cF rfl (G.skip ?_)))
        exact G.wk [0, 1, 3, 4] (hk3 ⟨pA, ⟨b3, 1, xs3⟩⟩ ⟨hA', rfl⟩)
  rintro ⟨pA, ⟨b3, l3, xs3⟩⟩ ⟨hA', hl⟩
  simp only at hA' hl
  subst hl
  refine G.seq (G.region (J.move rfl rfl (J.nc rfl rfl rfl (J.fieldAddr rfl rfl (J.loadI rfl rfl rfl rfl (J.assign rfl rfl (J.nil (G.prune [0, 1, 2, 3, 4, 10, 11, 12, 13, 32] rfl ?_))))))))
  refine G.seq (G.seq (G.region (J.move rfl rfl (J.ptrNilN rfl rfl (J.nil (G.cF rfl (G.skip (G.seq ?_))))))))
  refine G.seq (G.region (J.move rfl rfl (J.ptrNilN rfl rfl (J.nil (G.cF rfl (G.skip (G.seq (G.region ?_))))))))
  refine J.move rfl rfl (J.move rfl rfl ?_)
  refine J.eff (E.callP (intSet_new (o := 0) (neg := false) (x := ⟨b3, 1, xs3⟩) rfl rfl hA' (by simp) (by simp) (fun h => hv (Nat.gcd_eq_zero_iff.1 h).1)) [2] [0, 1] rfl rfl rfl rfl rfl) rfl fun q hq => ?_
  try simp only [apC, apN]
  obtain ⟨hq, hq0⟩ := hq
  obtain ⟨bq, lq, xq⟩ := q
  simp only [zh, zv, List.cons_append, List.nil_append] at hq hq0 ⊢
  refine J.nil (G.seq (G.region (J.move rfl rfl (J.assign rfl rfl (J.nil (G.ret (hR _) ?_))))))
  exact GL.done ⟨bq, lq, xq⟩ rfl rfl ⟨hq, resOneOf hq (fun h => hv (Nat.gcd_eq_zero_iff.1 h).1) (resOne hA' rfl).2.1⟩ rfl [0, 1] rfl (by decide) (by simp)
end
section
set_option maxRecDepth 100000
set_option pp.deepTerms false
variable {V : Addr}
theorem built240 : (cx V).P.built 240 [] = some [.pointer none].toArray := by kernel_rfl
theorem getStack_spec : Spec (cx V) 106 #[] [] [] (fun g : Nat => .pointer (some ⟨g, 0, none⟩)) (fun g => [⟨g, 240, [.pointer none], true⟩]) (fun _ => True) := by
  refine Spec.enter Tryz.func106 rfl Tryz.ntmps106 (by simp) [] (by simp) ?_
  intro X hR
  try simp only [apC, apN]
  refine G.seq (G.region (J.assign rfl rfl (J.nil (G.seq (G.region (J.build rfl rfl built240 (J.eff (E.box rfl rfl) rfl fun g2 => J.assign rfl rfl ?_)))))))
  refine J.nil (G.ret (hR _) ?_)
  exact GL.done (τ := Nat) g2 rfl rfl trivial rfl [0] rfl (by decide) (by simp)
theorem free_nilD {sb : Nat} : SpecD (cx V) 107 #[.pointer (some ⟨sb, 0, none⟩)] [] [⟨sb, 240, [.pointer none], false⟩] (τ := Unit) (fun _ => []) (fun _ => True) := by
  refine SpecD.enter (val := fun _ => .tuple #[]) Tryz.func107 rfl Tryz.ntmps107 (by simp) [(0, .pointer (some ⟨sb, 0, none⟩))] (by simp) ?_
  intro X hR
  try simp only [apC, apN]
  refine G.seq (G.region (J.move rfl rfl (J.nc rfl rfl rfl (J.fieldAddr rfl rfl (J.loadI rfl rfl rfl rfl (J.assign rfl rfl (J.nil (G.prune [2] rfl ?_))))))))
  refine G.seq (G.region (J.move rfl rfl (J.ptrNilN rfl rfl (J.nil (G.cF rfl (G.skip (G.fall (hR) ?_)))))))
  exact GL.done (()) rfl rfl (trivial) rfl [] rfl (by decide) (by simp [zh])
theorem normZero_spec {rb c : Nat} {ao : Option Addr} : Spec (cx V) 88 #[.pointer (some ⟨rb, 0, none⟩)] [⟨rb, 160, [.bool false, .slice ao 0 c, .bool false, .slice none 0 0], true⟩] []
    (fun _ : RS => .pointer (some ⟨rb, 0, none⟩)) (fun q => ⟨rb, 160, [.bool false, .slice ao 0 c, .bool false, zv (some q)], true⟩ :: zh true (some q)) (fun q => Res (some q) 1 ∧ q.len = 1) := by
  refine Spec.enter Tryz.func88 rfl Tryz.ntmps88 (by simp) [(0, .pointer (some ⟨rb, 0, none⟩))] (by simp) ?_
  intro X hR
  try simp only [apC, apN]
  refine G.seq (G.region (J.assign rfl rfl (J.nil (G.seq (G.block (G.seq (G.block (G.seq ?_))))))))
  refine G.block (G.seq (G.block (G.seq (G.seq (G.seq (G.region (J.move rfl rfl (J.nc rfl rfl rfl ?_))))))))
  refine J.fieldAddr rfl rfl (J.fieldAddr rfl rfl (J.loadI rfl rfl rfl rfl (J.lenS rfl rfl ?_)))
  (first | refine J.eqN rfl rfl rfl ?_ | refine J.eqZ rfl rfl rfl ?_)
  refine J.assign rfl rfl (J.nil (G.prune [0, 2, 3, 4, 5, 6] rfl (G.cT rfl (G.exit rfl (G.region (J.move rfl rfl (J.nc rfl rfl rfl (J.fieldAddr rfl rfl ?_))))))))
  refine J.fieldAddr rfl rfl (J.eff (E.si rfl rfl rfl rfl) rfl (J.nil (G.prune [0, 2, 3, 4, 5] rfl (G.inBlock (G.seq (G.region (J.move rfl rfl (J.move rfl rfl ?_))))))))
  refine J.nc rfl rfl rfl (J.fieldAddr rfl rfl (J.fieldAddr rfl rfl (J.loadI rfl rfl rfl rfl (J.eff (E.callP (setWord_spec (z := none) trivial (by decide)) [] [] rfl rfl rfl rfl rfl) rfl fun q hq => ?_))))
  try simp only [apC, apN]
  obtain ⟨⟨bq, lq, xq⟩, rfl, hq0⟩ := Res.some hq (by decide)
  simp only [zh, zv, List.cons_append, List.nil_append]
  refine J.nc rfl rfl rfl (J.fieldAddr rfl rfl (J.fieldAddr rfl rfl (J.eff (E.si rfl rfl rfl rfl) rfl (J.nil (G.prune [0, 2, 3, 4, 5] rfl (G.exit rfl (G.seq (G.region ?_))))))))
  refine J.move rfl rfl (J.assign rfl rfl (J.nil (G.ret (hR _) ?_)))
  exact GL.done ⟨bq, lq, xq⟩ rfl rfl ⟨hq, resOneOf hq (by decide) (by decide)⟩ rfl [1, 0] rfl (by decide) (by simp [zh])
theorem ratNorm_spec {rb v u : Nat} {x y : RS} (hx : Res (some x) v) (h9 : x.len ≤ 1000) (hy : Res (some y) u) (hy9 : y.len ≤ 1000) (hv : v ≠ 0) (hu : u ≠ 0) (hvu : v < 18446744073709551616 ∨ u < 18446744073709551616) :
    Spec (cx V) 88 #[.pointer (some ⟨rb, 0, none⟩)] (⟨rb, 160, [.bool false, zv (some x), .bool false, zv (some y)], true⟩ :: (zh true (some x) ++ zh true (some y))) []
    (fun _ : RS × RS => .pointer (some ⟨rb, 0, none⟩)) (fun q => ⟨rb, 160, [.bool false, zv (some q.1), .bool false, zv (some q.2)], true⟩ :: (zh true (some q.1) ++ zh true (some q.2))) (fun q => Res (some q.1) (v / Nat.gcd v u) ∧ Res (some q.2) (u / Nat.gcd v u)) := by
  obtain ⟨b1, l1, xs1⟩ := x
  obtain ⟨b2, l2, xs2⟩ := y
  have h0 := resPos hx hv
  have h02 := resPos hy hu
  have hg0 : Nat.gcd v u ≠ 0 := fun h => hv (Nat.gcd_eq_zero_iff.1 h).1
  simp only [zh, zv, List.cons_append, List.nil_append] at *
  refine Spec.enter Tryz.func88 rfl Tryz.ntmps88 (by simp) [(0, .pointer (some ⟨rb, 0, none⟩))] (by simp) ?_
  intro X hR
  try simp only [apC, apN]
  refine G.seq (G.region (J.assign rfl rfl (J.nil (G.seq (G.block (G.seq (G.block (G.seq ?_))))))))
  refine G.block (G.seq (G.block (G.seq (G.seq (G.seq (G.region (J.move rfl rfl (J.nc rfl rfl rfl ?_))))))))
  refine J.fieldAddr rfl rfl (J.fieldAddr rfl rfl (J.loadI rfl rfl rfl rfl (J.lenS rfl rfl ?_)))
  (first | refine J.eqN rfl rfl rfl ?_ | refine J.eqZ rfl rfl rfl ?_)
  refine J.assign rfl rfl (J.nil (G.prune [0, 2, 3, 4, 5, 6] rfl (G.cF rfl (G.skip (G.seq (G.region (J.move rfl rfl (J.nc rfl rfl rfl ?_))))))))
  refine J.fieldAddr rfl rfl (J.fieldAddr rfl rfl (J.loadI rfl rfl rfl rfl (J.lenS rfl rfl ?_)))
  (first | refine J.eqN rfl rfl rfl ?_ | refine J.eqZ rfl rfl rfl ?_)
  refine J.assign rfl rfl (J.nil (G.prune [0, 2, 3, 4, 5, 14] rfl (G.cF rfl (G.skip (G.exit rfl (G.seq (G.seq (G.region ?_))))))))
  refine J.eff (E.callP (getStack_spec) [] [] rfl rfl rfl rfl rfl) rfl fun sb _ => ?_
  try simp only [apC, apN]
  refine J.assign rfl rfl (J.nil (G.seq (G.region (J.move rfl rfl (J.eff (E.defer rfl) rfl (J.nil (G.seq (G.region ?_))))))))
  refine J.move rfl rfl (J.nc rfl rfl rfl (J.fieldAddr rfl rfl (J.fieldAddr rfl rfl (J.loadI rfl rfl rfl rfl (J.assign rfl rfl (J.nil (G.prune [0, 2, 3, 4] rfl (G.seq ?_))))))))
  refine G.region (J.move rfl rfl (J.nc rfl rfl rfl (J.fieldAddr rfl rfl (J.fieldAddr rfl rfl (J.eff (E.si rfl rfl rfl rfl) rfl (J.nil (G.prune [0, 2, 3, 4] rfl (G.seq ?_))))))))
  refine G.region (J.move rfl rfl (J.nc rfl rfl rfl (J.fieldAddr rfl rfl (J.fieldAddr rfl rfl (J.eff (E.si rfl rfl rfl rfl) rfl (J.nil (G.prune [0, 2, 3, 4] rfl (G.seq ?_))))))))
  refine G.seq (G.regionS [1, 2, 3, 4, 5, 6, 0, 7, 8] none none [] (by kernel_rfl) (SubH.of [] rfl) rfl (J.move rfl rfl (J.nc rfl rfl rfl (J.fieldAddr rfl rfl (J.move rfl rfl (J.nc rfl rfl rfl (J.fieldAddr rfl rfl ?_)))))))
  refine J.effH (E.callP (newInt0_spec) [] [] rfl rfl rfl rfl rfl) rfl rfl fun fb _ => ⟨fun _ => SubH.of [] rfl, ?_⟩
  try simp only [apC, apN]
  refine J.effH (E.callP (lehmer_spec (T := 160) (x := ⟨b1, l1, xs1⟩) (y := ⟨b2, l2, xs2⟩) hx h0 h9 hy h02 hy9 hv hu hvu) [0] [1, 2, 3] rfl rfl rfl rfl rfl) rfl rfl fun f hf => ⟨fun _ => SubH.of [] rfl, ?_⟩
  try simp only [apC, apN]
  refine J.assign rfl rfl (J.nil (G.prune [0, 2, 3, 4, 5] rfl (G.seq (G.region (J.move rfl rfl ?_)))))
  obtain ⟨bf, lf, xf⟩ := f
  obtain ⟨hf, hlf⟩ := hf
  simp only at hlf
  subst hlf
  have hf0 := resPos hf hg0
  obtain ⟨hf1, hf2, hf3⟩ := resOne hf rfl
  simp only [zh, zv, List.cons_append, List.nil_append]
  refine J.eff (E.callP (intOne_spec) [] [] rfl rfl rfl rfl rfl) rfl fun t _ => ?_
  try simp only [apC, apN]
  obtain ⟨g1, g2⟩ := t
  simp only [zh, zv, List.cons_append, List.nil_append]
  refine J.sep 2 0 rfl rfl (by decide) (.inl rfl) fun hne => ?_
  simp only at hne
  refine J.eff (E.callP (intCmp_spec (x := ⟨bf, 1, xf⟩) (y := ⟨g2, 1, [1]⟩) hf (res_one1 g2) hf0 hne) [] [2, 0, 3, 1] rfl rfl rfl rfl rfl) rfl fun _ _ => ?_
  try simp only [apC, apN]
  (first | refine J.neN rfl rfl rfl ?_ | refine J.neZ rfl rfl rfl ?_)
  refine J.nil (G.prune [0, 2, 3, 4, 5, 62] rfl ?_)
  by_cases hg1 : Nat.gcd v u = 1
  · have hc : cmpZ (Nat.gcd v u) 1 = 0 := by rw [hg1]; rfl
    simp only [hc]
    refine G.cF rfl (G.skip (G.region (J.move rfl rfl (J.move rfl rfl (J.nc rfl rfl rfl (J.fieldAddr rfl rfl (J.fieldAddr rfl rfl (J.eff (E.si rfl rfl rfl rfl) rfl ?_))))))))
    refine J.nil (G.prune [0, 2, 3, 4, 5] rfl (G.exit rfl (G.seq (G.region (J.move rfl rfl (J.assign rfl rfl (J.nil (G.ret (hR _) ?_))))))))
    refine GL.deferredP (free_nilD (V := V) (sb := sb)) [] [4] rfl rfl rfl fun _ _ => ?_
    rw [hg1, Nat.div_one, Nat.div_one] at *
    exact GL.done (⟨b1, l1, xs1⟩, ⟨b2, l2, xs2⟩) rfl rfl ⟨hx, hy⟩ rfl [5, 6, 7] rfl (by decide) (by simp)
  · have hc : cmpZ (Nat.gcd v u) 1 ≠ 0 := by
      unfold cmpZ
      split
      · decide
      · rw [if_pos (by omega)]; decide
    refine G.condT rfl (decide_eq_true hc) (G.seq (G.regionS [0, 1, 2, 3, 4, 5, 6, 7, 8, 9, 10, 11, 12, 13, 14, 15, 16, 17, 18, 19, 20, 21, 22, 23] (some 23) (some 0) [⟨rb, 160, [.bool false, .slice (some ⟨b1, 0, none⟩) l1 xs1.length, .bool false, .slice (some ⟨b2, 0, none⟩) l2 xs2.length], true⟩, ⟨fb, 110, [.bool false, .slice (some ⟨bf, 0, none⟩) 1 xf.length], true⟩] (by kernel_rfl) (SubH.of [5, 2] rfl) rfl (J.move rfl rfl (J.move rfl rfl (J.nc rfl rfl rfl (J.fieldAddr rfl rfl (J.fieldAddr rfl rfl (J.ld rfl rfl rfl rfl rfl ?_))))))))
    refine J.move rfl rfl (J.move rfl rfl (J.nc rfl rfl rfl (J.fieldAddr rfl rfl (J.fieldAddr rfl rfl (J.ld rfl rfl rfl rfl rfl (J.move rfl rfl (J.nc rfl rfl rfl (J.fieldAddr rfl rfl ?_))))))))
    refine J.ld rfl rfl rfl rfl rfl ?_
    refine J.effH (E.callP (div_same (sv := .pointer (some ⟨sb, 0, none⟩)) (z := ⟨b1, l1, xs1⟩) (y := ⟨bf, 1, xf⟩) hx h0 hf rfl (by omega) hf2) [6] [3] rfl rfl rfl rfl rfl) rfl rfl fun t ht => ⟨fun _ => SubH.app (SubH.of [5, 2] rfl), ?_⟩
    try simp only [apC, apN]
    obtain ⟨q, r⟩ := t
    obtain ⟨hq, -⟩ := ht
    obtain ⟨⟨bq, lq, xq⟩, rfl, hq0⟩ := Res.some hq (Nat.ne_of_gt (Nat.div_pos (Nat.le_of_dvd (Nat.pos_of_ne_zero hv) (Nat.gcd_dvd_left v u)) (Nat.pos_of_ne_zero hg0)))
    simp only [zzv, List.append_assoc]
    refine J.dropL ?_
    simp only [zh, zv, List.cons_append, List.nil_append]
    refine J.move rfl rfl (J.extractL rfl rfl rfl (J.extractL rfl rfl rfl (J.nc rfl rfl rfl (J.fieldAddr rfl rfl (J.fieldAddr rfl rfl ?_)))))
    refine J.effH (E.si rfl rfl rfl rfl) rfl rfl ⟨fun h => Bool.noConfusion h, ?_⟩
    refine J.nil (G.prune [0, 2, 3, 4, 5] rfl (G.regionS [0, 1, 2, 3, 4, 5, 6, 7, 8, 9, 10, 11, 12, 13, 14, 15, 16, 17, 18, 19, 20, 21, 22, 23] (some 23) (some 0) [⟨rb, 160, [.bool false, .slice (some ⟨bq, 0, none⟩) lq xq.length, .bool false, .slice (some ⟨b2, 0, none⟩) l2 xs2.length], true⟩, ⟨fb, 110, [.bool false, .slice (some ⟨bf, 0, none⟩) 1 xf.length], true⟩] (by kernel_rfl) (SubH.of [6, 3] rfl) rfl (J.move rfl rfl (J.move rfl rfl (J.nc rfl rfl rfl (J.fieldAddr rfl rfl (J.fieldAddr rfl rfl (J.ld rfl rfl rfl rfl rfl ?_))))))))
    refine J.move rfl rfl (J.move rfl rfl (J.nc rfl rfl rfl (J.fieldAddr rfl rfl (J.fieldAddr rfl rfl (J.ld rfl rfl rfl rfl rfl (J.move rfl rfl (J.nc rfl rfl rfl (J.fieldAddr rfl rfl ?_))))))))
    refine J.ld rfl rfl rfl rfl rfl ?_
    refine J.effH (E.callP (div_same (sv := .pointer (some ⟨sb, 0, none⟩)) (z := ⟨b2, l2, xs2⟩) (y := ⟨bf, 1, xf⟩) hy h02 hf rfl (by omega) hf2) [7] [4] rfl rfl rfl rfl rfl) rfl rfl fun t ht => ⟨fun _ => SubH.app (SubH.of [6, 3] rfl), ?_⟩
    try simp only [apC, apN]
    obtain ⟨q2, r⟩ := t
    obtain ⟨hq2, -⟩ := ht
    obtain ⟨⟨bq2, lq2, xq2⟩, rfl, hq20⟩ := Res.some hq2 (Nat.ne_of_gt (Nat.div_pos (Nat.le_of_dvd (Nat.pos_of_ne_zero hu) (Nat.gcd_dvd_right v u)) (Nat.pos_of_ne_zero hg0)))
    simp only [zzv, List.append_assoc]
    refine J.dropL ?_
    simp only [zh, zv, List.cons_append, List.nil_append]
    refine J.move rfl rfl (J.extractL rfl rfl rfl (J.extractL rfl rfl rfl (J.nc rfl rfl rfl (J.fieldAddr rfl rfl (J.fieldAddr rfl rfl ?_)))))
    refine J.effH (E.si rfl rfl rfl rfl) rfl rfl ⟨fun h => Bool.noConfusion h, ?_⟩
    refine J.nil (G.prune [0, 2, 3, 4, 5] rfl (G.region (J.move rfl rfl (J.move rfl rfl (J.nc rfl rfl rfl (J.fieldAddr rfl rfl (J.fieldAddr rfl rfl (J.eff (E.si rfl rfl rfl rfl) rfl ?_))))))))
    refine J.nil (G.prune [0, 2, 3, 4, 5] rfl (G.exit rfl (G.seq (G.region (J.move rfl rfl (J.assign rfl rfl (J.nil (G.ret (hR _) ?_))))))))
    refine GL.deferredP (free_nilD (V := V) (sb := sb)) [] [6] rfl rfl rfl fun _ _ => ?_
    exact GL.done (⟨bq, lq, xq⟩, ⟨bq2, lq2, xq2⟩) rfl rfl ⟨hq, hq2⟩ rfl [7, 1, 0] rfl (by decide) (by simp)
end
section
set_option maxRecDepth 100000
set_option pp.deepTerms false
variable {V : Addr}
theorem strNe {s u : ByteArray} {i v v' : Nat} (h : Byt s i v) (h' : Byt u i v') (hn : v ≠ v') : (s.toList == u.toList) = false := by
  rw [ByteArray.toList_eq, ByteArray.toList_eq, beq_eq_false_iff_ne]
  intro e
  have e2 : s = u := ByteArray.ext (Array.toList_inj.1 e)
  subst e2
  exact hn (h.uniq h')
theorem Byt.ext {s : ByteArray} {i j k v : Nat} (h : Byt s i v) (hj : j ≤ i) (hk : i < k) : Byt (s.extract j k) (i - j) v := by
  have hlt := h.lt
  obtain ⟨c, hc, hv⟩ := h
  have h1 : i - j < (s.extract j k).size := by rw [ByteArray.size_extract]; omega
  refine ⟨c, ?_, hv⟩
  rw [getElem?_pos (s.extract j k) (i - j) h1, ByteArray.getElem_extract]
  have h2 : j + (i - j) = i := by omega
  simp only [h2]
  rw [getElem?_pos s i hlt] at hc
  exact hc
theorem Byt.lit0 (c : UInt8) (l : List UInt8) : Byt ⟨(c :: l).toArray⟩ 0 c.toNat := ⟨c, rfl, rfl⟩
theorem zzIndex_none {s : ByteArray} (hs : s.size ≤ 1000) (h : ∀ i, ¬ Byt s i 47) : Spec (cx V) 101 #[.string s, .string (ByteArray.mk #[47])] [] [] (fun _ : Unit => .int .i64 (-1)) (fun _ => []) (fun _ => True) := by
  have e1 : (ByteArray.mk #[47]).size = 1 := rfl
  refine Spec.enter Tryz.func101 rfl Tryz.ntmps101 (by simp) [(0, .string s), (1, .string (ByteArray.mk #[47]))] (by simp) ?_
  intro X hR
  try simp only [apC, apN]
  refine G.seq (G.region (J.assign rfl rfl (J.nil (G.seq (G.seq (G.region (J.assign rfl rfl (J.nil ?_))))))))
  refine G.block ?_
  refine G.loopW (σ := { i : Nat // i ≤ s.size }) (fun i => [(0, .string s), (1, .string (ByteArray.mk #[47])), (4, .int .i64 0), (5, .int .i64 (i.1 : Nat))]) (fun _ => []) (fun i => s.size - i.1) ⟨0, Nat.zero_le _⟩ (by repeat (first | exact SubSlots.nil _ | refine SubSlots.cons rfl ?_)) [] rfl (by decide) ?_
  rintro ⟨i, hi⟩ ih
  simp only at ih ⊢
  refine G.seq (G.seq (G.region (J.move rfl rfl (J.move rfl rfl (J.lenT rfl rfl ?_)))))
  (first | refine J.addI rfl rfl rfl (by omega) ?_ | refine J.addZ rfl rfl rfl (by omega) (by omega) ?_)
  refine J.move rfl rfl (J.lenT rfl rfl ?_)
  (first | refine J.leN rfl rfl rfl ?_ | refine J.leZ rfl rfl rfl ?_)
  refine J.nil (G.prune [0, 1, 4, 5, 12] rfl ?_)
  simp only [e1]
  by_cases hc : i + 1 ≤ s.size
  · obtain ⟨v, hv⟩ := Byt.at (s := s) (i := i) (by omega)
    have hv47 : v ≠ 47 := fun e => h i (e ▸ hv)
    have hne := strNe (hv.ext (Nat.le_refl i) (Nat.lt_succ_self i)) (by rw [Nat.sub_self]; exact Byt.lit0 47 []) hv47
    refine G.cT rfl (G.skip (G.seq (G.block (G.seq (G.region (J.move rfl rfl (J.move rfl rfl (J.move rfl rfl ?_))))))))
    refine J.move rfl rfl (J.lenT rfl rfl ?_)
    (first | refine J.addI rfl rfl rfl (by omega) ?_ | refine J.addZ rfl rfl rfl (by omega) (by omega) ?_)
    refine J.strLH rfl rfl rfl rfl (by omega) (by omega) (J.move rfl rfl (J.strEq rfl rfl rfl (J.nil (G.prune [0, 1, 4, 5, 23] rfl ?_))))
    simp only [e1] at *
    refine G.condF rfl hne (G.skip (G.inBlock (G.region (J.move rfl rfl ?_))))
    (first | refine J.addI rfl rfl rfl (by omega) ?_ | refine J.addZ rfl rfl rfl (by omega) (by omega) ?_)
    refine J.assign rfl rfl (J.nil ?_)
    exact G.wk [] (ih ⟨i + 1, by omega⟩ (by simp only; omega))
  · skip
    refine G.cF rfl (G.exit rfl (G.seq (G.region (J.assign rfl rfl (J.nil (G.ret (hR _) ?_))))))
    exact GL.done (()) rfl rfl (trivial) rfl [] rfl (by decide) (by simp [zh, rd])
structure Lit (V : Addr) (s : ByteArray) (m : Nat) (ee : Int) : Prop where
  sz0 : 0 < s.size
  sz : s.size ≤ 1000
  ns : ∀ i, ¬ Byt s i 47
  c0 : ∃ c : UInt8, s[0]? = some c ∧ c.toNat ≠ 45 ∧ c.toNat ≠ 43 ∧ c.toNat ≠ 73 ∧ c.toNat ≠ 105
  mW : m < 18446744073709551616
  E9 : -400 ≤ ee ∧ ee ≤ 400
  sc : ∃ (p base : Nat) (fc x : Int), -1000 ≤ fc ∧ fc ≤ 1000 ∧ -1000 ≤ x ∧ x ≤ 1000 ∧ ((base = 10 ∧ ee = (if fc < 0 then fc else 0) + x) ∨ (base = 16 ∧ 0 ≤ fc ∧ ee = 0 ∧ x = 0)) ∧
    (∀ rb, Spec (cx V) 102 #[.slice none 0 0, .iface 127 (.pointer (some ⟨rb, 0, none⟩)), .int .i64 0, .bool true] (rd rb s 0) []
      (fun q : Option RS => .tuple #[zv q, .int .i64 (base : Int), .int .i64 fc, .nilIface]) (fun q => zh true q ++ rd rb s p) (fun q => Res q m)) ∧
    (∀ rb b1 b2, Spec (cx V) 105 #[.iface 127 (.pointer (some ⟨rb, 0, none⟩)), .bool b1, .bool b2] (rd rb s p) [] (fun _ : Unit => .tuple #[.int .i64 x, .int .i64 10, .nilIface]) (fun _ => rd rb s s.size) (fun _ => True))
theorem ratSetStr_spec {rb m : Nat} {ee : Int} {s : ByteArray} (T : Lit V s m ee) (hm : m ≠ 0) :
    Spec (cx V) 66 #[.pointer (some ⟨rb, 0, none⟩), .string s] [⟨rb, 160, [.bool false, .slice none 0 0, .bool false, .slice none 0 0], true⟩] []
      (fun _ : RS × RS => .tuple #[.pointer (some ⟨rb, 0, none⟩), .bool true]) (fun q => ⟨rb, 160, [.bool false, zv (some q.1), .bool false, zv (some q.2)], true⟩ :: (zh true (some q.1) ++ zh true (some q.2)))
      (fun q => ∃ v u, Res (some q.1) (v / Nat.gcd v u) ∧ Res (some q.2) (u / Nat.gcd v u) ∧ v = m * 10 ^ ee.toNat ∧ u = 10 ^ (-ee).toNat) := by
  obtain ⟨p, base, fc, x, f1, f2, x1, x2, hb, hsc, hex⟩ := T.sc
  obtain ⟨c, hc0, hc1, hc2, -, -⟩ := T.c0
  have hsz := T.sz
  have hsz0 := T.sz0
  obtain ⟨hE1, hE2⟩ := T.E9
  refine Spec.enter Tryz.func66 rfl Tryz.ntmps66 (by simp) [(0, .pointer (some ⟨rb, 0, none⟩)), (1, .string s)] (by simp) ?_
  intro X hR
  try simp only [apC, apN]
  refine G.seq (G.region (J.assign rfl rfl (J.assign rfl rfl (J.nil (G.seq (G.seq (G.region (J.move rfl rfl ?_))))))))
  refine J.lenT rfl rfl ?_
  (first | refine J.eqN rfl rfl rfl ?_ | refine J.eqZ rfl rfl rfl ?_)
  refine J.nil (G.cF rfl (G.skip (G.seq (G.seq (G.region (J.move rfl rfl (J.eff (E.callP (zzIndex_none hsz T.ns) [] [] rfl rfl rfl rfl rfl) rfl fun _ _ => ?_)))))))
  try simp only [apC, apN]
  refine J.assign rfl rfl (J.nil (G.seq (G.region (J.move rfl rfl ?_))))
  (first | refine J.geN rfl rfl rfl ?_ | refine J.geZ rfl rfl rfl ?_)
  refine J.nil (G.cF rfl (G.skip (G.seq (G.region (J.move rfl rfl (J.eff (E.callP (newReader_spec (s := s)) [] [] rfl rfl rfl rfl rfl) rfl fun gr _ => ?_))))))
  try simp only [apC, apN]
  simp only [rd, List.cons_append, List.nil_append]
  refine J.assign rfl rfl (J.nil (G.seq (G.region (J.move rfl rfl (J.iface rfl rfl rfl (J.eff (E.callP (scanSign_spec hc0 (by omega) hc1 hc2) [0] [] rfl rfl rfl rfl rfl) rfl fun _ _ => ?_))))))
  try simp only [apC, apN]
  simp only [rd, List.cons_append, List.nil_append]
  refine J.move rfl rfl (J.extractL rfl rfl rfl (J.extractL rfl rfl rfl (J.assign rfl rfl (J.assign rfl rfl (J.nil (G.prune [0, 1, 4, 5, 6, 8, 9, 10, 11, 12, 13, 20, 21, 22, 23, 142, 158] rfl (G.seq (G.seq ?_))))))))
  refine G.region (J.move rfl rfl ?_)
  (first | refine J.nilNilN rfl rfl ?_ | refine J.ifNilN rfl rfl ?_)
  refine J.nil (G.cF rfl (G.skip (G.seq (G.region (J.assign rfl rfl (J.nil (G.seq (G.region ?_))))))))
  refine J.assign rfl rfl (J.nil (G.seq (G.region (J.move rfl rfl (J.move rfl rfl (J.nc rfl rfl rfl (J.fieldAddr rfl rfl (J.fieldAddr rfl rfl ?_))))))))
  refine J.loadI rfl rfl rfl rfl (J.move rfl rfl (J.iface rfl rfl rfl (J.eff (E.callP (hsc gr) [0] [] rfl rfl rfl rfl rfl) rfl fun q hq => ?_)))
  try simp only [apC, apN]
  obtain ⟨⟨ba, la, xa⟩, rfl, ha0⟩ := Res.some hq hm
  simp only [zh, zv, rd, List.cons_append, List.nil_append] at ha0 ⊢
  refine J.move rfl rfl (J.extractL rfl rfl rfl (J.extractL rfl rfl rfl (J.extractL rfl rfl rfl (J.extractL rfl rfl rfl (J.nc rfl rfl rfl (J.fieldAddr rfl rfl (J.fieldAddr rfl rfl (J.eff (E.si rfl rfl rfl rfl) rfl ?_))))))))
  refine J.assign rfl rfl (J.assign rfl rfl (J.assign rfl rfl (J.nil (G.prune [0, 1, 4, 5, 6, 8, 9, 10, 11, 12, 13, 14, 15, 20, 21, 22, 23, 142, 158] rfl (G.seq (G.seq (G.region (J.move rfl rfl ?_))))))))
  (first | refine J.nilNilN rfl rfl ?_ | refine J.ifNilN rfl rfl ?_)
  refine J.nil (G.cF rfl (G.skip (G.seq (G.region (J.assign rfl rfl (J.nil (G.seq (G.region ?_))))))))
  refine J.assign rfl rfl (J.nil (G.seq (G.region (J.move rfl rfl (J.iface rfl rfl rfl (J.eff (E.callP (hex gr true true) [1] [] rfl rfl rfl rfl rfl) rfl fun _ _ => ?_))))))
  try simp only [apC, apN]
  simp only [rd, List.cons_append, List.nil_append]
  refine J.move rfl rfl (J.extractL rfl rfl rfl (J.extractL rfl rfl rfl (J.extractL rfl rfl rfl (J.assign rfl rfl (J.assign rfl rfl (J.assign rfl rfl (J.nil (G.prune [0, 1, 4, 5, 6, 8, 9, 10, 11, 12, 13, 14, 15, 16, 17, 20, 21, 22, 23, 142, 158] rfl ?_))))))))
  refine G.seq (G.seq (G.region (J.move rfl rfl ?_)))
  (first | refine J.nilNilN rfl rfl ?_ | refine J.ifNilN rfl rfl ?_)
  refine J.nil (G.cF rfl (G.skip (G.seq (G.seq (G.region (J.move rfl rfl (J.eff (E.callP (readByte_end (s := s) (by omega)) [0] [] rfl rfl rfl rfl rfl) rfl fun _ _ => ?_)))))))
  try simp only [apC, apN]
  simp only [rd, List.cons_append, List.nil_append]
  refine J.move rfl rfl (J.extractL rfl rfl rfl (J.extractL rfl rfl rfl (J.assign rfl rfl (J.nil (G.prune [0, 1, 4, 5, 6, 8, 9, 10, 11, 12, 13, 14, 15, 16, 17, 20, 21, 22, 23, 142, 158] rfl (G.seq (G.region (J.move rfl rfl ?_))))))))
  refine J.loadGi 0 rfl rfl rfl rfl ?_
  (first | refine J.ifSameN rfl rfl rfl ?_ | refine J.nilIfN rfl rfl rfl ?_)
  refine J.nil (G.cF rfl (G.skip (G.seq (G.seq (G.region (J.move rfl rfl (J.nc rfl rfl rfl (J.fieldAddr rfl rfl ?_))))))))
  refine J.fieldAddr rfl rfl (J.loadI rfl rfl rfl rfl (J.lenS rfl rfl ?_))
  (first | refine J.eqN rfl rfl rfl ?_ | refine J.eqZ rfl rfl rfl ?_)
  refine J.nil (G.prune [0, 1, 4, 5, 6, 8, 9, 10, 11, 12, 13, 14, 15, 16, 17, 20, 21, 22, 23, 136, 142, 158] rfl (G.cF rfl (G.skip (G.seq (G.region (J.assign rfl rfl (J.assign rfl rfl (J.nil ?_))))))))
  refine G.seq (G.seq (G.region (J.move rfl rfl ?_)))
  (first | refine J.ltN rfl rfl rfl ?_ | refine J.ltZ rfl rfl rfl ?_)
  refine J.nil ?_
  clear hsc hex
  refine G.cut (σ := Int) (fun d => d + x = ee ∧ -1000 ≤ d ∧ d ≤ 1000)
    (fun d => [(0, .pointer (some ⟨rb, 0, none⟩)), (4, .pointer none), (5, .bool false), (12, .bool false), (16, .int .i64 x), (17, .int .i64 10), (18, .int .i64 d), (19, .int .i64 d)])
    (fun d => [⟨ba, 162, cells .u64 xa, true⟩, ⟨rb, 160, [.bool false, .slice (some ⟨ba, 0, none⟩) la xa.length, .bool false, .slice none 0 0], true⟩]) (fun hk => ?_) ?_
  · skip
    rcases hb with ⟨rfl, he⟩ | ⟨rfl, hf0, he, hx0⟩
    · by_cases hf : fc < 0
      · rw [if_pos hf] at he
        refine G.cT rfl (G.seq (G.region (J.move rfl rfl (J.assign rfl rfl (J.nil (G.seq (G.region (J.move rfl rfl ?_))))))))
        refine J.nil (G.block (G.seq (G.block (G.seq (G.block (G.seq (G.block (G.seq ?_))))))))
        refine G.block (G.seq (G.block (G.seq (G.seq (G.seq (G.region ?_))))))
        (first | refine J.eqN rfl rfl rfl ?_ | refine J.eqZ rfl rfl rfl ?_)
        refine J.assign rfl rfl (J.nil (G.cT rfl (G.exit rfl (G.region (J.move rfl rfl (J.assign rfl rfl (J.nil (G.inBlock ?_))))))))
        refine G.seq (G.region (J.move rfl rfl (J.assign rfl rfl (J.nil (G.exit rfl ?_)))))
        exact G.wk [1, 2] (hk fc ⟨he.symm, f1, f2⟩)
      · rw [if_neg hf] at he
        refine G.cF rfl (G.skip ?_)
        exact G.wk [1, 2] (hk 0 ⟨he.symm, by decide, by decide⟩)
    · skip
      refine G.cF rfl (G.skip ?_)
      exact G.wk [1, 2] (hk 0 ⟨by omega, by decide, by decide⟩)
  rintro d ⟨hd, d1, d2⟩
  have hd' : x + d = ee := by omega
  obtain ⟨p1, p2, p3⟩ := hq.ok
  have hla : la ≤ 1 := hq.len_le (k := 1) (by simpa using T.mW)
  refine G.seq (G.seq (G.region (J.move rfl rfl (J.nil (G.block (G.seq (G.block (G.seq ?_))))))))
  refine G.block (G.seq (G.block (G.seq (G.seq (G.seq (G.region ?_))))))
  (first | refine J.eqN rfl rfl rfl ?_ | refine J.eqZ rfl rfl rfl ?_)
  refine J.assign rfl rfl (J.nil (G.cT rfl (G.exit rfl (G.region (J.move rfl rfl (J.move rfl rfl ?_))))))
  (first | refine J.addI rfl rfl rfl (by omega) ?_ | refine J.addZ rfl rfl rfl (by omega) (by omega) ?_)
  refine J.assign rfl rfl (J.nil (G.prune [0, 1, 4, 5, 6, 8, 9, 10, 11, 12, 13, 14, 15, 16, 17, 18, 19, 20, 21, 22, 23, 142, 158] rfl (G.inBlock (G.seq (G.region (J.move rfl rfl (J.move rfl rfl ?_)))))))
  (first | refine J.addI rfl rfl rfl (by omega) ?_ | refine J.addZ rfl rfl rfl (by omega) (by omega) ?_)
  refine J.assign rfl rfl (J.nil (G.prune [0, 1, 4, 5, 6, 8, 9, 10, 11, 12, 13, 14, 15, 16, 17, 18, 19, 20, 21, 22, 23, 142, 158] rfl (G.exit rfl (G.seq (G.region ?_)))))
  simp only [hd]
  refine J.eff (E.callP (getStack_spec) [] [] rfl rfl rfl rfl rfl) rfl fun sb _ => ?_
  try simp only [apC, apN]
  refine J.assign rfl rfl (J.nil (G.seq (G.region (J.move rfl rfl (J.eff (E.defer rfl) rfl (J.nil (G.seq (G.seq ?_))))))))
  refine G.region (J.move rfl rfl ?_)
  (first | refine J.neN rfl rfl rfl ?_ | refine J.neZ rfl rfl rfl ?_)
  refine J.nil ?_
  have e10 : ∀ k, 5 ^ k * 2 ^ k = 10 ^ k := fun k => (Nat.mul_pow 5 2 k).symm
  have b10 : ∀ k, k ≤ 400 → 10 ^ k < 18446744073709551616 ^ 22 := fun k h => Nat.lt_of_le_of_lt (Nat.pow_le_pow_right (by decide) h) (by decide)
  rcases Int.lt_trichotomy ee 0 with hE | hE | hE
  · obtain ⟨k, rfl⟩ : ∃ k : Nat, ee = -(k : Int) := ⟨ee.natAbs, by omega⟩
    refine G.cT rfl (G.seq (G.region (J.move rfl rfl (J.assign rfl rfl (J.nil (G.seq (G.seq (G.region ?_))))))))
    refine J.move rfl rfl ?_
    (first | refine J.ltN rfl rfl rfl ?_ | refine J.ltZ rfl rfl rfl ?_)
    refine J.nil (G.cT rfl (G.seq (G.region (J.move rfl rfl (J.negZ rfl rfl (by omega) (by omega) (J.assign rfl rfl (J.nil (G.seq ?_))))))))
    refine G.region (J.move rfl rfl ?_)
    (first | refine J.ltN rfl rfl rfl ?_ | refine J.ltZ rfl rfl rfl ?_)
    refine J.nil ?_
    simp only [Int.neg_neg]
    refine G.cF rfl (G.skip (G.seq (G.seq (G.region (J.move rfl rfl ?_)))))
    (first | refine J.gtN rfl rfl rfl ?_ | refine J.gtZ rfl rfl rfl ?_)
    refine J.nil (G.cF rfl (G.skip (G.seq (G.regionS [0, 1, 2, 3, 4, 5, 7, 8, 6, 9, 10, 11] none none [⟨rb, 160, [.bool false, .slice (some ⟨ba, 0, none⟩) la xa.length, .bool false, .slice none 0 0], true⟩] (by kernel_rfl) (SubH.of [2] rfl) rfl (J.move rfl rfl (J.nc rfl rfl rfl (J.fieldAddr rfl rfl (J.fieldAddr rfl rfl ?_))))))))
    refine J.ld rfl rfl rfl rfl rfl (J.move rfl rfl (J.move rfl rfl (J.convN rfl rfl (by show _ < _; omega) ?_)))
    refine J.effH (E.callP (five_spec) [] [] rfl rfl rfl rfl rfl) rfl rfl fun g5 _ => ⟨fun _ => SubH.of [3] rfl, ?_⟩
    try simp only [apC, apN]
    refine J.effH (E.callP (setWord_spec (z := none) trivial (show k < _ by omega)) [] [] rfl rfl rfl rfl rfl) rfl rfl fun q hk1 => ⟨fun _ => SubH.app (SubH.of [3] rfl), ?_⟩
    try simp only [apC, apN]
    obtain ⟨⟨bk, lk, xk⟩, rfl, hk0⟩ := Res.some hk1 (by omega)
    simp only [zh, zv, List.cons_append, List.nil_append]
    refine J.effH (E.callP (expNN_spec (s := ⟨sb, 0, none⟩) (x := ⟨g5, 1, [5]⟩) (y := ⟨bk, lk, xk⟩) (Res.five g5) rfl hk1 (resOneOf hk1 (by omega) (by omega)) (by omega) (by omega)) [] [1, 0] rfl rfl rfl rfl rfl) rfl rfl fun q h5 => ⟨fun _ => SubH.app (SubH.of [4] rfl), ?_⟩
    try simp only [apC, apN]
    obtain ⟨⟨b5, l5, x5⟩, rfl, h50⟩ := Res.some h5 (Nat.ne_of_gt (Nat.pow_pos (by decide)))
    have h5l : l5 ≤ 16 := h5.len_le (k := 16) (Nat.lt_of_le_of_lt (Nat.pow_le_pow_right (by decide) (show k ≤ 400 by omega)) (by decide))
    simp only [zh, zv, List.cons_append, List.nil_append]
    refine J.assign rfl rfl (J.nil (G.prune [0, 4, 5, 12, 18, 19, 21, 23] rfl (G.seq (G.region (J.move rfl rfl ?_)))))
    (first | refine J.gtN rfl rfl rfl ?_ | refine J.gtZ rfl rfl rfl ?_)
    refine J.nil (G.cF rfl (G.region (J.move rfl rfl (J.move rfl rfl (J.nc rfl rfl rfl (J.fieldAddr rfl rfl (J.fieldAddr rfl rfl (J.eff (E.si rfl rfl rfl rfl) rfl ?_))))))))
    refine J.nil (G.prune [0, 4, 5, 12, 18] rfl (G.seq (G.seq (G.region (J.move rfl rfl ?_)))))
    (first | refine J.ltN rfl rfl rfl ?_ | refine J.ltZ rfl rfl rfl ?_)
    refine J.move rfl rfl (J.wF rfl rfl (J.move rfl rfl (J.wF rfl rfl ?_)))
    (first | refine J.gtN rfl rfl rfl ?_ | refine J.gtZ rfl rfl rfl ?_)
    refine J.pF rfl rfl rfl (J.nil (G.prune [0, 4, 5, 12, 18, 243] rfl (G.cF rfl (G.skip (G.seq (G.seq (G.region (J.move rfl rfl ?_))))))))
    (first | refine J.gtN rfl rfl rfl ?_ | refine J.gtZ rfl rfl rfl ?_)
    refine J.nil (G.cF rfl (G.seq (G.region (J.move rfl rfl ?_))))
    (first | refine J.ltN rfl rfl rfl ?_ | refine J.ltZ rfl rfl rfl ?_)
    refine J.nil (G.cT rfl (G.regionS [0, 1, 2, 3, 4, 5, 6, 7, 8, 9, 10, 11, 12, 13, 14, 15, 16, 17, 18] (some 18) (some 0) [⟨rb, 160, [.bool false, .slice (some ⟨ba, 0, none⟩) la xa.length, .bool false, .slice (some ⟨b5, 0, none⟩) l5 x5.length], true⟩] (by kernel_rfl) (SubH.of [5] rfl) rfl (J.move rfl rfl (J.move rfl rfl (J.nc rfl rfl rfl (J.fieldAddr rfl rfl (J.fieldAddr rfl rfl (J.ld rfl rfl rfl rfl rfl ?_))))))))
    refine J.move rfl rfl (J.nc rfl rfl rfl (J.fieldAddr rfl rfl (J.fieldAddr rfl rfl (J.ld rfl rfl rfl rfl rfl (J.move rfl rfl (J.negZ rfl rfl (by omega) (by omega) ?_))))))
    simp only [Int.neg_neg]
    refine J.convN rfl rfl (by show _ < _; omega) ?_
    refine J.effH (E.callP (lsh_same (z := ⟨b5, l5, x5⟩) h5 h50 (by simp only; omega) (by omega) (by omega)) [0] [] rfl rfl rfl rfl rfl) rfl rfl fun q h6 => ⟨fun _ => SubH.app (SubH.of [4] rfl), ?_⟩
    try simp only [apC, apN]
    rw [e10] at h6
    obtain ⟨⟨b6, l6, x6⟩, rfl, h60⟩ := Res.some h6 (Nat.ne_of_gt (Nat.pow_pos (by decide)))
    have h6l : l6 ≤ 22 := h6.len_le (b10 k (by omega))
    simp only [zh, zv, List.cons_append, List.nil_append]
    refine J.nc rfl rfl rfl (J.fieldAddr rfl rfl (J.fieldAddr rfl rfl ?_))
    refine J.effH (E.si rfl rfl rfl rfl) rfl rfl ⟨fun h => Bool.noConfusion h, ?_⟩
    refine J.nil (G.prune [0, 4, 5, 12] rfl (G.seq (G.region (J.move rfl rfl (J.move rfl rfl (J.move rfl rfl (J.sk rfl rfl rfl rfl (J.sk rfl rfl rfl rfl ?_))))))))
    refine J.sk rfl rfl rfl rfl (J.sk rfl rfl rfl rfl (J.sk rfl rfl rfl rfl (J.sk rfl rfl rfl rfl (J.sk rfl rfl rfl rfl (J.pF rfl rfl rfl (J.nc rfl rfl rfl (J.fieldAddr rfl rfl (J.fieldAddr rfl rfl ?_))))))))
    refine J.eff (E.si rfl rfl rfl rfl) rfl (J.nil (G.prune [0, 4, 5] rfl (G.seq (G.region (J.move rfl rfl ?_)))))
    refine J.eff (E.callP (ratNorm_spec (x := ⟨ba, la, xa⟩) (y := ⟨b6, l6, x6⟩) hq (by simp only; omega) h6 (by simp only; omega) hm (Nat.ne_of_gt (Nat.pow_pos (by decide))) (.inl T.mW)) [5, 4, 0] [] rfl rfl rfl rfl rfl) rfl fun t ht => ?_
    try simp only [apC, apN]
    obtain ⟨⟨b1, l1, x1⟩, ⟨b2, l2, x2⟩⟩ := t
    simp only [zh, zv, List.cons_append, List.nil_append] at ht ⊢
    refine J.assign rfl rfl (J.assign rfl rfl (J.nil (G.prune [4, 5] rfl (G.ret (hR _) ?_))))
    refine GL.deferredP (free_nilD (V := V) (sb := sb)) [] [5] rfl rfl rfl fun _ _ => ?_
    exact GL.done (⟨b1, l1, x1⟩, ⟨b2, l2, x2⟩) rfl rfl ⟨_, _, ht.1, ht.2, by simp, by simp⟩ rfl [0, 1, 2] rfl (by decide) (by simp [zh])
  · subst hE
    refine G.cF rfl (G.region (J.move rfl rfl (J.move rfl rfl (J.nc rfl rfl rfl (J.fieldAddr rfl rfl (J.fieldAddr rfl rfl (J.loadI rfl rfl rfl rfl (J.eff (E.callP (setWord_spec (z := none) trivial (by decide)) [] [] rfl rfl rfl rfl rfl) rfl fun q h6 => ?_))))))))
    try simp only [apC, apN]
    obtain ⟨⟨b6, l6, x6⟩, rfl, h60⟩ := Res.some h6 (by decide)
    have h6l : l6 = 1 := resOneOf h6 (by decide) (by decide)
    simp only [zh, zv, List.cons_append, List.nil_append]
    refine J.nc rfl rfl rfl (J.fieldAddr rfl rfl (J.fieldAddr rfl rfl (J.eff (E.si rfl rfl rfl rfl) rfl (J.nil (G.prune [0, 4, 5, 12, 18] rfl (G.seq (G.seq (G.region ?_))))))))
    refine J.move rfl rfl ?_
    (first | refine J.ltN rfl rfl rfl ?_ | refine J.ltZ rfl rfl rfl ?_)
    refine J.move rfl rfl (J.wF rfl rfl (J.move rfl rfl (J.wF rfl rfl ?_)))
    (first | refine J.gtN rfl rfl rfl ?_ | refine J.gtZ rfl rfl rfl ?_)
    refine J.pF rfl rfl rfl (J.nil (G.prune [0, 4, 5, 12, 18, 243] rfl (G.cF rfl (G.skip (G.seq (G.seq (G.region (J.move rfl rfl ?_))))))))
    (first | refine J.gtN rfl rfl rfl ?_ | refine J.gtZ rfl rfl rfl ?_)
    refine J.nil (G.cF rfl (G.seq (G.region (J.move rfl rfl ?_))))
    (first | refine J.ltN rfl rfl rfl ?_ | refine J.ltZ rfl rfl rfl ?_)
    refine J.nil (G.cF rfl (G.skip (G.seq (G.region (J.move rfl rfl (J.move rfl rfl (J.move rfl rfl (J.sk rfl rfl rfl rfl ?_))))))))
    refine J.sk rfl rfl rfl rfl (J.sk rfl rfl rfl rfl (J.sk rfl rfl rfl rfl (J.sk rfl rfl rfl rfl (J.sk rfl rfl rfl rfl (J.sk rfl rfl rfl rfl (J.pF rfl rfl rfl (J.nc rfl rfl rfl (J.fieldAddr rfl rfl ?_))))))))
    refine J.fieldAddr rfl rfl (J.eff (E.si rfl rfl rfl rfl) rfl (J.nil (G.prune [0, 4, 5] rfl (G.seq (G.region (J.move rfl rfl ?_))))))
    refine J.eff (E.callP (ratNorm_spec (x := ⟨ba, la, xa⟩) (y := ⟨b6, l6, x6⟩) hq (by simp only; omega) h6 (by simp only; omega) hm (by decide) (.inl T.mW)) [3, 2, 0] [] rfl rfl rfl rfl rfl) rfl fun t ht => ?_
    try simp only [apC, apN]
    obtain ⟨⟨b1, l1, x1⟩, ⟨b2, l2, x2⟩⟩ := t
    simp only [zh, zv, List.cons_append, List.nil_append] at ht ⊢
    refine J.assign rfl rfl (J.assign rfl rfl (J.nil (G.prune [4, 5] rfl (G.ret (hR _) ?_))))
    refine GL.deferredP (free_nilD (V := V) (sb := sb)) [] [3] rfl rfl rfl fun _ _ => ?_
    exact GL.done (⟨b1, l1, x1⟩, ⟨b2, l2, x2⟩) rfl rfl ⟨_, _, ht.1, ht.2, by simp, by simp⟩ rfl [0, 1, 2] rfl (by decide) (by simp [zh])
  · obtain ⟨k, rfl⟩ : ∃ k : Nat, ee = (k : Int) := ⟨ee.natAbs, by omega⟩
    refine G.cT rfl (G.seq (G.region (J.move rfl rfl (J.assign rfl rfl (J.nil (G.seq (G.seq (G.region ?_))))))))
    refine J.move rfl rfl ?_
    (first | refine J.ltN rfl rfl rfl ?_ | refine J.ltZ rfl rfl rfl ?_)
    refine J.nil (G.cF rfl (G.skip (G.seq (G.seq (G.region (J.move rfl rfl ?_))))))
    (first | refine J.gtN rfl rfl rfl ?_ | refine J.gtZ rfl rfl rfl ?_)
    refine J.nil (G.cF rfl (G.skip (G.seq (G.regionS [0, 1, 2, 3, 4, 5, 7, 8, 6, 9, 10, 11] none none [⟨rb, 160, [.bool false, .slice (some ⟨ba, 0, none⟩) la xa.length, .bool false, .slice none 0 0], true⟩] (by kernel_rfl) (SubH.of [2] rfl) rfl (J.move rfl rfl (J.nc rfl rfl rfl (J.fieldAddr rfl rfl (J.fieldAddr rfl rfl ?_))))))))
    refine J.ld rfl rfl rfl rfl rfl (J.move rfl rfl (J.move rfl rfl (J.convN rfl rfl (by show _ < _; omega) ?_)))
    refine J.effH (E.callP (five_spec) [] [] rfl rfl rfl rfl rfl) rfl rfl fun g5 _ => ⟨fun _ => SubH.of [3] rfl, ?_⟩
    try simp only [apC, apN]
    refine J.effH (E.callP (setWord_spec (z := none) trivial (show k < _ by omega)) [] [] rfl rfl rfl rfl rfl) rfl rfl fun q hk1 => ⟨fun _ => SubH.app (SubH.of [3] rfl), ?_⟩
    try simp only [apC, apN]
    obtain ⟨⟨bk, lk, xk⟩, rfl, hk0⟩ := Res.some hk1 (by omega)
    simp only [zh, zv, List.cons_append, List.nil_append]
    refine J.effH (E.callP (expNN_spec (s := ⟨sb, 0, none⟩) (x := ⟨g5, 1, [5]⟩) (y := ⟨bk, lk, xk⟩) (Res.five g5) rfl hk1 (resOneOf hk1 (by omega) (by omega)) (by omega) (by omega)) [] [1, 0] rfl rfl rfl rfl rfl) rfl rfl fun q h5 => ⟨fun _ => SubH.app (SubH.of [4] rfl), ?_⟩
    try simp only [apC, apN]
    obtain ⟨⟨b5, l5, x5⟩, rfl, h50⟩ := Res.some h5 (Nat.ne_of_gt (Nat.pow_pos (by decide)))
    have h5l : l5 ≤ 16 := h5.len_le (k := 16) (Nat.lt_of_le_of_lt (Nat.pow_le_pow_right (by decide) (show k ≤ 400 by omega)) (by decide))
    simp only [zh, zv, List.cons_append, List.nil_append]
    refine J.assign rfl rfl (J.nil (G.prune [0, 4, 5, 12, 18, 19, 21, 23] rfl (G.seq (G.region (J.move rfl rfl ?_)))))
    (first | refine J.gtN rfl rfl rfl ?_ | refine J.gtZ rfl rfl rfl ?_)
    refine J.nil (G.cT rfl (G.seq (G.regionS [0, 1, 2, 3, 4, 5, 6, 7, 8, 9, 10, 11, 12, 13, 14, 15, 16, 17] (some 17) (some 0) [⟨rb, 160, [.bool false, .slice (some ⟨ba, 0, none⟩) la xa.length, .bool false, .slice none 0 0], true⟩] (by kernel_rfl) (SubH.of [5] rfl) rfl (J.move rfl rfl (J.move rfl rfl (J.nc rfl rfl rfl (J.fieldAddr rfl rfl (J.fieldAddr rfl rfl ?_))))))))
    refine J.ld rfl rfl rfl rfl rfl (J.move rfl rfl (J.move rfl rfl (J.nc rfl rfl rfl (J.fieldAddr rfl rfl (J.fieldAddr rfl rfl (J.ld rfl rfl rfl rfl rfl (J.move rfl rfl ?_)))))))
    refine J.effH (E.callP (natMul_same (sv := .pointer (some ⟨sb, 0, none⟩)) (x := ⟨ba, la, xa⟩) (y := ⟨b5, l5, x5⟩) hq.ok h5.ok (resPos hq hm) h50 (by simp only; omega) (by simp only; omega)) [4] [0] rfl rfl rfl rfl rfl) rfl rfl fun q h7 => ⟨fun _ => SubH.app (SubH.of [4] rfl), ?_⟩
    try simp only [apC, apN]
    rw [hq.n, h5.n] at h7
    have hv0 : m * 5 ^ k ≠ 0 := Nat.ne_of_gt (Nat.mul_pos (Nat.pos_of_ne_zero hm) (Nat.pow_pos (by decide)))
    obtain ⟨⟨b7, l7, x7⟩, rfl, h70⟩ := Res.some h7 hv0
    have h7l : l7 ≤ 17 := h7.len_le (k := 17) (by
      have e1 : 5 ^ k < 18446744073709551616 ^ 16 := Nat.lt_of_le_of_lt (Nat.pow_le_pow_right (by decide) (show k ≤ 400 by omega)) (by decide)
      have e2 := Nat.mul_lt_mul_of_lt_of_le T.mW (Nat.le_of_lt e1) (by decide)
      exact Nat.lt_of_lt_of_le e2 (by decide))
    simp only [zh, zv, List.cons_append, List.nil_append]
    refine J.nc rfl rfl rfl (J.fieldAddr rfl rfl (J.fieldAddr rfl rfl ?_))
    refine J.effH (E.si rfl rfl rfl rfl) rfl rfl ⟨fun h => Bool.noConfusion h, ?_⟩
    refine J.nil (G.prune [0, 4, 5, 12, 18] rfl (G.region (J.move rfl rfl (J.move rfl rfl (J.nc rfl rfl rfl (J.fieldAddr rfl rfl (J.fieldAddr rfl rfl (J.loadI rfl rfl rfl rfl ?_))))))))
    refine J.eff (E.callP (setWord_spec (z := none) trivial (by decide)) [] [] rfl rfl rfl rfl rfl) rfl fun q h6 => ?_
    try simp only [apC, apN]
    obtain ⟨⟨b6, l6, x6⟩, rfl, h60⟩ := Res.some h6 (by decide)
    have h6l : l6 = 1 := resOneOf h6 (by decide) (by decide)
    simp only [zh, zv, List.cons_append, List.nil_append]
    refine J.nc rfl rfl rfl (J.fieldAddr rfl rfl (J.fieldAddr rfl rfl (J.eff (E.si rfl rfl rfl rfl) rfl (J.nil (G.prune [0, 4, 5, 12, 18] rfl (G.seq (G.seq (G.region ?_))))))))
    refine J.move rfl rfl ?_
    (first | refine J.ltN rfl rfl rfl ?_ | refine J.ltZ rfl rfl rfl ?_)
    refine J.move rfl rfl (J.wF rfl rfl (J.move rfl rfl (J.wF rfl rfl ?_)))
    (first | refine J.gtN rfl rfl rfl ?_ | refine J.gtZ rfl rfl rfl ?_)
    refine J.pF rfl rfl rfl (J.nil (G.prune [0, 4, 5, 12, 18, 243] rfl (G.cF rfl (G.skip (G.seq (G.seq (G.region (J.move rfl rfl ?_))))))))
    (first | refine J.gtN rfl rfl rfl ?_ | refine J.gtZ rfl rfl rfl ?_)
    refine J.nil (G.cT rfl (G.regionS [0, 1, 2, 3, 4, 5, 6, 7, 8, 9, 10, 11, 12, 13, 14, 15, 16, 17] (some 17) (some 0) [⟨rb, 160, [.bool false, .slice (some ⟨b7, 0, none⟩) l7 x7.length, .bool false, .slice (some ⟨b6, 0, none⟩) l6 x6.length], true⟩] (by kernel_rfl) (SubH.of [6] rfl) rfl (J.move rfl rfl (J.move rfl rfl (J.nc rfl rfl rfl (J.fieldAddr rfl rfl (J.fieldAddr rfl rfl (J.ld rfl rfl rfl rfl rfl ?_))))))))
    refine J.move rfl rfl (J.nc rfl rfl rfl (J.fieldAddr rfl rfl (J.fieldAddr rfl rfl (J.ld rfl rfl rfl rfl rfl (J.move rfl rfl (J.convN rfl rfl (by show _ < _; omega) ?_))))))
    refine J.effH (E.callP (lsh_same (z := ⟨b7, l7, x7⟩) h7 h70 (by simp only; omega) (by omega) (by omega)) [1] [] rfl rfl rfl rfl rfl) rfl rfl fun q h8 => ⟨fun _ => SubH.app (SubH.of [5] rfl), ?_⟩
    try simp only [apC, apN]
    rw [Nat.mul_assoc, e10] at h8
    have hv8 : m * 10 ^ k ≠ 0 := Nat.ne_of_gt (Nat.mul_pos (Nat.pos_of_ne_zero hm) (Nat.pow_pos (by decide)))
    obtain ⟨⟨b8, l8, x8⟩, rfl, h80⟩ := Res.some h8 hv8
    have h8l : l8 ≤ 23 := h8.len_le (k := 23) (by
      have e2 := Nat.mul_lt_mul_of_lt_of_le T.mW (Nat.le_of_lt (b10 k (by omega))) (by decide)
      exact Nat.lt_of_lt_of_le e2 (by decide))
    simp only [zh, zv, List.cons_append, List.nil_append]
    refine J.nc rfl rfl rfl (J.fieldAddr rfl rfl (J.fieldAddr rfl rfl ?_))
    refine J.effH (E.si rfl rfl rfl rfl) rfl rfl ⟨fun h => Bool.noConfusion h, ?_⟩
    refine J.nil (G.prune [0, 4, 5, 12] rfl (G.seq (G.region (J.move rfl rfl (J.move rfl rfl (J.move rfl rfl (J.sk rfl rfl rfl rfl (J.sk rfl rfl rfl rfl ?_))))))))
    refine J.sk rfl rfl rfl rfl (J.sk rfl rfl rfl rfl (J.sk rfl rfl rfl rfl (J.sk rfl rfl rfl rfl (J.sk rfl rfl rfl rfl (J.pF rfl rfl rfl (J.nc rfl rfl rfl (J.fieldAddr rfl rfl (J.fieldAddr rfl rfl ?_))))))))
    refine J.eff (E.si rfl rfl rfl rfl) rfl (J.nil (G.prune [0, 4, 5] rfl (G.seq (G.region (J.move rfl rfl ?_)))))
    refine J.eff (E.callP (ratNorm_spec (x := ⟨b8, l8, x8⟩) (y := ⟨b6, l6, x6⟩) h8 (by simp only; omega) h6 (by simp only; omega) hv8 (by decide) (.inr (by decide))) [6, 0, 0] [] rfl rfl rfl rfl rfl) rfl fun t ht => ?_
    try simp only [apC, apN]
    obtain ⟨⟨b1, l1, x1⟩, ⟨b2, l2, x2⟩⟩ := t
    simp only [zh, zv, List.cons_append, List.nil_append] at ht ⊢
    refine J.assign rfl rfl (J.assign rfl rfl (J.nil (G.prune [4, 5] rfl (G.ret (hR _) ?_))))
    refine GL.deferredP (free_nilD (V := V) (sb := sb)) [] [6] rfl rfl rfl fun _ _ => ?_
    exact GL.done (⟨b1, l1, x1⟩, ⟨b2, l2, x2⟩) rfl rfl ⟨_, _, ht.1, ht.2, by simp, by simp⟩ rfl [0, 1, 2] rfl (by decide) (by simp [zh])
end
section
set_option maxRecDepth 100000
set_option pp.deepTerms false
variable {V : Addr}
theorem ratSetStr0_spec {rb : Nat} {ee : Int} {s : ByteArray} (T : Lit V s 0 ee) :
    Spec (cx V) 66 #[.pointer (some ⟨rb, 0, none⟩), .string s] [⟨rb, 160, [.bool false, .slice none 0 0, .bool false, .slice none 0 0], true⟩] []
      (fun _ : Option RS × RS => .tuple #[.pointer (some ⟨rb, 0, none⟩), .bool true]) (fun q => ⟨rb, 160, [.bool false, zv q.1, .bool false, zv (some q.2)], true⟩ :: (zh true (some q.2) ++ zh true q.1))
      (fun q => Res q.1 0 ∧ Res (some q.2) 1) := by
  obtain ⟨p, base, fc, x, f1, f2, x1, x2, hb, hsc, hex⟩ := T.sc
  obtain ⟨c, hc0, hc1, hc2, -, -⟩ := T.c0
  have hsz := T.sz
  have hsz0 := T.sz0
  refine Spec.enter Tryz.func66 rfl Tryz.ntmps66 (by simp) [(0, .pointer (some ⟨rb, 0, none⟩)), (1, .string s)] (by simp) ?_
  intro X hR
  try simp only [apC, apN]
  refine G.seq (G.region (J.assign rfl rfl (J.assign rfl rfl (J.nil (G.seq (G.seq (G.region (J.move rfl rfl ?_))))))))
  refine J.lenT rfl rfl ?_
  (first | refine J.eqN rfl rfl rfl ?_ | refine J.eqZ rfl rfl rfl ?_)
  refine J.nil (G.cF rfl (G.skip (G.seq (G.seq (G.region (J.move rfl rfl (J.eff (E.callP (zzIndex_none hsz T.ns) [] [] rfl rfl rfl rfl rfl) rfl fun _ _ => ?_)))))))
  try simp only [apC, apN]
  refine J.assign rfl rfl (J.nil (G.seq (G.region (J.move rfl rfl ?_))))
  (first | refine J.geN rfl rfl rfl ?_ | refine J.geZ rfl rfl rfl ?_)
  refine J.nil (G.cF rfl (G.skip (G.seq (G.region (J.move rfl rfl (J.eff (E.callP (newReader_spec (s := s)) [] [] rfl rfl rfl rfl rfl) rfl fun gr _ => ?_))))))
  try simp only [apC, apN]
  simp only [rd, List.cons_append, List.nil_append]
  refine J.assign rfl rfl (J.nil (G.seq (G.region (J.move rfl rfl (J.iface rfl rfl rfl (J.eff (E.callP (scanSign_spec hc0 (by omega) hc1 hc2) [0] [] rfl rfl rfl rfl rfl) rfl fun _ _ => ?_))))))
  try simp only [apC, apN]
  simp only [rd, List.cons_append, List.nil_append]
  refine J.move rfl rfl (J.extractL rfl rfl rfl (J.extractL rfl rfl rfl (J.assign rfl rfl (J.assign rfl rfl (J.nil (G.prune [0, 1, 4, 5, 6, 8, 9, 10, 11, 12, 13, 20, 21, 22, 23, 142, 158] rfl (G.seq (G.seq ?_))))))))
  refine G.region (J.move rfl rfl ?_)
  (first | refine J.nilNilN rfl rfl ?_ | refine J.ifNilN rfl rfl ?_)
  refine J.nil (G.cF rfl (G.skip (G.seq (G.region (J.assign rfl rfl (J.nil (G.seq (G.region ?_))))))))
  refine J.assign rfl rfl (J.nil (G.seq (G.region (J.move rfl rfl (J.move rfl rfl (J.nc rfl rfl rfl (J.fieldAddr rfl rfl (J.fieldAddr rfl rfl ?_))))))))
  refine J.loadI rfl rfl rfl rfl (J.move rfl rfl (J.iface rfl rfl rfl (J.eff (E.callP (hsc gr) [0] [] rfl rfl rfl rfl rfl) rfl fun q hq => ?_)))
  try simp only [apC, apN]
  rcases q with _ | ⟨ba, la, xa⟩
  · simp only [zh, zv, rd, List.cons_append, List.nil_append]
    refine J.move rfl rfl (J.extractL rfl rfl rfl (J.extractL rfl rfl rfl (J.extractL rfl rfl rfl (J.extractL rfl rfl rfl (J.nc rfl rfl rfl (J.fieldAddr rfl rfl (J.fieldAddr rfl rfl (J.eff (E.si rfl rfl rfl rfl) rfl ?_))))))))
    refine J.assign rfl rfl (J.assign rfl rfl (J.assign rfl rfl (J.nil (G.prune [0, 1, 4, 5, 6, 8, 9, 10, 11, 12, 13, 14, 15, 20, 21, 22, 23, 142, 158] rfl (G.seq (G.seq (G.region (J.move rfl rfl ?_))))))))
    (first | refine J.nilNilN rfl rfl ?_ | refine J.ifNilN rfl rfl ?_)
    refine J.nil (G.cF rfl (G.skip (G.seq (G.region (J.assign rfl rfl (J.nil (G.seq (G.region ?_))))))))
    refine J.assign rfl rfl (J.nil (G.seq (G.region (J.move rfl rfl (J.iface rfl rfl rfl (J.eff (E.callP (hex gr true true) [0] [] rfl rfl rfl rfl rfl) rfl fun _ _ => ?_))))))
    try simp only [apC, apN]
    simp only [rd, List.cons_append, List.nil_append]
    refine J.move rfl rfl (J.extractL rfl rfl rfl (J.extractL rfl rfl rfl (J.extractL rfl rfl rfl (J.assign rfl rfl (J.assign rfl rfl (J.assign rfl rfl (J.nil (G.prune [0, 1, 4, 5, 6, 8, 9, 10, 11, 12, 13, 14, 15, 16, 17, 20, 21, 22, 23, 142, 158] rfl ?_))))))))
    refine G.seq (G.seq (G.region (J.move rfl rfl ?_)))
    (first | refine J.nilNilN rfl rfl ?_ | refine J.ifNilN rfl rfl ?_)
    refine J.nil (G.cF rfl (G.skip (G.seq (G.seq (G.region (J.move rfl rfl (J.eff (E.callP (readByte_end (s := s) (by omega)) [0] [] rfl rfl rfl rfl rfl) rfl fun _ _ => ?_)))))))
    try simp only [apC, apN]
    simp only [rd, List.cons_append, List.nil_append]
    refine J.move rfl rfl (J.extractL rfl rfl rfl (J.extractL rfl rfl rfl (J.assign rfl rfl (J.nil (G.prune [0, 1, 4, 5, 6, 8, 9, 10, 11, 12, 13, 14, 15, 16, 17, 20, 21, 22, 23, 142, 158] rfl (G.seq (G.region (J.move rfl rfl ?_))))))))
    refine J.loadGi 0 rfl rfl rfl rfl ?_
    (first | refine J.ifSameN rfl rfl rfl ?_ | refine J.nilIfN rfl rfl rfl ?_)
    refine J.nil (G.cF rfl (G.skip (G.seq (G.seq (G.region (J.move rfl rfl (J.nc rfl rfl rfl (J.fieldAddr rfl rfl ?_))))))))
    refine J.fieldAddr rfl rfl (J.loadI rfl rfl rfl rfl (J.lenS rfl rfl ?_))
    (first | refine J.eqN rfl rfl rfl ?_ | refine J.eqZ rfl rfl rfl ?_)
    refine J.nil (G.prune [0, 1, 4, 5, 6, 8, 9, 10, 11, 12, 13, 14, 15, 16, 17, 20, 21, 22, 23, 136, 142, 158] rfl (G.cT rfl (G.seq (G.region (J.move rfl rfl (J.eff (E.callP (normZero_spec) [1] [] rfl rfl rfl rfl rfl) rfl fun t ht => ?_))))))
    try simp only [apC, apN]
    simp only [zh, zv, List.cons_append, List.nil_append]
    refine J.assign rfl rfl (J.assign rfl rfl (J.nil (G.prune [0, 1, 4, 5, 6, 8, 9, 10, 11, 12, 13, 14, 15, 16, 17, 20, 21, 22, 23, 142, 158] rfl (G.ret (hR _) ?_))))
    exact GL.done (none, t) rfl rfl ⟨hq, ht.1⟩ rfl [0, 1] rfl (by decide) (by simp [zh])
  · have hl : la = 0 := by
      have := hq.len_le (k := 0) (by decide)
      simpa [zlen] using this
    subst hl
    simp only [zh, zv, rd, List.cons_append, List.nil_append]
    refine J.move rfl rfl (J.extractL rfl rfl rfl (J.extractL rfl rfl rfl (J.extractL rfl rfl rfl (J.extractL rfl rfl rfl (J.nc rfl rfl rfl (J.fieldAddr rfl rfl (J.fieldAddr rfl rfl (J.eff (E.si rfl rfl rfl rfl) rfl ?_))))))))
    refine J.assign rfl rfl (J.assign rfl rfl (J.assign rfl rfl (J.nil (G.prune [0, 1, 4, 5, 6, 8, 9, 10, 11, 12, 13, 14, 15, 20, 21, 22, 23, 142, 158] rfl (G.seq (G.seq (G.region (J.move rfl rfl ?_))))))))
    (first | refine J.nilNilN rfl rfl ?_ | refine J.ifNilN rfl rfl ?_)
    refine J.nil (G.cF rfl (G.skip (G.seq (G.region (J.assign rfl rfl (J.nil (G.seq (G.region ?_))))))))
    refine J.assign rfl rfl (J.nil (G.seq (G.region (J.move rfl rfl (J.iface rfl rfl rfl (J.eff (E.callP (hex gr true true) [1] [] rfl rfl rfl rfl rfl) rfl fun _ _ => ?_))))))
    try simp only [apC, apN]
    simp only [rd, List.cons_append, List.nil_append]
    refine J.move rfl rfl (J.extractL rfl rfl rfl (J.extractL rfl rfl rfl (J.extractL rfl rfl rfl (J.assign rfl rfl (J.assign rfl rfl (J.assign rfl rfl (J.nil (G.prune [0, 1, 4, 5, 6, 8, 9, 10, 11, 12, 13, 14, 15, 16, 17, 20, 21, 22, 23, 142, 158] rfl ?_))))))))
    refine G.seq (G.seq (G.region (J.move rfl rfl ?_)))
    (first | refine J.nilNilN rfl rfl ?_ | refine J.ifNilN rfl rfl ?_)
    refine J.nil (G.cF rfl (G.skip (G.seq (G.seq (G.region (J.move rfl rfl (J.eff (E.callP (readByte_end (s := s) (by omega)) [0] [] rfl rfl rfl rfl rfl) rfl fun _ _ => ?_)))))))
    try simp only [apC, apN]
    simp only [rd, List.cons_append, List.nil_append]
    refine J.move rfl rfl (J.extractL rfl rfl rfl (J.extractL rfl rfl rfl (J.assign rfl rfl (J.nil (G.prune [0, 1, 4, 5, 6, 8, 9, 10, 11, 12, 13, 14, 15, 16, 17, 20, 21, 22, 23, 142, 158] rfl (G.seq (G.region (J.move rfl rfl ?_))))))))
    refine J.loadGi 0 rfl rfl rfl rfl ?_
    (first | refine J.ifSameN rfl rfl rfl ?_ | refine J.nilIfN rfl rfl rfl ?_)
    refine J.nil (G.cF rfl (G.skip (G.seq (G.seq (G.region (J.move rfl rfl (J.nc rfl rfl rfl (J.fieldAddr rfl rfl ?_))))))))
    refine J.fieldAddr rfl rfl (J.loadI rfl rfl rfl rfl (J.lenS rfl rfl ?_))
    (first | refine J.eqN rfl rfl rfl ?_ | refine J.eqZ rfl rfl rfl ?_)
    refine J.nil (G.prune [0, 1, 4, 5, 6, 8, 9, 10, 11, 12, 13, 14, 15, 16, 17, 20, 21, 22, 23, 136, 142, 158] rfl (G.cT rfl (G.seq (G.region (J.move rfl rfl (J.eff (E.callP (normZero_spec) [2] [] rfl rfl rfl rfl rfl) rfl fun t ht => ?_))))))
    try simp only [apC, apN]
    simp only [zh, zv, List.cons_append, List.nil_append]
    refine J.assign rfl rfl (J.assign rfl rfl (J.nil (G.prune [0, 1, 4, 5, 6, 8, 9, 10, 11, 12, 13, 14, 15, 16, 17, 20, 21, 22, 23, 142, 158] rfl (G.ret (hR _) ?_))))
    exact GL.done (some ⟨ba, 0, xa⟩, t) rfl rfl ⟨hq, ht.1⟩ rfl [0, 1, 3] rfl (by decide) (by simp [zh])
end
section
set_option maxRecDepth 100000
set_option pp.deepTerms false
variable {V : Addr}
theorem sixteen_le {n m : Nat} (h : n ≤ m) : 16 ^ n ≤ 16 ^ m := Nat.pow_le_pow_right (by decide) h
theorem pow16_spec {n : Nat} (hn : n ≤ 15) : Spec (cx V) 144 #[.int .u64 ((16 : Nat) : Int), .int .i64 n] [] [] (fun _ : Unit => .int .u64 ((16 ^ n : Nat) : Int)) (fun _ => []) (fun _ => True) := by
  have hb := sixteen_le hn
  have e15 : 16 ^ 15 = 1152921504606846976 := by decide
  rw [e15] at hb
  refine Spec.enter Tryz.func144 rfl Tryz.ntmps144 (by simp) [(0, .int .u64 ((16 : Nat) : Int)), (1, .int .i64 n)] (by simp) ?_
  intro X hR
  try simp only [apC, apN]
  refine G.seq (G.region (J.assign rfl rfl (J.nil (G.seq (G.region (J.assign rfl rfl (J.nil (G.seq ?_))))))))
  refine G.block ?_
  refine G.loopW (σ := { t : Nat × Nat × Nat // t.1 < 18446744073709551616 ∧ t.1 * t.2.1 ^ t.2.2 % 18446744073709551616 = 16 ^ n ∧ t.2.2 ≤ 19 }) (fun t => [(0, .int .u64 (t.1.2.1 : Nat)), (1, .int .i64 (t.1.2.2 : Nat)), (4, .int .u64 (t.1.1 : Nat))]) (fun _ => []) (fun t => t.1.2.2) ⟨(1, 16, n), Nat.one_lt_two_pow (n := 64) (by decide), by simp only [Nat.one_mul]; exact Nat.mod_eq_of_lt (by omega), by simp only; omega⟩ (by repeat (first | exact SubSlots.nil _ | refine SubSlots.cons rfl ?_)) [] rfl (by decide) ?_
  rintro ⟨⟨p, x, m⟩, h1, h2, h3⟩ ih
  simp only at ih h1 h2 h3 ⊢
  refine G.seq (G.seq (G.region (J.move rfl rfl ?_)))
  (first | refine J.gtN rfl rfl rfl ?_ | refine J.gtZ rfl rfl rfl ?_)
  refine J.nil ?_
  refine G.condP rfl (fun hc => ?_) (fun hc => ?_)
  · refine G.skip ?_
    refine G.block (G.seq (G.seq (G.region (J.move rfl rfl (J.andI rfl rfl rfl (by omega) (by omega) ?_)))))
    (first | refine J.neN rfl rfl rfl ?_ | refine J.neZ rfl rfl rfl ?_)
    refine J.nil ?_
    have e1 : m &&& 1 = m % 2 := Nat.and_one_is_mod m
    rw [e1]
    refine G.condP rfl (fun hm => ?_) (fun hm => ?_)
    · refine G.region ?_
      refine J.move rfl rfl (J.move rfl rfl (J.mulUm rfl rfl rfl (J.assign rfl rfl (J.nil (G.prune [0, 1, 4] rfl (G.seq (G.region (J.move rfl rfl ?_))))))))
      refine J.move rfl rfl (J.mulUm rfl rfl rfl (J.assign rfl rfl (J.nil (G.prune [0, 1, 4] rfl (G.region (J.move rfl rfl (J.shrI rfl rfl rfl (by omega) (J.assign rfl rfl ?_))))))))
      refine J.nil (G.inBlock ?_)
      rw [Nat.pow_one]
      refine G.weak (by repeat (first | exact SubSlots.nil _ | refine SubSlots.cons rfl ?_)) [] rfl (by decide) (ih ⟨(p * x % 18446744073709551616, x * x % 18446744073709551616, m / 2), Nat.mod_lt _ (by decide), ?_, by simp only; omega⟩ (by simp only; omega))
      simp only
      rw [← h2, Nat.mul_mod (p * x % _), Nat.mod_mod, ← Nat.pow_mod, ← Nat.mul_mod, ← Nat.pow_two, ← Nat.pow_mul, Nat.mul_assoc, ← Nat.pow_succ', show (2 * (m / 2)).succ = m by omega]
    · refine G.skip ?_
      refine G.seq (G.region (J.move rfl rfl (J.move rfl rfl (J.mulUm rfl rfl rfl (J.assign rfl rfl (J.nil (G.prune [0, 1, 4] rfl (G.region ?_))))))))
      refine J.move rfl rfl (J.shrI rfl rfl rfl (by omega) (J.assign rfl rfl (J.nil (G.inBlock ?_))))
      rw [Nat.pow_one]
      refine G.weak (by repeat (first | exact SubSlots.nil _ | refine SubSlots.cons rfl ?_)) [] rfl (by decide) (ih ⟨(p, x * x % 18446744073709551616, m / 2), h1, ?_, by simp only; omega⟩ (by simp only; omega))
      simp only
      rw [← h2, Nat.mul_mod p, ← Nat.pow_mod, ← Nat.mul_mod, ← Nat.pow_two, ← Nat.pow_mul, show 2 * (m / 2) = m by omega]
  · refine G.exit rfl ?_
    have hm0 : m = 0 := by omega
    subst hm0
    rw [Nat.pow_zero, Nat.mul_one, Nat.mod_eq_of_lt h1] at h2
    subst h2
    refine G.ret (hR _) ?_
    exact GL.done (()) rfl rfl (trivial) rfl [] rfl (by decide) (by simp [zh, rd])
theorem reverse1_spec {a : Option Addr} {c : Nat} : Spec (cx V) 145 #[.slice a 1 c] [] [] (fun _ : Unit => .tuple #[]) (fun _ => []) (fun _ => True) := by
  refine Spec.enter Tryz.func145 rfl Tryz.ntmps145 (by simp) [(0, .slice a 1 c)] (by simp) ?_
  intro X hR
  try simp only [apC, apN]
  refine G.seq (G.region (J.move rfl rfl (J.lenS rfl rfl ?_)))
  (first | refine J.subI rfl rfl rfl (by omega) (by omega) ?_ | refine J.subZ rfl rfl rfl (by omega) (by omega) ?_)
  refine J.assign rfl rfl (J.assign rfl rfl (J.nil (G.prune [0, 2, 3] rfl (G.block (G.loop1 (G.seq (G.seq (G.region ?_))))))))
  refine J.move rfl rfl (J.move rfl rfl ?_)
  (first | refine J.ltN rfl rfl rfl ?_ | refine J.ltZ rfl rfl rfl ?_)
  refine J.nil (G.cF rfl (G.exit rfl (G.fall (hR _) ?_)))
  exact GL.done (()) rfl rfl (trivial) rfl [] rfl (by decide) (by simp [zh, rd])
theorem rsh1_spec {b s : Nat} {zs : List Nat} (hz : 1 ≤ zs.length) (hc : zs.length ≤ 9223372036854775807) (hw : Wd zs) (hs : 0 < s) (hs2 : s < 64) :
    Spec (cx V) 146 #[.slice (some ⟨b, 0, none⟩) 1 zs.length, .slice (some ⟨b, 0, none⟩) 1 zs.length, .int .u64 s] [⟨b, 162, cells .u64 zs, true⟩] [] zv (zh true) (fun q => Res q (zs.getD 0 0 / 2 ^ s)) := by
  have e1 : s / 64 = 0 := Nat.div_eq_of_lt hs2
  have e2 : s % 64 = s := Nat.mod_eq_of_lt hs2
  refine Spec.enter Tryz.func146 rfl Tryz.ntmps146 (by simp) [(0, .slice (some ⟨b, 0, none⟩) 1 zs.length), (1, .slice (some ⟨b, 0, none⟩) 1 zs.length), (2, .int .u64 s)] (by simp) ?_
  intro X hR
  try simp only [apC, apN]
  refine G.seq (G.region (J.assign rfl rfl (J.nil (G.seq (G.seq (G.region (J.move rfl rfl ?_)))))))
  (first | refine J.eqN rfl rfl rfl ?_ | refine J.eqZ rfl rfl rfl ?_)
  refine J.nil (G.cF rfl (G.skip (G.seq (G.region (J.move rfl rfl (J.lenS rfl rfl (J.assign rfl rfl (J.nil ?_))))))))
  refine G.seq (G.region (J.move rfl rfl (J.move rfl rfl (J.quoU rfl rfl rfl (by omega) (by omega) (J.convN rfl rfl (by show _ < _; omega) ?_)))))
  (first | refine J.subI rfl rfl rfl (by omega) (by omega) ?_ | refine J.subZ rfl rfl rfl (by omega) (by omega) ?_)
  refine J.assign rfl rfl (J.nil (G.prune [0, 1, 2, 6, 7, 8] rfl (G.seq (G.seq (G.region (J.move rfl rfl ?_))))))
  (first | refine J.leN rfl rfl rfl ?_ | refine J.leZ rfl rfl rfl ?_)
  refine J.nil ?_
  rw [e1]
  refine G.cF rfl (G.skip (G.seq (G.region (J.move rfl rfl (J.move rfl rfl (J.eff (E.callP (make_fit (n := 1) hz) [] [] rfl rfl rfl rfl rfl) rfl fun _ _ => ?_))))))
  try simp only [apC, apN]
  refine J.assign rfl rfl (J.nil (G.prune [0, 1, 2, 6, 7, 8] rfl (G.seq (G.seq (G.region (J.move rfl rfl (J.remN rfl rfl rfl (by omega) (J.assign rfl rfl ?_))))))))
  refine J.nil (G.seq (G.region (J.move rfl rfl ?_)))
  (first | refine J.eqN rfl rfl rfl ?_ | refine J.eqZ rfl rfl rfl ?_)
  refine J.nil ?_
  rw [e2]
  refine G.cF rfl (G.region (J.move rfl rfl (J.move rfl rfl (J.move rfl rfl (J.move rfl rfl ?_)))))
  (first | refine J.subI rfl rfl rfl (by omega) (by omega) ?_ | refine J.subZ rfl rfl rfl (by omega) (by omega) ?_)
  refine J.slL1 rfl rfl rfl (by omega) (by omega) (J.move rfl rfl (J.eff (E.callP (rshVUS_spec (V := V) (oz := 0) (n := 1) (ox := 0) (zs0 := zs) (by omega) hw (by omega) (.inl (Nat.le_refl 0)) (by omega) hs2) [0] [] rfl rfl rfl rfl rfl) rfl fun p hp => ?_))
  try simp only [apC, apN]
  obtain ⟨c, ts⟩ := p
  simp only at hp ⊢
  have hlen := hp.w.len
  have hv : rv ts 0 1 = zs.getD 0 0 / 2 ^ s := by
    have h := hp.e 0 (by decide)
    simp only [shrW, Nat.zero_add] at h
    rw [if_neg (by decide), Nat.add_zero] at h
    simp only [rv, Nat.pow_zero, Nat.mul_one, Nat.zero_add]
    exact h
  refine J.nil (G.prune [0, 6] rfl (G.seq (G.region (J.move rfl rfl (J.eff (E.callP (norm_spec (o := 0) (len := 1) (xs := ts) (by omega) (by omega) (by omega)) [] [0] rfl rfl rfl rfl rfl) rfl fun _ _ => ?_)))))
  try simp only [apC, apN]
  refine J.assign rfl rfl (J.nil (G.ret (hR _) ?_))
  exact GL.done (some ⟨b, nl ts 0 1, ts⟩) rfl rfl (Res.norm (by omega) (by omega) hp.w.wd hv) (by simp only [zv, hlen]; rfl) [0] rfl (by decide) (by simp [zh])
theorem rsh0_spec {b s c : Nat} (hs : 0 < s) (hs2 : s < 64) : Spec (cx V) 146 #[.slice (some ⟨b, 0, none⟩) 0 c, .slice (some ⟨b, 0, none⟩) 0 c, .int .u64 s] [] [] (fun _ : Unit => .slice (some ⟨b, 0, none⟩) 0 c) (fun _ => []) (fun _ => True) := by
  have e1 : s / 64 = 0 := Nat.div_eq_of_lt hs2
  refine Spec.enter Tryz.func146 rfl Tryz.ntmps146 (by simp) [(0, .slice (some ⟨b, 0, none⟩) 0 c), (1, .slice (some ⟨b, 0, none⟩) 0 c), (2, .int .u64 s)] (by simp) ?_
  intro X hR
  try simp only [apC, apN]
  refine G.seq (G.region (J.assign rfl rfl (J.nil (G.seq (G.seq (G.region (J.move rfl rfl ?_)))))))
  (first | refine J.eqN rfl rfl rfl ?_ | refine J.eqZ rfl rfl rfl ?_)
  refine J.nil (G.cF rfl (G.skip (G.seq (G.region (J.move rfl rfl (J.lenS rfl rfl (J.assign rfl rfl (J.nil ?_))))))))
  refine G.seq (G.region (J.move rfl rfl (J.move rfl rfl (J.quoU rfl rfl rfl (by omega) (by omega) (J.convN rfl rfl (by show _ < _; omega) ?_)))))
  (first | refine J.subI rfl rfl rfl (by omega) (by omega) ?_ | refine J.subZ rfl rfl rfl (by omega) (by omega) ?_)
  refine J.assign rfl rfl (J.nil (G.prune [0, 1, 2, 6, 7, 8] rfl (G.seq (G.seq (G.region (J.move rfl rfl ?_))))))
  (first | refine J.leN rfl rfl rfl ?_ | refine J.leZ rfl rfl rfl ?_)
  refine J.nil ?_
  rw [e1]
  refine G.cT rfl (G.seq (G.region (J.move rfl rfl (J.slH rfl rfl rfl (by omega) (J.assign rfl rfl (J.nil (G.ret (hR _) ?_)))))))
  exact GL.done (()) rfl rfl (trivial) rfl [] rfl (by decide) (by simp [zh, rd])
def hv (hd : Nat → Nat) : Nat → Nat
  | 0 => 0
  | n + 1 => hv hd n * 16 + hd n
theorem hv_lt {hd : Nat → Nat} (h : ∀ j, hd j ≤ 15) (n : Nat) : hv hd n < 16 ^ n := by
  induction n with
  | zero => simp [hv]
  | succ n ih => have := h n; simp only [hv, Nat.pow_succ]; omega
structure Hex (s : ByteArray) (h : Nat) (hd hc : Nat → Nat) : Prop where
  b0 : Byt s 0 48
  b1 : Byt s 1 120
  d : ∀ j, j < h → Byt s (2 + j) (hc j)
  v : ∀ j, hd j ≤ 15 ∧ (hd j ≤ 9 ∧ hc j = 48 + hd j ∨ 10 ≤ hd j ∧ (hc j = 87 + hd j ∨ hc j = 55 + hd j))
  sz : s.size = 2 + h
  h1 : 1 ≤ h
  h16 : h ≤ 16
def HAc (hd : Nat → Nat) (p : Nat) (z : Option RS) (w n : Nat) : Prop :=
  (z = none ∧ w = hv hd p ∧ n = p ∧ p < 16) ∨ (p = 16 ∧ (∃ g c, z = some ⟨g, 1, hv hd 16 :: List.replicate c 0⟩ ∧ c < 9223372036854775807) ∧ w = 0 ∧ n = 0)
theorem hexScan_spec {s : ByteArray} {h rb : Nat} {hd hc : Nat → Nat} (T : Hex s h hd hc) :
    Spec (cx V) 102 #[.slice none 0 0, .iface 127 (.pointer (some ⟨rb, 0, none⟩)), .int .i64 0, .bool true] (rd rb s 0) []
      (fun q : Option RS => .tuple #[zv q, .int .i64 ((16 : Nat) : Int), .int .i64 (h : Int), .nilIface]) (fun q => zh true q ++ rd rb s s.size) (fun q => Res q (hv hd h)) := by
  have hs := T.sz
  have h1 := T.h1
  have h16 := T.h16
  have hvv := T.v
  have hv15 : ∀ j, hd j ≤ 15 := fun j => (hvv j).1
  refine Spec.enter Tryz.func102 rfl Tryz.ntmps102 (by simp) [(0, .slice none 0 0), (1, .iface 127 (.pointer (some ⟨rb, 0, none⟩))), (2, .int .i64 0), (3, .bool true)] (by simp) ?_
  intro X hR
  try simp only [apC, apN]
  refine G.seq (G.region (J.assign rfl rfl (J.assign rfl rfl (J.assign rfl rfl (J.assign rfl rfl (J.nil (G.prune [0, 1, 2, 3, 8, 9, 10, 11, 23, 81] rfl (G.seq ?_))))))))
  refine G.region (J.move rfl rfl ?_)
  (first | refine J.eqN rfl rfl rfl ?_ | refine J.eqZ rfl rfl rfl ?_)
  refine J.move rfl rfl (J.sk rfl rfl rfl rfl (J.sk rfl rfl rfl rfl (J.sk rfl rfl rfl rfl (J.skipU rfl rfl rfl rfl (J.skipU rfl rfl rfl rfl (J.sk rfl rfl rfl rfl (J.sk rfl rfl rfl rfl (J.skipU rfl rfl rfl rfl ?_))))))))
  refine J.skipU rfl rfl rfl rfl (J.sk rfl rfl rfl rfl (J.pT rfl rfl rfl (J.move rfl rfl (J.sk rfl rfl rfl rfl (J.sk rfl rfl rfl rfl (J.skipU rfl rfl rfl rfl (J.skipU rfl rfl rfl rfl (J.skipU rfl rfl rfl rfl ?_))))))))
  refine J.skipU rfl rfl rfl rfl (J.skipU rfl rfl rfl rfl (J.skipU rfl rfl rfl rfl (J.skipU rfl rfl rfl rfl (J.skipU rfl rfl rfl rfl (J.skipU rfl rfl rfl rfl (J.skipU rfl rfl rfl rfl (J.skipU rfl rfl rfl rfl (J.skipU rfl rfl rfl rfl ?_))))))))
  refine J.skipU rfl rfl rfl rfl (J.skipU rfl rfl rfl rfl (J.sk rfl rfl rfl rfl (J.pT rfl rfl rfl (J.assign rfl rfl (J.nil (G.prune [0, 1, 2, 3, 8, 9, 10, 11, 12, 23, 81] rfl (G.seq (G.seq ?_))))))))
  refine G.region (J.move rfl rfl (J.not rfl rfl (J.nil (G.cF rfl (G.skip (G.seq (G.region (J.assign rfl rfl ?_))))))))
  refine J.nil (G.seq (G.region (J.assign rfl rfl (J.nil (G.seq (G.region (J.move rfl rfl (J.eff (E.inv0 (readCur_spec (i := 0) (by omega) (by omega)) [0] [] (method_read _) rfl rfl rfl rfl rfl) rfl fun t0 ht0 => ?_))))))))
  try simp only [apC, apN]
  obtain ⟨ch, er, rp⟩ := t0
  simp only at ht0 ⊢
  rcases ht0 with ⟨rfl, rfl, hch⟩ | ⟨_, _, he, _⟩
  rotate_left
  · exfalso; omega
  obtain rfl := hch.uniq T.b0
  refine J.move rfl rfl (J.extractL rfl rfl rfl (J.extractL rfl rfl rfl (J.assign rfl rfl (J.assign rfl rfl (J.nil (G.prune [0, 1, 2, 3, 8, 9, 10, 11, 12, 13, 14, 15, 23, 81] rfl (G.seq (G.region ?_))))))))
  refine J.move rfl rfl (J.assign rfl rfl (J.assign rfl rfl (J.nil (G.seq (G.seq (G.region (J.move rfl rfl ?_)))))))
  (first | refine J.eqN rfl rfl rfl ?_ | refine J.eqZ rfl rfl rfl ?_)
  refine J.nil (G.cT rfl (G.seq (G.region (J.assign rfl rfl (J.nil (G.seq (G.region (J.move rfl rfl ?_))))))))
  (first | refine J.nilNilE rfl rfl ?_ | refine J.ifNilE rfl rfl ?_)
  refine J.move rfl rfl (J.wT rfl rfl (J.move rfl rfl (J.wT rfl rfl ?_)))
  (first | refine J.eqN rfl rfl rfl ?_ | refine J.eqZ rfl rfl rfl ?_)
  refine J.pT rfl rfl rfl (J.nil (G.prune [0, 1, 2, 3, 8, 9, 10, 11, 12, 13, 14, 15, 16, 23, 73, 81] rfl (G.cT rfl (G.seq (G.region (J.assign rfl rfl (J.nil (G.seq ?_))))))))
  refine G.region (J.assign rfl rfl (J.nil (G.seq (G.region (J.move rfl rfl (J.eff (E.inv0 (readCur_spec (i := 1) (by omega) (by omega)) [0] [] (method_read _) rfl rfl rfl rfl rfl) rfl fun t0 ht0 => ?_))))))
  try simp only [apC, apN]
  obtain ⟨ch, er, rp⟩ := t0
  simp only at ht0 ⊢
  rcases ht0 with ⟨rfl, rfl, hch⟩ | ⟨_, _, he, _⟩
  rotate_left
  · exfalso; omega
  obtain rfl := hch.uniq T.b1
  refine J.move rfl rfl (J.extractL rfl rfl rfl (J.extractL rfl rfl rfl (J.assign rfl rfl (J.assign rfl rfl (J.nil (G.prune [0, 1, 2, 3, 8, 9, 10, 11, 12, 13, 14, 15, 16, 23, 81] rfl (G.seq (G.region ?_))))))))
  refine J.move rfl rfl ?_
  (first | refine J.nilNilE rfl rfl ?_ | refine J.ifNilE rfl rfl ?_)
  refine J.nil (G.cT rfl (G.seq (G.seq (G.region (J.move rfl rfl (J.nil (G.block (G.seq ?_))))))))
  refine G.seq (G.region ?_)
  (first | refine J.eqN rfl rfl rfl ?_ | refine J.eqZ rfl rfl rfl ?_)
  refine J.assign rfl rfl (J.nil (G.cF rfl (G.region ?_)))
  (first | refine J.eqN rfl rfl rfl ?_ | refine J.eqZ rfl rfl rfl ?_)
  refine J.assign rfl rfl (J.nil (G.cF rfl (G.seq (G.seq (G.region ?_)))))
  (first | refine J.eqN rfl rfl rfl ?_ | refine J.eqZ rfl rfl rfl ?_)
  refine J.assign rfl rfl (J.nil (G.cF rfl (G.region ?_)))
  (first | refine J.eqN rfl rfl rfl ?_ | refine J.eqZ rfl rfl rfl ?_)
  refine J.assign rfl rfl (J.nil (G.cF rfl (G.seq (G.seq (G.region ?_)))))
  (first | refine J.eqN rfl rfl rfl ?_ | refine J.eqZ rfl rfl rfl ?_)
  refine J.assign rfl rfl (J.nil (G.cT rfl (G.skip (G.cT rfl (G.region (J.assign rfl rfl (J.assign rfl rfl (J.nil ?_))))))))
  refine G.inBlock (G.seq (G.region (J.move rfl rfl ?_)))
  (first | refine J.neN rfl rfl rfl ?_ | refine J.neZ rfl rfl rfl ?_)
  refine J.nil (G.cT rfl (G.seq (G.region (J.assign rfl rfl (J.nil (G.seq (G.region (J.move rfl rfl ?_))))))))
  (first | refine J.neN rfl rfl rfl ?_ | refine J.neZ rfl rfl rfl ?_)
  refine J.nil (G.cT rfl (G.region (J.move rfl rfl (J.eff (E.inv0 (readCur_spec (i := 2) (by omega) (by omega)) [0] [] (method_read _) rfl rfl rfl rfl rfl) rfl fun t0 ht0 => ?_))))
  try simp only [apC, apN]
  refine J.move rfl rfl (J.extractL rfl rfl rfl (J.extractL rfl rfl rfl (J.assign rfl rfl (J.assign rfl rfl (J.nil (G.prune [0, 1, 2, 3, 8, 9, 10, 11, 12, 13, 14, 15, 16, 23, 81] rfl (G.seq (G.region ?_))))))))
  refine J.move rfl rfl (J.slH rfl rfl rfl (by omega) (J.assign rfl rfl (J.nil (G.seq (G.region (J.move rfl rfl ?_))))))
  obtain ⟨ch0, er0, rp0⟩ := t0
  simp only at ht0 ⊢
  refine J.convN rfl rfl (by show _ < _; decide) (J.assign rfl rfl (J.nil (G.seq (G.region (J.assign rfl rfl (J.nil (G.seq (G.region ?_))))))))
  refine J.assign rfl rfl (J.nil (G.seq (G.seq (G.region (J.move rfl rfl (J.nil (G.block (G.seq ?_))))))))
  refine G.region ?_
  (first | refine J.eqN rfl rfl rfl ?_ | refine J.eqZ rfl rfl rfl ?_)
  refine J.assign rfl rfl (J.nil (G.cF rfl (G.seq (G.region ?_))))
  (first | refine J.eqN rfl rfl rfl ?_ | refine J.eqZ rfl rfl rfl ?_)
  refine J.assign rfl rfl (J.nil (G.cF rfl (G.seq (G.region ?_))))
  (first | refine J.eqN rfl rfl rfl ?_ | refine J.eqZ rfl rfl rfl ?_)
  refine J.assign rfl rfl (J.nil (G.cT rfl (G.region (J.assign rfl rfl (J.nil (G.inBlock (G.seq (G.region ?_))))))))
  refine J.assign rfl rfl (J.nil (G.seq (G.region (J.assign rfl rfl (J.nil (G.seq (G.region (J.assign rfl rfl ?_))))))))
  refine J.nil (G.seq ?_)
  refine G.cut (σ := Option RS × Nat × Nat) (fun t => HAc hd h t.1 t.2.1 t.2.2)
    (fun t => [(0, zv t.1), (9, .int .i64 ((16 : Nat) : Int)), (10, .int .i64 (h : Nat)), (11, .iface 275 (.pointer (some V))), (13, .int .i32 48), (14, .bool false), (16, .int .i64 120), (17, .int .u64 ((16 : Nat) : Int)), (18, .int .u64 0), (19, .int .i64 16), (20, .int .u64 (t.2.1 : Nat)), (21, .int .i64 (t.2.2 : Nat)), (22, .int .i64 (-1))])
    (fun t => rd rb s s.size ++ zh true t.1) (fun hk => ?_) ?_
  rotate_left
  · rintro ⟨z, w, n⟩ hac
    simp only at hac ⊢
    refine G.seq (G.seq (G.region (J.move rfl rfl (J.loadGi 0 rfl rfl rfl rfl ?_))))
    (first | refine J.ifSameE rfl rfl rfl ?_ | refine J.nilIfE rfl rfl rfl ?_)
    refine J.nil (G.cT rfl (G.region (J.assign rfl rfl (J.nil (G.seq (G.seq (G.region (J.move rfl rfl ?_))))))))
    (first | refine J.nilNilE rfl rfl ?_ | refine J.ifNilE rfl rfl ?_)
    refine J.move rfl rfl (J.wT rfl rfl (J.move rfl rfl (J.wT rfl rfl (J.move rfl rfl (J.wF rfl rfl (J.move rfl rfl (J.wF rfl rfl ?_)))))))
    (first | refine J.eqN rfl rfl rfl ?_ | refine J.eqZ rfl rfl rfl ?_)
    refine J.wT rfl rfl (J.pF rfl rfl rfl (J.pT rfl rfl rfl (J.nil (G.prune [0, 8, 9, 10, 11, 16, 17, 18, 19, 20, 21, 22, 218] rfl (G.cF rfl (G.skip (G.seq (G.seq ?_))))))))
    refine G.region (J.move rfl rfl ?_)
    (first | refine J.eqN rfl rfl rfl ?_ | refine J.eqZ rfl rfl rfl ?_)
    refine J.nil (G.cF rfl (G.skip (G.seq (G.seq (G.region (J.move rfl rfl ?_))))))
    (first | refine J.eqN rfl rfl rfl ?_ | refine J.eqZ rfl rfl rfl ?_)
    refine J.nil (G.cT rfl (G.seq (G.seq (G.region (J.move rfl rfl ?_)))))
    (first | refine J.gtN rfl rfl rfl ?_ | refine J.gtZ rfl rfl rfl ?_)
    refine J.nil ?_
    rcases hac with ⟨rfl, rfl, rfl, hn⟩ | ⟨rfl, ⟨g, c, rfl, hc9⟩, rfl, rfl⟩
    · have hl := hv_lt hv15 n
      have hm : hv hd n * 16 ^ (16 - n) < 18446744073709551616 := by
        have h2 := Nat.mul_lt_mul_of_pos_right hl (Nat.pow_pos (n := 16 - n) (show 0 < 16 by decide))
        rw [← Nat.pow_add, show n + (16 - n) = 16 by omega] at h2
        exact h2
      simp only [zv, zh]
      refine G.cT rfl (G.region (J.move rfl rfl (J.move rfl rfl (J.move rfl rfl (J.move rfl rfl (J.move rfl rfl ?_))))))
      (first | refine J.subI rfl rfl rfl (by omega) (by omega) ?_ | refine J.subZ rfl rfl rfl (by omega) (by omega) ?_)
      refine J.eff (E.callP (pow16_spec (n := 16 - n) (by omega)) [] [] rfl rfl rfl rfl rfl) rfl fun _ _ => ?_
      try simp only [apC, apN]
      refine J.mulU rfl rfl rfl (by omega) (J.eff (E.slice1 rfl rfl) rfl fun g240 => J.eff (E.append1nilR (v := hv hd n * 16 ^ (16 - n)) rfl rfl rfl Mem.h (by decide)) rfl fun g c hc9 => J.assign rfl rfl (J.nil (G.prune [0, 8, 9, 10, 11, 19, 21, 22] rfl (G.seq (G.region (J.move rfl rfl ?_))))))
      have hlen : (hv hd n * 16 ^ (16 - n) :: List.replicate c 0).length = c + 1 := by simp
      have hwd : Wd (hv hd n * 16 ^ (16 - n) :: List.replicate c 0) := fun j => by
        cases j with
        | zero => exact hm
        | succ j => exact Wd.rep c j
      refine J.eff (E.callP (reverse1_spec) [] [] rfl rfl rfl rfl rfl) rfl fun _ _ => ?_
      try simp only [apC, apN]
      refine J.nil (G.seq (G.region (J.move rfl rfl (J.eff (E.callP (norm_spec (o := 0) (len := 1) (by omega) (by omega) (by omega)) [] [0] rfl rfl rfl rfl rfl) rfl fun _ _ => ?_))))
      try simp only [apC, apN]
      refine J.assign rfl rfl (J.nil (G.seq (G.region (J.move rfl rfl ?_))))
      (first | refine J.gtN rfl rfl rfl ?_ | refine J.gtZ rfl rfl rfl ?_)
      refine J.nil (G.cT rfl (G.region (J.move rfl rfl (J.move rfl rfl (J.move rfl rfl (J.move rfl rfl ?_))))))
      (first | refine J.subI rfl rfl rfl (by omega) (by omega) ?_ | refine J.subZ rfl rfl rfl (by omega) (by omega) ?_)
      refine J.convN rfl rfl (by show _ < _; omega) (J.move rfl rfl (J.quoI rfl rfl rfl (by omega) (by omega) (J.convN rfl rfl (by show _ < _; omega) (J.mulU rfl rfl rfl (by omega) ?_))))
      have e4 : 64 / 16 = 4 := rfl
      rw [e4]
      by_cases h0 : hv hd n = 0
      · have hnl : nl (hv hd n * 16 ^ (16 - n) :: List.replicate c 0) 0 1 = 0 := by rw [h0, Nat.zero_mul]; rfl
        rw [hnl]
        refine J.eff (E.callP (rsh0_spec (by omega) (by omega)) [] [] rfl rfl rfl rfl rfl) rfl fun _ _ => ?_
        try simp only [apC, apN]
        refine J.assign rfl rfl (J.nil (G.prune [0, 8, 9, 10, 11, 22] rfl (G.seq (G.region (J.move rfl rfl (J.assign rfl rfl (J.nil (G.seq ?_))))))))
        refine G.seq (G.region (J.move rfl rfl ?_))
        (first | refine J.geN rfl rfl rfl ?_ | refine J.geZ rfl rfl rfl ?_)
        refine J.nil (G.condF rfl (by decide) (G.skip (G.ret (hR _) ?_)))
        exact GL.done (some ⟨g, 0, hv hd n * 16 ^ (16 - n) :: List.replicate c 0⟩) rfl rfl (by have hz : Res (some ⟨g, 0, hv hd n * 16 ^ (16 - n) :: List.replicate c 0⟩) 0 := Res.zero (by omega) hwd; exact ⟨hz.ok, hz.nm, by rw [hz.n]; exact h0.symm⟩) rfl [0, 2] rfl (by decide) (by simp [zh, rd])
      · have hp : 0 < hv hd n * 16 ^ (16 - n) := Nat.mul_pos (Nat.pos_of_ne_zero h0) (Nat.pow_pos (by decide))
        have hnl : nl (hv hd n * 16 ^ (16 - n) :: List.replicate c 0) 0 1 = 1 := by
          unfold nl
          rw [if_neg]
          show hv hd n * 16 ^ (16 - n) ≠ 0
          omega
        rw [hnl]
        refine J.eff (E.callP (rsh1_spec (zs := hv hd n * 16 ^ (16 - n) :: List.replicate c 0) (by omega) (by omega) hwd (by omega) (by omega)) [0] [] rfl rfl rfl rfl rfl) rfl fun q hq => ?_
        try simp only [apC, apN]
        refine J.assign rfl rfl (J.nil (G.prune [0, 8, 9, 10, 11, 22] rfl (G.seq (G.region (J.move rfl rfl (J.assign rfl rfl (J.nil (G.seq ?_))))))))
        refine G.seq (G.region (J.move rfl rfl ?_))
        (first | refine J.geN rfl rfl rfl ?_ | refine J.geZ rfl rfl rfl ?_)
        refine J.nil ?_
        have hq2 : Res q (hv hd n) := by
          have e : (hv hd n * 16 ^ (16 - n) :: List.replicate c 0).getD 0 0 / 2 ^ ((16 - n) * 4) = hv hd n := by
            show hv hd n * 16 ^ (16 - n) / 2 ^ ((16 - n) * 4) = _
            rw [Nat.mul_comm (16 - n) 4, Nat.pow_mul]
            exact Nat.mul_div_cancel _ (Nat.pow_pos (by decide))
          rw [e] at hq; exact hq
        rcases q with _ | q
        · skip
          refine G.condF rfl (by decide) (G.skip (G.ret (hR _) ?_))
          exact GL.done none rfl rfl hq2 rfl [1] rfl (by decide) (by simp [zh, rd])
        · skip
          refine G.condF rfl (by decide) (G.skip (G.ret (hR _) ?_))
          exact GL.done (some q) rfl rfl hq2 rfl [0, 2] rfl (by decide) (by simp [zh, rd])
    · have hlen : (hv hd 16 :: List.replicate c 0).length = c + 1 := by simp
      have hm : hv hd 16 < 18446744073709551616 := hv_lt hv15 16
      have hwd : Wd (hv hd 16 :: List.replicate c 0) := fun j => by
        cases j with
        | zero => exact hm
        | succ j => exact Wd.rep c j
      simp only [zv, zh]
      refine G.cF rfl (G.skip (G.seq (G.region (J.move rfl rfl (J.eff (E.callP (reverse1_spec) [] [] rfl rfl rfl rfl rfl) rfl fun _ _ => ?_)))))
      try simp only [apC, apN]
      refine J.nil (G.seq (G.region (J.move rfl rfl (J.eff (E.callP (norm_spec (o := 0) (len := 1) (by omega) (by omega) (by omega)) [] [1] rfl rfl rfl rfl rfl) rfl fun _ _ => ?_))))
      try simp only [apC, apN]
      refine J.assign rfl rfl (J.nil (G.seq (G.region (J.move rfl rfl ?_))))
      (first | refine J.gtN rfl rfl rfl ?_ | refine J.gtZ rfl rfl rfl ?_)
      refine J.nil (G.cF rfl (G.skip (G.seq (G.region (J.move rfl rfl (J.assign rfl rfl (J.nil (G.seq ?_))))))))
      refine G.seq (G.region (J.move rfl rfl ?_))
      (first | refine J.geN rfl rfl rfl ?_ | refine J.geZ rfl rfl rfl ?_)
      refine J.nil (G.condF rfl (by decide) (G.skip (G.ret (hR _) ?_)))
      exact GL.done (some ⟨g, nl (hv hd 16 :: List.replicate c 0) 0 1, hv hd 16 :: List.replicate c 0⟩) rfl rfl (Res.norm (by omega) (by omega) hwd (by show 0 + hv hd 16 * _ ^ 0 = _; omega)) rfl [1, 0] rfl (by decide) (by simp [zh, rd])
  refine G.block ?_
  refine G.loopW (σ := { t : Nat × Nat × Value × Nat × Option RS × Nat × Nat // t.1 ≤ h ∧ Cur V s (2 + t.1) t.2.1 t.2.2.1 t.2.2.2.1 ∧ HAc hd t.1 t.2.2.2.2.1 t.2.2.2.2.2.1 t.2.2.2.2.2.2 })
    (fun t => [(0, zv t.1.2.2.2.2.1), (1, .iface 127 (.pointer (some ⟨rb, 0, none⟩))), (2, .int .i64 0), (3, .bool true), (9, .int .i64 ((16 : Nat) : Int)), (10, .int .i64 (t.1.1 : Nat)), (11, t.1.2.2.1), (13, .int .i32 48), (14, .bool false), (15, .int .u8 (t.1.2.1 : Nat)), (16, .int .i64 120), (17, .int .u64 ((16 : Nat) : Int)), (18, .int .u64 0), (19, .int .i64 16), (20, .int .u64 (t.1.2.2.2.2.2.1 : Nat)), (21, .int .i64 (t.1.2.2.2.2.2.2 : Nat)), (22, .int .i64 (-1))])
    (fun t => rd rb s t.1.2.2.2.1 ++ zh true t.1.2.2.2.2.1) (fun t => h - t.1.1) ⟨(0, ch0, er0, rp0, none, 0, 0), Nat.zero_le _, ht0, .inl ⟨rfl, rfl, rfl, (show 0 < 16 by decide)⟩⟩ (by repeat (first | exact SubSlots.nil _ | refine SubSlots.cons rfl ?_)) [0] rfl (by decide) ?_
  rintro ⟨⟨p, ch, er, rp, z, w, n⟩, hp, hcur, hac⟩ ih
  simp only at ih hp hcur hac ⊢
  rcases hcur with ⟨rfl, rfl, hch⟩ | ⟨rfl, rfl, he, rfl⟩
  rotate_left
  · skip
    refine G.seq (G.seq (G.region (J.move rfl rfl ?_)))
    (first | refine J.nilNilE rfl rfl ?_ | refine J.ifNilE rfl rfl ?_)
    refine J.nil (G.cF rfl (G.exit rfl ?_))
    obtain rfl : p = h := by omega
    exact G.wl (hk (z, w, n) hac)
  have hph : p < h := by have := hch.lt; omega
  obtain rfl := hch.uniq (T.d p hph)
  rcases hac with ⟨rfl, rfl, rfl, hn⟩ | ⟨rfl, _⟩
  rotate_left
  · exfalso; omega
  obtain ⟨hv1, hv2⟩ := hvv n
  have hl := hv_lt hv15 n
  have hl2 := sixteen_le (show n ≤ 15 by omega)
  have e15 : 16 ^ 15 = 1152921504606846976 := by decide
  rw [e15] at hl2
  refine G.seq (G.seq (G.region (J.move rfl rfl ?_)))
  (first | refine J.nilNilE rfl rfl ?_ | refine J.ifNilE rfl rfl ?_)
  refine J.nil (G.cT rfl (G.skip (G.block (G.seq (G.seq (G.region (J.move rfl rfl ?_)))))))
  (first | refine J.eqN rfl rfl rfl ?_ | refine J.eqZ rfl rfl rfl ?_)
  refine J.move rfl rfl (J.sk rfl rfl rfl rfl (J.pF rfl rfl rfl (J.nil (G.prune [0, 1, 2, 3, 8, 9, 10, 11, 12, 13, 14, 15, 16, 17, 18, 19, 20, 21, 22, 23, 81, 106, 124] rfl (G.cF rfl (G.seq (G.region (J.move rfl rfl ?_))))))))
  (first | refine J.eqN rfl rfl rfl ?_ | refine J.eqZ rfl rfl rfl ?_)
  refine J.move rfl rfl (J.sk rfl rfl rfl rfl (J.sk rfl rfl rfl rfl (J.pF rfl rfl rfl (J.nil (G.prune [0, 1, 2, 3, 8, 9, 10, 11, 12, 13, 14, 15, 16, 17, 18, 19, 20, 21, 22, 23, 81, 106, 133] rfl (G.cF rfl (G.seq (G.region ?_))))))))
  refine J.assign rfl rfl (J.nil (G.seq ?_))
  refine G.cut (σ := Unit) (fun _ => True) (fun _ => [(0, zv none), (1, .iface 127 (.pointer (some ⟨rb, 0, none⟩))), (2, .int .i64 0), (3, .bool true), (9, .int .i64 ((16 : Nat) : Int)), (10, .int .i64 (n : Nat)), (14, .bool false), (16, .int .i64 120), (17, .int .u64 ((16 : Nat) : Int)), (18, .int .u64 0), (19, .int .i64 16), (20, .int .u64 (hv hd n : Nat)), (21, .int .i64 (n : Nat)), (22, .int .i64 (-1)), (23, .int .u64 (hd n : Nat))]) (fun _ => rd rb s (2 + n + 1)) (fun hk2 => ?_) ?_
  · skip
    rcases hv2 with ⟨h9, e⟩ | ⟨h10, e | e⟩
    all_goals rw [e]
    · skip
      refine G.block (G.seq (G.region (J.move rfl rfl ?_)))
      (first | refine J.leN rfl rfl rfl ?_ | refine J.leZ rfl rfl rfl ?_)
      refine J.move rfl rfl (J.wT rfl rfl (J.move rfl rfl (J.wT rfl rfl ?_)))
      (first | refine J.leN rfl rfl rfl ?_ | refine J.leZ rfl rfl rfl ?_)
      refine J.pT rfl rfl rfl (J.assign rfl rfl (J.nil (G.prune [0, 1, 2, 3, 8, 9, 10, 11, 12, 13, 14, 15, 16, 17, 18, 19, 20, 21, 22, 81, 106, 136] rfl (G.cT rfl (G.region (J.move rfl rfl (J.sub8 rfl rfl rfl (by omega) (by omega) ?_)))))))
      rw [Nat.add_sub_cancel_left]
      refine J.convN rfl rfl (by show _ < _; omega) (J.assign rfl rfl (J.nil (G.prune [0, 1, 2, 3, 8, 9, 10, 11, 12, 13, 14, 15, 16, 17, 18, 19, 20, 21, 22, 23, 81, 106] rfl (G.inBlock ?_))))
      exact G.wl (hk2 () trivial)
    · skip
      refine G.block (G.seq (G.region (J.move rfl rfl ?_)))
      (first | refine J.leN rfl rfl rfl ?_ | refine J.leZ rfl rfl rfl ?_)
      refine J.move rfl rfl (J.wT rfl rfl (J.move rfl rfl (J.wT rfl rfl ?_)))
      (first | refine J.leN rfl rfl rfl ?_ | refine J.leZ rfl rfl rfl ?_)
      refine J.pT rfl rfl rfl (J.assign rfl rfl (J.nil (G.prune [0, 1, 2, 3, 8, 9, 10, 11, 12, 13, 14, 15, 16, 17, 18, 19, 20, 21, 22, 81, 106, 136] rfl (G.cF rfl (G.seq (G.region (J.move rfl rfl ?_)))))))
      (first | refine J.leN rfl rfl rfl ?_ | refine J.leZ rfl rfl rfl ?_)
      refine J.move rfl rfl (J.wT rfl rfl (J.move rfl rfl (J.wT rfl rfl ?_)))
      (first | refine J.leN rfl rfl rfl ?_ | refine J.leZ rfl rfl rfl ?_)
      refine J.pT rfl rfl rfl (J.assign rfl rfl (J.nil (G.prune [0, 1, 2, 3, 8, 9, 10, 11, 12, 13, 14, 15, 16, 17, 18, 19, 20, 21, 22, 81, 106, 146] rfl (G.cT rfl (G.region (J.move rfl rfl (J.sub8 rfl rfl rfl (by omega) (by omega) (J.add8 rfl rfl rfl (by omega) ?_))))))))
      rw [show 87 + hd n - 97 + 10 = hd n by omega]
      refine J.convN rfl rfl (by show _ < _; omega) (J.assign rfl rfl (J.nil (G.prune [0, 1, 2, 3, 8, 9, 10, 11, 12, 13, 14, 15, 16, 17, 18, 19, 20, 21, 22, 23, 81, 106] rfl (G.inBlock ?_))))
      exact G.wl (hk2 () trivial)
    · skip
      refine G.block (G.seq (G.region (J.move rfl rfl ?_)))
      (first | refine J.leN rfl rfl rfl ?_ | refine J.leZ rfl rfl rfl ?_)
      refine J.move rfl rfl (J.wT rfl rfl (J.move rfl rfl (J.wT rfl rfl ?_)))
      (first | refine J.leN rfl rfl rfl ?_ | refine J.leZ rfl rfl rfl ?_)
      refine J.pT rfl rfl rfl (J.assign rfl rfl (J.nil (G.prune [0, 1, 2, 3, 8, 9, 10, 11, 12, 13, 14, 15, 16, 17, 18, 19, 20, 21, 22, 81, 106, 136] rfl (G.cF rfl (G.seq (G.region (J.move rfl rfl ?_)))))))
      (first | refine J.leN rfl rfl rfl ?_ | refine J.leZ rfl rfl rfl ?_)
      refine J.move rfl rfl (J.sk rfl rfl rfl rfl (J.sk rfl rfl rfl rfl (J.pF rfl rfl rfl (J.assign rfl rfl (J.nil (G.prune [0, 1, 2, 3, 8, 9, 10, 11, 12, 13, 14, 15, 16, 17, 18, 19, 20, 21, 22, 81, 106, 146] rfl (G.cF rfl (G.seq ?_))))))))
      refine G.region (J.move rfl rfl ?_)
      (first | refine J.leN rfl rfl rfl ?_ | refine J.leZ rfl rfl rfl ?_)
      refine J.move rfl rfl (J.wT rfl rfl (J.move rfl rfl (J.wT rfl rfl ?_)))
      (first | refine J.leN rfl rfl rfl ?_ | refine J.leZ rfl rfl rfl ?_)
      refine J.pT rfl rfl rfl (J.assign rfl rfl (J.nil (G.prune [0, 1, 2, 3, 8, 9, 10, 11, 12, 13, 14, 15, 16, 17, 18, 19, 20, 21, 22, 81, 106, 157] rfl (G.cT rfl (G.seq (G.region (J.move rfl rfl ?_)))))))
      (first | refine J.leN rfl rfl rfl ?_ | refine J.leZ rfl rfl rfl ?_)
      refine J.nil (G.cT rfl (G.region (J.move rfl rfl (J.sub8 rfl rfl rfl (by omega) (by omega) (J.add8 rfl rfl rfl (by omega) ?_)))))
      rw [show 55 + hd n - 65 + 10 = hd n by omega]
      refine J.convN rfl rfl (by show _ < _; omega) (J.assign rfl rfl (J.nil (G.prune [0, 1, 2, 3, 8, 9, 10, 11, 12, 13, 14, 15, 16, 17, 18, 19, 20, 21, 22, 23, 81, 106] rfl (G.inBlock ?_))))
      exact G.wl (hk2 () trivial)
  rintro _ -
  refine G.seq (G.seq (G.region (J.move rfl rfl (J.move rfl rfl ?_))))
  (first | refine J.geN rfl rfl rfl ?_ | refine J.geZ rfl rfl rfl ?_)
  refine J.nil (G.cF rfl (G.skip (G.seq (G.region (J.assign rfl rfl (J.nil (G.seq (G.region ?_))))))))
  refine J.move rfl rfl ?_
  (first | refine J.addI rfl rfl rfl (by omega) ?_ | refine J.addZ rfl rfl rfl (by omega) (by omega) ?_)
  refine J.assign rfl rfl (J.nil (G.seq (G.region (J.move rfl rfl (J.move rfl rfl (J.mulU rfl rfl rfl (by omega) (J.move rfl rfl (J.addU rfl rfl rfl (by omega) ?_))))))))
  refine J.assign rfl rfl (J.nil (G.prune [0, 1, 2, 3, 8, 9, 10, 11, 12, 13, 14, 16, 17, 18, 19, 20, 21, 22, 23, 81, 106] rfl (G.seq (G.region (J.move rfl rfl ?_)))))
  (first | refine J.addI rfl rfl rfl (by omega) ?_ | refine J.addZ rfl rfl rfl (by omega) (by omega) ?_)
  refine J.assign rfl rfl (J.nil (G.seq (G.region (J.move rfl rfl (J.move rfl rfl ?_)))))
  (first | refine J.eqN rfl rfl rfl ?_ | refine J.eqZ rfl rfl rfl ?_)
  refine J.nil ?_
  by_cases h15 : n = 15
  · subst h15
    refine G.cT rfl (G.seq (G.seq (G.region (J.move rfl rfl ?_))))
    (first | refine J.eqN rfl rfl rfl ?_ | refine J.eqZ rfl rfl rfl ?_)
    refine J.nil (G.cT rfl (G.region (J.move rfl rfl (J.move rfl rfl (J.eff (E.slice1 rfl rfl) rfl fun g195 => ?_)))))
    have hm : hv hd 16 < 18446744073709551616 := hv_lt hv15 16
    refine J.eff (E.append1nilR (v := hv hd 16) rfl rfl rfl Mem.h (by decide)) rfl fun g c hc9 => J.assign rfl rfl (J.nil (G.prune [0, 1, 2, 3, 8, 9, 10, 11, 12, 13, 14, 16, 17, 18, 19, 22, 23, 81, 106] rfl (G.seq (G.region (J.assign rfl rfl (J.nil (G.region ?_)))))))
    refine J.assign rfl rfl (J.nil (G.region (J.move rfl rfl (J.eff (E.inv0 (readCur_spec (i := 2 + 16) (by omega) (by omega)) [2] [] (method_read _) rfl rfl rfl rfl rfl) rfl fun t1 ht1 => ?_))))
    try simp only [apC, apN]
    refine J.move rfl rfl (J.extractL rfl rfl rfl (J.extractL rfl rfl rfl (J.assign rfl rfl (J.assign rfl rfl (J.nil (G.prune [0, 1, 2, 3, 8, 9, 10, 11, 12, 13, 14, 15, 16, 17, 18, 19, 20, 21, 22, 23, 81, 106] rfl (G.inBlock ?_)))))))
    exact G.wk [0, 1] (ih ⟨(16, t1.1, t1.2.1, t1.2.2, some ⟨g, 1, hv hd 16 :: List.replicate c 0⟩, 0, 0), by simp only; omega, ht1, .inr ⟨rfl, ⟨g, c, rfl, hc9⟩, rfl, rfl⟩⟩ (by simp only; omega))
  · skip
    refine G.cF rfl (G.skip (G.region (J.move rfl rfl (J.eff (E.inv0 (readCur_spec (i := 2 + (n + 1)) (by omega) (by omega)) [0] [] (method_read _) rfl rfl rfl rfl rfl) rfl fun t1 ht1 => ?_))))
    try simp only [apC, apN]
    refine J.move rfl rfl (J.extractL rfl rfl rfl (J.extractL rfl rfl rfl (J.assign rfl rfl (J.assign rfl rfl (J.nil (G.prune [0, 1, 2, 3, 8, 9, 10, 11, 12, 13, 14, 15, 16, 17, 18, 19, 20, 21, 22, 23, 81, 106] rfl (G.inBlock ?_)))))))
    exact G.wl (ih ⟨(n + 1, t1.1, t1.2.1, t1.2.2, none, hv hd (n + 1), n + 1), by simp only; omega, ht1, .inl ⟨rfl, rfl, rfl, by omega⟩⟩ (by simp only; omega))
end
section
set_option maxRecDepth 100000
set_option pp.deepTerms false
variable {V : Addr}
theorem makeAcc_spec {b : Bool} : Spec (cx V) 90 #[.bool b] [] [] (fun a : Int => .int .i8 a) (fun _ => []) (fun _ => True) := by
  refine Spec.enter Tryz.func90 rfl Tryz.ntmps90 (by simp) [(0, .bool b)] (by simp) ?_
  intro X hR
  try simp only [apC, apN]
  refine G.seq (G.region (J.assign rfl rfl (J.nil (G.seq (G.seq (G.region (J.move rfl rfl (J.nil ?_))))))))
  cases b with
  | true =>
    refine G.cT rfl (G.seq (G.region (J.assign rfl rfl (J.nil (G.ret (hR _) ?_)))))
    exact GL.done ((1 : Int)) rfl rfl (trivial) rfl [] rfl (by decide) (by simp)
  | false =>
    refine G.cF rfl (G.skip (G.seq (G.region (J.assign rfl rfl (J.nil (G.ret (hR _) ?_))))))
    exact GL.done ((-1 : Int)) rfl rfl (trivial) rfl [] rfl (by decide) (by simp)
theorem bit_spec {b l i : Nat} {xs : List Nat} (hl : l ≤ xs.length) (hc : xs.length ≤ 9223372036854775807) (hw : Wd xs) (hi64 : i < 18446744073709551616) (hi : i / 64 < l) :
    Spec (cx V) 190 #[.slice (some ⟨b, 0, none⟩) l xs.length, .int .u64 i] [] [⟨b, 162, cells .u64 xs, false⟩] (fun v : Nat => .int .u64 v) (fun _ => []) (fun v => v < 18446744073709551616) := by
  have hx := hw (0 + i / 64)
  refine Spec.enter Tryz.func190 rfl Tryz.ntmps190 (by simp) [(0, .slice (some ⟨b, 0, none⟩) l xs.length), (1, .int .u64 i)] (by simp) ?_
  intro X hR
  try simp only [apC, apN]
  refine G.seq (G.region (J.assign rfl rfl (J.nil (G.seq (G.region (J.move rfl rfl (J.quoA rfl rfl rfl (by omega) (by first | assumption | decide | omega) fun v7 h7 b7 => J.assign rfl rfl ?_)))))))
  refine J.nil (G.seq (G.seq (G.region (J.move rfl rfl (J.move rfl rfl (J.lenS rfl rfl ?_))))))
  subst h7
  refine J.convN rfl rfl (by show _ < _; omega) ?_
  (first | refine J.geN rfl rfl rfl ?_ | refine J.geZ rfl rfl rfl ?_)
  refine J.nil (G.prune [0, 1, 4, 5, 12] rfl (G.cF rfl (G.skip (G.seq (G.region (J.move rfl rfl (J.move rfl rfl (J.ix rfl rfl rfl ?_))))))))
  refine J.lc rfl rfl rfl (J.move rfl rfl (J.remN rfl rfl rfl (by omega) (J.shrA rfl rfl rfl (by first | assumption | decide | omega) fun v19 h19 b19 => J.andA rfl rfl rfl (by first | assumption | decide | omega) (by first | assumption | decide | omega) fun v20 h20 b20 => J.assign rfl rfl (J.nil (G.prune [4] rfl (G.ret (hR _) ?_))))))
  exact GL.done (v20) rfl rfl (b20) rfl [] rfl (by decide) (by simp)
theorem sticky_spec {b l i : Nat} {xs : List Nat} (hl : l ≤ xs.length) (hc : xs.length ≤ 9223372036854775807) (hw : Wd xs) (hi64 : i < 18446744073709551616) (hi : i / 64 < l) :
    Spec (cx V) 191 #[.slice (some ⟨b, 0, none⟩) l xs.length, .int .u64 i] [] [⟨b, 162, cells .u64 xs, false⟩] (fun v : Nat => .int .u64 v) (fun _ => []) (fun v => v < 18446744073709551616) := by
  have hx := hw (0 + i / 64)
  refine Spec.enter Tryz.func191 rfl Tryz.ntmps191 (by simp) [(0, .slice (some ⟨b, 0, none⟩) l xs.length), (1, .int .u64 i)] (by simp) ?_
  intro X hR
  try simp only [apC, apN]
  refine G.seq (G.region (J.assign rfl rfl (J.nil (G.seq (G.region (J.move rfl rfl (J.quoA rfl rfl rfl (by omega) (by first | assumption | decide | omega) fun v9 h9 b9 => J.assign rfl rfl ?_)))))))
  refine J.nil (G.seq (G.seq (G.region (J.move rfl rfl (J.move rfl rfl (J.lenS rfl rfl ?_))))))
  subst h9
  refine J.convN rfl rfl (by show _ < _; omega) ?_
  (first | refine J.geN rfl rfl rfl ?_ | refine J.geZ rfl rfl rfl ?_)
  refine J.nil (G.prune [0, 1, 4, 5, 7, 14] rfl (G.cF rfl (G.skip (G.seq (G.seq (G.region (J.move rfl rfl (J.move rfl rfl ?_))))))))
  refine J.slH rfl rfl rfl (by omega) (J.lenS rfl rfl (J.move rfl rfl (J.nil (G.prune [0, 1, 4, 5, 7, 20, 21, 22] rfl (G.block ?_)))))
  refine G.loopW (σ := { j : Nat // j ≤ i / 64 }) (fun j => [(0, .slice (some ⟨b, 0, none⟩) l xs.length), (1, .int .u64 i), (5, .int .u64 ((i / 64 : Nat) : Int)), (20, .slice (some ⟨b, 0, none⟩) (i / 64) xs.length), (21, .int .i64 ((i / 64 : Nat) : Int)), (22, .int .i64 (j.1 : Nat))]) (fun _ => [⟨b, 162, cells .u64 xs, false⟩]) (fun j => i / 64 - j.1) ⟨0, Nat.zero_le _⟩ (by repeat (first | exact SubSlots.nil _ | refine SubSlots.cons rfl ?_)) [0] rfl (by decide) ?_
  rintro ⟨j, hj⟩ ih
  simp only at ih ⊢
  refine G.seq (G.region ?_)
  (first | refine J.ltN rfl rfl rfl ?_ | refine J.ltZ rfl rfl rfl ?_)
  refine J.nil (G.seq ?_)
  refine G.condP rfl (fun hc1 => ?_) (fun hc1 => ?_)
  · refine G.skip ?_
    refine G.seq (G.block (G.seq (G.region (J.ix rfl rfl rfl (J.lc rfl rfl rfl (J.assign rfl rfl (J.nil (G.seq ?_))))))))
    refine G.region (J.move rfl rfl ?_)
    (first | refine J.neN rfl rfl rfl ?_ | refine J.neZ rfl rfl rfl ?_)
    refine J.nil ?_
    refine G.condP rfl (fun hc2 => ?_) (fun hc2 => ?_)
    · refine G.seq ?_
      refine G.region (J.assign rfl rfl (J.nil (G.ret (hR _) ?_)))
      exact GL.done (1) rfl rfl (by decide) rfl [] rfl (by decide) (by simp)
    · refine G.skip ?_
      refine G.inBlock (G.region ?_)
      (first | refine J.addI rfl rfl rfl (by omega) ?_ | refine J.addZ rfl rfl rfl (by omega) (by omega) ?_)
      refine J.move rfl rfl (J.nil ?_)
      exact G.wk [0] (ih ⟨j + 1, by omega⟩ (by simp only; omega))
  · refine G.exit rfl ?_
    refine G.seq (G.seq (G.region (J.move rfl rfl (J.move rfl rfl (J.ix rfl rfl rfl (J.lc rfl rfl rfl (J.move rfl rfl (J.remN rfl rfl rfl (by omega) ?_))))))))
    refine J.subA rfl rfl rfl (by first | assumption | decide | omega) fun v35 h35 b35 => J.shlA rfl rfl rfl  fun v36 h36 b36 => ?_
    (first | refine J.neN rfl rfl rfl ?_ | refine J.neZ rfl rfl rfl ?_)
    refine J.nil (G.prune [4, 37] rfl ?_)
    refine G.condP rfl (fun hc3 => ?_) (fun hc3 => ?_)
    · refine G.seq ?_
      refine G.region (J.assign rfl rfl (J.nil (G.ret (hR _) ?_)))
      exact GL.done (1) rfl rfl (by decide) rfl [] rfl (by decide) (by simp)
    · refine G.skip ?_
      refine G.seq (G.region (J.assign rfl rfl (J.nil (G.ret (hR _) ?_))))
      exact GL.done (0) rfl rfl (by decide) rfl [] rfl (by decide) (by simp)
structure AW (zs0 : List Nat) (n c : Nat) (zs : List Nat) : Prop where
  w : Wr zs0 zs 0 n
  e : rv zs 0 n + c * 18446744073709551616 ^ n = rv zs0 0 n + 1
  c1 : c ≤ 1
structure AI (zs0 : List Nat) (i : Nat) (zs : List Nat) : Prop where
  w : Wr zs0 zs 0 i
  e : rv zs 0 i + 18446744073709551616 ^ i = rv zs0 0 i + 1
theorem AI.z {zs0 : List Nat} (h : Wd zs0) : AI zs0 0 zs0 := ⟨Wr.z h 0, rfl⟩
theorem AI.get {zs0 zs : List Nat} {i : Nat} (h : AI zs0 i zs) : zs.getD (0 + i) 0 = zs0.getD (0 + i) 0 := h.w.out _ (by omega)
theorem AI.up {zs0 zs : List Nat} {i : Nat} (h : AI zs0 i zs) (hi : i < zs0.length) (hx : zs0.getD (0 + i) 0 = 18446744073709551615) : AI zs0 (i + 1) (zs.set (0 + i) 0) := by
  refine ⟨h.w.s (by decide), ?_⟩
  have e := h.e
  have hl := h.w.len
  rw [rv_put (by omega), rv_succ, hx, Nat.pow_succ]
  omega
theorem AI.fin {zs0 zs : List Nat} {i n : Nat} (h : AI zs0 i zs) (hi : i < zs0.length) (hn : i < n) (hx : zs0.getD (0 + i) 0 + 1 < 18446744073709551616) : AW zs0 n 0 (zs.set (0 + i) (zs0.getD (0 + i) 0 + 1)) := by
  have hl := h.w.len
  have e := h.e
  refine ⟨(h.w.s hx).mono (by omega), ?_, by decide⟩
  obtain ⟨m, rfl⟩ : ∃ m, n = (i + 1) + m := ⟨n - (i + 1), by omega⟩
  have e1 := rv_put (zs := zs) (o := 0) (i := i) (v := zs0.getD (0 + i) 0 + 1) (by omega)
  have e2 : rv (zs.set (0 + i) (zs0.getD (0 + i) 0 + 1)) (0 + (i + 1)) m = rv zs0 (0 + (i + 1)) m := by
    rw [rv_set (by omega)]
    exact rv_congr fun j hj => h.w.out _ (by omega)
  rw [rv_split, rv_split zs0, e1, e2, rv_succ, Nat.add_mul]
  omega
theorem AI.all {zs0 zs : List Nat} {n : Nat} (h : AI zs0 n zs) : AW zs0 n 1 zs := ⟨h.w, by rw [Nat.one_mul]; exact h.e, Nat.le_refl 1⟩
theorem addVW1_spec {b n cz : Nat} {zs : List Nat} (hz : n ≤ zs.length) (hc : zs.length ≤ 9223372036854775807) (hw : Wd zs) (hn : 0 < n) :
    Spec (cx V) 192 #[.slice (some ⟨b, 0, none⟩) n cz, .slice (some ⟨b, 0, none⟩) n cz, .int .u64 ((1 : Nat) : Int)] [⟨b, 162, cells .u64 zs, true⟩] []
      (fun p : Nat × List Nat => .int .u64 (p.1 : Nat)) (fun p => [⟨b, 162, cells .u64 p.2, true⟩]) (fun p => AW zs n p.1 p.2) := by
  have h0 := hw (0 + 0)
  refine Spec.enter Tryz.func192 rfl Tryz.ntmps192 (by simp) [(0, .slice (some ⟨b, 0, none⟩) n cz), (1, .slice (some ⟨b, 0, none⟩) n cz), (2, .int .u64 ((1 : Nat) : Int))] (by simp) ?_
  intro X hR
  try simp only [apC, apN]
  refine G.seq (G.region (J.assign rfl rfl (J.nil (G.seq (G.seq (G.region (J.move rfl rfl (J.lenS rfl rfl ?_))))))))
  refine J.move rfl rfl (J.lenS rfl rfl ?_)
  (first | refine J.neN rfl rfl rfl ?_ | refine J.neZ rfl rfl rfl ?_)
  refine J.nil (G.prune [0, 1, 2, 6, 10, 15] rfl (G.cF rfl (G.skip (G.seq (G.seq (G.region (J.move rfl rfl (J.lenS rfl rfl ?_))))))))
  (first | refine J.eqN rfl rfl rfl ?_ | refine J.eqZ rfl rfl rfl ?_)
  refine J.nil (G.cF rfl (G.skip (G.seq (G.region (J.move rfl rfl (J.ix rfl rfl rfl (J.lc rfl rfl rfl (J.move rfl rfl ?_))))))))
  refine J.eff (E.callP (add_spec (x := zs.getD (0 + 0) 0) (y := 1) (c := 0) (by decide)) [] [] rfl rfl rfl rfl rfl) rfl fun _ _ => ?_
  try simp only [apC, apN]
  refine J.move rfl rfl (J.extractL rfl rfl rfl (J.extractL rfl rfl rfl (J.assign rfl rfl (J.assign rfl rfl (J.nil (G.prune [0, 1, 2, 6, 7, 8, 10] rfl (G.seq (G.region ?_))))))))
  refine J.move rfl rfl (J.move rfl rfl (J.ix rfl rfl rfl (J.eff (E.sc rfl rfl) rfl (J.nil (G.prune [0, 1, 2, 6, 7, 8, 10] rfl (G.seq (G.seq (G.region ?_))))))))
  refine J.move rfl rfl ?_
  (first | refine J.eqN rfl rfl rfl ?_ | refine J.eqZ rfl rfl rfl ?_)
  refine J.nil ?_
  by_cases hx : zs.getD (0 + 0) 0 = 18446744073709551615
  · rw [hx]
    have e1 : (18446744073709551615 + 1 + 0) % 18446744073709551616 = 0 := rfl
    have e2 : (18446744073709551615 + 1 + 0) / 18446744073709551616 = 1 := rfl
    simp only [e1, e2]
    have hai := (AI.z hw).up (by omega) hx
    refine G.cF rfl (G.skip (G.seq (G.seq (G.region (J.assign rfl rfl (J.nil (G.block ?_)))))))
    refine G.loopW (σ := { t : Nat × List Nat // 1 ≤ t.1 ∧ t.1 ≤ n ∧ AI zs t.1 t.2 }) (fun t => [(0, .slice (some ⟨b, 0, none⟩) n cz), (1, .slice (some ⟨b, 0, none⟩) n cz), (9, .int .i64 (t.1.1 : Nat))]) (fun t => [⟨b, 162, cells .u64 t.1.2, true⟩]) (fun t => n - t.1.1) ⟨(1, zs.set (0 + 0) 0), Nat.le_refl 1, hn, hai⟩ (by repeat (first | exact SubSlots.nil _ | refine SubSlots.cons rfl ?_)) [0] rfl (by decide) ?_
    rintro ⟨⟨i, ts⟩, h1, h2, hi⟩ ih
    simp only at h1 h2 hi ih ⊢
    have hl := hi.w.len
    have hg := hi.get
    have hxi := hw (0 + i)
    refine G.seq (G.seq (G.region (J.move rfl rfl (J.move rfl rfl (J.lenS rfl rfl ?_)))))
    (first | refine J.ltN rfl rfl rfl ?_ | refine J.ltZ rfl rfl rfl ?_)
    refine J.nil (G.prune [0, 1, 2, 6, 7, 8, 9, 10, 47] rfl ?_)
    by_cases hin : i < n
    · skip
      refine G.cT rfl (G.skip (G.seq (G.block (G.seq (G.region (J.move rfl rfl (J.move rfl rfl (J.ix rfl rfl rfl ?_))))))))
      refine J.lc rfl rfl rfl (J.assign rfl rfl (J.nil (G.prune [0, 1, 2, 6, 7, 8, 9, 10] rfl (G.seq (G.seq (G.region (J.move rfl rfl ?_)))))))
      (first | refine J.neN rfl rfl rfl ?_ | refine J.neZ rfl rfl rfl ?_)
      refine J.nil ?_
      rw [hg]
      by_cases hm : zs.getD (0 + i) 0 = 18446744073709551615
      · skip
        refine G.cF rfl (G.skip (G.region (J.move rfl rfl (J.move rfl rfl (J.ix rfl rfl rfl (J.eff (E.sc rfl rfl) rfl (J.nil (G.prune [0, 1, 2, 6, 7, 8, 9, 10] rfl ?_))))))))
        refine G.inBlock (G.region (J.move rfl rfl ?_))
        (first | refine J.addI rfl rfl rfl (by omega) ?_ | refine J.addZ rfl rfl rfl (by omega) (by omega) ?_)
        refine J.assign rfl rfl (J.nil ?_)
        exact G.wk [0] (ih ⟨(i + 1, ts.set (0 + i) 0), by simp only; omega, by simp only; omega, hi.up (by omega) hm⟩ (by simp only; omega))
      · skip
        refine G.cT rfl (G.seq (G.region (J.move rfl rfl (J.move rfl rfl (J.move rfl rfl (J.addU rfl rfl rfl (by omega) (J.ix rfl rfl rfl (J.eff (E.sc rfl rfl) rfl ?_))))))))
        refine J.nil (G.prune [0, 1, 2, 6, 7, 8, 9, 10] rfl (G.seq (G.seq (G.regionS [0, 1, 2, 3, 4] none none [] (by kernel_rfl) (SubH.of [] rfl) rfl (J.move rfl rfl (J.ix rfl rfl rfl (J.move rfl rfl (J.ix rfl rfl rfl ?_))))))))
        refine J.ptrSameN rfl rfl rfl (J.nil (G.prune [0, 1, 2, 6, 7, 8, 9, 10, 65] rfl (G.cF rfl (G.skip (G.seq (G.region (J.assign rfl rfl (J.nil ?_))))))))
        refine G.ret (hR _) ?_
        exact GL.done ((0, ts.set (0 + i) (zs.getD (0 + i) 0 + 1))) rfl rfl (hi.fin (by omega) hin (by omega)) rfl [0] rfl (by decide) (by simp)
    · have hin' : i = n := by omega
      subst hin'
      refine G.cF rfl (G.exit rfl (G.seq (G.region (J.assign rfl rfl (J.nil (G.ret (hR _) ?_))))))
      exact GL.done ((1, ts)) rfl rfl (hi.all) rfl [0] rfl (by decide) (by simp)
  · have e1 : (zs.getD (0 + 0) 0 + 1 + 0) % 18446744073709551616 = zs.getD (0 + 0) 0 + 1 := Nat.mod_eq_of_lt (by omega)
    have e2 : (zs.getD (0 + 0) 0 + 1 + 0) / 18446744073709551616 = 0 := Nat.div_eq_of_lt (by omega)
    simp only [e1, e2]
    have hai := (AI.z hw).fin (n := n) (by omega) hn (by omega)
    refine G.cT rfl (G.seq (G.seq (G.regionS [0, 1, 2, 3, 4] none none [] (by kernel_rfl) (SubH.of [] rfl) rfl (J.move rfl rfl (J.ix rfl rfl rfl (J.move rfl rfl (J.ix rfl rfl rfl (J.ptrSameN rfl rfl rfl ?_))))))))
    refine J.nil (G.prune [0, 1, 2, 6, 7, 8, 10, 38] rfl (G.cF rfl (G.skip (G.seq (G.region (J.assign rfl rfl (J.nil (G.ret (hR _) ?_))))))))
    exact GL.done ((0, zs.set (0 + 0) (zs.getD (0 + 0) 0 + 1))) rfl rfl (hai) rfl [0] rfl (by decide) (by simp)
end
section
set_option maxRecDepth 100000
set_option pp.deepTerms false
variable {V : Addr}
structure MN (m : RS) : Prop where
  ok : m.len ≤ m.xs.length ∧ m.xs.length ≤ 9223372036854775807 ∧ Wd m.xs
  l0 : 0 < m.len
  top : 9223372036854775808 * 18446744073709551616 ^ (m.len - 1) ≤ rv m.xs 0 m.len
structure FV where
  acc : Int
  e : Int
  m : RS
def fc (pr : Nat) (t : FV) : List Value := [.int .u32 (pr : Int), .int .u8 0, .int .i8 t.acc, .int .u8 1, .bool false, .slice (some ⟨t.m.b, 0, none⟩) t.m.len t.m.xs.length, .int .i32 t.e]
def fh (fb pr : Nat) (t : FV) : Hp := [⟨fb, 166, fc pr t, true⟩, ⟨t.m.b, 162, cells .u64 t.m.xs, true⟩]
theorem MN.cut {b l n : Nat} {xs : List Nat} (h : MN ⟨b, l, xs⟩) (hn : 0 < n) (hl : n ≤ l) : MN ⟨b, n, splice xs 0 ((xs.drop (l - n)).take n)⟩ := by
  obtain ⟨h1, h2, h3⟩ := h.ok
  have ht := h.top
  simp only at h1 h2 h3 ht
  have hlen : ((xs.drop (l - n)).take n).length = n := drop_take_len (by omega)
  have hr : rv (splice xs 0 ((xs.drop (l - n)).take n)) 0 n = rv xs (l - n) n := rv_congr fun j hj => by
    rw [getD_splice (by omega), if_pos (by omega), Nat.sub_zero, Nat.zero_add, getD_drop_take hj]
  refine ⟨⟨by simp only; rw [splice_len _ _ _ (by omega)]; omega, by simp only; rw [splice_len _ _ _ (by omega)]; omega, h3.splice (h3.sub _ _) (by omega)⟩, hn, ?_⟩
  simp only
  rw [hr]
  have e1 : rv xs 0 l = rv xs 0 (l - n) + 18446744073709551616 ^ (l - n) * rv xs (0 + (l - n)) n := by
    have := rv_split xs 0 (l - n) n
    rwa [show l - n + n = l by omega] at this
  rw [Nat.zero_add] at e1
  have e2 := rv_lt h3 0 (l - n)
  have e3 : 18446744073709551616 ^ (l - 1) = 18446744073709551616 ^ (n - 1) * 18446744073709551616 ^ (l - n) := by rw [← Nat.pow_add]; congr 1; omega
  rw [e3, ← Nat.mul_assoc, e1] at ht
  generalize 9223372036854775808 * 18446744073709551616 ^ (n - 1) = T at ht ⊢
  generalize 18446744073709551616 ^ (l - n) = P at ht e2
  generalize rv xs (l - n) n = r at ht ⊢
  rw [Nat.mul_comm P r] at ht
  rcases Nat.lt_or_ge r T with h4 | h4
  · have h5 := Nat.mul_le_mul_right P (Nat.succ_le_of_lt h4)
    rw [Nat.succ_mul] at h5
    omega
  · exact h4
theorem MN.low {b l v : Nat} {xs : List Nat} (h : MN ⟨b, l, xs⟩) (hl : 2 ≤ l) (hv : v < 18446744073709551616) : MN ⟨b, l, xs.set 0 v⟩ := by
  obtain ⟨h1, h2, h3⟩ := h.ok
  have ht := h.top
  simp only at h1 h2 h3 ht
  refine ⟨⟨by simpa using h1, by simpa using h2, h3.set hv⟩, h.l0, ?_⟩
  obtain ⟨n, rfl⟩ : ∃ n, l = n + 1 + 1 := ⟨l - 2, by omega⟩
  simp only [Nat.add_sub_cancel] at ht ⊢
  rw [rv_head] at ht ⊢
  rw [rv_set (by omega)]
  have h0 : xs.getD 0 0 < _ := h3 0
  rw [Nat.pow_succ, ← Nat.mul_assoc] at ht ⊢
  simp only [Nat.zero_add] at ht ⊢
  omega
theorem MN.tp {b l v : Nat} {xs : List Nat} (h1 : l ≤ xs.length ∧ xs.length ≤ 9223372036854775807 ∧ Wd xs) (hl : 0 < l) (hv : v < 18446744073709551616) (h : 9223372036854775808 ≤ v) : MN ⟨b, l, xs.set (0 + (l - 1)) v⟩ := by
  obtain ⟨h1, h2, h3⟩ := h1
  refine ⟨⟨by simpa using h1, by simpa using h2, h3.set hv⟩, hl, ?_⟩
  simp only
  have e := rv_put (zs := xs) (o := 0) (i := l - 1) (v := v) (by omega)
  rw [show l - 1 + 1 = l by omega] at e
  rw [e]
  have := Nat.mul_le_mul_right (18446744073709551616 ^ (l - 1)) h
  omega
theorem MN.add {b l : Nat} {xs zs : List Nat} (h : MN ⟨b, l, xs⟩) (ha : AW xs l 0 zs) : MN ⟨b, l, zs⟩ := by
  obtain ⟨h1, h2, h3⟩ := h.ok
  have ht := h.top
  have e := ha.e
  have hl := ha.w.len
  simp only at h1 h2 h3 ht
  exact ⟨⟨by simp only; omega, by simp only; omega, ha.w.wd⟩, h.l0, by simp only; omega⟩
theorem round_spec {fb np sb : Nat} {t : FV} (hm : MN t.m) (hl : t.m.len ≤ 100) (hp : 2 ≤ np) (hp2 : np ≤ 100) (he : -100000 ≤ t.e) (he2 : t.e ≤ 100000) (hsb : sb < 18446744073709551616) :
    Spec (cx V) 138 #[.pointer (some ⟨fb, 0, none⟩), .int .u64 sb] (fh fb (64 * np) t) [] (fun _ : FV => .tuple #[]) (fh fb (64 * np)) (fun q => MN q.m ∧ q.m.len ≤ np ∧ t.e ≤ q.e ∧ q.e ≤ t.e + 1) := by
  obtain ⟨a0, e, ⟨mb, l, xs⟩⟩ := t
  simp only [fh, fc] at *
  obtain ⟨m1, m2, m3⟩ := hm.ok
  have hl0 := hm.l0
  simp only at m1 m2 m3 hl0
  refine Spec.enter Tryz.func138 rfl Tryz.ntmps138 (by simp) [(0, .pointer (some ⟨fb, 0, none⟩)), (1, .int .u64 sb)] (by simp) ?_
  intro X hR
  try simp only [apC, apN]
  refine G.seq (G.region (J.move rfl rfl (J.nc rfl rfl rfl (J.fieldAddr rfl rfl (J.eff (E.si rfl rfl rfl rfl) rfl (J.nil (G.prune [0, 1] rfl (G.seq ?_))))))))
  refine G.seq (G.region (J.move rfl rfl (J.nc rfl rfl rfl (J.fieldAddr rfl rfl (J.loadI rfl rfl rfl rfl ?_)))))
  (first | refine J.neN rfl rfl rfl ?_ | refine J.neZ rfl rfl rfl ?_)
  refine J.nil (G.prune [0, 1, 19] rfl (G.cF rfl (G.skip (G.seq (G.region (J.move rfl rfl (J.nc rfl rfl rfl (J.fieldAddr rfl rfl ?_))))))))
  refine J.loadI rfl rfl rfl rfl (J.lenS rfl rfl (J.convN rfl rfl (by show _ < _; omega) (J.assign rfl rfl (J.nil (G.prune [0, 1, 4] rfl (G.seq (G.region (J.move rfl rfl ?_))))))))
  refine J.mulF rfl rfl rfl (by show _ < _; omega) (J.assign rfl rfl (J.nil (G.seq (G.seq (G.region (J.move rfl rfl (J.move rfl rfl (J.nc rfl rfl rfl ?_))))))))
  refine J.fieldAddr rfl rfl (J.loadI rfl rfl rfl rfl ?_)
  (first | refine J.leN rfl rfl rfl ?_ | refine J.leZ rfl rfl rfl ?_)
  refine J.nil (G.prune [0, 1, 4, 5, 33] rfl ?_)
  by_cases hln : l ≤ np
  · skip
    refine G.cT rfl (G.ret (hR _) ?_)
    exact GL.done (⟨0, e, ⟨mb, l, xs⟩⟩ : FV) rfl rfl ⟨hm, hln, Int.le_refl e, by simp only; omega⟩ rfl [0, 1] rfl (by decide) (by simp [fh])
  · skip
    refine G.cF rfl (G.skip (G.seq (G.region (J.move rfl rfl (J.move rfl rfl (J.nc rfl rfl rfl (J.fieldAddr rfl rfl (J.loadI rfl rfl rfl rfl ?_))))))))
    refine J.subF rfl rfl rfl (by omega) (by show _ < _; omega) (J.subF rfl rfl rfl (by omega) (by show _ < _; omega) (J.convN rfl rfl (by show _ < _; omega) (J.assign rfl rfl (J.nil (G.prune [0, 1, 4, 6] rfl (G.seq (G.region (J.move rfl rfl ?_))))))))
    refine J.nc rfl rfl rfl (J.fieldAddr rfl rfl (J.loadI rfl rfl rfl rfl (J.move rfl rfl (J.eff (E.callP (bit_spec (i := l * 64 - 64 * np - 1) m1 m2 m3 (by omega) (by omega)) [] [1] rfl rfl rfl rfl rfl) rfl fun rb0 hrb0 => ?_))))
    try simp only [apC, apN]
    refine J.andA rfl rfl rfl (by first | assumption | decide | omega) (by first | assumption | decide | omega) fun v48 h48 b48 => J.assign rfl rfl (J.nil (G.prune [0, 1, 4, 6, 7] rfl (G.seq (G.seq (G.region (J.move rfl rfl ?_))))))
    (first | refine J.eqN rfl rfl rfl ?_ | refine J.eqZ rfl rfl rfl ?_)
    refine J.move rfl rfl ?_
    have hv48 : v48 ≤ 1 := by rw [h48]; exact Nat.and_le_right
    clear h48
    apply J.join (σ := Nat) (fun s1 => s1 < 18446744073709551616) (fun s1 => [(0, .pointer (some ⟨fb, 0, none⟩)), (1, .int .u64 s1), (4, .int .u32 (l : Nat)), (7, .int .u64 v48)]) (fun _ => [⟨fb, 166, [.int .u32 ((64 * np : Nat) : Int), .int .u8 0, .int .i8 0, .int .u8 1, .bool false, .slice (some ⟨mb, 0, none⟩) l xs.length, .int .i32 e], true⟩, ⟨mb, 162, cells .u64 xs, true⟩])
    · intro hk
      by_cases h0 : sb = 0
      · by_cases h1 : v48 = 0
        · skip
          refine J.wT rfl rfl (J.move rfl rfl (J.wT rfl rfl ?_))
          (first | refine J.eqN rfl rfl rfl ?_ | refine J.eqZ rfl rfl rfl ?_)
          refine J.wT rfl rfl (J.move rfl rfl (J.sk rfl rfl rfl rfl (J.sk rfl rfl rfl rfl (J.sk rfl rfl rfl rfl (J.sk rfl rfl rfl rfl (J.sk rfl rfl rfl rfl (J.wT rfl rfl (J.pT rfl rfl rfl ?_))))))))
          refine J.pT rfl rfl rfl (J.nil (G.prune [0, 1, 4, 6, 7, 61] rfl (G.cT rfl (G.region (J.move rfl rfl (J.nc rfl rfl rfl (J.fieldAddr rfl rfl (J.loadI rfl rfl rfl rfl ?_))))))))
          refine J.move rfl rfl (J.eff (E.callP (sticky_spec (i := l * 64 - 64 * np - 1) m1 m2 m3 (by omega) (by omega)) [] [1] rfl rfl rfl rfl rfl) rfl fun s1 hs1 => ?_)
          try simp only [apC, apN]
          refine J.assign rfl rfl (J.nil (G.prune [0, 1, 4, 7] rfl (G.seq ?_)))
          exact G.wk [0, 1] (hk s1 hs1)
        · skip
          refine J.wT rfl rfl (J.move rfl rfl (J.wT rfl rfl ?_))
          (first | refine J.eqN rfl rfl rfl ?_ | refine J.eqZ rfl rfl rfl ?_)
          refine J.wT rfl rfl (J.move rfl rfl (J.wF rfl rfl (J.move rfl rfl (J.wF rfl rfl (J.nc rfl rfl rfl (J.wF rfl rfl (J.fieldAddr rfl rfl (J.wF rfl rfl ?_))))))))
          refine J.loadI rfl rfl rfl rfl (J.wF rfl rfl ?_)
          (first | refine J.eqN rfl rfl rfl ?_ | refine J.eqZ rfl rfl rfl ?_)
          refine J.wT rfl rfl (J.pF rfl rfl rfl (J.pT rfl rfl rfl (J.nil (G.prune [0, 1, 4, 6, 7, 61] rfl (G.cT rfl (G.region (J.move rfl rfl (J.nc rfl rfl rfl ?_))))))))
          refine J.fieldAddr rfl rfl (J.loadI rfl rfl rfl rfl (J.move rfl rfl (J.eff (E.callP (sticky_spec (i := l * 64 - 64 * np - 1) m1 m2 m3 (by omega) (by omega)) [] [1] rfl rfl rfl rfl rfl) rfl fun s1 hs1 => ?_)))
          try simp only [apC, apN]
          refine J.assign rfl rfl (J.nil (G.prune [0, 1, 4, 7] rfl (G.seq ?_)))
          exact G.wk [0, 1] (hk s1 hs1)
      · skip
        refine J.sk rfl rfl rfl rfl (J.sk rfl rfl rfl rfl (J.sk rfl rfl rfl rfl (J.skipU rfl rfl rfl rfl (J.skipU rfl rfl rfl rfl (J.skipU rfl rfl rfl rfl (J.skipU rfl rfl rfl rfl (J.skipU rfl rfl rfl rfl (J.sk rfl rfl rfl rfl ?_))))))))
        refine J.pF rfl rfl rfl (J.nil (G.prune [0, 1, 4, 6, 7, 61] rfl (G.cF rfl (G.skip (G.seq ?_)))))
        exact G.wk [0, 1] (hk sb hsb)
    intro s1 hs1
    refine G.region (J.move rfl rfl (J.andA rfl rfl rfl (by first | assumption | decide | omega) (by first | assumption | decide | omega) fun v69 h69 b69 => J.assign rfl rfl (J.nil (G.seq (G.region (J.move rfl rfl (J.nc rfl rfl rfl ?_)))))))
    refine J.fieldAddr rfl rfl (J.loadI rfl rfl rfl rfl (J.addF rfl rfl rfl (by show _ < _; omega) (J.quoF rfl rfl rfl (by omega) (by show _ < _; omega) (J.assign rfl rfl (J.nil (G.prune [0, 1, 4, 7, 8] rfl (G.seq (G.seq ?_))))))))
    refine G.region (J.move rfl rfl (J.move rfl rfl ?_))
    (first | refine J.gtN rfl rfl rfl ?_ | refine J.gtZ rfl rfl rfl ?_)
    refine J.nil ?_
    have e63 : (64 * np + 63) / 64 = np := by omega
    rw [e63]
    refine G.cT rfl (G.seq (G.regionS [0, 1, 2, 3, 4, 5, 6, 7, 8, 9, 10, 11, 12] (some 12) (some 0) [⟨fb, 166, [.int .u32 ((64 * np : Nat) : Int), .int .u8 0, .int .i8 0, .int .u8 1, .bool false, .slice (some ⟨mb, 0, none⟩) l xs.length, .int .i32 e], true⟩] (by kernel_rfl) (SubH.of [0] rfl) rfl (J.move rfl rfl (J.nc rfl rfl rfl (J.fieldAddr rfl rfl (J.ld rfl rfl rfl rfl rfl (J.move rfl rfl (J.nc rfl rfl rfl ?_))))))))
    refine J.fieldAddr rfl rfl (J.ld rfl rfl rfl rfl rfl (J.move rfl rfl (J.move rfl rfl (J.subF rfl rfl rfl (by omega) (by show _ < _; omega) (J.slL1 rfl rfl rfl (by omega) (by omega) ?_)))))
    refine J.effH (E.copy (xs := xs) (ys := xs) (o := 0) (o2 := 0 + (l - np)) (q := np) rfl rfl rfl (Mem.t Mem.h) (show Nat.min (l - (l - np)) l = np by rw [show l - (l - np) = np by omega]; exact Nat.min_eq_left (by omega)) (by omega) (by omega) (Upd1.t Upd1.h)) rfl rfl ⟨fun h => Bool.noConfusion h, ?_⟩
    refine J.nil (G.prune [0, 1, 7, 8] rfl (G.region (J.move rfl rfl (J.move rfl rfl (J.nc rfl rfl rfl (J.fieldAddr rfl rfl (J.loadI rfl rfl rfl rfl (J.move rfl rfl ?_))))))))
    refine J.slH rfl rfl rfl (by omega) (J.nc rfl rfl rfl (J.fieldAddr rfl rfl (J.eff (E.si rfl rfl rfl rfl) rfl (J.nil (G.prune [0, 1, 7, 8] rfl (G.seq (G.region (J.move rfl rfl ?_))))))))
    refine J.mulF rfl rfl rfl (by show _ < _; omega) (J.move rfl rfl (J.nc rfl rfl rfl (J.fieldAddr rfl rfl (J.loadI rfl rfl rfl rfl (J.subF rfl rfl rfl (by omega) (by show _ < _; omega) (J.assign rfl rfl (J.nil (G.prune [0, 1, 7, 8, 9] rfl ?_))))))))
    refine G.seq (G.region (J.move rfl rfl (J.shlA rfl rfl rfl  fun v109 h109 b109 => J.assign rfl rfl (J.nil (G.seq (G.seq (G.region ?_)))))))
    refine J.move rfl rfl (J.move rfl rfl (J.orA rfl rfl rfl (by first | assumption | decide | omega) (by first | assumption | decide | omega) fun v112 h112 b112 => ?_))
    (first | refine J.neN rfl rfl rfl ?_ | refine J.neZ rfl rfl rfl ?_)
    refine J.nil (G.prune [0, 1, 7, 8, 10, 113] rfl ?_)
    have hcut := hm.cut (n := np) (by omega) (by omega)
    rw [← Nat.zero_add (l - np)] at hcut
    have hyl : (splice xs 0 ((xs.drop (0 + (l - np))).take np)).length = xs.length := splice_len _ _ _ (by rw [drop_take_len (by omega)]; omega)
    rw [← hyl]
    generalize splice xs 0 ((xs.drop (0 + (l - np))).take np) = ys at hcut hyl ⊢
    clear m1 m2 m3 hm hyl
    obtain ⟨m1, m2, m3⟩ := hcut.ok
    simp only at m1 m2 m3
    have hy0 := m3 (0 + 0)
    have e1 : np * 64 - 64 * np = 0 := by omega
    have hv1 : v109 = 1 := by rw [h109, e1]
    subst hv1
    clear h109 h112 h69
    have hlow : ∀ (zs : List Nat) (v : Nat), MN ⟨mb, np, zs⟩ → v < 18446744073709551616 → MN ⟨mb, np, zs.set (0 + 0) v⟩ := fun zs v h hv => h.low hp hv
    apply G.join (σ := Int × Int × List Nat) (fun s => MN ⟨mb, np, s.2.2⟩ ∧ e ≤ s.2.1 ∧ s.2.1 ≤ e + 1) (fun s => [(0, .pointer (some ⟨fb, 0, none⟩)), (10, .int .u64 ((1 : Nat) : Int))]) (fun s => [⟨fb, 166, [.int .u32 ((64 * np : Nat) : Int), .int .u8 0, .int .i8 s.1, .int .u8 1, .bool false, .slice (some ⟨mb, 0, none⟩) np s.2.2.length, .int .i32 s.2.1], true⟩, ⟨mb, 162, cells .u64 s.2.2, true⟩])
    · intro hk
      refine G.condP rfl (fun hc => ?_) (fun hc => ?_)
      · refine G.seq ?_
        refine G.region (J.assign rfl rfl (J.nil (G.seq (G.seq (G.region (J.move rfl rfl (J.nc rfl rfl rfl (J.fieldAddr rfl rfl ?_))))))))
        refine J.loadI rfl rfl rfl rfl (J.nil (G.prune [0, 1, 7, 8, 10, 11, 117] rfl (G.block (G.seq (G.region ?_)))))
        (first | refine J.eqN rfl rfl rfl ?_ | refine J.eqZ rfl rfl rfl ?_)
        refine J.assign rfl rfl (J.nil (G.cF rfl (G.seq (G.region ?_))))
        (first | refine J.eqN rfl rfl rfl ?_ | refine J.eqZ rfl rfl rfl ?_)
        refine J.assign rfl rfl (J.nil (G.cF rfl (G.seq (G.region ?_))))
        (first | refine J.eqN rfl rfl rfl ?_ | refine J.eqZ rfl rfl rfl ?_)
        refine J.assign rfl rfl (J.nil (G.cT rfl (G.region (J.move rfl rfl ?_))))
        (first | refine J.neN rfl rfl rfl ?_ | refine J.neZ rfl rfl rfl ?_)
        refine J.move rfl rfl ?_
        apply J.join (σ := Bool) (fun _ => True) (fun b => [(0, .pointer (some ⟨fb, 0, none⟩)), (8, .int .u32 (np : Nat)), (10, .int .u64 ((1 : Nat) : Int)), (11, .bool b)]) (fun _ => [⟨fb, 166, [.int .u32 ((64 * np : Nat) : Int), .int .u8 0, .int .i8 0, .int .u8 1, .bool false, .slice (some ⟨mb, 0, none⟩) np ys.length, .int .i32 e], true⟩, ⟨mb, 162, cells .u64 ys, true⟩])
        · intro hk2
          by_cases h0 : v48 = 0
          · skip
            refine J.sk rfl rfl rfl rfl (J.sk rfl rfl rfl rfl (J.sk rfl rfl rfl rfl (J.skipU rfl rfl rfl rfl (J.skipU rfl rfl rfl rfl (J.skipU rfl rfl rfl rfl (J.skipU rfl rfl rfl rfl (J.skipU rfl rfl rfl rfl (J.skipU rfl rfl rfl rfl ?_))))))))
            refine J.skipU rfl rfl rfl rfl (J.skipU rfl rfl rfl rfl (J.skipU rfl rfl rfl rfl (J.sk rfl rfl rfl rfl (J.pF rfl rfl rfl (J.assign rfl rfl (J.nil (G.prune [0, 8, 10, 11] rfl (G.inBlock ?_))))))))
            refine G.seq ?_
            exact G.wk [0, 1] (hk2 _ trivial)
          · by_cases h1 : v69 = 0
            · skip
              refine J.wT rfl rfl (J.move rfl rfl (J.wT rfl rfl ?_))
              (first | refine J.neN rfl rfl rfl ?_ | refine J.neZ rfl rfl rfl ?_)
              refine J.wT rfl rfl (J.move rfl rfl (J.wF rfl rfl (J.move rfl rfl (J.wF rfl rfl (J.nc rfl rfl rfl (J.wF rfl rfl (J.fieldAddr rfl rfl (J.wF rfl rfl ?_))))))))
              refine J.loadI rfl rfl rfl rfl (J.wF rfl rfl (J.ix rfl rfl rfl (J.wF rfl rfl (J.lc rfl rfl rfl (J.wF rfl rfl (J.move rfl rfl (J.wF rfl rfl (J.andA rfl rfl rfl (by first | assumption | decide | omega) (by first | assumption | decide | omega) fun v142 h142 b142 => ?_))))))))
              refine J.wF rfl rfl ?_
              (first | refine J.neN rfl rfl rfl ?_ | refine J.neZ rfl rfl rfl ?_)
              refine J.wT rfl rfl (J.pF rfl rfl rfl (J.pT rfl rfl rfl (J.assign rfl rfl (J.nil (G.prune [0, 8, 10, 11] rfl (G.inBlock (G.seq ?_)))))))
              exact G.wk [0, 1] (hk2 _ trivial)
            · skip
              refine J.wT rfl rfl (J.move rfl rfl (J.wT rfl rfl ?_))
              (first | refine J.neN rfl rfl rfl ?_ | refine J.neZ rfl rfl rfl ?_)
              refine J.wT rfl rfl (J.move rfl rfl (J.sk rfl rfl rfl rfl (J.sk rfl rfl rfl rfl (J.sk rfl rfl rfl rfl (J.sk rfl rfl rfl rfl (J.sk rfl rfl rfl rfl (J.sk rfl rfl rfl rfl (J.sk rfl rfl rfl rfl ?_))))))))
              refine J.sk rfl rfl rfl rfl (J.sk rfl rfl rfl rfl (J.wT rfl rfl (J.pT rfl rfl rfl (J.pT rfl rfl rfl (J.assign rfl rfl (J.nil (G.prune [0, 8, 10, 11] rfl (G.inBlock ?_))))))))
              refine G.seq ?_
              exact G.wk [0, 1] (hk2 _ trivial)
        intro inc _
        refine G.region (J.move rfl rfl (J.move rfl rfl (J.move rfl rfl (J.nc rfl rfl rfl (J.fieldAddr rfl rfl (J.loadI rfl rfl rfl rfl (J.neB rfl rfl rfl (J.eff (E.callP (makeAcc_spec) [] [] rfl rfl rfl rfl rfl) rfl fun a1 _ => ?_))))))))
        try simp only [apC, apN]
        refine J.nc rfl rfl rfl (J.fieldAddr rfl rfl (J.eff (E.si rfl rfl rfl rfl) rfl (J.nil (G.prune [0, 8, 10, 11] rfl (G.seq (G.region (J.move rfl rfl (J.nil ?_))))))))
        cases inc with
        | false =>
          refine G.cF rfl (G.skip ?_)
          exact G.wk [0, 1] (hk (a1, e, ys) ⟨hcut, Int.le_refl e, by simp only; omega⟩)
        | true =>
          refine G.cT rfl (G.seq (G.regionS [0, 1, 2, 3, 4, 5, 6, 7, 8, 9, 10] none none [⟨fb, 166, [.int .u32 ((64 * np : Nat) : Int), .int .u8 0, .int .i8 a1, .int .u8 1, .bool false, .slice (some ⟨mb, 0, none⟩) np ys.length, .int .i32 e], true⟩] (by kernel_rfl) (SubH.of [0] rfl) rfl (J.move rfl rfl (J.nc rfl rfl rfl (J.fieldAddr rfl rfl (J.ld rfl rfl rfl rfl rfl (J.move rfl rfl (J.nc rfl rfl rfl ?_))))))))
          refine J.fieldAddr rfl rfl (J.ld rfl rfl rfl rfl rfl (J.move rfl rfl ?_))
          refine J.effH (E.callP (addVW1_spec (zs := ys) m1 m2 m3 (by omega)) [1] [] rfl rfl rfl rfl rfl) rfl rfl fun p hp => ⟨fun _ => SubH.of [1] rfl, ?_⟩
          try simp only [apC, apN]
          (first | refine J.neN rfl rfl rfl ?_ | refine J.neZ rfl rfl rfl ?_)
          refine J.nil (G.prune [0, 8, 10, 180] rfl ?_)
          obtain ⟨c, zs⟩ := p
          simp only at hp ⊢
          have hzl := hp.w.len
          have hzw := hp.w.wd
          have hc1 := hp.c1
          rw [← hzl]
          by_cases hc0 : c = 0
          · subst hc0
            refine G.cF rfl (G.skip ?_)
            exact G.wk [1, 0] (hk (a1, e, zs) ⟨hcut.add hp, Int.le_refl e, by simp only; omega⟩)
          · skip
            refine G.cT rfl (G.seq (G.seq (G.region (J.move rfl rfl (J.nc rfl rfl rfl (J.fieldAddr rfl rfl (J.loadI rfl rfl rfl rfl ?_)))))))
            (first | refine J.geN rfl rfl rfl ?_ | refine J.geZ rfl rfl rfl ?_)
            refine J.nil (G.prune [0, 8, 10, 185] rfl (G.cF rfl (G.skip (G.seq (G.region (J.move rfl rfl (J.nc rfl rfl rfl (J.fieldAddr rfl rfl ?_))))))))
            refine J.loadI rfl rfl rfl rfl (J.addK rfl rfl rfl (by omega) (by omega) (J.nc rfl rfl rfl (J.fieldAddr rfl rfl (J.eff (E.si rfl rfl rfl rfl) rfl (J.nil (G.prune [0, 8, 10] rfl (G.seq (G.regionS [0, 1, 2, 3, 4, 5, 6, 7, 8] none none [⟨fb, 166, [.int .u32 ((64 * np : Nat) : Int), .int .u8 0, .int .i8 a1, .int .u8 1, .bool false, .slice (some ⟨mb, 0, none⟩) np zs.length, .int .i32 (e + 1)], true⟩] (by kernel_rfl) (SubH.of [1] rfl) rfl ?_))))))))
            refine J.move rfl rfl (J.nc rfl rfl rfl (J.fieldAddr rfl rfl (J.ld rfl rfl rfl rfl rfl (J.move rfl rfl (J.nc rfl rfl rfl (J.fieldAddr rfl rfl (J.ld rfl rfl rfl rfl rfl ?_)))))))
            refine J.effH (E.callP (rshVUS_spec (V := V) (oz := 0) (n := np) (ox := 0) (zs0 := zs) (s := 1) (by omega) hzw (by omega) (.inl (Nat.le_refl 0)) (by omega) (by decide)) [0] [] rfl rfl rfl rfl rfl) rfl rfl fun p hp2 => ⟨fun _ => SubH.of [1] rfl, ?_⟩
            try simp only [apC, apN]
            obtain ⟨c2, ts⟩ := p
            simp only at hp2 ⊢
            have htl := hp2.w.len
            have hxw := hp2.w.wd (0 + (np - 1))
            rw [← htl]
            refine J.nil (G.prune [0, 8, 10] rfl (G.region (J.move rfl rfl (J.nc rfl rfl rfl (J.fieldAddr rfl rfl (J.loadI rfl rfl rfl rfl (J.move rfl rfl (J.subF rfl rfl rfl (by omega) (by show _ < _; omega) ?_))))))))
            refine J.ix rfl rfl rfl (J.lc rfl rfl rfl (J.orA rfl rfl rfl (by first | assumption | decide | omega) (by first | assumption | decide | omega) fun v213 h213 b213 => J.ix rfl rfl rfl (J.eff (E.sc rfl rfl) rfl (J.nil (G.prune [0, 10] rfl ?_)))))
            have hv := MN.tp (b := mb) (l := np) (xs := ts) ⟨by omega, by omega, hp2.w.wd⟩ (by omega) b213 (by rw [h213]; exact Nat.right_le_or)
            have hsl : (ts.set (0 + (np - 1)) v213).length = ts.length := List.length_set ..
            rw [← hsl]
            exact G.wk [1, 0] (hk (a1, e + 1, ts.set (0 + (np - 1)) v213) ⟨hv, by simp only; omega, Int.le_refl _⟩)
      · refine G.skip ?_
        exact G.wk [0, 1] (hk (0, e, ys) ⟨hcut, Int.le_refl e, by simp only; omega⟩)
    rintro ⟨a1, e', zs⟩ ⟨hz, he1, he2⟩
    simp only at hz he1 he2 ⊢
    obtain ⟨z1, z2, z3⟩ := hz.ok
    simp only at z1 z2 z3
    refine G.region (J.move rfl rfl (J.nc rfl rfl rfl (J.fieldAddr rfl rfl (J.loadI rfl rfl rfl rfl (J.ix rfl rfl rfl (J.lc rfl rfl rfl (J.move rfl rfl (J.subA rfl rfl rfl (by first | assumption | decide | omega) fun v222 h222 b222 => ?_))))))))
    refine J.andNotA rfl rfl rfl fun v223 h223 => J.ix rfl rfl rfl (J.eff (E.sc rfl rfl) rfl (J.nil (G.prune [] rfl (G.fall (hR _) ?_))))
    have hsl : (zs.set (0 + 0) v223).length = zs.length := List.length_set ..
    rw [← hsl]
    exact GL.done (⟨a1, e', ⟨mb, np, zs.set (0 + 0) v223⟩⟩ : FV) rfl rfl ⟨hlow zs v223 hz h223, Nat.le_refl np, he1, he2⟩ rfl [0, 1] rfl (by decide) (by simp [fh])
end
section
set_option maxRecDepth 100000
set_option pp.deepTerms false
variable {V : Addr}
theorem sqr_same {x : RS} {sv : Value} (hx : zok (some x)) (h0 : 0 < x.len) (h9 : x.len ≤ 11) :
    Spec (cx V) 154 #[zv (some x), sv, zv (some x)] (zh true (some x)) [] zv (zh true) (fun q => Res q (zn (some x) * zn (some x))) := by
  obtain ⟨b, lx, xs⟩ := x
  simp only [zok, zn, zv, zh] at hx h0 h9 ⊢
  obtain ⟨x1, x2, x3⟩ := hx
  refine Spec.enter Tryz.func154 rfl Tryz.ntmps154 (by simp) [(0, .slice (some ⟨b, 0, none⟩) lx xs.length), (1, sv), (2, .slice (some ⟨b, 0, none⟩) lx xs.length)] (by simp) ?_
  intro X hR
  try simp only [apC, apN]
  refine G.seq (G.region (J.assign rfl rfl (J.nil (G.seq (G.region (J.move rfl rfl (J.lenS rfl rfl (J.assign rfl rfl ?_))))))))
  refine J.nil (G.seq (G.block (G.seq (G.region (J.move rfl rfl ?_)))))
  (first | refine J.eqN rfl rfl rfl ?_ | refine J.eqZ rfl rfl rfl ?_)
  refine J.assign rfl rfl (J.nil (G.cF rfl (G.seq (G.region (J.move rfl rfl ?_)))))
  (first | refine J.eqN rfl rfl rfl ?_ | refine J.eqZ rfl rfl rfl ?_)
  refine J.assign rfl rfl (J.nil ?_)
  by_cases h1 : lx = 1
  · subst h1
    have e1 : rv xs 0 1 = xs.getD 0 0 := by simp [rv]
    refine G.cT rfl (G.seq (G.region (J.move rfl rfl (J.ix rfl rfl rfl (J.lc rfl rfl rfl (J.assign rfl rfl (J.nil (G.prune [0, 1, 2, 6, 7, 8] rfl ?_))))))))
    refine G.seq (G.region (J.move rfl rfl ?_))
    by_cases hf : 2 ≤ xs.length
    · skip
      refine J.eff (E.callP (make_fit hf) [] [] rfl rfl rfl rfl rfl) rfl fun _ _ => ?_
      try simp only [apC, apN]
      refine J.assign rfl rfl (J.nil (G.seq (G.region (J.move rfl rfl (J.move rfl rfl (J.move rfl rfl (J.move rfl rfl (J.eff (E.callP (mulWW_spec (x := xs.getD (0 + 0) 0) (y := xs.getD (0 + 0) 0) (x3 _) (x3 _)) [] [] rfl rfl rfl rfl rfl) rfl fun _ _ => ?_))))))))
      try simp only [apC, apN]
      refine J.move rfl rfl (J.extractL rfl rfl rfl (J.extractL rfl rfl rfl (J.ix rfl rfl rfl (J.eff (E.sc rfl rfl) rfl (J.ix rfl rfl rfl (J.eff (E.sc rfl rfl) rfl (J.nil (G.prune [0, 1, 2, 6, 7] rfl ?_))))))))
      refine G.seq (G.region (J.move rfl rfl ?_))
      simp only [Nat.zero_add]
      refine J.eff (E.callP (norm_spec (o := 0) (len := 2) (xs := (xs.set 1 (xs.getD 0 0 * xs.getD 0 0 / 18446744073709551616)).set 0 (xs.getD 0 0 * xs.getD 0 0 % 18446744073709551616)) (by simp; omega) (by omega) (by omega)) [] [0] rfl rfl rfl rfl rfl) rfl fun _ _ => ?_
      try simp only [apC, apN]
      refine J.assign rfl rfl (J.nil (G.ret (hR _) ?_))
      exact GL.done (some ⟨b, nl ((xs.set 1 (xs.getD 0 0 * xs.getD 0 0 / 18446744073709551616)).set 0 (xs.getD 0 0 * xs.getD 0 0 % 18446744073709551616)) 0 2, (xs.set 1 (xs.getD 0 0 * xs.getD 0 0 / 18446744073709551616)).set 0 (xs.getD 0 0 * xs.getD 0 0 % 18446744073709551616)⟩) rfl rfl (by rw [e1]; exact Res.two (by omega) (by omega) x3 (x3 _)) (by simp only [zv, List.length_set]; rfl) [0] rfl (by decide) (by simp [zh])
    · skip
      have hc1 := mcap_ge 2
      have hc2 := mcap_le 2
      have hl2 : (List.replicate (mcap 2) 0).length = mcap 2 := List.length_replicate ..
      refine J.eff (E.callP (make_new (n := 2) (by omega) (by omega)) [] [] rfl rfl rfl rfl rfl) rfl fun g _ => ?_
      try simp only [apC, apN]
      refine J.assign rfl rfl (J.nil (G.seq (G.region (J.move rfl rfl (J.move rfl rfl (J.move rfl rfl (J.move rfl rfl (J.eff (E.callP (mulWW_spec (x := xs.getD (0 + 0) 0) (y := xs.getD (0 + 0) 0) (x3 _) (x3 _)) [] [] rfl rfl rfl rfl rfl) rfl fun _ _ => ?_))))))))
      try simp only [apC, apN]
      refine J.move rfl rfl (J.extractL rfl rfl rfl (J.extractL rfl rfl rfl (J.ix rfl rfl rfl (J.eff (E.sc rfl rfl) rfl (J.ix rfl rfl rfl (J.eff (E.sc rfl rfl) rfl (J.nil (G.prune [0, 1, 2, 6, 7] rfl ?_))))))))
      refine G.seq (G.region (J.move rfl rfl ?_))
      simp only [Nat.zero_add]
      refine J.eff (E.callP (norm_spec (o := 0) (len := 2) (xs := ((List.replicate (mcap 2) 0).set 1 (xs.getD 0 0 * xs.getD 0 0 / 18446744073709551616)).set 0 (xs.getD 0 0 * xs.getD 0 0 % 18446744073709551616)) (by simp; omega) (by omega) (by omega)) [] [0] rfl rfl rfl rfl rfl) rfl fun _ _ => ?_
      try simp only [apC, apN]
      refine J.assign rfl rfl (J.nil (G.ret (hR _) ?_))
      exact GL.done (some ⟨g, nl (((List.replicate (mcap 2) 0).set 1 (xs.getD 0 0 * xs.getD 0 0 / 18446744073709551616)).set 0 (xs.getD 0 0 * xs.getD 0 0 % 18446744073709551616)) 0 2, ((List.replicate (mcap 2) 0).set 1 (xs.getD 0 0 * xs.getD 0 0 / 18446744073709551616)).set 0 (xs.getD 0 0 * xs.getD 0 0 % 18446744073709551616)⟩) rfl rfl (by rw [e1]; exact Res.two (by omega) (by omega) (Wd.rep _) (x3 _)) (by simp only [zv, List.length_set, List.length_replicate]; rfl) [0] rfl (by decide) (by simp [zh])
  · have hc1 := mcap_ge (2 * lx)
    have hc2 := mcap_le (2 * lx)
    have hl2 : (List.replicate (mcap (2 * lx)) 0).length = mcap (2 * lx) := List.length_replicate ..
    refine G.cF rfl (G.skip (G.inBlock (G.seq (G.seq (G.region (J.move rfl rfl (J.move rfl rfl (J.eff (E.callP (alias_same (cs := cells .u64 xs) (by omega) (by omega)) [] [0] rfl rfl rfl rfl rfl) rfl fun _ _ => ?_))))))))
    try simp only [apC, apN]
    refine J.nil (G.cT rfl (G.region (J.assign rfl rfl (J.nil (G.seq (G.region (J.move rfl rfl (J.move rfl rfl ?_))))))))
    refine J.mulI rfl rfl rfl (by omega) (J.eff (E.callP (make_new (n := (2 * lx)) (by omega) (by omega)) [] [] rfl rfl rfl rfl rfl) rfl fun g _ => ?_)
    try simp only [apC, apN]
    refine J.assign rfl rfl (J.nil (G.prune [0, 1, 2, 6, 7] rfl (G.seq (G.seq (G.region (J.move rfl rfl (J.loadGi 2 rfl rfl rfl rfl ?_)))))))
    (first | refine J.ltN rfl rfl rfl ?_ | refine J.ltZ rfl rfl rfl ?_)
    refine J.move rfl rfl (J.wT rfl rfl (J.move rfl rfl (J.wT rfl rfl (J.loadGi 3 rfl rfl rfl rfl (J.wT rfl rfl ?_)))))
    (first | refine J.ltN rfl rfl rfl ?_ | refine J.ltZ rfl rfl rfl ?_)
    refine J.pT rfl rfl rfl (J.nil (G.prune [0, 1, 2, 6, 7, 50] rfl (G.cT rfl (G.seq (G.region (J.move rfl rfl (J.move rfl rfl (J.move rfl rfl ?_))))))))
    refine J.eff (E.callP (basicMulX_spec (xs0 := xs) (zs0 := List.replicate (mcap (2 * lx)) 0) (lx := lx) (Wd.rep _) x1 x3 (by omega) (by omega) (by omega) (by omega) (by omega)) [0] [0] rfl rfl rfl rfl rfl) rfl fun p hp => ?_
    try simp only [apC, apN]
    have hlen := hp.w.len
    refine J.nil (G.prune [0, 1, 2, 6, 7] rfl (G.seq (G.region (J.move rfl rfl (J.eff (E.callP (norm_spec (o := 0) (len := 2 * lx) (xs := p) (by omega) (by omega) (by omega)) [] [0] rfl rfl rfl rfl rfl) rfl fun _ _ => ?_)))))
    try simp only [apC, apN]
    refine J.assign rfl rfl (J.nil (G.ret (hR _) ?_))
    exact GL.done (some ⟨g, nl p 0 (2 * lx), p⟩) rfl rfl (Res.sqr hp (by omega) (by omega) (by omega)) (by simp only [zv, hlen, hl2]; rfl) [0] rfl (by decide) (by simp [zh])
theorem topW {b l n : Nat} {xs : List Nat} (h : Res (some ⟨b, l, xs⟩) n) (h0 : 0 < l) : xs.getD (l - 1) 0 ≠ 0 := by
  rcases h.nm with h1 | h1
  · have h2 : l = 0 := h1
    omega
  · exact h1
theorem SL.mn {b l : Nat} {xs zs : List Nat} {c : Nat} (h1 : l ≤ xs.length ∧ xs.length ≤ 9223372036854775807 ∧ Wd xs) (h0 : 0 < l) (hx : xs.getD (l - 1) 0 ≠ 0)
    (h : SL xs xs 0 0 (64 - blen (xs.getD (l - 1) 0)) l c zs) : MN ⟨b, l, zs⟩ := by
  have hl := h.w.len
  have hb : blen (xs.getD (l - 1) 0) ≤ 64 := blen_lt (n := 64) (h1.2.2 _)
  have hb0 : 0 < blen (xs.getD (l - 1) 0) := by unfold blen; rw [if_neg hx]; omega
  have hg := blen_ge hx
  have hlt := blen_le (x := xs.getD (l - 1) 0)
  have e := h.e (l - 1) (by omega)
  simp only [Nat.zero_add, shlW] at e
  generalize xs.getD (l - 1) 0 = x at *
  have h63 : 9223372036854775808 ≤ x * 2 ^ (64 - blen x) := by
    have h2 := Nat.mul_le_mul_right (2 ^ (64 - blen x)) hg
    rw [← Nat.pow_add, show blen x - 1 + (64 - blen x) = 63 by omega] at h2
    exact h2
  have h64 : x * 2 ^ (64 - blen x) < 18446744073709551616 := by
    have h2 := Nat.mul_lt_mul_of_pos_right hlt (Nat.pow_pos (n := 64 - blen x) (show 0 < 2 by decide))
    rw [← Nat.pow_add, show blen x + (64 - blen x) = 64 by omega] at h2
    exact h2
  rw [Nat.mod_eq_of_lt h64] at e
  refine ⟨⟨by simp only; omega, by simp only; omega, h.w.wd⟩, h0, ?_⟩
  simp only
  obtain ⟨m, rfl⟩ : ∃ m, l = m + 1 := ⟨l - 1, by omega⟩
  simp only [Nat.add_sub_cancel, rv_succ, Nat.zero_add] at e ⊢
  have h5 := Nat.mul_le_mul_right (18446744073709551616 ^ m) (show 9223372036854775808 ≤ zs.getD m 0 by omega)
  omega
theorem MN.ofTop {b l : Nat} {xs : List Nat} (h1 : l ≤ xs.length ∧ xs.length ≤ 9223372036854775807 ∧ Wd xs) (h0 : 0 < l) (h : 9223372036854775808 ≤ xs.getD (l - 1) 0) : MN ⟨b, l, xs⟩ := by
  refine ⟨h1, h0, ?_⟩
  obtain ⟨m, rfl⟩ : ∃ m, l = m + 1 := ⟨l - 1, by omega⟩
  simp only [Nat.add_sub_cancel, rv_succ, Nat.zero_add] at h ⊢
  have h5 := Nat.mul_le_mul_right (18446744073709551616 ^ m) h
  omega
theorem fnorm_spec {b l n : Nat} {xs : List Nat} (hx : Res (some ⟨b, l, xs⟩) n) (h0 : 0 < l) (h9 : l ≤ 1000) :
    Spec (cx V) 194 #[.slice (some ⟨b, 0, none⟩) l xs.length] [⟨b, 162, cells .u64 xs, true⟩] [] (fun p : Nat × List Nat => .int .i64 (p.1 : Nat)) (fun p => [⟨b, 162, cells .u64 p.2, true⟩])
      (fun p => p.1 = 64 - blen (xs.getD (l - 1) 0) ∧ MN ⟨b, l, p.2⟩ ∧ p.2.length = xs.length) := by
  have ht := topW hx h0
  obtain ⟨x1, x2, x3⟩ := hx.ok
  simp only at x1 x2 x3
  have hxw := x3 (l - 1)
  refine Spec.enter Tryz.func194 rfl Tryz.ntmps194 (by simp) [(0, .slice (some ⟨b, 0, none⟩) l xs.length)] (by simp) ?_
  intro X hR
  try simp only [apC, apN]
  refine G.seq (G.region (J.assign rfl rfl (J.nil (G.seq (G.seq (G.region (J.move rfl rfl (J.sk rfl rfl rfl rfl ?_))))))))
  refine J.sk rfl rfl rfl rfl (J.sk rfl rfl rfl rfl (J.sk rfl rfl rfl rfl (J.skipU rfl rfl rfl rfl (J.skipU rfl rfl rfl rfl (J.skipU rfl rfl rfl rfl (J.skipU rfl rfl rfl rfl (J.skipU rfl rfl rfl rfl (J.skipU rfl rfl rfl rfl ?_))))))))
  refine J.skipU rfl rfl rfl rfl (J.sk rfl rfl rfl rfl (J.pF rfl rfl rfl (J.nil (G.prune [0, 2, 18] rfl (G.cF rfl (G.skip (G.seq (G.region ?_))))))))
  refine J.move rfl rfl (J.move rfl rfl (J.lenS rfl rfl ?_))
  (first | refine J.subI rfl rfl rfl (by omega) (by omega) ?_ | refine J.subZ rfl rfl rfl (by omega) (by omega) ?_)
  refine J.ix rfl rfl rfl (J.lc rfl rfl rfl ?_)
  simp only [Nat.zero_add]
  refine J.eff (E.callP (nlz_spec hxw) [] [] rfl rfl rfl rfl rfl) rfl fun _ _ => ?_
  try simp only [apC, apN]
  refine J.assign rfl rfl (J.nil (G.prune [0, 2, 3] rfl (G.seq (G.seq (G.region (J.move rfl rfl ?_))))))
  (first | refine J.gtN rfl rfl rfl ?_ | refine J.gtZ rfl rfl rfl ?_)
  refine J.nil ?_
  have hb0 : 0 < blen (xs.getD (l - 1) 0) := by unfold blen; rw [if_neg ht]; omega
  refine G.condP rfl (fun hc => ?_) (fun hc => ?_)
  · refine G.seq ?_
    refine G.region (J.move rfl rfl (J.move rfl rfl (J.move rfl rfl (J.eff (E.callP (lshVUS_spec (V := V) (oz := 0) (n := l) (ox := 0) (zs0 := xs) (by omega) x3 (by omega) (.inl (Nat.le_refl 0)) (by omega) (by omega)) [0] [] rfl rfl rfl rfl rfl) rfl fun p hp => ?_))))
    try simp only [apC, apN]
    obtain ⟨c, zs⟩ := p
    simp only at hp ⊢
    refine J.assign rfl rfl (J.nil (G.prune [2, 3, 4] rfl (G.seq (G.region (J.move rfl rfl (J.sk rfl rfl rfl rfl (J.sk rfl rfl rfl rfl (J.pF rfl rfl rfl ?_))))))))
    refine J.nil (G.prune [2, 3, 36] rfl (G.cF rfl (G.skip (G.seq (G.region (J.move rfl rfl (J.convN rfl rfl (by show _ < _; omega) (J.assign rfl rfl ?_))))))))
    refine J.nil (G.ret (hR _) ?_)
    exact GL.done ((64 - blen (xs.getD (l - 1) 0), zs)) rfl rfl (⟨rfl, SL.mn ⟨x1, x2, x3⟩ h0 ht hp, hp.w.len⟩) rfl [0] rfl (by decide) (by simp [zh])
  · refine G.skip ?_
    refine G.seq (G.region (J.move rfl rfl (J.convN rfl rfl (by show _ < _; omega) (J.assign rfl rfl (J.nil (G.ret (hR _) ?_))))))
    have hg := blen_ge ht
    have hb : blen (xs.getD (l - 1) 0) = 64 := by have := blen_lt (n := 64) hxw; omega
    rw [hb] at hg
    exact GL.done ((64 - blen (xs.getD (l - 1) 0), xs)) rfl rfl (⟨rfl, MN.ofTop ⟨x1, x2, x3⟩ h0 hg, rfl⟩) rfl [0] rfl (by decide) (by simp [zh])
theorem setExp_spec {fb np : Nat} {t : FV} {ex : Int} {sb : Nat} (hm : MN t.m) (hl : t.m.len ≤ 100) (hp : 2 ≤ np) (hp2 : np ≤ 100) (he : -100000 ≤ ex) (he2 : ex ≤ 100000) (hsb : sb < 18446744073709551616) :
    Spec (cx V) 261 #[.pointer (some ⟨fb, 0, none⟩), .int .i64 ex, .int .u64 sb] (fh fb (64 * np) t) [] (fun _ : FV => .tuple #[]) (fh fb (64 * np)) (fun q => MN q.m ∧ q.m.len ≤ np ∧ ex ≤ q.e ∧ q.e ≤ ex + 1) := by
  obtain ⟨a0, e, ⟨mb, l, xs⟩⟩ := t
  simp only [fh, fc] at *
  refine Spec.enter Tryz.func261 rfl Tryz.ntmps261 (by simp) [(0, .pointer (some ⟨fb, 0, none⟩)), (1, .int .i64 ex), (2, .int .u64 sb)] (by simp) ?_
  intro X hR
  try simp only [apC, apN]
  refine G.seq (G.seq (G.region (J.move rfl rfl ?_)))
  (first | refine J.ltN rfl rfl rfl ?_ | refine J.ltZ rfl rfl rfl ?_)
  refine J.nil (G.cF rfl (G.skip (G.seq (G.seq (G.region (J.move rfl rfl ?_))))))
  (first | refine J.gtN rfl rfl rfl ?_ | refine J.gtZ rfl rfl rfl ?_)
  refine J.nil (G.cF rfl (G.skip (G.seq (G.region (J.move rfl rfl (J.nc rfl rfl rfl (J.fieldAddr rfl rfl (J.eff (E.si rfl rfl rfl rfl) rfl ?_))))))))
  refine J.nil (G.prune [0, 1, 2] rfl (G.seq (G.region (J.move rfl rfl (J.move rfl rfl (J.conv32 rfl rfl (by omega) (by omega) (J.nc rfl rfl rfl (J.fieldAddr rfl rfl ?_))))))))
  refine J.eff (E.si rfl rfl rfl rfl) rfl (J.nil (G.prune [0, 2] rfl (G.region (J.move rfl rfl (J.move rfl rfl ?_)))))
  refine J.eff (E.callP (round_spec (fb := fb) (np := np) (t := ⟨a0, ex, ⟨mb, l, xs⟩⟩) hm hl hp hp2 he he2 hsb) [0, 0] [] rfl rfl rfl rfl rfl) rfl fun q hq => ?_
  try simp only [apC, apN]
  refine J.nil (G.fall (hR _) ?_)
  exact GL.done (q : FV) rfl rfl hq rfl [0, 1] rfl (by decide) (by simp [fh])
end
section
set_option maxRecDepth 100000
set_option pp.deepTerms false
variable {V : Addr}
theorem setUint64_spec {x : Nat} (hx : x < 18446744073709551616) (h0 : x ≠ 0) :
    Spec (cx V) 84 #[.slice none 0 0, .int .u64 x] [] [] (fun q : RS => zv (some q)) (fun q => zh true (some q)) (fun q => Res (some q) x ∧ q.len = 1) := by
  refine Spec.enter Tryz.func84 rfl Tryz.ntmps84 (by simp) [(0, .slice none 0 0), (1, .int .u64 x)] (by simp) ?_
  intro X hR
  try simp only [apC, apN]
  refine G.seq (G.region (J.assign rfl rfl (J.nil (G.seq (G.seq (G.region (J.move rfl rfl (J.assign rfl rfl ?_))))))))
  refine J.nil (G.seq (G.region (J.move rfl rfl (J.move rfl rfl ?_))))
  (first | refine J.eqN rfl rfl rfl ?_ | refine J.eqZ rfl rfl rfl ?_)
  refine J.nil (G.cT rfl (G.seq (G.region (J.move rfl rfl (J.move rfl rfl (J.eff (E.callP (setWord_spec (z := none) trivial hx) [] [] rfl rfl rfl rfl rfl) rfl fun q hq => ?_))))))
  try simp only [apC, apN]
  obtain ⟨⟨bq, lq, xq⟩, rfl, hq0⟩ := Res.some hq h0
  simp only [zh, zv, List.cons_append, List.nil_append]
  refine J.assign rfl rfl (J.nil (G.prune [0, 1, 4] rfl (G.ret (hR _) ?_)))
  exact GL.done ⟨bq, lq, xq⟩ rfl rfl ⟨hq, resOneOf hq h0 hx⟩ rfl [0] rfl (by decide) (by simp [zh])
def fn0 (fb pr : Nat) : Hp := [⟨fb, 166, [.int .u32 (pr : Int), .int .u8 0, .int .i8 0, .int .u8 0, .bool false, .slice none 0 0, .int .i32 0], true⟩]
theorem setBits64_spec {fb np x : Nat} (hx : x < 18446744073709551616) (h0 : x ≠ 0) (hp : 2 ≤ np) (hp2 : np ≤ 100) :
    Spec (cx V) 262 #[.pointer (some ⟨fb, 0, none⟩), .bool false, .int .u64 x] (fn0 fb (64 * np)) [] (fun _ : FV => .pointer (some ⟨fb, 0, none⟩)) (fh fb (64 * np)) (fun q => MN q.m ∧ q.m.len = 1 ∧ q.e = ((64 - (64 - blen x) : Nat) : Int)) := by
  have hb0 : 0 < blen x := by unfold blen; rw [if_neg h0]; omega
  have hb := blen_lt (n := 64) hx
  have hg := blen_ge h0
  have hlt := blen_le (x := x)
  have h63 : 9223372036854775808 ≤ x * 2 ^ (64 - blen x) := by
    have h2 := Nat.mul_le_mul_right (2 ^ (64 - blen x)) hg
    rw [← Nat.pow_add, show blen x - 1 + (64 - blen x) = 63 by omega] at h2
    exact h2
  have h64 : x * 2 ^ (64 - blen x) < 18446744073709551616 := by
    have h2 := Nat.mul_lt_mul_of_pos_right hlt (Nat.pow_pos (n := 64 - blen x) (show 0 < 2 by decide))
    rw [← Nat.pow_add, show blen x + (64 - blen x) = 64 by omega] at h2
    exact h2
  simp only [fn0]
  refine Spec.enter Tryz.func262 rfl Tryz.ntmps262 (by simp) [(0, .pointer (some ⟨fb, 0, none⟩)), (1, .bool false), (2, .int .u64 x)] (by simp) ?_
  intro X hR
  try simp only [apC, apN]
  refine G.seq (G.region (J.assign rfl rfl (J.nil (G.seq (G.seq (G.region (J.move rfl rfl (J.nc rfl rfl rfl ?_))))))))
  refine J.fieldAddr rfl rfl (J.loadI rfl rfl rfl rfl ?_)
  (first | refine J.eqN rfl rfl rfl ?_ | refine J.eqZ rfl rfl rfl ?_)
  refine J.nil (G.prune [0, 1, 2, 6, 12] rfl (G.cF rfl (G.skip (G.seq (G.region (J.move rfl rfl (J.nc rfl rfl rfl (J.fieldAddr rfl rfl ?_))))))))
  refine J.eff (E.si rfl rfl rfl rfl) rfl (J.nil (G.prune [0, 1, 2, 6] rfl (G.seq (G.region (J.move rfl rfl (J.move rfl rfl (J.nc rfl rfl rfl (J.fieldAddr rfl rfl ?_))))))))
  refine J.eff (E.si rfl rfl rfl rfl) rfl (J.nil (G.prune [0, 2, 6] rfl (G.seq (G.seq (G.region (J.move rfl rfl ?_))))))
  (first | refine J.eqN rfl rfl rfl ?_ | refine J.eqZ rfl rfl rfl ?_)
  refine J.nil (G.cF rfl (G.skip (G.seq (G.region (J.move rfl rfl (J.nc rfl rfl rfl (J.fieldAddr rfl rfl (J.eff (E.si rfl rfl rfl rfl) rfl ?_))))))))
  refine J.nil (G.prune [0, 2, 6] rfl (G.seq (G.region (J.move rfl rfl (J.eff (E.callP (lz64_spec hx) [] [] rfl rfl rfl rfl rfl) rfl fun _ _ => ?_)))))
  try simp only [apC, apN]
  refine J.assign rfl rfl (J.nil (G.seq (G.region (J.move rfl rfl (J.move rfl rfl (J.nc rfl rfl rfl (J.fieldAddr rfl rfl (J.loadI rfl rfl rfl rfl ?_))))))))
  refine J.move rfl rfl (J.move rfl rfl (J.convN rfl rfl (by show _ < _; omega) (J.shlU rfl rfl rfl ?_)))
  rw [Nat.mod_eq_of_lt h64]
  refine J.eff (E.callP (setUint64_spec h64 (by omega)) [] [] rfl rfl rfl rfl rfl) rfl fun q hq => ?_
  try simp only [apC, apN]
  obtain ⟨bq, lq, xq⟩ := q
  obtain ⟨hq, hq1⟩ := hq
  simp only at hq1
  subst hq1
  obtain ⟨r1, r2, r3⟩ := resOne hq rfl
  simp only [zh, zv, List.cons_append, List.nil_append]
  refine J.nc rfl rfl rfl (J.fieldAddr rfl rfl (J.eff (E.si rfl rfl rfl rfl) rfl (J.nil (G.prune [0, 6, 7] rfl (G.seq (G.region (J.move rfl rfl (J.move rfl rfl ?_))))))))
  (first | refine J.subI rfl rfl rfl (by omega) (by omega) ?_ | refine J.subZ rfl rfl rfl (by omega) (by omega) ?_)
  refine J.convN rfl rfl (by show _ < _; omega) (J.nc rfl rfl rfl (J.fieldAddr rfl rfl (J.eff (E.si rfl rfl rfl rfl) rfl (J.nil (G.prune [0, 6] rfl (G.seq (G.seq (G.region ?_))))))))
  refine J.move rfl rfl (J.nc rfl rfl rfl (J.fieldAddr rfl rfl (J.loadI rfl rfl rfl rfl ?_)))
  (first | refine J.ltN rfl rfl rfl ?_ | refine J.ltZ rfl rfl rfl ?_)
  refine J.nil (G.prune [0, 6, 56] rfl (G.cF rfl (G.skip (G.seq (G.region (J.move rfl rfl (J.assign rfl rfl (J.nil ?_))))))))
  refine G.ret (hR _) ?_
  exact GL.done (⟨0, ((64 - (64 - blen x) : Nat) : Int), ⟨bq, 1, xq⟩⟩ : FV) rfl rfl ⟨MN.ofTop hq.ok (by decide) (by rw [r1]; exact h63), rfl, rfl⟩ rfl [1, 0] rfl (by decide) (by simp [fh])
theorem setU64_spec {fb np x : Nat} (hx : x < 18446744073709551616) (h0 : x ≠ 0) (hp : 2 ≤ np) (hp2 : np ≤ 100) :
    Spec (cx V) 236 #[.pointer (some ⟨fb, 0, none⟩), .int .u64 x] (fn0 fb (64 * np)) [] (fun _ : FV => .pointer (some ⟨fb, 0, none⟩)) (fh fb (64 * np)) (fun q => MN q.m ∧ q.m.len = 1 ∧ q.e = ((64 - (64 - blen x) : Nat) : Int)) := by
  refine Spec.enter Tryz.func236 rfl Tryz.ntmps236 (by simp) [(0, .pointer (some ⟨fb, 0, none⟩)), (1, .int .u64 x)] (by simp) ?_
  intro X hR
  try simp only [apC, apN]
  refine G.seq (G.region (J.assign rfl rfl (J.nil (G.seq (G.region (J.move rfl rfl (J.move rfl rfl (J.eff (E.callP (setBits64_spec (fb := fb) hx h0 hp hp2) [0] [] rfl rfl rfl rfl rfl) rfl fun q hq => ?_))))))))
  try simp only [apC, apN]
  refine J.assign rfl rfl (J.nil (G.prune [4] rfl (G.ret (hR _) ?_)))
  exact GL.done (q : FV) rfl rfl hq rfl [0, 1] rfl (by decide) (by simp [fh])
theorem prec_spec {fb pr : Nat} {cs : List Value} (h : cs[0]? = some (.int .u32 (pr : Int))) (hp : pr < 4294967296) :
    Spec (cx V) 195 #[.pointer (some ⟨fb, 0, none⟩)] [] [⟨fb, 166, cs, false⟩] (fun _ : Unit => .int .u64 (pr : Int)) (fun _ => []) (fun _ => True) := by
  refine Spec.enter Tryz.func195 rfl Tryz.ntmps195 (by simp) [(0, .pointer (some ⟨fb, 0, none⟩))] (by simp) ?_
  intro X hR
  try simp only [apC, apN]
  refine G.seq (G.region (J.assign rfl rfl (J.nil (G.seq (G.region (J.move rfl rfl (J.nc rfl rfl rfl (J.fieldAddr rfl rfl ?_))))))))
  refine J.loadI rfl rfl rfl h (J.convN rfl rfl (by show _ < _; omega) (J.assign rfl rfl (J.nil (G.prune [2] rfl (G.ret (hR _) ?_)))))
  exact GL.done (()) rfl rfl (trivial) rfl [] rfl (by decide) (by simp [zh])
theorem setPrec_spec {fb pr : Nat} (h0 : pr ≠ 0) (hp : pr < 4294967296) :
    Spec (cx V) 97 #[.pointer (some ⟨fb, 0, none⟩), .int .u64 (pr : Int)] (fn0 fb 0) [] (fun _ : Unit => .pointer (some ⟨fb, 0, none⟩)) (fun _ => fn0 fb pr) (fun _ => True) := by
  simp only [fn0]
  refine Spec.enter Tryz.func97 rfl Tryz.ntmps97 (by simp) [(0, .pointer (some ⟨fb, 0, none⟩)), (1, .int .u64 (pr : Int))] (by simp) ?_
  intro X hR
  try simp only [apC, apN]
  refine G.seq (G.region (J.assign rfl rfl (J.nil (G.seq (G.region (J.move rfl rfl (J.nc rfl rfl rfl (J.fieldAddr rfl rfl ?_))))))))
  refine J.eff (E.si rfl rfl rfl rfl) rfl (J.nil (G.prune [0, 1, 4] rfl (G.seq (G.seq (G.region (J.move rfl rfl ?_))))))
  (first | refine J.eqN rfl rfl rfl ?_ | refine J.eqZ rfl rfl rfl ?_)
  refine J.nil (G.cF rfl (G.skip (G.seq (G.seq (G.region (J.move rfl rfl ?_))))))
  (first | refine J.gtN rfl rfl rfl ?_ | refine J.gtZ rfl rfl rfl ?_)
  refine J.nil (G.cF rfl (G.skip (G.seq (G.region (J.move rfl rfl (J.nc rfl rfl rfl (J.fieldAddr rfl rfl (J.loadI rfl rfl rfl rfl ?_))))))))
  refine J.assign rfl rfl (J.nil (G.prune [0, 1, 4, 5] rfl (G.seq (G.region (J.move rfl rfl (J.move rfl rfl (J.convN rfl rfl (by show _ < _; omega) (J.nc rfl rfl rfl ?_))))))))
  refine J.fieldAddr rfl rfl (J.eff (E.si rfl rfl rfl rfl) rfl (J.nil (G.prune [0, 4, 5] rfl (G.seq (G.seq (G.region (J.move rfl rfl (J.nc rfl rfl rfl ?_))))))))
  refine J.fieldAddr rfl rfl (J.loadI rfl rfl rfl rfl (J.move rfl rfl ?_))
  (first | refine J.ltN rfl rfl rfl ?_ | refine J.ltZ rfl rfl rfl ?_)
  refine J.nil (G.prune [0, 4, 47] rfl (G.cF rfl (G.skip (G.seq (G.region (J.move rfl rfl (J.assign rfl rfl (J.nil ?_))))))))
  refine G.ret (hR _) ?_
  exact GL.done (()) rfl rfl (trivial) rfl [0] rfl (by decide) (by simp [zh])
end
end Go.Proofs.YtfbbkngonohlkaaGreatDoor
