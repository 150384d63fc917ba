/- The way to the laws, part 6 of 6 (the engine of the walks; contracts of the functions that the laws reach), joined by a program of ours out of: L3 L4 L5 L7 -/
import Derived.Test.YtfbbkngonohlkaaGreatDoorZ05
namespace Go.Proofs.YtfbbkngonohlkaaGreatDoor
open Go
set_option linter.unusedVariables false
set_option linter.unusedSimpArgs false
set_option exponentiation.threshold 20000
section
set_option maxRecDepth 100000
set_option pp.deepTerms false
set_option maxHeartbeats 1000000
variable {V : Addr}
theorem DT.size {s : ByteArray} {n : Nat} (h : DT s n) {k : Nat} (hk : n < 10 ^ k) (h0 : 0 < k) : s.size ≤ k := by
  obtain ⟨l, dg, hd, -, -, h1⟩ := h
  rw [hd.sz]
  rcases h1 with h1 | h1
  · omega
  · have := (Nat.pow_lt_pow_iff_right (by decide : 1 < 10)).1 (Nat.lt_of_le_of_lt h1 hk)
    omega
def XT (u letter : ByteArray) (e : Int) (plus : Bool) : Prop := ∃ ds, DT ds e.natAbs ∧ u = (if e < 0 then letter ++ ⟨#[45]⟩ ++ ds else if plus then letter ++ ⟨#[43]⟩ ++ ds else letter ++ ds)
structure HS (s : ByteArray) (l : Nat) (hd hc : Nat → Nat) : Prop where
  sz : s.size = l
  d : ∀ j, j < l → Byt s j (hc j)
  v : ∀ j, hd j ≤ 15 ∧ (hd j ≤ 9 ∧ hc j = 48 + hd j ∨ 10 ≤ hd j ∧ (hc j = 87 + hd j ∨ hc j = 55 + hd j))
theorem hv_cons (d : Nat) (dg : Nat → Nat) (t : Nat) : hv (dcons d dg) (t + 1) = d * 16 ^ t + hv dg t := by
  induction t with
  | zero => simp [hv, dcons]
  | succ t ih =>
    rw [hv, ih, hv, Nat.pow_succ, Nat.add_mul, Nat.mul_assoc, show dcons d dg (t + 1) = dg t from rfl]
    omega
def HC (d c : Nat) : Prop := d ≤ 9 ∧ c = 48 + d ∨ 10 ≤ d ∧ (c = 87 + d ∨ c = 55 + d)
theorem HS.cons {s u : ByteArray} {l d c : Nat} {hd hc : Nat → Nat} (h : HS s l hd hc) (hu : u.size = 1) (hb : Byt u 0 c) (h15 : d ≤ 15) (hc' : HC d c) : HS (u ++ s) (l + 1) (dcons d hd) (dcons c hc) := by
  refine ⟨by rw [ByteArray.size_append, hu, h.sz]; omega, fun j hj => ?_, fun j => ?_⟩
  · cases j with
    | zero => exact hb.appL
    | succ j => exact (h.d j (by omega)).appR' (by rw [hu]; omega)
  · cases j with
    | zero => exact ⟨h15, hc'⟩
    | succ j => exact h.v j
def HTx (s : ByteArray) (n : Nat) : Prop := ∃ l hd hc, HS s l hd hc ∧ hv hd l = n ∧ 0 < l ∧ (l = 1 ∨ 16 ^ (l - 1) ≤ n)
def lowS : ByteArray := ByteArray.mk #[48, 49, 50, 51, 52, 53, 54, 55, 56, 57, 97, 98, 99, 100, 101, 102]
def uppS : ByteArray := ByteArray.mk #[48, 49, 50, 51, 52, 53, 54, 55, 56, 57, 65, 66, 67, 68, 69, 70]
theorem letter_at {d : Nat} (h : d < 16) : (∃ c, Byt lowS d c ∧ HC d c) ∧ (∃ c, Byt uppS d c ∧ HC d c) := by
  have key : ∀ d : Fin 16, (HC d.1 (lowS[d.1]!).toNat ∧ lowS[d.1]? = some (lowS[d.1]!)) ∧ (HC d.1 (uppS[d.1]!).toNat ∧ uppS[d.1]? = some (uppS[d.1]!)) := by unfold HC; decide
  obtain ⟨⟨h1, h2⟩, h3, h4⟩ := key ⟨d, h⟩
  exact ⟨⟨_, ⟨_, h2, rfl⟩, h1⟩, ⟨_, ⟨_, h4, rfl⟩, h3⟩⟩
theorem inBase_low {r : RS} {n : Nat} (hr : Nm r n) (hn : n < 16 ^ 16) (hl : r.len ≤ 900) : SpecF (cx V) 14 #[zv (some r), .int .i64 16, .bool false] [dr r] (fun s : ByteArray => .string s) (fun _ => []) (fun s => HTx s n) := by
  refine SpecF.enter Tryz.func14 rfl Tryz.ntmps14 (by simp) [(0, zv (some r)), (1, .int .i64 16), (2, .bool false)] (by simp) ?_
  intro X hR
  try simp only [apC, apN]
  refine G.seq (G.region (J.assign rfl rfl (J.nil (G.seq (G.seq (G.region (J.move rfl rfl (J.lenS rfl rfl ?_))))))))
  (first | refine J.eqN rfl rfl rfl ?_ | refine J.eqZ rfl rfl rfl ?_)
  refine J.nil ?_
  by_cases h0 : r.len = 0
  · have hn0 := hr.zero.1 h0
    refine G.cT rfl (G.seq (G.region (J.assign rfl rfl (J.nil (G.retF (hR _) ?_)))))
    exact GLF.done (hR _) (ByteArray.mk #[48] : ByteArray) rfl rfl ⟨1, fun _ => 0, fun _ => 48, ⟨rfl, fun j hj => by
      obtain rfl : j = 0 := by omega
      exact Byt.lit0 48 [], fun _ => ⟨by decide, .inl ⟨by decide, rfl⟩⟩⟩, by rw [hn0]; rfl, Nat.zero_lt_one, .inl rfl⟩ rfl [] rfl
  · have hn0 : n ≠ 0 := fun e => h0 (hr.zero.2 e)
    refine G.cF rfl (G.skip (G.seq (G.region (J.assign rfl rfl (J.nil (G.seq (G.seq (G.region ?_))))))))
    refine J.move rfl rfl (J.nil (G.cF rfl (G.skip (G.seq (G.region (J.assign rfl rfl (J.nil (G.seq ?_))))))))
    refine G.block ?_
    have hS : lowS.size = 16 := rfl
    refine G.loopW (σ := { t : RS × ByteArray × Nat // Nm t.1 (n / 16 ^ t.2.2) ∧ t.1.len ≤ 900 ∧ t.2.2 ≤ 16 ∧ (t.2.2 = 0 ∨ 16 ^ (t.2.2 - 1) ≤ n) ∧ ∃ hd hc, HS t.2.1 t.2.2 hd hc ∧ hv hd t.2.2 = n % 16 ^ t.2.2 })
      (fun t => [(0, zv (some t.1.1)), (1, .int .i64 16), (7, .string lowS), (8, .string t.1.2.1)]) (fun t => [dr t.1.1]) (fun t => 17 - t.1.2.2) ⟨(r, ByteArray.mk #[], 0), by simpa using hr, hl, Nat.zero_le _, .inl rfl, fun _ => 0, fun _ => 48, ⟨rfl, fun j hj => absurd hj (by simp), fun _ => ⟨by decide, .inl ⟨by decide, rfl⟩⟩⟩, by simp [hv, Nat.mod_one]⟩ (by repeat (first | exact SubSlots.nil _ | refine SubSlots.cons rfl ?_)) [0] rfl (by decide) ?_
    rintro ⟨⟨q, out, t⟩, hq, hql, ht, htop, hd, hc, hds, hdv⟩ ih
    simp only at ih hq hql ht htop hds hdv ⊢
    have hsz := hds.sz
    refine G.seq (G.seq (G.region (J.move rfl rfl (J.lenS rfl rfl ?_))))
    (first | refine J.gtN rfl rfl rfl ?_ | refine J.gtZ rfl rfl rfl ?_)
    refine J.nil ?_
    by_cases hz : q.len = 0
    · have e0 := hq.zero.1 hz
      have hlt : n < 16 ^ t := (Nat.div_eq_zero_iff_lt (Nat.pow_pos (by decide))).1 e0
      have ht0 : t ≠ 0 := by
        rintro rfl
        simp only [Nat.pow_zero] at hlt
        omega
      refine G.cF rfl (G.exit rfl (G.seq (G.region (J.move rfl rfl (J.assign rfl rfl (J.nil (G.retF (hR _) ?_)))))))
      exact GLF.done (hR _) (out : ByteArray) rfl rfl ⟨t, hd, hc, hds, by rw [hdv, Nat.mod_eq_of_lt hlt], by omega, .inr (htop.resolve_left ht0)⟩ rfl [] rfl
    · have e0 : n / 16 ^ t ≠ 0 := fun e => hz (hq.zero.2 e)
      have hge : 16 ^ t ≤ n := by
        rcases Nat.lt_or_ge n (16 ^ t) with h | h
        · exact absurd (Nat.div_eq_of_lt h) e0
        · exact h
      have ht20 : t < 16 := (Nat.pow_lt_pow_iff_right (by decide : 1 < 16)).1 (Nat.lt_of_le_of_lt hge hn)
      refine G.cT rfl (G.skip (G.block (G.seq (G.region (J.move rfl rfl (J.move rfl rfl (J.eff (E.callF (byDigit_spec (d := 16) hq (by omega) (by decide) (by decide)) [0] rfl rfl rfl (by first | exact fun _ => allRo_h rfl | exact wrow_ro | exact fun _ => wrow2_ro | exact fun _ => wrow3_ro) rfl) rfl fun p hp => ?_)))))))
      try simp only [apC, apN]
      obtain ⟨q2, d⟩ := p
      obtain ⟨hq2, rfl⟩ := hp
      have hd10 := Nat.mod_lt (n / 16 ^ t) (show 0 < 16 by decide)
      simp only at hq2 ⊢
      obtain ⟨c, hcb, hcc⟩ := (letter_at hd10).1
      have hb1 : (lowS.extract (n / 16 ^ t % 16) (n / 16 ^ t % 16 + 1)).size = 1 := by rw [ByteArray.size_extract]; omega
      have hb0 : Byt (lowS.extract (n / 16 ^ t % 16) (n / 16 ^ t % 16 + 1)) 0 c := by
        have := hcb.ext (Nat.le_refl _) (Nat.lt_succ_self _)
        rw [Nat.sub_self] at this
        exact this
      refine J.move rfl rfl (J.extractL rfl rfl rfl (J.extractL rfl rfl rfl (J.assign rfl rfl (J.assign rfl rfl (J.nil (G.prune [1, 2, 6, 7, 8, 9, 10] rfl (G.seq (G.region ?_))))))))
      refine J.move rfl rfl (J.move rfl rfl (J.move rfl rfl ?_))
      (first | refine J.addI rfl rfl rfl (by omega) ?_ | refine J.addZ rfl rfl rfl (by omega) (by omega) ?_)
      refine J.strLH rfl rfl rfl rfl (by omega) (by omega) (J.move rfl rfl (J.strAdd rfl rfl rfl (by omega) (J.assign rfl rfl (J.nil (G.prune [1, 2, 6, 7, 8, 9, 10] rfl (G.region (J.move rfl rfl (J.assign rfl rfl ?_))))))))
      refine J.nil (G.inBlock ?_)
      have hl2 : q2.len ≤ q.len := hq2.len_le (Nat.lt_of_le_of_lt (Nat.div_le_self _ _) hq.lt)
      exact G.wk [0] (ih ⟨(q2, lowS.extract (n / 16 ^ t % 16) (n / 16 ^ t % 16 + 1) ++ out, t + 1), by simp only; rw [Nat.pow_succ, ← Nat.div_div_eq_div_mul]; exact hq2, by simp only; omega, by simp only; omega, .inr (by simp only [Nat.add_sub_cancel]; exact hge), _, _, hds.cons hb1 hb0 (by omega) hcc, by rw [hv_cons, hdv, Nat.pow_succ, Nat.mod_mul, Nat.mul_comm (n / 16 ^ t % 16), Nat.add_comm]⟩ (by simp only; omega))
theorem inBase_upp {r : RS} {n : Nat} (hr : Nm r n) (hn : n < 16 ^ 16) (hl : r.len ≤ 900) : SpecF (cx V) 14 #[zv (some r), .int .i64 16, .bool true] [dr r] (fun s : ByteArray => .string s) (fun _ => []) (fun s => HTx s n) := by
  refine SpecF.enter Tryz.func14 rfl Tryz.ntmps14 (by simp) [(0, zv (some r)), (1, .int .i64 16), (2, .bool true)] (by simp) ?_
  intro X hR
  try simp only [apC, apN]
  refine G.seq (G.region (J.assign rfl rfl (J.nil (G.seq (G.seq (G.region (J.move rfl rfl (J.lenS rfl rfl ?_))))))))
  (first | refine J.eqN rfl rfl rfl ?_ | refine J.eqZ rfl rfl rfl ?_)
  refine J.nil ?_
  by_cases h0 : r.len = 0
  · have hn0 := hr.zero.1 h0
    refine G.cT rfl (G.seq (G.region (J.assign rfl rfl (J.nil (G.retF (hR _) ?_)))))
    exact GLF.done (hR _) (ByteArray.mk #[48] : ByteArray) rfl rfl ⟨1, fun _ => 0, fun _ => 48, ⟨rfl, fun j hj => by
      obtain rfl : j = 0 := by omega
      exact Byt.lit0 48 [], fun _ => ⟨by decide, .inl ⟨by decide, rfl⟩⟩⟩, by rw [hn0]; rfl, Nat.zero_lt_one, .inl rfl⟩ rfl [] rfl
  · have hn0 : n ≠ 0 := fun e => h0 (hr.zero.2 e)
    refine G.cF rfl (G.skip (G.seq (G.region (J.assign rfl rfl (J.nil (G.seq (G.seq (G.region ?_))))))))
    refine J.move rfl rfl (J.nil (G.cT rfl (G.region (J.assign rfl rfl (J.nil (G.seq (G.region (J.assign rfl rfl ?_))))))))
    refine J.nil (G.seq (G.block ?_))
    have hS : uppS.size = 16 := rfl
    refine G.loopW (σ := { t : RS × ByteArray × Nat // Nm t.1 (n / 16 ^ t.2.2) ∧ t.1.len ≤ 900 ∧ t.2.2 ≤ 16 ∧ (t.2.2 = 0 ∨ 16 ^ (t.2.2 - 1) ≤ n) ∧ ∃ hd hc, HS t.2.1 t.2.2 hd hc ∧ hv hd t.2.2 = n % 16 ^ t.2.2 })
      (fun t => [(0, zv (some t.1.1)), (1, .int .i64 16), (7, .string uppS), (8, .string t.1.2.1)]) (fun t => [dr t.1.1]) (fun t => 17 - t.1.2.2) ⟨(r, ByteArray.mk #[], 0), by simpa using hr, hl, Nat.zero_le _, .inl rfl, fun _ => 0, fun _ => 48, ⟨rfl, fun j hj => absurd hj (by simp), fun _ => ⟨by decide, .inl ⟨by decide, rfl⟩⟩⟩, by simp [hv, Nat.mod_one]⟩ (by repeat (first | exact SubSlots.nil _ | refine SubSlots.cons rfl ?_)) [0] rfl (by decide) ?_
    rintro ⟨⟨q, out, t⟩, hq, hql, ht, htop, hd, hc, hds, hdv⟩ ih
    simp only at ih hq hql ht htop hds hdv ⊢
    have hsz := hds.sz
    refine G.seq (G.seq (G.region (J.move rfl rfl (J.lenS rfl rfl ?_))))
    (first | refine J.gtN rfl rfl rfl ?_ | refine J.gtZ rfl rfl rfl ?_)
    refine J.nil ?_
    by_cases hz : q.len = 0
    · have e0 := hq.zero.1 hz
      have hlt : n < 16 ^ t := (Nat.div_eq_zero_iff_lt (Nat.pow_pos (by decide))).1 e0
      have ht0 : t ≠ 0 := by
        rintro rfl
        simp only [Nat.pow_zero] at hlt
        omega
      refine G.cF rfl (G.exit rfl (G.seq (G.region (J.move rfl rfl (J.assign rfl rfl (J.nil (G.retF (hR _) ?_)))))))
      exact GLF.done (hR _) (out : ByteArray) rfl rfl ⟨t, hd, hc, hds, by rw [hdv, Nat.mod_eq_of_lt hlt], by omega, .inr (htop.resolve_left ht0)⟩ rfl [] rfl
    · have e0 : n / 16 ^ t ≠ 0 := fun e => hz (hq.zero.2 e)
      have hge : 16 ^ t ≤ n := by
        rcases Nat.lt_or_ge n (16 ^ t) with h | h
        · exact absurd (Nat.div_eq_of_lt h) e0
        · exact h
      have ht20 : t < 16 := (Nat.pow_lt_pow_iff_right (by decide : 1 < 16)).1 (Nat.lt_of_le_of_lt hge hn)
      refine G.cT rfl (G.skip (G.block (G.seq (G.region (J.move rfl rfl (J.move rfl rfl (J.eff (E.callF (byDigit_spec (d := 16) hq (by omega) (by decide) (by decide)) [0] rfl rfl rfl (by first | exact fun _ => allRo_h rfl | exact wrow_ro | exact fun _ => wrow2_ro | exact fun _ => wrow3_ro) rfl) rfl fun p hp => ?_)))))))
      try simp only [apC, apN]
      obtain ⟨q2, d⟩ := p
      obtain ⟨hq2, rfl⟩ := hp
      have hd10 := Nat.mod_lt (n / 16 ^ t) (show 0 < 16 by decide)
      simp only at hq2 ⊢
      obtain ⟨c, hcb, hcc⟩ := (letter_at hd10).2
      have hb1 : (uppS.extract (n / 16 ^ t % 16) (n / 16 ^ t % 16 + 1)).size = 1 := by rw [ByteArray.size_extract]; omega
      have hb0 : Byt (uppS.extract (n / 16 ^ t % 16) (n / 16 ^ t % 16 + 1)) 0 c := by
        have := hcb.ext (Nat.le_refl _) (Nat.lt_succ_self _)
        rw [Nat.sub_self] at this
        exact this
      refine J.move rfl rfl (J.extractL rfl rfl rfl (J.extractL rfl rfl rfl (J.assign rfl rfl (J.assign rfl rfl (J.nil (G.prune [1, 2, 6, 7, 8, 9, 10] rfl (G.seq (G.region ?_))))))))
      refine J.move rfl rfl (J.move rfl rfl (J.move rfl rfl ?_))
      (first | refine J.addI rfl rfl rfl (by omega) ?_ | refine J.addZ rfl rfl rfl (by omega) (by omega) ?_)
      refine J.strLH rfl rfl rfl rfl (by omega) (by omega) (J.move rfl rfl (J.strAdd rfl rfl rfl (by omega) (J.assign rfl rfl (J.nil (G.prune [1, 2, 6, 7, 8, 9, 10] rfl (G.region (J.move rfl rfl (J.assign rfl rfl ?_))))))))
      refine J.nil (G.inBlock ?_)
      have hl2 : q2.len ≤ q.len := hq2.len_le (Nat.lt_of_le_of_lt (Nat.div_le_self _ _) hq.lt)
      exact G.wk [0] (ih ⟨(q2, uppS.extract (n / 16 ^ t % 16) (n / 16 ^ t % 16 + 1) ++ out, t + 1), by simp only; rw [Nat.pow_succ, ← Nat.div_div_eq_div_mul]; exact hq2, by simp only; omega, by simp only; omega, .inr (by simp only [Nat.add_sub_cancel]; exact hge), _, _, hds.cons hb1 hb0 (by omega) hcc, by rw [hv_cons, hdv, Nat.pow_succ, Nat.mod_mul, Nat.mul_comm (n / 16 ^ t % 16), Nat.add_comm]⟩ (by simp only; omega))
end
section
set_option maxRecDepth 100000
set_option pp.deepTerms false
set_option maxHeartbeats 1000000
variable {V : Addr}
theorem Txt.lead {s : ByteArray} {a b : Nat} {dot : Bool} {dg : Nat → Nat} (T : Txt s a b dot dg) : 0 < s.size ∧ ∃ c : UInt8, s[0]? = some c ∧ c.toNat ≠ 45 ∧ c.toNat ≠ 43 ∧ c.toNat ≠ 73 ∧ c.toNat ≠ 105 := by
  have hab := T.ab
  have h0 : 0 < s.size := by
    rcases T.en with h | h | h
    · omega
    · have := h.lt; omega
    · have := h.lt; omega
  obtain ⟨v, hv⟩ := Byt.at h0
  have h9 := T.d9
  have key : v ≠ 45 ∧ v ≠ 43 ∧ v ≠ 73 ∧ v ≠ 105 := by
    rcases T.char (p := 0) (by omega) hv with ⟨h, rfl⟩ | ⟨h, h2, rfl⟩ | ⟨h, h2, h3, rfl⟩ | ⟨h, h2⟩
    · have := h9 0; omega
    · omega
    · have := h9 (0 - 1); omega
    · omega
  obtain ⟨c, hc, rfl⟩ := hv
  exact ⟨h0, c, hc, key⟩
theorem Txt.noSlash {s : ByteArray} {a b : Nat} {dot : Bool} {dg : Nat → Nat} (T : Txt s a b dot dg) {i : Nat} (hi : i ≤ a + b + dot.toNat) : ¬ Byt s i 47 := fun h => by
  have h9 := T.d9
  rcases T.char hi h with ⟨h1, h2⟩ | ⟨h1, h2, h3⟩ | ⟨h1, h2, h3, h4⟩ | ⟨h1, h2⟩
  · have := h9 i; omega
  · omega
  · have := h9 (i - 1); omega
  · omega
theorem litPlain {s : ByteArray} {a b m : Nat} {dot : Bool} {dg : Nat → Nat} {ee : Int} (T : Txt s a b dot dg) (hs : s.size = a + b + dot.toNat) (hv : dv dg (a + b) = m) (hm : m < 18446744073709551616) (he : ee = if dot then -(b : Int) else 0) : Lit V s m ee := by
  obtain ⟨h0, hc⟩ := T.lead
  have hab2 := T.ab2
  have hsz := T.sz
  refine ⟨h0, T.sz, fun i h => ?_, hc, hm, ?_, a + b + dot.toNat, 10, if dot then -(b : Int) else (a : Int), 0, ?_, ?_, by decide, by decide, .inl ⟨rfl, ?_⟩, fun rb => ?_, fun rb b1 b2 => ?_⟩
  · have := h.lt
    exact T.noSlash (by omega) h
  · rw [he]; split <;> omega
  · split <;> omega
  · split <;> omega
  · rw [he]
    cases dot
    · simp only [Bool.false_eq_true, if_false]; rw [if_neg (by omega)]; rfl
    · simp only [if_true]; split <;> omega
  · have := scan_spec (V := V) (rb := rb) T
    rw [hv] at this
    exact this
  · rw [← hs]; exact scanExp_none hsz
theorem litHex {s : ByteArray} {h m : Nat} {hd hc : Nat → Nat} (T : Hex s h hd hc) (hv' : hv hd h = m) (hm : m < 18446744073709551616) : Lit V s m 0 := by
  have hsz := T.sz
  have h16 := T.h16
  have h1 := T.h1
  obtain ⟨c, hc0, hc1⟩ := T.b0
  refine ⟨by omega, by omega, fun i h' => ?_, ⟨c, hc0, by omega, by omega, by omega, by omega⟩, hm, by decide, s.size, 16, (h : Int), 0, by omega, by omega, by decide, by decide, .inr ⟨rfl, by omega, rfl, rfl⟩, fun rb => ?_, fun rb b1 b2 => scanExp_none (by omega)⟩
  · have hlt := h'.lt
    have hv := T.v
    have hd' := T.d
    by_cases h0 : i = 0
    · subst h0
      have := h'.uniq T.b0
      omega
    · by_cases h2 : i = 1
      · subst h2
        have := h'.uniq T.b1
        omega
      · have := h'.uniq (by have := hd' (i - 2) (by omega); rwa [show 2 + (i - 2) = i by omega] at this)
        have := hv (i - 2)
        omega
  · have := hexScan_spec (V := V) (rb := rb) T
    rw [hv'] at this
    exact this
theorem lit0 : Lit V (ByteArray.mk #[48]) 0 0 := by
  have T : Txt (ByteArray.mk #[48]) 1 0 false (fun _ => 0) := ⟨fun _ => Nat.zero_le _, fun j hj => by
    obtain rfl : j = 0 := by omega
    exact Byt.lit0 48 [], fun h => (nomatch h), fun j hj => absurd hj (by omega), fun _ => rfl, by decide, by decide, by decide, .inl rfl⟩
  exact litPlain T rfl rfl (by decide) rfl
end
section
set_option maxRecDepth 100000
set_option pp.deepTerms false
set_option maxHeartbeats 1000000
variable {V : Addr}
theorem PT.lit {u : ByteArray} {a k n : Nat} {dg : Nat → Nat} (h : PT u a k dg) (hv : dv dg (a + k) = n) (h0 : 0 < a + k) (h25 : a + k ≤ 25) (hn : n < 18446744073709551616) : Lit V u n (0 - (k : Int)) := by
  have hs := h.sz
  refine litPlain (a := a) (b := k) (dot := true) (dg := dg) ⟨h.d9, h.ha, fun _ => h.dt, h.hb, fun e => (nomatch e), by omega, h0, h25, .inl (by simp [Bool.toNat]; omega)⟩ (by simp [Bool.toNat]; omega) hv hn (by simp)
theorem XT.ex {u X letter : ByteArray} {a k : Nat} {c : UInt8} {e : Int} {plus : Bool} (hu : u.size = a + k + 1) (hX : XT X letter e plus) (hl : letter = ⟨#[c]⟩) (hc : c.toNat = 101 ∨ c.toNat = 69) (he : -300 ≤ e ∧ e ≤ 300) (h25 : a + k ≤ 25) :
    Byt (u ++ X) (a + k + 1) c.toNat ∧ ∃ q l sg dg', Ex10 (u ++ X) (a + k + true.toNat) q l sg dg' ∧ dv dg' l ≤ 300 ∧ e = (if sg = 45 then -((dv dg' l : Nat) : Int) else ((dv dg' l : Nat) : Int)) := by
  obtain ⟨ds, ⟨l, dg', hd, hdv, hl0, hl1⟩, rfl⟩ := hX
  have hl3 : l ≤ 3 := by
    rcases hl1 with h | h
    · omega
    · have h3 : e.natAbs < 10 ^ 3 := Nat.lt_of_le_of_lt (show e.natAbs ≤ 300 by omega) (by decide)
      have := (Nat.pow_lt_pow_iff_right (by decide : 1 < 10)).1 (Nat.lt_of_le_of_lt h h3)
      omega
  have hds := hd.sz
  have hls : letter.size = 1 := by rw [hl]; rfl
  have hlb : Byt letter 0 c.toNat := by rw [hl]; exact Byt.lit0 c []
  have h45 : (⟨#[45]⟩ : ByteArray).size = 1 := rfl
  have h43 : (⟨#[43]⟩ : ByteArray).size = 1 := rfl
  have ht : true.toNat = 1 := rfl
  have hlet : ∀ w : ByteArray, Byt (u ++ (letter ++ w)) (a + k + 1) c.toNat := fun w => Byt.appR' hlb.appL (by omega)
  have hsz : ∀ w : ByteArray, (u ++ (letter ++ w)).size = a + k + 2 + w.size := fun w => by rw [ByteArray.size_append, ByteArray.size_append]; omega
  have hcc : ∀ w : ByteArray, Byt (u ++ (letter ++ w)) (a + k + true.toNat) 101 ∨ Byt (u ++ (letter ++ w)) (a + k + true.toNat) 69 := fun w => by
    have := hlet w
    rw [ht]
    rcases hc with h | h
    · rw [h] at this; exact .inl this
    · rw [h] at this; exact .inr this
  split
  · rename_i h0
    rw [ByteArray.append_assoc]
    have z := hsz (⟨#[45]⟩ ++ ds)
    have y : ((⟨#[45]⟩ : ByteArray) ++ ds).size = 1 + ds.size := by rw [ByteArray.size_append, h45]
    rw [y] at z
    refine ⟨hlet _, a + k + 3, l, 45, dg', ⟨hcc _, .inr ⟨.inr rfl, by omega, ?_⟩, fun j hj => ?_, by omega, hl0, by omega, hd.d9, by omega⟩, by omega, ?_⟩
    · refine Byt.appR' (Byt.appR' (Byt.appL (Byt.lit0 45 [])) rfl) (by omega)
    · refine Byt.appR' (Byt.appR' (Byt.appR' (hd.d j hj) rfl) rfl) (by omega)
    · rw [if_pos rfl, hdv]; omega
  · rename_i h0
    split
    · rw [ByteArray.append_assoc]
      have z := hsz (⟨#[43]⟩ ++ ds)
      have y : ((⟨#[43]⟩ : ByteArray) ++ ds).size = 1 + ds.size := by rw [ByteArray.size_append, h43]
      rw [y] at z
      refine ⟨hlet _, a + k + 3, l, 43, dg', ⟨hcc _, .inr ⟨.inl rfl, by omega, ?_⟩, fun j hj => ?_, by omega, hl0, by omega, hd.d9, by omega⟩, by omega, ?_⟩
      · refine Byt.appR' (Byt.appR' (Byt.appL (Byt.lit0 43 [])) rfl) (by omega)
      · refine Byt.appR' (Byt.appR' (Byt.appR' (hd.d j hj) rfl) rfl) (by omega)
      · rw [if_neg (by decide), hdv]; omega
    · have z := hsz ds
      refine ⟨hlet _, a + k + 2, l, 0, dg', ⟨hcc _, .inl ⟨rfl, by omega⟩, fun j hj => ?_, by omega, hl0, by omega, hd.d9, by omega⟩, by omega, ?_⟩
      · refine Byt.appR' (Byt.appR' (hd.d j hj) rfl) (by omega)
      · rw [if_neg (by decide), hdv]; omega
theorem DS.lit {s : ByteArray} {l n : Nat} {dg : Nat → Nat} (h : DS s l dg) (hv : dv dg l = n) (h0 : 0 < l) (h25 : l ≤ 25) (hn : n < 18446744073709551616) : Lit V s n 0 := by
  have hs := h.sz
  exact litPlain (a := l) (b := 0) (dot := false) (dg := dg) ⟨h.d9, h.d, fun e => (nomatch e), fun j hj => absurd hj (by omega), fun _ => rfl, by omega, by omega, by omega, .inl (by simp [Bool.toNat]; omega)⟩ (by simp [Bool.toNat]; omega) hv hn rfl
theorem HS.lit {s : ByteArray} {l n : Nat} {hd hc : Nat → Nat} (h : HS s l hd hc) (hv' : hv hd l = n) (h0 : 0 < l) (h16 : l ≤ 16) (hn : n < 18446744073709551616) : Lit V (⟨#[48, 120]⟩ ++ s) n 0 := by
  have hs := h.sz
  have h2 : (⟨#[48, 120]⟩ : ByteArray).size = 2 := rfl
  exact litHex (hd := hd) (hc := hc) (h := l) ⟨(Byt.lit0 48 [120]).appL, (show Byt (⟨#[48, 120]⟩ : ByteArray) 1 120 from ⟨120, rfl, rfl⟩).appL, fun j hj => Byt.appR' (h.d j hj) (by omega), h.v, by rw [ByteArray.size_append]; omega, h0, h16⟩ hv' hn
theorem HTx.len {s : ByteArray} {n : Nat} (h : HTx s n) (hn : n < 16 ^ 16) : ∃ l hd hc, HS s l hd hc ∧ hv hd l = n ∧ 0 < l ∧ l ≤ 16 := by
  obtain ⟨l, hd, hc, h1, h2, h3, h4⟩ := h
  refine ⟨l, hd, hc, h1, h2, h3, ?_⟩
  rcases h4 with h4 | h4
  · omega
  · have := (Nat.pow_lt_pow_iff_right (by decide : 1 < 16)).1 (Nat.lt_of_le_of_lt h4 hn)
    omega
theorem DT.len {s : ByteArray} {n : Nat} (h : DT s n) (hn : n < 10 ^ 20) : ∃ l dg, DS s l dg ∧ dv dg l = n ∧ 0 < l ∧ l ≤ 20 := by
  obtain ⟨l, dg, h1, h2, h3, h4⟩ := h
  refine ⟨l, dg, h1, h2, h3, ?_⟩
  rcases h4 with h4 | h4
  · omega
  · have := (Nat.pow_lt_pow_iff_right (by decide : 1 < 10)).1 (Nat.lt_of_le_of_lt h4 hn)
    omega
end
section
set_option maxRecDepth 100000
set_option pp.deepTerms false
set_option maxHeartbeats 1000000
variable {V : Addr}
theorem w30' : 18446744073709551616 ^ 30 = 65536 ^ 120 := by decide
theorem rt0 {p : RS × RS} {n : Nat} (h : RT p n 1) : RT p (n * 10 ^ (0 : Int).toNat / Nat.gcd (n * 10 ^ (0 : Int).toNat) (10 ^ (-(0 : Int)).toNat)) (10 ^ (-(0 : Int)).toNat / Nat.gcd (n * 10 ^ (0 : Int).toNat) (10 ^ (-(0 : Int)).toNat)) := by
  have e1 : n * 10 ^ (0 : Int).toNat = n := Nat.mul_one n
  have e2 : 10 ^ (-(0 : Int)).toNat = 1 := rfl
  rw [e1, e2, Nat.gcd_one_right, Nat.div_one]
  exact h
theorem lawI_spec {n k f : Nat} (hn : n < 18446744073709551616) (hk : k < 256) (hf : f < 256) : SpecF (cx V) 4 #[.int .u64 n, .int .u8 k, .int .u8 f] [] (fun _ : Unit => .bool true) (fun _ => []) (fun _ => True) := by
  refine SpecF.enter Tryz.func4 rfl Tryz.ntmps4 (by simp) [(0, .int .u64 n), (1, .int .u8 k), (2, .int .u8 f)] (by simp) ?_
  intro X hR
  try simp only [apC, apN]
  refine G.seq (G.region (J.assign rfl rfl (J.nil (G.seq (G.region (J.move rfl rfl (J.eff (E.slice1 rfl rfl) rfl fun g12 => ?_)))))))
  refine J.frz rfl ?_
  refine J.eff (E.callF (of_spec (r := ⟨g12, 1, [n]⟩) (by simp) (by simp) (fun j _ => Wd.one hn j)) [0] rfl rfl rfl (by first | exact fun _ => allRo_h rfl | exact wrow_ro | exact fun _ => wrow2_ro | exact fun _ => wrow3_ro) rfl) rfl fun q hq => ?_
  try simp only [apC, apN]
  refine J.assign rfl rfl (J.nil (G.prune [1, 2, 6, 7] rfl (G.seq (G.region (J.move rfl rfl ?_)))))
  have hq : Nm q n := by simpa [rv] using hq
  have hql : q.len ≤ 4 := hq.len_le hn
  refine J.eff (E.callF (whole_spec hq) [0] rfl rfl rfl (by first | exact fun _ => allRo_h rfl | exact wrow_ro | exact fun _ => wrow2_ro | exact fun _ => wrow3_ro) rfl) rfl fun p1 hp1 => ?_
  try simp only [apC, apN]
  simp only [rtr, List.cons_append, List.nil_append]
  have a1 := hp1.n.len_le (k := 4) hn
  have a2 := hp1.d.len_le (k := 1) (by decide)
  refine J.eff (E.alloc rfl) rfl fun g8 => J.eff (E.storeL rfl rfl rfl) rfl (J.nil (G.prune [1, 2, 6, 7, 8] rfl (G.seq (G.region (J.move rfl rfl ?_)))))
  refine J.own 0 rfl fun ho => ?_
  refine J.frz rfl ?_
  refine J.eff (E.callF (digits_spec hq (Nat.lt_trans hn (by decide)) (by omega)) [3] rfl rfl rfl (by first | exact fun _ => allRo_h rfl | exact wrow_ro | exact fun _ => wrow2_ro | exact fun _ => wrow3_ro) rfl) rfl fun s hs => ?_
  try simp only [apC, apN]
  refine J.assign rfl rfl (J.nil (G.seq (G.seq (G.region (J.move rfl rfl (J.remN rfl rfl rfl (by omega) (J.nil (G.block ?_))))))))
  refine G.seq (G.region ?_)
  (first | refine J.eqN rfl rfl rfl ?_ | refine J.eqZ rfl rfl rfl ?_)
  refine J.assign rfl rfl (J.nil ?_)
  obtain ⟨l, dg, hds, hdv, hl0, hl20⟩ := hs.len (Nat.lt_trans hn (by decide))
  have hss := hds.sz
  apply G.join (σ := { t : ByteArray × Int × (RS × RS) // Lit V t.1 n t.2.1 ∧ -324 ≤ t.2.1 ∧ t.2.1 ≤ 324 ∧ RT t.2.2 (n * 10 ^ t.2.1.toNat / Nat.gcd (n * 10 ^ t.2.1.toNat) (10 ^ (-t.2.1).toNat)) (10 ^ (-t.2.1).toNat / Nat.gcd (n * 10 ^ t.2.1.toNat) (10 ^ (-t.2.1).toNat)) }) (fun _ => True) (fun t => [(8, .pointer (some ⟨g8, 0, none⟩)), (9, .string t.1.1)]) (fun t => [⟨g8, 40, [.bool false, zv (some t.1.2.2.1), zv (some t.1.2.2.2)], false⟩, dr t.1.2.2.1, dr t.1.2.2.2])
  · intro hk'
    by_cases h0 : f % 4 = 0
    · skip
      refine G.cT rfl (G.seq (G.region (J.move rfl rfl (J.remN rfl rfl rfl (by omega) (J.convN rfl rfl (by show _ < _; omega) (J.assign rfl rfl (J.nil (G.prune [6, 8, 9, 10] rfl ?_))))))))
      refine G.regionS [0, 1, 3, 4, 5, 2, 6, 7, 8, 9] (some 9) (some 0) [⟨g8, 40, [.bool false, zv (some p1.1), zv (some p1.2)], false⟩] (by kernel_rfl) (SubH.of [0] rfl) rfl (J.move rfl rfl (J.move rfl rfl (J.loadA rfl rfl rfl (by first | exact Mem.h | exact M1 | exact M2 | exact M3 | exact M4 | exact M5 | exact M6 | exact M7 | exact M8 | exact M9) rfl rfl (J.move rfl rfl (J.negZ rfl rfl (by omega) (by omega) ?_)))))
      refine J.effH (E.callF (pointed_spec (k := k % 25) hds (by omega) (by omega)) [] rfl rfl rfl (by first | exact fun _ => allRo_h rfl | exact wrow_ro | exact fun _ => wrow2_ro | exact fun _ => wrow3_ro) rfl) rfl rfl fun u hu => ⟨fun _ => SubH.of [0] rfl, ?_⟩
      try simp only [apC, apN]
      obtain ⟨a, dg', hpt, hdv', hmx⟩ := hu
      rw [hdv] at hdv'
      refine J.effH (E.callF (powerOf_spec (e := -((k % 25 : Nat) : Int)) (by omega) (by omega)) [] rfl rfl rfl (by first | exact fun _ => allRo_h rfl | exact wrow_ro | exact fun _ => wrow2_ro | exact fun _ => wrow3_ro) rfl) rfl rfl fun p2 hp2 => ⟨fun _ => SubH.of [2] rfl, ?_⟩
      try simp only [apC, apN]
      have hu0 : 10 ^ (- -((k % 25 : Nat) : Int)).toNat ≠ 0 := Nat.ne_of_gt (Nat.pow_pos (by decide))
      have a3 := hp2.n.len_le (p10_lt (by omega))
      have a4 := hp2.d.len_le (p10_lt (by omega))
      simp only [rtr, List.cons_append, List.nil_append]
      refine J.effH (E.callF (times_spec hp1 hp2 (by decide) hu0 (by omega) (by omega) (by omega) (by omega)) [3, 4, 0, 1] rfl rfl rfl (by first | exact fun _ => allRo_h rfl | exact wrow_ro | exact fun _ => wrow2_ro | exact fun _ => wrow3_ro) rfl) rfl rfl fun p hp => ⟨fun _ => SubH.of [4] rfl, ?_⟩
      try simp only [apC, apN]
      refine J.assign rfl rfl ?_
      rw [Nat.one_mul] at hp
      simp only [rtr, List.cons_append, List.nil_append]
      apply J.thaw (T := 40) ho (by repeat (first | exact Sep.nil | apply Thaw.h | (apply Thaw.t; exact Nat.ne_of_beq_eq_false rfl) | (apply Thaw.b; assumption) | (apply Sep.t; exact Nat.ne_of_beq_eq_false rfl) | (apply Sep.b; assumption)))
      refine J.effH (E.storeL rfl rfl rfl) rfl rfl ⟨fun h => Bool.noConfusion h, ?_⟩
      refine J.nil (G.prune [6, 8, 9] rfl (G.inBlock (G.seq ?_)))
      refine G.frz rfl ?_
      rw [← Int.zero_sub] at hp
      exact G.wk [4, 0, 1] (hk' ⟨(u, 0 - ((k % 25 : Nat) : Int), p), hpt.lit hdv' (by omega) (by omega) hn, by simp only; omega, by simp only; omega, hp⟩ trivial)
    · skip
      refine G.cF rfl (G.seq (G.region ?_))
      (first | refine J.eqN rfl rfl rfl ?_ | refine J.eqZ rfl rfl rfl ?_)
      refine J.assign rfl rfl (J.nil ?_)
      by_cases h1 : f % 4 = 1
      · skip
        refine G.cT rfl (G.region (J.move rfl rfl (J.move rfl rfl (J.remN rfl rfl rfl (by omega) ?_))))
        (first | refine J.eqN rfl rfl rfl ?_ | refine J.eqZ rfl rfl rfl ?_)
        have h16 : n < 16 ^ 16 := hn
        have h120 : (ByteArray.mk #[48, 120]).size = 2 := rfl
        by_cases hk2 : k % 2 = 0
        · rw [decide_eq_true hk2]
          refine J.eff (E.callF (inBase_upp hq h16 (by omega)) [3] rfl rfl rfl (by first | exact fun _ => allRo_h rfl | exact wrow_ro | exact fun _ => wrow2_ro | exact fun _ => wrow3_ro) rfl) rfl fun hx hhx => ?_
          try simp only [apC, apN]
          obtain ⟨l', hd, hc, hhs, hhv, hl0', hl16⟩ := hhx.len h16
          have hhz := hhs.sz
          refine J.strAdd rfl rfl rfl (by omega) (J.assign rfl rfl (J.nil (G.prune [6, 8, 9] rfl (G.inBlock (G.seq ?_)))))
          exact G.wk [0, 1, 2] (hk' ⟨(ByteArray.mk #[48, 120] ++ hx, 0, p1), hhs.lit hhv hl0' hl16 hn, by simp only; omega, by simp only; omega, rt0 hp1⟩ trivial)
        · rw [decide_eq_false hk2]
          refine J.eff (E.callF (inBase_low hq h16 (by omega)) [3] rfl rfl rfl (by first | exact fun _ => allRo_h rfl | exact wrow_ro | exact fun _ => wrow2_ro | exact fun _ => wrow3_ro) rfl) rfl fun hx hhx => ?_
          try simp only [apC, apN]
          obtain ⟨l', hd, hc, hhs, hhv, hl0', hl16⟩ := hhx.len h16
          have hhz := hhs.sz
          refine J.strAdd rfl rfl rfl (by omega) (J.assign rfl rfl (J.nil (G.prune [6, 8, 9] rfl (G.inBlock (G.seq ?_)))))
          exact G.wk [0, 1, 2] (hk' ⟨(ByteArray.mk #[48, 120] ++ hx, 0, p1), hhs.lit hhv hl0' hl16 hn, by simp only; omega, by simp only; omega, rt0 hp1⟩ trivial)
      · skip
        refine G.cF rfl (G.seq (G.region ?_))
        (first | refine J.eqN rfl rfl rfl ?_ | refine J.eqZ rfl rfl rfl ?_)
        refine J.assign rfl rfl (J.nil ?_)
        by_cases h2 : f % 4 = 2
        · have h48 : (ByteArray.mk #[48]).size = 1 := rfl
          have hds' : DS (ByteArray.mk #[48] ++ s) (l + 1) (dcons 0 dg) := hds.cons (Nat.zero_le 9)
          refine G.cT rfl (G.region (J.move rfl rfl (J.strAdd rfl rfl rfl (by omega) (J.assign rfl rfl (J.nil (G.inBlock (G.seq ?_)))))))
          exact G.wk [0, 1, 2] (hk' ⟨(ByteArray.mk #[48] ++ s, 0, p1), hds'.lit (by rw [dv_cons, Nat.zero_mul, Nat.zero_add]; exact hdv) (by omega) (by omega) hn, by simp only; omega, by simp only; omega, rt0 hp1⟩ trivial)
        · skip
          refine G.cF rfl (G.skip (G.inBlock (G.seq ?_)))
          exact G.wk [0, 1, 2] (hk' ⟨(s, 0, p1), hds.lit hdv (by omega) (by omega) hn, by simp only; omega, by simp only; omega, rt0 hp1⟩ trivial)
  rintro ⟨⟨u, ee, p⟩, hT, hE1, hE2, hp⟩ -
  simp only at hT hE1 hE2 hp ⊢
  have hsz := hT.sz
  have h105 : (ByteArray.mk #[105]).size = 1 := rfl
  refine G.regionS [0, 1, 4, 2, 3, 5, 6] none none [⟨g8, 40, [.bool false, zv (some p.1), zv (some p.2)], false⟩] (by kernel_rfl) (SubH.of [0] rfl) rfl (J.move rfl rfl (J.strAdd rfl rfl rfl (by omega) (J.loadA rfl rfl rfl (by first | exact Mem.h | exact M1 | exact M2 | exact M3 | exact M4 | exact M5 | exact M6 | exact M7 | exact M8 | exact M9) rfl rfl ?_)))
  refine J.effH (E.callF (litI_spec hT lit0 (by omega) (by omega)) [] rfl rfl rfl (by first | exact fun _ => allRo_h rfl | exact wrow_ro | exact fun _ => wrow2_ro | exact fun _ => wrow3_ro) rfl) rfl rfl fun t ht => ⟨fun _ => SubH.app (SubH.of [0] rfl), ?_⟩
  try simp only [apC, apN]
  obtain ⟨q0, w, d⟩ := t
  obtain ⟨v, y, hv, hy, y1, y2, y3, y4, y5, y6⟩ := ht
  simp only at y1 y2 y3 y4 y5 y6
  subst hv hy
  have hu0 : 10 ^ (-ee).toNat ≠ 0 := Nat.ne_of_gt (Nat.pow_pos (by decide))
  have hg0 := Nat.gcd_pos_of_pos_right (n * 10 ^ ee.toNat) (Nat.pos_of_ne_zero hu0)
  have hm0 := Nat.ne_of_gt (Nat.div_pos (Nat.le_of_dvd (Nat.pos_of_ne_zero hu0) (Nat.gcd_dvd_right (n * 10 ^ ee.toNat) _)) hg0)
  have hco := Nat.coprime_div_gcd_div_gcd hg0
  have hv30 := litB1 (g := Nat.gcd (n * 10 ^ ee.toNat) (10 ^ (-ee).toNat)) hn (show ee ≤ 324 by omega) rfl
  have hy30 := litB2 (g := Nat.gcd (n * 10 ^ ee.toNat) (10 ^ (-ee).toNat)) (show -324 ≤ ee by omega) rfl
  rw [w30'] at hv30 hy30
  have a5 := hp.n.len_le hv30
  have a6 := hp.d.len_le hy30
  rcases w with _ | w
  · simp only [wrow, List.cons_append, List.nil_append]
    refine J.effH (E.callF (of64_spec) [] rfl rfl rfl (by first | exact fun _ => allRo_h rfl | exact wrow_ro | exact fun _ => wrow2_ro | exact fun _ => wrow3_ro) rfl) rfl rfl fun o ho64 => ⟨fun _ => SubH.app (SubH.of [2] rfl), ?_⟩
    try simp only [apC, apN]
    simp only [rtr, List.cons_append, List.nil_append]
    have b1 := ho64.n.len_le (k := 1) (by decide)
    have b2 := ho64.d.len_le (k := 1) (by decide)
    refine J.effH (E.callF (isPair_none y1 y2 y3 y5 hm0 hco y4 y6 ho64 hp (by omega) (by omega) (by omega) (by omega)) [0, 1, 5, 6, 2, 3] rfl rfl rfl (by first | exact fun _ => allRo_h rfl | exact wrow_ro | exact fun _ => wrow2_ro | exact fun _ => wrow3_ro) rfl) rfl rfl fun _ _ => ⟨fun _ => SubH.of [4] rfl, ?_⟩
    try simp only [apC, apN]
    refine J.assign rfl rfl (J.nil (G.prune [6] rfl (G.retF (hR _) ?_)))
    exact GLF.done (hR _) () rfl rfl trivial rfl [] rfl
  · simp only [wrow, List.cons_append, List.nil_append]
    refine J.effH (E.callF (of64_spec) [] rfl rfl rfl (by first | exact fun _ => allRo_h rfl | exact wrow_ro | exact fun _ => wrow2_ro | exact fun _ => wrow3_ro) rfl) rfl rfl fun o ho64 => ⟨fun _ => SubH.app (SubH.of [3] rfl), ?_⟩
    try simp only [apC, apN]
    simp only [rtr, List.cons_append, List.nil_append]
    have b1 := ho64.n.len_le (k := 1) (by decide)
    have b2 := ho64.d.len_le (k := 1) (by decide)
    refine J.effH (E.callF (isPair_some y1 y2 y3 y5 hm0 hco y4 y6 ho64 hp (by omega) (by omega) (by omega) (by omega)) [0, 1, 6, 7, 2, 3, 4] rfl rfl rfl (by first | exact fun _ => allRo_h rfl | exact wrow_ro | exact fun _ => wrow2_ro | exact fun _ => wrow3_ro) rfl) rfl rfl fun _ _ => ⟨fun _ => SubH.of [5] rfl, ?_⟩
    try simp only [apC, apN]
    refine J.assign rfl rfl (J.nil (G.prune [6] rfl (G.retF (hR _) ?_)))
    exact GLF.done (hR _) () rfl rfl trivial rfl [] rfl
end
end Go.Proofs.YtfbbkngonohlkaaGreatDoor
