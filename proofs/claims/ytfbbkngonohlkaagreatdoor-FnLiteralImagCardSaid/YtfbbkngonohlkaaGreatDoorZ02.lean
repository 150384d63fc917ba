/- The way to the laws, part 2 of 6 (the engine of the walks; contracts of the functions that the laws reach), joined by a program of ours out of: B1 B2 B3 V1 V2 V3 V4 V5 N2 N3 N4 N5 N6 N7 N8 R1 -/
import Derived.Test.YtfbbkngonohlkaaGreatDoorZ01
namespace Go.Proofs.YtfbbkngonohlkaaGreatDoor
open Go
set_option linter.unusedVariables false
set_option linter.unusedSimpArgs false
set_option exponentiation.threshold 20000
section
set_option maxRecDepth 100000
set_option pp.deepTerms false
variable {V : Addr}
theorem add_spec {x y c : Nat} (hc : c ≤ 1) :
    Spec (cx V) 233 #[.int .u64 x, .int .u64 y, .int .u64 c] [] [] (fun _ : Unit => .tuple #[.int .u64 (((x + y + c) % 18446744073709551616 : Nat) : Int), .int .u64 (((x + y + c) / 18446744073709551616 : Nat) : Int)]) (fun _ => []) (fun _ => True) := by
  refine Spec.enter Tryz.func233 rfl Tryz.ntmps233 (by simp) [(0, .int .u64 x), (1, .int .u64 y), (2, .int .u64 c)] (by simp) ?_
  intro X hR
  try simp only [apC, apN]
  refine G.seq (G.region (J.assign rfl rfl (J.assign rfl rfl (J.nil (G.seq (G.cF rfl (G.skip (G.seq ?_))))))))
  refine G.region (J.move rfl rfl (J.move rfl rfl (J.move rfl rfl (J.eff (E.native rfl (add64_run V x y c hc) rfl) rfl (J.move rfl rfl (J.extractL rfl rfl rfl (J.extractL rfl rfl rfl (J.assign rfl rfl ?_))))))))
  refine J.assign rfl rfl (J.nil (G.prune [6, 7, 10, 11] rfl (G.seq (G.region (J.move rfl rfl (J.move rfl rfl (J.assign rfl rfl (J.assign rfl rfl ?_))))))))
  refine J.nil (G.prune [6, 7] rfl (G.ret (hR _) ?_))
  exact GL.done (()) rfl rfl (trivial) rfl [] rfl (by decide) (by simp)
theorem sub_spec {x y b : Nat} (hb : b ≤ 1) :
    Spec (cx V) 265 #[.int .u64 x, .int .u64 y, .int .u64 b] [] [] (fun _ : Unit => .tuple #[.int .u64 (((x + 18446744073709551616 - y - b) % 18446744073709551616 : Nat) : Int), .int .u64 ((if x < y + b then 1 else 0 : Nat) : Int)]) (fun _ => []) (fun _ => True) := by
  refine Spec.enter Tryz.func265 rfl Tryz.ntmps265 (by simp) [(0, .int .u64 x), (1, .int .u64 y), (2, .int .u64 b)] (by simp) ?_
  intro X hR
  try simp only [apC, apN]
  refine G.seq (G.region (J.assign rfl rfl (J.assign rfl rfl (J.nil (G.seq (G.cF rfl (G.skip (G.seq ?_))))))))
  refine G.region (J.move rfl rfl (J.move rfl rfl (J.move rfl rfl (J.eff (E.native rfl (sub64_run V x y b hb) rfl) rfl (J.move rfl rfl (J.extractL rfl rfl rfl (J.extractL rfl rfl rfl (J.assign rfl rfl ?_))))))))
  refine J.assign rfl rfl (J.nil (G.prune [6, 7, 10, 11] rfl (G.seq (G.region (J.move rfl rfl (J.move rfl rfl (J.assign rfl rfl (J.assign rfl rfl ?_))))))))
  refine J.nil (G.prune [6, 7] rfl (G.ret (hR _) ?_))
  exact GL.done (()) rfl rfl (trivial) rfl [] rfl (by decide) (by simp)
theorem and32 (x : Nat) : x &&& 4294967295 = x % 4294967296 := Nat.and_two_pow_sub_one_eq_mod x 32
theorem mulhi_law {x y x0 x1 y0 y1 : Nat} (hx : x < 18446744073709551616) (hy : y < 18446744073709551616) (h0 : x0 = x % 4294967296) (h1 : x1 = x / 4294967296) (h2 : y0 = y % 4294967296) (h3 : y1 = y / 4294967296) :
    ∃ a b c d, a = x1 * y1 ∧ b = x1 * y0 ∧ c = x0 * y1 ∧ d = x0 * y0 ∧ x * y = a * 18446744073709551616 + (b + c) * 4294967296 + d ∧ a ≤ 18446744065119617025 ∧ b ≤ 18446744065119617025 ∧ c ≤ 18446744065119617025 ∧ d ≤ 18446744065119617025 := by
  have m : ∀ u v, u ≤ 4294967295 → v ≤ 4294967295 → u * v ≤ 18446744065119617025 := fun u v hu hv => Nat.le_trans (Nat.mul_le_mul hu hv) (by decide)
  refine ⟨_, _, _, _, rfl, rfl, rfl, rfl, ?_, m _ _ (by omega) (by omega), m _ _ (by omega) (by omega), m _ _ (by omega) (by omega), m _ _ (by omega) (by omega)⟩
  have ex : x = x1 * 4294967296 + x0 := by omega
  have ey : y = y1 * 4294967296 + y0 := by omega
  generalize hB : 4294967296 = B at *
  have hW : 18446744073709551616 = B * B := by subst hB; rfl
  rw [hW, ex, ey]
  simp only [Nat.add_mul, Nat.mul_add]
  have e1 : x1 * B * (y1 * B) = x1 * y1 * (B * B) := by simp [Nat.mul_comm, Nat.mul_left_comm, Nat.mul_assoc]
  have e2 : x1 * B * y0 = x1 * y0 * B := by simp [Nat.mul_comm, Nat.mul_left_comm, Nat.mul_assoc]
  have e3 : x0 * (y1 * B) = x0 * y1 * B := by simp [Nat.mul_comm, Nat.mul_left_comm, Nat.mul_assoc]
  rw [e1, e2, e3]
  omega
theorem mul64_spec {x y : Nat} (hx : x < 18446744073709551616) (hy : y < 18446744073709551616) :
    Spec (cx V) 272 #[.int .u64 x, .int .u64 y] [] [] (fun _ : Unit => .tuple #[.int .u64 ((x * y / 18446744073709551616 : Nat) : Int), .int .u64 ((x * y % 18446744073709551616 : Nat) : Int)]) (fun _ => []) (fun _ => True) := by
  refine Spec.enter Tryz.func272 rfl Tryz.ntmps272 (by simp) [(0, .int .u64 x), (1, .int .u64 y)] (by simp) ?_
  intro X hR
  try simp only [apC, apN]
  refine G.seq (G.region (J.assign rfl rfl (J.assign rfl rfl (J.nil (G.seq (G.region (J.move rfl rfl (J.andA rfl rfl rfl (by first | assumption | decide | omega) (by first | assumption | decide | omega) fun v15 h15 b15 => ?_))))))))
  refine J.assign rfl rfl (J.nil (G.seq (G.region (J.move rfl rfl (J.shrA rfl rfl rfl (by first | assumption | decide | omega) fun v17 h17 b17 => J.assign rfl rfl (J.nil (G.seq ?_)))))))
  refine G.region (J.move rfl rfl (J.andA rfl rfl rfl (by first | assumption | decide | omega) (by first | assumption | decide | omega) fun v19 h19 b19 => J.assign rfl rfl (J.nil (G.seq (G.region (J.move rfl rfl (J.shrA rfl rfl rfl (by first | assumption | decide | omega) fun v21 h21 b21 => ?_)))))))
  refine J.assign rfl rfl (J.nil (G.seq (G.region (J.move rfl rfl (J.move rfl rfl (J.mulA rfl rfl rfl  fun v24 h24 b24 => J.assign rfl rfl (J.nil ?_)))))))
  refine G.prune [0, 1, 4, 5, 6, 7, 8, 9, 10] rfl (G.seq (G.region (J.move rfl rfl (J.move rfl rfl (J.mulA rfl rfl rfl  fun v27 h27 b27 => J.move rfl rfl (J.shrA rfl rfl rfl (by first | assumption | decide | omega) fun v29 h29 b29 => J.addA rfl rfl rfl  fun v30 h30 b30 => ?_))))))
  refine J.assign rfl rfl (J.nil (G.prune [0, 1, 4, 5, 6, 7, 9, 11] rfl (G.seq (G.region (J.move rfl rfl (J.andA rfl rfl rfl (by first | assumption | decide | omega) (by first | assumption | decide | omega) fun v32 h32 b32 => J.assign rfl rfl (J.nil ?_)))))))
  refine G.seq (G.region (J.move rfl rfl (J.shrA rfl rfl rfl (by first | assumption | decide | omega) fun v34 h34 b34 => J.assign rfl rfl (J.nil (G.seq (G.region (J.move rfl rfl ?_)))))))
  refine J.move rfl rfl (J.move rfl rfl (J.mulA rfl rfl rfl  fun v38 h38 b38 => J.addA rfl rfl rfl  fun v39 h39 b39 => J.assign rfl rfl (J.nil (G.prune [0, 1, 4, 5, 7, 9, 12, 13] rfl (G.seq (G.region ?_))))))
  refine J.move rfl rfl (J.move rfl rfl (J.mulA rfl rfl rfl  fun v42 h42 b42 => J.move rfl rfl (J.addA rfl rfl rfl  fun v44 h44 b44 => J.move rfl rfl (J.shrA rfl rfl rfl (by first | assumption | decide | omega) fun v46 h46 b46 => J.addA rfl rfl rfl  fun v47 h47 b47 => J.assign rfl rfl ?_))))
  refine J.nil (G.prune [0, 1, 4, 5] rfl (G.seq (G.region (J.move rfl rfl (J.move rfl rfl (J.mulA rfl rfl rfl  fun v50 h50 b50 => J.assign rfl rfl (J.nil ?_)))))))
  refine G.prune [4, 5] rfl ?_
  rw [and32] at h15 h19 h32
  have key : v47 = x * y / 18446744073709551616 := by
    obtain ⟨a, b, c, d, ha, hb, hc, hd, hm, b1, b2, b3, b4⟩ := mulhi_law hx hy h15 h17 h19 h21
    rw [← hd] at h24
    rw [← hb] at h27
    rw [← hc] at h38
    rw [← ha] at h42
    rw [hm]
    clear hm h50 b50 h15 h17 h19 h21 ha hb hc hd hR b15 b17 b19 b21
    have e24 : v24 = d := by omega
    have e27 : v27 = b := by omega
    have e38 : v38 = c := by omega
    have e42 : v42 = a := by omega
    subst e24 e27 e38 e42
    have e29 : v29 = v24 / 4294967296 := h29
    have e30 : v30 = v27 + v29 := by omega
    have e34 : v34 = v30 / 4294967296 := h34
    have e39 : v39 = v32 + v38 := by omega
    have e46 : v46 = v39 / 4294967296 := h46
    clear h24 h27 h29 h30 h34 h38 h39 h42 h46
    have e44 : v44 = v42 + v34 := by omega
    have e47 : v47 = v44 + v46 := by omega
    clear h44 h47
    omega
  rw [key, h50]
  refine G.ret (hR _) ?_
  exact GL.done (()) rfl rfl (trivial) rfl [] rfl (by decide) (by simp)
theorem mul_spec {x y : Nat} (hx : x < 18446744073709551616) (hy : y < 18446744073709551616) :
    Spec (cx V) 246 #[.int .u64 x, .int .u64 y] [] [] (fun _ : Unit => .tuple #[.int .u64 ((x * y / 18446744073709551616 : Nat) : Int), .int .u64 ((x * y % 18446744073709551616 : Nat) : Int)]) (fun _ => []) (fun _ => True) := by
  refine Spec.enter Tryz.func246 rfl Tryz.ntmps246 (by simp) [(0, .int .u64 x), (1, .int .u64 y)] (by simp) ?_
  intro X hR
  try simp only [apC, apN]
  refine G.seq (G.region (J.assign rfl rfl (J.assign rfl rfl (J.nil (G.seq (G.cF rfl (G.skip (G.seq ?_))))))))
  refine G.region (J.move rfl rfl (J.move rfl rfl (J.eff (E.callP (mul64_spec hx hy) [] [] rfl rfl rfl rfl rfl) rfl fun _ _ => ?_)))
  try simp only [apC, apN]
  refine J.move rfl rfl (J.extractL rfl rfl rfl (J.extractL rfl rfl rfl (J.assign rfl rfl (J.assign rfl rfl (J.nil (G.prune [4, 5, 8, 9] rfl (G.seq (G.region ?_))))))))
  refine J.move rfl rfl (J.move rfl rfl (J.assign rfl rfl (J.assign rfl rfl (J.nil (G.prune [4, 5] rfl (G.ret (hR _) ?_))))))
  exact GL.done (()) rfl rfl (trivial) rfl [] rfl (by decide) (by simp)
theorem mulWW_spec {x y : Nat} (hx : x < 18446744073709551616) (hy : y < 18446744073709551616) :
    Spec (cx V) 209 #[.int .u64 x, .int .u64 y] [] [] (fun _ : Unit => .tuple #[.int .u64 ((x * y / 18446744073709551616 : Nat) : Int), .int .u64 ((x * y % 18446744073709551616 : Nat) : Int)]) (fun _ => []) (fun _ => True) := by
  refine Spec.enter Tryz.func209 rfl Tryz.ntmps209 (by simp) [(0, .int .u64 x), (1, .int .u64 y)] (by simp) ?_
  intro X hR
  try simp only [apC, apN]
  refine G.seq (G.region (J.assign rfl rfl (J.assign rfl rfl (J.nil (G.seq (G.region (J.move rfl rfl (J.move rfl rfl ?_))))))))
  refine J.eff (E.callP (mul_spec hx hy) [] [] rfl rfl rfl rfl rfl) rfl fun _ _ => ?_
  try simp only [apC, apN]
  refine J.move rfl rfl (J.extractL rfl rfl rfl (J.extractL rfl rfl rfl (J.assign rfl rfl (J.assign rfl rfl (J.nil (G.prune [4, 5, 6, 7] rfl (G.seq (G.region ?_))))))))
  refine J.move rfl rfl (J.move rfl rfl (J.assign rfl rfl (J.assign rfl rfl (J.nil (G.prune [4, 5] rfl (G.ret (hR _) ?_))))))
  exact GL.done (()) rfl rfl (trivial) rfl [] rfl (by decide) (by simp)
theorem mulAddWWW_law {x y c hi lo : Nat} (hx : x < 18446744073709551616) (hy : y < 18446744073709551616) (hc : c < 18446744073709551616) (h1 : hi = x * y / 18446744073709551616) (h2 : lo = x * y % 18446744073709551616) :
    hi + (lo + c) / 18446744073709551616 = (x * y + c) / 18446744073709551616 ∧ (lo + c) % 18446744073709551616 = (x * y + c) % 18446744073709551616 ∧ (x * y + c) / 18446744073709551616 < 18446744073709551616 := by
  have m : x * y ≤ 18446744073709551615 * 18446744073709551615 := Nat.mul_le_mul (by omega) (by omega)
  generalize x * y = p at *
  omega
theorem mulAddWWW_spec {x y c : Nat} (hx : x < 18446744073709551616) (hy : y < 18446744073709551616) (hc : c < 18446744073709551616) :
    Spec (cx V) 263 #[.int .u64 x, .int .u64 y, .int .u64 c] [] [] (fun _ : Unit => .tuple #[.int .u64 (((x * y + c) / 18446744073709551616 : Nat) : Int), .int .u64 (((x * y + c) % 18446744073709551616 : Nat) : Int)]) (fun _ => []) (fun _ => True) := by
  obtain ⟨l1, l2, l3⟩ := mulAddWWW_law hx hy hc rfl rfl
  refine Spec.enter Tryz.func263 rfl Tryz.ntmps263 (by simp) [(0, .int .u64 x), (1, .int .u64 y), (2, .int .u64 c)] (by simp) ?_
  intro X hR
  try simp only [apC, apN]
  refine G.seq (G.region (J.assign rfl rfl (J.assign rfl rfl (J.nil (G.seq (G.region (J.move rfl rfl (J.move rfl rfl ?_))))))))
  refine J.eff (E.callP (mul_spec hx hy) [] [] rfl rfl rfl rfl rfl) rfl fun _ _ => ?_
  try simp only [apC, apN]
  refine J.move rfl rfl (J.extractL rfl rfl rfl (J.extractL rfl rfl rfl (J.assign rfl rfl (J.assign rfl rfl (J.nil (G.prune [2, 6, 7, 8, 9] rfl (G.seq (G.region ?_))))))))
  refine J.assign rfl rfl (J.nil (G.seq (G.region (J.move rfl rfl (J.move rfl rfl (J.eff (E.callP (add_spec (c := 0) (by omega)) [] [] rfl rfl rfl rfl rfl) rfl fun _ _ => ?_))))))
  try simp only [apC, apN]
  refine J.move rfl rfl (J.extractL rfl rfl rfl (J.extractL rfl rfl rfl (J.assign rfl rfl (J.assign rfl rfl (J.nil (G.prune [6, 7, 8, 9, 10] rfl (G.seq (G.region ?_))))))))
  refine J.move rfl rfl (J.move rfl rfl (J.addA rfl rfl rfl  fun v25 h25 b25 => J.move rfl rfl (J.assign rfl rfl (J.assign rfl rfl (J.nil (G.prune [6, 7] rfl ?_))))))
  simp only [Nat.add_zero] at h25 ⊢
  rw [l1, Nat.mod_eq_of_lt l3] at h25
  rw [l2, h25]
  refine G.ret (hR _) ?_
  exact GL.done (()) rfl rfl (trivial) rfl [] rfl (by decide) (by simp)
def blen (x : Nat) : Nat := if x = 0 then 0 else Nat.log2 x + 1
theorem blen_div {x n : Nat} (h : 2 ^ n ≤ x) : blen x = n + blen (x / 2 ^ n) := by
  have hp : 0 < 2 ^ n := Nat.two_pow_pos n
  have h0 : x ≠ 0 := by omega
  have h1 : x / 2 ^ n ≠ 0 := by have := Nat.div_pos h hp; omega
  have h2 : n ≤ x.log2 := (Nat.le_log2 h0).2 h
  rw [blen, blen, if_neg h0, if_neg h1]
  have : (x / 2 ^ n).log2 = x.log2 - n := by
    apply (Nat.log2_eq_iff h1).2
    have a := Nat.log2_self_le h0
    have b := Nat.lt_log2_self (n := x)
    have e1 : 2 ^ x.log2 = 2 ^ (x.log2 - n) * 2 ^ n := by rw [← Nat.pow_add]; congr 1; omega
    have e2 : 2 ^ (x.log2 + 1) = 2 ^ (x.log2 - n + 1) * 2 ^ n := by rw [← Nat.pow_add]; congr 1; omega
    refine ⟨(Nat.le_div_iff_mul_le hp).2 (by omega), (Nat.div_lt_iff_lt_mul hp).2 (by omega)⟩
  omega
theorem blen_lt {x n : Nat} (h : x < 2 ^ n) : blen x ≤ n := by
  unfold blen
  split
  · omega
  · rename_i h0
    have := Nat.log2_lt h0 |>.2 h
    omega
theorem blen_le {x : Nat} : x < 2 ^ blen x := by
  unfold blen
  split
  · omega
  · exact Nat.lt_log2_self
theorem blen_ge {x : Nat} (h : x ≠ 0) : 2 ^ (blen x - 1) ≤ x := by
  unfold blen
  rw [if_neg h]
  exact Nat.log2_self_le h
theorem len64_spec {x : Nat} (hx : x < 18446744073709551616) :
    Spec (cx V) 270 #[.int .u64 x] [] [] (fun _ : Unit => .int .i64 (blen x : Nat)) (fun _ => []) (fun _ => True) := by
  refine Spec.enter Tryz.func270 rfl Tryz.ntmps270 (by simp) [(0, .int .u64 x)] (by simp) ?_
  intro X hR
  try simp only [apC, apN]
  refine G.seq (G.region (J.assign rfl rfl (J.nil (G.seq (G.seq (G.region (J.move rfl rfl ?_)))))))
  (first | refine J.geN rfl rfl rfl ?_ | refine J.geZ rfl rfl rfl ?_)
  refine J.nil ?_
  refine G.cut (σ := Nat × Nat) (fun s => s.1 < 4294967296 ∧ blen x = s.2 + blen s.1 ∧ s.2 ≤ 32) (fun s => [(0, .int .u64 (s.1 : Nat)), (2, .int .i64 (s.2 : Nat))]) (fun _ => []) (fun hk => ?_) ?_
  · skip
    refine G.condP rfl (fun h => ?_) (fun h => ?_)
    · refine G.seq ?_
      refine G.region (J.move rfl rfl (J.shrU rfl rfl rfl (by omega) (J.assign rfl rfl (J.nil (G.region (J.assign rfl rfl (J.nil ?_)))))))
      exact G.wl (hk (x / 2 ^ 32, 32) ⟨by omega, blen_div (n := 32) h, by simp⟩)
    · refine G.skip ?_
      exact G.wl (hk (x, 0) ⟨by omega, by simp, by simp⟩)
  rintro ⟨x1, n1⟩ ⟨hx1, hb1, hn1⟩
  simp only at hx1 hb1 hn1 ⊢
  refine G.seq (G.seq (G.region (J.move rfl rfl ?_)))
  (first | refine J.geN rfl rfl rfl ?_ | refine J.geZ rfl rfl rfl ?_)
  refine J.nil ?_
  refine G.cut (σ := Nat × Nat) (fun s => s.1 < 65536 ∧ blen x = s.2 + blen s.1 ∧ s.2 ≤ 48) (fun s => [(0, .int .u64 (s.1 : Nat)), (2, .int .i64 (s.2 : Nat))]) (fun _ => []) (fun hk => ?_) ?_
  · skip
    refine G.condP rfl (fun h => ?_) (fun h => ?_)
    · refine G.seq ?_
      refine G.region (J.move rfl rfl (J.shrU rfl rfl rfl (by omega) (J.assign rfl rfl (J.nil (G.region (J.move rfl rfl ?_))))))
      (first | refine J.addI rfl rfl rfl (by omega) ?_ | refine J.addZ rfl rfl rfl (by omega) (by omega) ?_)
      refine J.assign rfl rfl (J.nil ?_)
      exact G.wl (hk (x1 / 2 ^ 16, n1 + 16) ⟨by omega, by have e := blen_div (n := 16) h; simp only; rw [hb1, e, Nat.add_assoc], by simp; omega⟩)
    · refine G.skip ?_
      exact G.wl (hk (x1, n1) ⟨by omega, by simpa using hb1, by simp; omega⟩)
  rintro ⟨x2, n2⟩ ⟨hx2, hb2, hn2⟩
  simp only at hx2 hb2 hn2 ⊢
  refine G.seq (G.seq (G.region (J.move rfl rfl ?_)))
  (first | refine J.geN rfl rfl rfl ?_ | refine J.geZ rfl rfl rfl ?_)
  refine J.nil ?_
  refine G.cut (σ := Nat × Nat) (fun s => s.1 < 256 ∧ blen x = s.2 + blen s.1 ∧ s.2 ≤ 56) (fun s => [(0, .int .u64 (s.1 : Nat)), (2, .int .i64 (s.2 : Nat))]) (fun _ => []) (fun hk => ?_) ?_
  · skip
    refine G.condP rfl (fun h => ?_) (fun h => ?_)
    · refine G.seq ?_
      refine G.region (J.move rfl rfl (J.shrU rfl rfl rfl (by omega) (J.assign rfl rfl (J.nil (G.region (J.move rfl rfl ?_))))))
      (first | refine J.addI rfl rfl rfl (by omega) ?_ | refine J.addZ rfl rfl rfl (by omega) (by omega) ?_)
      refine J.assign rfl rfl (J.nil ?_)
      exact G.wl (hk (x2 / 2 ^ 8, n2 + 8) ⟨by omega, by have e := blen_div (n := 8) h; simp only; rw [hb2, e, Nat.add_assoc], by simp; omega⟩)
    · refine G.skip ?_
      exact G.wl (hk (x2, n2) ⟨by omega, by simpa using hb2, by simp; omega⟩)
  rintro ⟨x3, n3⟩ ⟨hx3, hb3, hn3⟩
  simp only at hx3 hb3 hn3 ⊢
  refine G.seq (G.region (J.move rfl rfl (J.move rfl rfl (J.convN rfl rfl (by exact hx3) (J.strAt (c := UInt8.ofNat (blen x3)) rfl rfl rfl (by revert hx3; clear hb3; revert x3; decide) ?_)))))
  have hb8 : blen x3 ≤ 8 := blen_lt (n := 8) hx3
  have hu : (UInt8.ofNat (blen x3)).toNat = blen x3 := by simp; omega
  rw [hu]
  refine J.convN rfl rfl (by show _ < _; omega) ?_
  (first | refine J.addI rfl rfl rfl (by omega) ?_ | refine J.addZ rfl rfl rfl (by omega) (by omega) ?_)
  refine J.assign rfl rfl (J.nil (G.prune [2] rfl ?_))
  rw [← hb3]
  refine G.ret (hR _) ?_
  exact GL.done (()) rfl rfl (trivial) rfl [] rfl (by decide) (by simp)
theorem len_spec {x : Nat} (hx : x < 18446744073709551616) :
    Spec (cx V) 245 #[.int .u64 x] [] [] (fun _ : Unit => .int .i64 (blen x : Nat)) (fun _ => []) (fun _ => True) := by
  refine Spec.enter Tryz.func245 rfl Tryz.ntmps245 (by simp) [(0, .int .u64 x)] (by simp) ?_
  intro X hR
  try simp only [apC, apN]
  refine G.seq (G.region (J.assign rfl rfl (J.nil (G.seq (G.cF rfl (G.skip (G.seq (G.region ?_))))))))
  refine J.move rfl rfl (J.eff (E.callP (len64_spec hx) [] [] rfl rfl rfl rfl rfl) rfl fun _ _ => ?_)
  try simp only [apC, apN]
  refine J.assign rfl rfl (J.nil (G.ret (hR _) ?_))
  exact GL.done (()) rfl rfl (trivial) rfl [] rfl (by decide) (by simp)
theorem lz64_spec {x : Nat} (hx : x < 18446744073709551616) :
    Spec (cx V) 277 #[.int .u64 x] [] [] (fun _ : Unit => .int .i64 ((64 - blen x : Nat) : Int)) (fun _ => []) (fun _ => True) := by
  have hb : blen x ≤ 64 := blen_lt hx
  refine Spec.enter Tryz.func277 rfl Tryz.ntmps277 (by simp) [(0, .int .u64 x)] (by simp) ?_
  intro X hR
  try simp only [apC, apN]
  refine G.seq (G.region (J.assign rfl rfl (J.nil (G.seq (G.region (J.move rfl rfl (J.eff (E.callP (len64_spec hx) [] [] rfl rfl rfl rfl rfl) rfl fun _ _ => ?_)))))))
  try simp only [apC, apN]
  (first | refine J.subI rfl rfl rfl (by omega) (by omega) ?_ | refine J.subZ rfl rfl rfl (by omega) (by omega) ?_)
  refine J.assign rfl rfl (J.nil (G.prune [2] rfl (G.ret (hR _) ?_)))
  exact GL.done (()) rfl rfl (trivial) rfl [] rfl (by decide) (by simp)
theorem lz_spec {x : Nat} (hx : x < 18446744073709551616) :
    Spec (cx V) 208 #[.int .u64 x] [] [] (fun _ : Unit => .int .i64 ((64 - blen x : Nat) : Int)) (fun _ => []) (fun _ => True) := by
  have hb : blen x ≤ 64 := blen_lt hx
  refine Spec.enter Tryz.func208 rfl Tryz.ntmps208 (by simp) [(0, .int .u64 x)] (by simp) ?_
  intro X hR
  try simp only [apC, apN]
  refine G.seq (G.region (J.assign rfl rfl (J.nil (G.seq (G.region (J.move rfl rfl (J.eff (E.callP (len_spec hx) [] [] rfl rfl rfl rfl rfl) rfl fun _ _ => ?_)))))))
  try simp only [apC, apN]
  (first | refine J.subI rfl rfl rfl (by omega) (by omega) ?_ | refine J.subZ rfl rfl rfl (by omega) (by omega) ?_)
  refine J.assign rfl rfl (J.nil (G.prune [2] rfl (G.ret (hR _) ?_)))
  exact GL.done (()) rfl rfl (trivial) rfl [] rfl (by decide) (by simp)
theorem nlz_spec {x : Nat} (hx : x < 18446744073709551616) :
    Spec (cx V) 153 #[.int .u64 x] [] [] (fun _ : Unit => .int .u64 ((64 - blen x : Nat) : Int)) (fun _ => []) (fun _ => True) := by
  refine Spec.enter Tryz.func153 rfl Tryz.ntmps153 (by simp) [(0, .int .u64 x)] (by simp) ?_
  intro X hR
  try simp only [apC, apN]
  refine G.seq (G.region (J.assign rfl rfl (J.nil (G.seq (G.region (J.move rfl rfl (J.eff (E.callP (lz_spec hx) [] [] rfl rfl rfl rfl rfl) rfl fun _ _ => ?_)))))))
  try simp only [apC, apN]
  refine J.convN rfl rfl (by show _ < _; omega) (J.assign rfl rfl (J.nil (G.prune [2] rfl (G.ret (hR _) ?_))))
  exact GL.done (()) rfl rfl (trivial) rfl [] rfl (by decide) (by simp)
end
section
set_option maxRecDepth 100000
set_option pp.deepTerms false
variable {V : Addr}
structure Dig (u w y y1 y0 q r : Nat) : Prop where
  e : u = q * y1 + r
  ge : (u * 4294967296 + w) / y ≤ q
  le : q ≤ 4294967297
theorem dig_lt {u w y : Nat} (hu : u < y) (hw : w < 4294967296) : (u * 4294967296 + w) / y < 4294967296 := by
  rw [Nat.div_lt_iff_lt_mul (by omega)]
  have : (u + 1) * 4294967296 ≤ y * 4294967296 := Nat.mul_le_mul_right _ hu
  rw [Nat.mul_comm 4294967296 y]
  omega
theorem dig0 {u w y y1 y0 : Nat} (hy : y = y1 * 4294967296 + y0) (h0 : y0 < 4294967296) (h1 : 2147483648 ≤ y1) (hu : u < y) (hw : w < 4294967296) :
    Dig u w y y1 y0 (u / y1) (u % y1) := by
  have hdm := Nat.div_add_mod u y1
  refine ⟨by rw [Nat.mul_comm]; exact hdm.symm, ?_, ?_⟩
  · rw [Nat.le_div_iff_mul_le (by omega)]
    have h := Nat.div_mul_le_self (u * 4294967296 + w) y
    generalize (u * 4294967296 + w) / y = q at *
    rw [hy, Nat.mul_add, ← Nat.mul_assoc] at h
    generalize q * y1 = p at *
    generalize q * y0 = p2 at *
    omega
  · have : u / y1 < 4294967298 := by
      rw [Nat.div_lt_iff_lt_mul (by omega)]
      omega
    omega
theorem dig_done {u w y y1 y0 q r : Nat} (h : Dig u w y y1 y0 q r) (hy : y = y1 * 4294967296 + y0) (hy0 : 0 < y) (hc : q * y0 ≤ 4294967296 * r + w) : q = (u * 4294967296 + w) / y := by
  refine Nat.le_antisymm ?_ h.ge
  rw [Nat.le_div_iff_mul_le hy0, hy, Nat.mul_add, ← Nat.mul_assoc, h.e, Nat.add_mul]
  omega
theorem dig_big {u w y y1 y0 q r : Nat} (h : Dig u w y y1 y0 q r) (hy : y = y1 * 4294967296 + y0) (hy0 : 0 < y) (h0 : y0 < 4294967296) (hq : q ≤ 4294967296) (hr : 4294967296 ≤ r) : q = (u * 4294967296 + w) / y := by
  refine dig_done h hy hy0 ?_
  have : q * y0 ≤ 4294967296 * y0 := Nat.mul_le_mul_right _ hq
  have : 4294967296 * y0 ≤ 4294967296 * r := Nat.mul_le_mul_left _ (by omega)
  omega
theorem dig_step {u w y y1 y0 q r : Nat} (h : Dig u w y y1 y0 q r) (hy : y = y1 * 4294967296 + y0) (hu : u < y) (hw : w < 4294967296) (hc : 4294967296 ≤ q ∨ 4294967296 * r + w < q * y0) : 0 < q ∧ Dig u w y y1 y0 (q - 1) (r + y1) := by
  have hlt := dig_lt hu hw
  have hgt : (u * 4294967296 + w) / y < q := by
    rcases hc with hc | hc
    · omega
    · rw [Nat.div_lt_iff_lt_mul (by omega), h.e, hy, Nat.mul_add, ← Nat.mul_assoc, Nat.add_mul]
      omega
  have hle := h.le
  obtain ⟨z, hz⟩ : ∃ z, z = (u * 4294967296 + w) / y := ⟨_, rfl⟩
  rw [← hz] at hgt
  have hq : 0 < q := by omega
  refine ⟨hq, ?_, by rw [← hz]; omega, by omega⟩
  obtain ⟨p, rfl⟩ : ∃ p, q = p + 1 := ⟨q - 1, by omega⟩
  rw [h.e, Nat.add_sub_cancel, Nat.add_mul]
  omega
theorem dig_rest {u w y q : Nat} (hq : q = (u * 4294967296 + w) / y) (hy : 0 < y) (hyW : y < 18446744073709551616) (v a b : Nat) (ha : a = u * 4294967296 % 18446744073709551616) (hv : v = (a + w) % 18446744073709551616) (hb : b = q * y % 18446744073709551616) :
    (v + (18446744073709551616 - b)) % 18446744073709551616 = (u * 4294967296 + w) % y := by
  have h1 := Nat.div_add_mod (u * 4294967296 + w) y
  have h2 := Nat.mod_lt (u * 4294967296 + w) hy
  rw [← hq, Nat.mul_comm] at h1
  obtain ⟨r, hr⟩ : ∃ r, r = (u * 4294967296 + w) % y := ⟨_, rfl⟩
  obtain ⟨p, hp⟩ : ∃ p, p = q * y := ⟨_, rfl⟩
  rw [← hr] at h1 h2 ⊢
  rw [← hp] at h1 hb
  clear hr hp hq
  omega
theorem div64_law {hi lo y : Nat} (h : hi < y) (hlo : lo < 18446744073709551616) (l1 l0 q1 r1 q0 : Nat) (e1 : l1 = lo / 4294967296) (e0 : l0 = lo % 4294967296) (hq1 : q1 = (hi * 4294967296 + l1) / y) (hr1 : r1 = (hi * 4294967296 + l1) % y) (hq0 : q0 = (r1 * 4294967296 + l0) / y) :
    q1 * 4294967296 + q0 = (hi * 18446744073709551616 + lo) / y ∧ (r1 * 4294967296 + l0) % y = (hi * 18446744073709551616 + lo) % y := by
  have hy : 0 < y := by omega
  have a1 := Nat.div_add_mod (hi * 4294967296 + l1) y
  have a2 := Nat.div_add_mod (r1 * 4294967296 + l0) y
  have a3 := Nat.mod_lt (r1 * 4294967296 + l0) hy
  rw [← hq1, ← hr1] at a1
  rw [← hq0] at a2
  have key : hi * 18446744073709551616 + lo = (r1 * 4294967296 + l0) % y + y * (q1 * 4294967296 + q0) := by
    rw [Nat.mul_add, ← Nat.mul_assoc]
    obtain ⟨r, hr⟩ : ∃ r, r = (r1 * 4294967296 + l0) % y := ⟨_, rfl⟩
    obtain ⟨p1, hp1⟩ : ∃ p, p = y * q1 := ⟨_, rfl⟩
    obtain ⟨p0, hp0⟩ : ∃ p, p = y * q0 := ⟨_, rfl⟩
    rw [← hr] at a2 ⊢
    rw [← hp1] at a1 ⊢
    rw [← hp0] at a2 ⊢
    clear hr hp1 hp0 hq1 hr1 hq0 a3
    omega
  rw [key]
  constructor
  · rw [Nat.add_mul_div_left _ _ hy, Nat.div_eq_of_lt a3, Nat.zero_add]
  · rw [Nat.add_mul_mod_self_left, Nat.mod_mod]
theorem blen_top {y : Nat} (h : 9223372036854775808 ≤ y) (h' : y < 18446744073709551616) : blen y = 64 := by
  have h1 := blen_lt (x := y) (n := 64) h'
  have h2 := blen_le (x := y)
  rcases Nat.lt_or_ge (blen y) 64 with h3 | h3
  · have : 2 ^ blen y ≤ 2 ^ 63 := Nat.pow_le_pow_right (by decide) (by omega)
    omega
  · omega
theorem rem_law {a d q p r : Nat} (ha : a < 18446744073709551616) (hd : 0 < d) (h1 : q = a / d) (h2 : p = q * d % 18446744073709551616) (h3 : r = (a + (18446744073709551616 - p)) % 18446744073709551616) : a % d = r := by
  have h4 := Nat.div_add_mod a d
  have h5 := Nat.mod_lt a hd
  rw [← h1, Nat.mul_comm] at h4
  obtain ⟨z, hz⟩ : ∃ z, z = q * d := ⟨_, rfl⟩
  rw [← hz] at h2 h4
  obtain ⟨y, hy⟩ : ∃ y, y = a % d := ⟨_, rfl⟩
  rw [← hy] at h4 h5 ⊢
  clear hz hy h1
  omega
theorem div64_spec {hi lo y : Nat} (h : hi < y) (hlo : lo < 18446744073709551616) (hy : 9223372036854775808 ≤ y) (hyW : y < 18446744073709551616) :
    Spec (cx V) 273 #[.int .u64 hi, .int .u64 lo, .int .u64 y] [] [] (fun _ : Unit => .tuple #[.int .u64 (((hi * 18446744073709551616 + lo) / y : Nat) : Int), .int .u64 (((hi * 18446744073709551616 + lo) % y : Nat) : Int)]) (fun _ => []) (fun _ => True) := by
  refine Spec.enter Tryz.func273 rfl Tryz.ntmps273 (by simp) [(0, .int .u64 hi), (1, .int .u64 lo), (2, .int .u64 y)] (by simp) ?_
  intro X hR
  try simp only [apC, apN]
  refine G.seq (G.region (J.assign rfl rfl (J.assign rfl rfl (J.nil (G.seq (G.seq (G.region (J.move rfl rfl ?_))))))))
  (first | refine J.eqN rfl rfl rfl ?_ | refine J.eqZ rfl rfl rfl ?_)
  refine J.nil (G.cF rfl (G.skip (G.seq (G.seq (G.region (J.move rfl rfl (J.move rfl rfl ?_)))))))
  (first | refine J.leN rfl rfl rfl ?_ | refine J.leZ rfl rfl rfl ?_)
  refine J.nil (G.cF rfl (G.skip (G.seq (G.seq (G.region (J.move rfl rfl ?_))))))
  (first | refine J.eqN rfl rfl rfl ?_ | refine J.eqZ rfl rfl rfl ?_)
  refine J.nil ?_
  refine G.condP rfl (fun h0 => ?_) (fun h0 => ?_)
  · subst h0
    simp only [Nat.zero_mul, Nat.zero_add] at hR
    refine G.seq (G.regionS [0, 1, 2, 3, 4, 5, 6, 7] none none [] (by kernel_rfl) (SubH.of [] rfl) rfl (J.move rfl rfl (J.move rfl rfl (J.quoU rfl rfl rfl (by omega) (by omega) (J.move rfl rfl (J.move rfl rfl (J.remN rfl rfl rfl (by omega) (J.assign rfl rfl ?_))))))))
    refine J.assign rfl rfl (J.nil (G.prune [0, 1, 2, 6, 7, 17, 18] rfl (G.ret (hR _) ?_)))
    exact GL.done (()) rfl rfl (trivial) rfl [] rfl (by decide) (by simp)
  · refine G.skip ?_
    refine G.seq (G.region (J.move rfl rfl (J.eff (E.callP (lz64_spec hyW) [] [] rfl rfl rfl rfl rfl) rfl fun _ _ => ?_)))
    try simp only [apC, apN]
    rw [blen_top hy hyW]
    refine J.convN rfl rfl (by show _ < _; decide) (J.assign rfl rfl (J.nil (G.prune [0, 1, 2, 6, 7, 8, 17, 18] rfl (G.seq (G.region (J.move rfl rfl (J.move rfl rfl (J.shlA rfl rfl rfl  fun v39 h39 b39 => ?_))))))))
    refine J.assign rfl rfl (J.nil (G.prune [0, 1, 2, 6, 7, 8, 17, 18] rfl (G.seq (G.region (J.move rfl rfl (J.shrA rfl rfl rfl (by first | assumption | decide | omega) fun v41 h41 b41 => J.assign rfl rfl (J.nil ?_)))))))
    refine G.seq (G.region (J.move rfl rfl (J.andA rfl rfl rfl (by first | assumption | decide | omega) (by first | assumption | decide | omega) fun v43 h43 b43 => J.assign rfl rfl (J.nil (G.seq (G.region (J.move rfl rfl ?_)))))))
    refine J.move rfl rfl (J.shlA rfl rfl rfl  fun v46 h46 b46 => J.move rfl rfl (J.move rfl rfl (J.subA rfl rfl rfl (by first | assumption | decide | omega) fun v49 h49 b49 => J.shrA rfl rfl rfl (by first | assumption | decide | omega) fun v50 h50 b50 => J.orA rfl rfl rfl (by first | assumption | decide | omega) (by first | assumption | decide | omega) fun v51 h51 b51 => J.assign rfl rfl (J.nil ?_))))
    refine G.prune [0, 1, 2, 6, 7, 8, 9, 10, 11, 17, 18] rfl (G.seq (G.region (J.move rfl rfl (J.move rfl rfl (J.shlA rfl rfl rfl  fun v54 h54 b54 => J.assign rfl rfl (J.nil (G.prune [0, 1, 2, 6, 7, 8, 9, 10, 11, 12, 17, 18] rfl ?_)))))))
    refine G.seq (G.region (J.move rfl rfl (J.shrA rfl rfl rfl (by first | assumption | decide | omega) fun v56 h56 b56 => J.assign rfl rfl (J.nil (G.seq (G.region (J.move rfl rfl ?_)))))))
    refine J.andA rfl rfl rfl (by first | assumption | decide | omega) (by first | assumption | decide | omega) fun v58 h58 b58 => J.assign rfl rfl (J.nil (G.seq (G.region (J.move rfl rfl (J.move rfl rfl (J.quoA rfl rfl rfl (by omega) (by first | assumption | decide | omega) fun v61 h61 b61 => J.assign rfl rfl ?_))))))
    refine J.nil (G.prune [0, 1, 2, 6, 7, 8, 9, 10, 11, 12, 13, 14, 15, 17, 18] rfl (G.seq (G.region (J.move rfl rfl (J.move rfl rfl (J.move rfl rfl (J.mulA rfl rfl rfl  fun v65 h65 b65 => J.subA rfl rfl rfl (by first | assumption | decide | omega) fun v66 h66 b66 => ?_)))))))
    refine J.assign rfl rfl (J.nil (G.prune [0, 1, 2, 6, 7, 8, 9, 10, 11, 12, 13, 14, 15, 16, 17, 18] rfl (G.seq ?_)))
    rw [and32] at h43 h58
    have e39 : y = v39 := by omega
    have e46 : hi = v46 := by omega
    have e49 : v49 = 64 := by omega
    have e50 : v50 = 0 := by rw [h50, e49]; exact Nat.div_eq_of_lt hlo
    have e51 : hi = v51 := by rw [h51, ← e46, e50]; simp
    have e54 : lo = v54 := by omega
    rw [← e39] at h41 h43
    rw [← e54] at h56 h58
    rw [← e51] at h61 h66
    subst e39 e46 e51 e54
    clear h39 h46 h49 h50 h51 h54 e49 e50 b46 b49 b50 b51 b54 v50 v49
    have ey : y = v41 * 4294967296 + v43 := by omega
    have hy0 : 0 < y := by omega
    have v43B : v43 < 4294967296 := by omega
    have v41B : 2147483648 ≤ v41 := by omega
    have v56B : v56 < 4294967296 := by omega
    have v58B : v58 < 4294967296 := by omega
    have hdig := dig0 (w := v56) ey v43B v41B h v56B
    have hr0 : hi % v41 < 4294967296 := Nat.lt_trans (Nat.mod_lt _ (by omega)) (by omega)
    have e66 : hi % v41 = v66 := rem_law (by omega) (by omega) h61 h65 h66
    rw [e66, ← h61] at hdig
    rw [e66] at hr0
    refine G.cut (σ := Nat) (fun q => q = (hi * 4294967296 + v56) / y) (fun q => [(15, .int .u64 (q : Nat)), (2, .int .u64 (y : Nat)), (8, .int .u64 ((64 - 64 : Nat) : Int)), (9, .int .u64 (v41 : Nat)), (10, .int .u64 (v43 : Nat)), (11, .int .u64 (hi : Nat)), (13, .int .u64 (v56 : Nat)), (14, .int .u64 (v58 : Nat))]) (fun _ => []) (fun hk => ?_) ?_
    · skip
      refine G.block ?_
      refine G.loopW (σ := {s : Nat × Nat // Dig hi v56 y v41 v43 s.1 s.2 ∧ s.2 < 4294967296}) (fun s => [(15, .int .u64 (s.1.1 : Nat)), (16, .int .u64 (s.1.2 : Nat)), (2, .int .u64 (y : Nat)), (8, .int .u64 ((64 - 64 : Nat) : Int)), (9, .int .u64 (v41 : Nat)), (10, .int .u64 (v43 : Nat)), (11, .int .u64 (hi : Nat)), (13, .int .u64 (v56 : Nat)), (14, .int .u64 (v58 : Nat))]) (fun _ => []) (fun s => s.1.1) ⟨(v61, v66), hdig, hr0⟩ (by repeat (first | exact SubSlots.nil _ | refine SubSlots.cons rfl ?_)) [] rfl (by decide) ?_
      rintro ⟨⟨q, r⟩, hd, hr⟩ ih
      simp only at ih hd hr ⊢
      have hq2 := hd.le
      have hq3 : q < 18446744073709551616 := by omega
      have hr3 : r < 18446744073709551616 := by omega
      refine G.seq (G.seq (G.region (J.move rfl rfl ?_)))
      (first | refine J.geN rfl rfl rfl ?_ | refine J.geZ rfl rfl rfl ?_)
      refine J.move rfl rfl ?_
      by_cases hqB : 4294967296 ≤ q
      · refine J.sk rfl rfl rfl rfl ?_
        refine J.sk rfl rfl rfl rfl (J.sk rfl rfl rfl rfl (J.sk rfl rfl rfl rfl (J.sk rfl rfl rfl rfl (J.sk rfl rfl rfl rfl (J.sk rfl rfl rfl rfl (J.sk rfl rfl rfl rfl (J.pT rfl rfl rfl (J.nil ?_))))))))
        refine G.prune [0, 1, 2, 6, 7, 8, 9, 10, 11, 12, 13, 14, 15, 16, 17, 18, 78] rfl (G.cT rfl (G.skip (G.block (G.seq (G.region (J.move rfl rfl (J.subA rfl rfl rfl (by first | assumption | decide | omega) fun v80 h80 b80 => J.assign rfl rfl ?_)))))))
        refine J.nil (G.seq (G.region (J.move rfl rfl (J.move rfl rfl (J.addA rfl rfl rfl  fun v83 h83 b83 => J.assign rfl rfl (J.nil (G.prune [0, 1, 2, 6, 7, 8, 9, 10, 11, 12, 13, 14, 15, 16, 17, 18] rfl ?_)))))))
        refine G.seq (G.region (J.move rfl rfl ?_))
        (first | refine J.geN rfl rfl rfl ?_ | refine J.geZ rfl rfl rfl ?_)
        refine J.nil ?_
        obtain ⟨hq0, hd'⟩ := dig_step hd ey h v56B (.inl hqB)
        have e1 : v80 = q - 1 := by omega
        have e2 : v83 = r + v41 := by omega
        subst e1 e2
        refine G.condP rfl (fun hc => ?_) (fun hc => ?_)
        · refine G.exit rfl ?_
          exact G.wl (hk (q - 1) (dig_big hd' ey hy0 v43B (by omega) hc))
        · refine G.skip ?_
          refine G.inBlock ?_
          exact G.wk [] (ih ⟨(q - 1, r + v41), hd', by simp only; omega⟩ (by simp only; omega))
      · skip
        refine J.wF rfl rfl (J.move rfl rfl (J.wF rfl rfl (J.move rfl rfl (J.wF rfl rfl (J.mulA rfl rfl rfl  fun v72 h72 b72 => J.wF rfl rfl (J.move rfl rfl (J.wF rfl rfl ?_)))))))
        refine J.mulA rfl rfl rfl  fun v74 h74 b74 => J.wF rfl rfl (J.move rfl rfl (J.wF rfl rfl (J.addA rfl rfl rfl  fun v76 h76 b76 => J.wF rfl rfl ?_)))
        (first | refine J.gtN rfl rfl rfl ?_ | refine J.gtZ rfl rfl rfl ?_)
        refine J.pF rfl rfl rfl (J.nil (G.prune [0, 1, 2, 6, 7, 8, 9, 10, 11, 12, 13, 14, 15, 16, 17, 18, 78] rfl ?_))
        have hqy : q * v43 ≤ 4294967295 * 4294967295 := Nat.mul_le_mul (by omega) (by omega)
        have e3 : v72 = q * v43 := by omega
        have e4 : v76 = 4294967296 * r + v56 := by omega
        rw [e3, e4]
        refine G.condP rfl (fun hc => ?_) (fun hc => ?_)
        · refine G.skip ?_
          refine G.block (G.seq (G.region (J.move rfl rfl (J.subA rfl rfl rfl (by first | assumption | decide | omega) fun v80 h80 b80 => J.assign rfl rfl (J.nil (G.seq (G.region ?_)))))))
          refine J.move rfl rfl (J.move rfl rfl (J.addA rfl rfl rfl  fun v83 h83 b83 => J.assign rfl rfl (J.nil (G.prune [0, 1, 2, 6, 7, 8, 9, 10, 11, 12, 13, 14, 15, 16, 17, 18] rfl (G.seq (G.region (J.move rfl rfl ?_)))))))
          (first | refine J.geN rfl rfl rfl ?_ | refine J.geZ rfl rfl rfl ?_)
          refine J.nil ?_
          obtain ⟨hq0, hd'⟩ := dig_step hd ey h v56B (.inr hc)
          have e1 : v80 = q - 1 := by omega
          have e2 : v83 = r + v41 := by omega
          subst e1 e2
          refine G.condP rfl (fun hc2 => ?_) (fun hc2 => ?_)
          · refine G.exit rfl ?_
            exact G.wl (hk (q - 1) (dig_big hd' ey hy0 v43B (by omega) hc2))
          · refine G.skip ?_
            refine G.inBlock ?_
            exact G.wk [] (ih ⟨(q - 1, r + v41), hd', by simp only; omega⟩ (by simp only; omega))
        · refine G.exit rfl ?_
          exact G.wl (hk q (dig_done hd ey hy0 (by omega)))
    rintro q1 hq1
    refine G.seq (G.region (J.move rfl rfl (J.mulA rfl rfl rfl  fun v87 h87 b87 => J.move rfl rfl (J.addA rfl rfl rfl  fun v89 h89 b89 => J.move rfl rfl (J.move rfl rfl (J.mulA rfl rfl rfl  fun v92 h92 b92 => ?_))))))
    refine J.subA rfl rfl rfl (by first | assumption | decide | omega) fun v93 h93 b93 => J.assign rfl rfl (J.nil (G.prune [0, 1, 2, 6, 7, 8, 9, 10, 11, 12, 13, 14, 15, 17] rfl (G.seq (G.region (J.move rfl rfl (J.move rfl rfl (J.quoA rfl rfl rfl (by omega) (by first | assumption | decide | omega) fun v96 h96 b96 => ?_)))))))
    refine J.assign rfl rfl (J.nil (G.prune [0, 1, 2, 6, 7, 8, 9, 10, 11, 12, 13, 14, 15, 17, 18] rfl (G.seq (G.region (J.move rfl rfl (J.move rfl rfl (J.move rfl rfl (J.mulA rfl rfl rfl  fun v100 h100 b100 => ?_))))))))
    refine J.subA rfl rfl rfl (by first | assumption | decide | omega) fun v101 h101 b101 => J.assign rfl rfl (J.nil (G.prune [0, 1, 2, 6, 7, 8, 9, 10, 11, 12, 13, 14, 15, 16, 17, 18] rfl (G.seq ?_)))
    have e93 := dig_rest hq1 hy0 hyW v89 v87 v92 h87 h89 h92
    rw [← h93] at e93
    have h93' : v93 < y := by rw [e93]; exact Nat.mod_lt _ hy0
    have hdig2 := dig0 (w := v58) ey v43B v41B h93' v58B
    have hr02 : v93 % v41 < 4294967296 := Nat.lt_trans (Nat.mod_lt _ (by omega)) (by omega)
    have e101 : v93 % v41 = v101 := rem_law b93 (by omega) h96 h100 h101
    rw [e101, ← h96] at hdig2
    rw [e101] at hr02
    have h93 := h93'
    refine G.cut (σ := Nat) (fun q => q = (v93 * 4294967296 + v58) / y) (fun q => [(18, .int .u64 (q : Nat)), (2, .int .u64 (y : Nat)), (8, .int .u64 ((64 - 64 : Nat) : Int)), (9, .int .u64 (v41 : Nat)), (10, .int .u64 (v43 : Nat)), (15, .int .u64 (q1 : Nat)), (17, .int .u64 (v93 : Nat)), (14, .int .u64 (v58 : Nat))]) (fun _ => []) (fun hk => ?_) ?_
    · skip
      refine G.block ?_
      refine G.loopW (σ := {s : Nat × Nat // Dig v93 v58 y v41 v43 s.1 s.2 ∧ s.2 < 4294967296}) (fun s => [(18, .int .u64 (s.1.1 : Nat)), (16, .int .u64 (s.1.2 : Nat)), (2, .int .u64 (y : Nat)), (8, .int .u64 ((64 - 64 : Nat) : Int)), (9, .int .u64 (v41 : Nat)), (10, .int .u64 (v43 : Nat)), (15, .int .u64 (q1 : Nat)), (17, .int .u64 (v93 : Nat)), (14, .int .u64 (v58 : Nat))]) (fun _ => []) (fun s => s.1.1) ⟨(v96, v101), hdig2, hr02⟩ (by repeat (first | exact SubSlots.nil _ | refine SubSlots.cons rfl ?_)) [] rfl (by decide) ?_
      rintro ⟨⟨q, r⟩, hd, hr⟩ ih
      simp only at ih hd hr ⊢
      have hq2 := hd.le
      have hq3 : q < 18446744073709551616 := by omega
      have hr3 : r < 18446744073709551616 := by omega
      refine G.seq (G.seq (G.region (J.move rfl rfl ?_)))
      (first | refine J.geN rfl rfl rfl ?_ | refine J.geZ rfl rfl rfl ?_)
      refine J.move rfl rfl ?_
      by_cases hqB : 4294967296 ≤ q
      · refine J.sk rfl rfl rfl rfl ?_
        refine J.sk rfl rfl rfl rfl (J.sk rfl rfl rfl rfl (J.sk rfl rfl rfl rfl (J.sk rfl rfl rfl rfl (J.sk rfl rfl rfl rfl (J.sk rfl rfl rfl rfl (J.sk rfl rfl rfl rfl (J.pT rfl rfl rfl (J.nil ?_))))))))
        refine G.prune [0, 1, 2, 6, 7, 8, 9, 10, 11, 12, 13, 14, 15, 16, 17, 18, 113] rfl (G.cT rfl (G.skip (G.block (G.seq (G.region (J.move rfl rfl (J.subA rfl rfl rfl (by first | assumption | decide | omega) fun v115 h115 b115 => J.assign rfl rfl ?_)))))))
        refine J.nil (G.seq (G.region (J.move rfl rfl (J.move rfl rfl (J.addA rfl rfl rfl  fun v118 h118 b118 => J.assign rfl rfl (J.nil (G.prune [0, 1, 2, 6, 7, 8, 9, 10, 11, 12, 13, 14, 15, 16, 17, 18] rfl ?_)))))))
        refine G.seq (G.region (J.move rfl rfl ?_))
        (first | refine J.geN rfl rfl rfl ?_ | refine J.geZ rfl rfl rfl ?_)
        refine J.nil ?_
        obtain ⟨hq0, hd'⟩ := dig_step hd ey h93 v58B (.inl hqB)
        have e1 : v115 = q - 1 := by omega
        have e2 : v118 = r + v41 := by omega
        subst e1 e2
        refine G.condP rfl (fun hc => ?_) (fun hc => ?_)
        · refine G.exit rfl ?_
          exact G.wl (hk (q - 1) (dig_big hd' ey hy0 v43B (by omega) hc))
        · refine G.skip ?_
          refine G.inBlock ?_
          exact G.wk [] (ih ⟨(q - 1, r + v41), hd', by simp only; omega⟩ (by simp only; omega))
      · skip
        refine J.wF rfl rfl (J.move rfl rfl (J.wF rfl rfl (J.move rfl rfl (J.wF rfl rfl (J.mulA rfl rfl rfl  fun v107 h107 b107 => J.wF rfl rfl (J.move rfl rfl (J.wF rfl rfl ?_)))))))
        refine J.mulA rfl rfl rfl  fun v109 h109 b109 => J.wF rfl rfl (J.move rfl rfl (J.wF rfl rfl (J.addA rfl rfl rfl  fun v111 h111 b111 => J.wF rfl rfl ?_)))
        (first | refine J.gtN rfl rfl rfl ?_ | refine J.gtZ rfl rfl rfl ?_)
        refine J.pF rfl rfl rfl (J.nil (G.prune [0, 1, 2, 6, 7, 8, 9, 10, 11, 12, 13, 14, 15, 16, 17, 18, 113] rfl ?_))
        have hqy : q * v43 ≤ 4294967295 * 4294967295 := Nat.mul_le_mul (by omega) (by omega)
        have e3 : v107 = q * v43 := by omega
        have e4 : v111 = 4294967296 * r + v58 := by omega
        rw [e3, e4]
        refine G.condP rfl (fun hc => ?_) (fun hc => ?_)
        · refine G.skip ?_
          refine G.block (G.seq (G.region (J.move rfl rfl (J.subA rfl rfl rfl (by first | assumption | decide | omega) fun v115 h115 b115 => J.assign rfl rfl (J.nil (G.seq (G.region ?_)))))))
          refine J.move rfl rfl (J.move rfl rfl (J.addA rfl rfl rfl  fun v118 h118 b118 => J.assign rfl rfl (J.nil (G.prune [0, 1, 2, 6, 7, 8, 9, 10, 11, 12, 13, 14, 15, 16, 17, 18] rfl (G.seq (G.region (J.move rfl rfl ?_)))))))
          (first | refine J.geN rfl rfl rfl ?_ | refine J.geZ rfl rfl rfl ?_)
          refine J.nil ?_
          obtain ⟨hq0, hd'⟩ := dig_step hd ey h93 v58B (.inr hc)
          have e1 : v115 = q - 1 := by omega
          have e2 : v118 = r + v41 := by omega
          subst e1 e2
          refine G.condP rfl (fun hc2 => ?_) (fun hc2 => ?_)
          · refine G.exit rfl ?_
            exact G.wl (hk (q - 1) (dig_big hd' ey hy0 v43B (by omega) hc2))
          · refine G.skip ?_
            refine G.inBlock ?_
            exact G.wk [] (ih ⟨(q - 1, r + v41), hd', by simp only; omega⟩ (by simp only; omega))
        · refine G.exit rfl ?_
          exact G.wl (hk q (dig_done hd ey hy0 (by omega)))
    rintro q0 hq0
    refine G.seq (G.region (J.move rfl rfl (J.mulA rfl rfl rfl  fun v122 h122 b122 => J.move rfl rfl (J.addA rfl rfl rfl  fun v124 h124 b124 => J.move rfl rfl (J.mulA rfl rfl rfl  fun v126 h126 b126 => J.move rfl rfl ?_)))))
    refine J.addA rfl rfl rfl  fun v128 h128 b128 => J.move rfl rfl (J.move rfl rfl (J.mulA rfl rfl rfl  fun v131 h131 b131 => J.subA rfl rfl rfl (by first | assumption | decide | omega) fun v132 h132 b132 => J.move rfl rfl (J.shrA rfl rfl rfl (by first | assumption | decide | omega) fun v134 h134 b134 => J.assign rfl rfl (J.assign rfl rfl ?_))))
    refine J.nil (G.prune [6, 7] rfl ?_)
    have e132 := dig_rest hq0 hy0 hyW v128 v126 v131 h126 h128 h131
    rw [← h132] at e132
    obtain ⟨k1, k2⟩ := div64_law h hlo v56 v58 q1 v93 q0 h56 h58 hq1 e93 hq0
    have e124 : v124 = q1 * 4294967296 + q0 := by
      have : (hi * 18446744073709551616 + lo) / y < 18446744073709551616 := by
        rw [Nat.div_lt_iff_lt_mul hy0]
        have : (hi + 1) * 18446744073709551616 ≤ y * 18446744073709551616 := Nat.mul_le_mul_right _ h
        rw [Nat.mul_comm 18446744073709551616 y]
        omega
      omega
    have e134 : v134 = (hi * 18446744073709551616 + lo) % y := by
      rw [h134, e132, k2]; simp
    rw [e124, k1, e134]
    refine G.ret (hR _) ?_
    exact GL.done (()) rfl rfl (trivial) rfl [] rfl (by decide) (by simp)
end
section
set_option maxRecDepth 100000
set_option pp.deepTerms false
variable {V : Addr}
theorem bitsDiv_spec {hi lo y : Nat} (h : hi < y) (hlo : lo < 18446744073709551616) (hy : 9223372036854775808 ≤ y) (hyW : y < 18446744073709551616) :
    Spec (cx V) 250 #[.int .u64 hi, .int .u64 lo, .int .u64 y] [] [] (fun _ : Unit => .tuple #[.int .u64 (((hi * 18446744073709551616 + lo) / y : Nat) : Int), .int .u64 (((hi * 18446744073709551616 + lo) % y : Nat) : Int)]) (fun _ => []) (fun _ => True) := by
  refine Spec.enter Tryz.func250 rfl Tryz.ntmps250 (by simp) [(0, .int .u64 hi), (1, .int .u64 lo), (2, .int .u64 y)] (by simp) ?_
  intro X hR
  try simp only [apC, apN]
  refine G.seq (G.region (J.assign rfl rfl (J.assign rfl rfl (J.nil (G.seq (G.region (J.move rfl rfl (J.move rfl rfl ?_))))))))
  refine J.move rfl rfl (J.eff (E.callP (div64_spec h hlo hy hyW) [] [] rfl rfl rfl rfl rfl) rfl fun _ _ => ?_)
  try simp only [apC, apN]
  refine J.move rfl rfl (J.extractL rfl rfl rfl (J.extractL rfl rfl rfl (J.assign rfl rfl (J.assign rfl rfl (J.nil (G.prune [6, 7, 8, 9] rfl (G.seq (G.region ?_))))))))
  refine J.move rfl rfl (J.move rfl rfl (J.assign rfl rfl (J.assign rfl rfl (J.nil (G.prune [6, 7] rfl (G.ret (hR _) ?_))))))
  exact GL.done (()) rfl rfl (trivial) rfl [] rfl (by decide) (by simp)
def nrm (d : Nat) : Nat := d * 2 ^ (64 - blen d)
def recip (d : Nat) : Nat := (18446744073709551616 * 18446744073709551616 - 1) / nrm d - 18446744073709551616
theorem nrm_ge {d : Nat} (h : d ≠ 0) (hd : d < 18446744073709551616) : 9223372036854775808 ≤ nrm d ∧ nrm d < 18446744073709551616 := by
  have h1 := blen_ge h
  have h2 := blen_le (x := d)
  have h3 : blen d ≤ 64 := blen_lt (n := 64) hd
  have h4 : 0 < blen d := by unfold blen; rw [if_neg h]; omega
  unfold nrm
  have e1 : 2 ^ (blen d - 1) * 2 ^ (64 - blen d) = 2 ^ 63 := by rw [← Nat.pow_add]; congr 1; omega
  have e2 : 2 ^ blen d * 2 ^ (64 - blen d) = 2 ^ 64 := by rw [← Nat.pow_add]; congr 1; omega
  have hp : 0 < 2 ^ (64 - blen d) := Nat.two_pow_pos _
  have h5 := Nat.mul_le_mul_right (2 ^ (64 - blen d)) h1
  have h6 := Nat.mul_lt_mul_of_pos_right h2 hp
  rw [e1] at h5
  rw [e2] at h6
  exact ⟨h5, h6⟩
theorem recip_law {u : Nat} (h : 9223372036854775808 ≤ u) (hu : u < 18446744073709551616) :
    ((18446744073709551615 - u) * 18446744073709551616 + 18446744073709551615) / u = (18446744073709551616 * 18446744073709551616 - 1) / u - 18446744073709551616 := by
  have e : 18446744073709551616 * 18446744073709551616 - 1 = (18446744073709551615 - u) * 18446744073709551616 + 18446744073709551615 + 18446744073709551616 * u := by omega
  rw [e, Nat.add_mul_div_right _ _ (by omega)]
  exact (Nat.add_sub_cancel ..).symm
theorem recip_spec {d : Nat} (h : d ≠ 0) (hd : d < 18446744073709551616) :
    Spec (cx V) 251 #[.int .u64 d] [] [] (fun _ : Unit => .int .u64 (recip d : Nat)) (fun _ => []) (fun _ => True) := by
  obtain ⟨h1, h2⟩ := nrm_ge h hd
  refine Spec.enter Tryz.func251 rfl Tryz.ntmps251 (by simp) [(0, .int .u64 d)] (by simp) ?_
  intro X hR
  try simp only [apC, apN]
  refine G.seq (G.region (J.assign rfl rfl (J.nil (G.seq (G.region (J.move rfl rfl (J.move rfl rfl (J.eff (E.callP (nlz_spec hd) [] [] rfl rfl rfl rfl rfl) rfl fun _ _ => ?_))))))))
  try simp only [apC, apN]
  refine J.shlU rfl rfl rfl (J.assign rfl rfl (J.nil (G.prune [2, 3] rfl (G.seq (G.region (J.move rfl rfl (J.notU rfl rfl (by omega) (J.assign rfl rfl ?_))))))))
  refine J.nil (G.seq (G.region (J.assign rfl rfl (J.nil (G.seq (G.region (J.move rfl rfl (J.move rfl rfl ?_))))))))
  refine J.move rfl rfl ?_
  have e : d * 2 ^ (64 - blen d) % 18446744073709551616 = nrm d := Nat.mod_eq_of_lt h2
  simp only [e]
  refine J.eff (E.callP (bitsDiv_spec (lo := 18446744073709551615) (by omega) (by decide) h1 h2) [] [] rfl rfl rfl rfl rfl) rfl fun _ _ => ?_
  try simp only [apC, apN]
  refine J.move rfl rfl (J.extractL rfl rfl rfl (J.extractL rfl rfl rfl (J.assign rfl rfl (J.assign rfl rfl (J.nil (G.prune [2, 6] rfl (G.seq (G.region ?_))))))))
  refine J.move rfl rfl (J.assign rfl rfl (J.nil ?_))
  rw [recip_law h1 h2]
  refine G.ret (hR _) ?_
  exact GL.done (()) rfl rfl (trivial) rfl [] rfl (by decide) (by simp)
theorem recip_e {d : Nat} (h1 : 9223372036854775808 ≤ nrm d) (h2 : nrm d < 18446744073709551616) :
    recip d < 18446744073709551616 ∧ ∃ e, 1 ≤ e ∧ e ≤ nrm d ∧ (recip d + 18446744073709551616) * nrm d + e = 18446744073709551616 * 18446744073709551616 := by
  unfold recip
  generalize nrm d = y at *
  have h3 := Nat.div_add_mod (18446744073709551616 * 18446744073709551616 - 1) y
  have h4 := Nat.mod_lt (18446744073709551616 * 18446744073709551616 - 1) (show y > 0 by omega)
  have h5 : 18446744073709551616 ≤ (18446744073709551616 * 18446744073709551616 - 1) / y := by
    rw [Nat.le_div_iff_mul_le (by omega)]; omega
  have h6 : (18446744073709551616 * 18446744073709551616 - 1) / y < 2 * 18446744073709551616 := by
    rw [Nat.div_lt_iff_lt_mul (by omega)]; omega
  obtain ⟨q, hq⟩ : ∃ q, q = (18446744073709551616 * 18446744073709551616 - 1) / y := ⟨_, rfl⟩
  obtain ⟨r, hr⟩ : ∃ r, r = (18446744073709551616 * 18446744073709551616 - 1) % y := ⟨_, rfl⟩
  rw [← hq] at h3 h5 h6 ⊢
  rw [← hr] at h3 h4
  refine ⟨by omega, r + 1, by omega, by omega, ?_⟩
  rw [show q - 18446744073709551616 + 18446744073709551616 = q by omega, Nat.mul_comm q y]
  obtain ⟨z, hz⟩ : ∃ z, z = y * q := ⟨_, rfl⟩
  rw [← hz] at h3 ⊢
  clear hz hq hr h5 h6
  omega
theorem mg_law {x1 x0 y v e : Nat} (hv : v * y + e = 18446744073709551616 * 18446744073709551616) (he1 : 1 ≤ e) (he : e ≤ y) (hy : y < 18446744073709551616) (hx : x1 < y) (hx0 : x0 < 18446744073709551616) :
    ∃ R, (v * x1 + x0) / 18446744073709551616 * y + R = x1 * 18446744073709551616 + x0 ∧ R < 18446744073709551616 + y := by
  obtain ⟨q, hq⟩ : ∃ q, q = (v * x1 + x0) / 18446744073709551616 := ⟨_, rfl⟩
  obtain ⟨f, hf⟩ : ∃ f, f = (v * x1 + x0) % 18446744073709551616 := ⟨_, rfl⟩
  have hqf : q * 18446744073709551616 + f = v * x1 + x0 := by omega
  have hfW : f < 18446744073709551616 := by omega
  rw [← hq]
  clear hq hf
  generalize hW : 18446744073709551616 = W at *
  -- W * (X - q y) = x1 e + x0 (W - y) + y f
  obtain ⟨g, rfl⟩ : ∃ g, W = y + g := ⟨W - y, by omega⟩
  have key : (q * y) * (y + g) + (x1 * e + x0 * g + y * f) = (x1 * (y + g) + x0) * (y + g) := by
    have a1 : (q * y) * (y + g) + y * f = y * (v * x1 + x0) := by rw [← hqf, Nat.mul_add y (q * (y + g)) f, ← Nat.mul_assoc y q, Nat.mul_comm y q]
    have a2 : x1 * (y + g) * (y + g) = x1 * (v * y + e) := by rw [hv, Nat.mul_assoc]
    have a3 : y * (v * x1 + x0) = x1 * (v * y) + y * x0 := by rw [Nat.mul_add]; congr 1; rw [Nat.mul_comm y, Nat.mul_comm v x1, Nat.mul_assoc]
    have a4 : (x1 * (y + g) + x0) * (y + g) = x1 * (y + g) * (y + g) + x0 * (y + g) := Nat.add_mul _ _ _
    have a5 : x0 * (y + g) = y * x0 + x0 * g := by rw [Nat.mul_add, Nat.mul_comm x0 y]
    have a6 : x1 * (v * y + e) = x1 * (v * y) + x1 * e := Nat.mul_add _ _ _
    rw [a4, a2, a5, a6]
    omega
  have hle : q * y ≤ x1 * (y + g) + x0 := by
    have : (q * y) * (y + g) ≤ (x1 * (y + g) + x0) * (y + g) := by omega
    exact Nat.le_of_mul_le_mul_right this (by omega)
  refine ⟨x1 * (y + g) + x0 - q * y, by omega, ?_⟩
  have hR : (x1 * (y + g) + x0 - q * y) * (y + g) = x1 * e + x0 * g + y * f := by
    rw [Nat.sub_mul]; omega
  have b1 : x1 * e ≤ (y - 1) * y := Nat.mul_le_mul (by omega) he
  have b2 : x0 * g ≤ (y + g - 1) * g := Nat.mul_le_mul (by omega) (Nat.le_refl _)
  have b3 : y * f ≤ y * (y + g - 1) := Nat.mul_le_mul (Nat.le_refl _) (by omega)
  refine Nat.lt_of_mul_lt_mul_right (a := y + g) ?_
  rw [hR]
  obtain ⟨p, rfl⟩ : ∃ p, y = p + 1 := ⟨y - 1, by omega⟩
  simp only [Nat.add_sub_cancel, show p + 1 + g - 1 = p + g by omega] at b1 b2 b3
  have c1 : (p + 1 + g + (p + 1)) * (p + 1 + g) = p * (p + 1) + (p + g) * g + (p + 1) * (p + g) + (p + 1 + g) + (p + 1) * (g + 1) := by
    simp only [Nat.add_mul, Nat.mul_add, Nat.mul_one, Nat.one_mul]
    have := Nat.mul_comm p g
    omega
  rw [c1]
  have : 0 < (p + 1) * (g + 1) := Nat.mul_pos (by omega) (by omega)
  omega
theorem shl_law {x1 x0 s : Nat} (hs : s ≤ 64) (hx0 : x0 < 18446744073709551616) (h1 : x1 * 2 ^ s < 18446744073709551616) :
    (x1 * 2 ^ s % 18446744073709551616 ||| x0 / 2 ^ (64 - s)) * 18446744073709551616 + x0 * 2 ^ s % 18446744073709551616 = (x1 * 18446744073709551616 + x0) * 2 ^ s := by
  have e64 : 18446744073709551616 = 2 ^ (64 - s) * 2 ^ s := by rw [← Nat.pow_add, show 64 - s + s = 64 by omega]
  have hlt : x0 / 2 ^ (64 - s) < 2 ^ s := by
    rw [Nat.div_lt_iff_lt_mul (Nat.two_pow_pos _), Nat.mul_comm, ← e64]; exact hx0
  rw [Nat.mod_eq_of_lt h1, Nat.mul_comm x1, ← Nat.two_pow_add_eq_or_of_lt hlt]
  have e : x0 / 2 ^ (64 - s) = x0 * 2 ^ s / 18446744073709551616 := by
    rw [e64, Nat.mul_div_mul_right _ _ (Nat.two_pow_pos _)]
  rw [e, Nat.add_mul (x1 * _), Nat.mul_comm (2 ^ s) x1]
  generalize x0 * 2 ^ s = z
  rw [show x1 * 18446744073709551616 * 2 ^ s = x1 * 2 ^ s * 18446744073709551616 by rw [Nat.mul_right_comm], Nat.add_mul]
  omega
theorem mg_end {X y qq R : Nat} (hy : 9223372036854775808 ≤ y) (hyW : y < 18446744073709551616) (h : qq * y + R = X) (hR : R < 18446744073709551616 + y) :
    (R < y → qq = X / y ∧ R = X % y) ∧ (y ≤ R → R < 18446744073709551616 → qq + 1 = X / y ∧ R - y = X % y) ∧
    (18446744073709551616 ≤ R → R - y < y → qq + 1 = X / y ∧ R - y = X % y) ∧ (18446744073709551616 ≤ R → y ≤ R - y → qq + 2 = X / y ∧ R - y - y = X % y) := by
  have u : ∀ q r, q * y + r = X → r < y → q = X / y ∧ r = X % y := fun q r h1 h2 => by
    rw [← h1, Nat.add_comm]
    constructor
    · rw [Nat.add_mul_div_right _ _ (by omega), Nat.div_eq_of_lt h2, Nat.zero_add]
    · rw [Nat.add_mul_mod_self_right, Nat.mod_eq_of_lt h2]
  refine ⟨fun h1 => u _ _ h h1, fun h1 h2 => u _ _ ?_ (by omega), fun h1 h2 => u _ _ ?_ h2, fun h1 h2 => u _ _ ?_ (by omega)⟩
  all_goals simp only [Nat.add_mul, Nat.one_mul]; omega
theorem mg_qq {m u1 u0 : Nat} : m * u1 / 18446744073709551616 + u1 + (m * u1 % 18446744073709551616 + u0) / 18446744073709551616 = ((m + 18446744073709551616) * u1 + u0) / 18446744073709551616 := by
  rw [Nat.add_mul]
  generalize m * u1 = p
  omega
theorem mg_rest {p u1 u0 R a b : Nat} (h : p + R = u1 * 18446744073709551616 + u0) (hu1 : u1 < 18446744073709551616) (hu0 : u0 < 18446744073709551616) (ha : a = (u0 + 18446744073709551616 - p % 18446744073709551616) % 18446744073709551616) (hb : b = (u1 + 18446744073709551616 - p / 18446744073709551616 - (if u0 < p % 18446744073709551616 then 1 else 0)) % 18446744073709551616) :
    a = R % 18446744073709551616 ∧ b = R / 18446744073709551616 := by
  split at hb <;> omega
theorem divWW_spec {x1 x0 y m : Nat} (h : x1 < y) (hx0 : x0 < 18446744073709551616) (hy : y < 18446744073709551616) (hm : m = recip y) :
    Spec (cx V) 252 #[.int .u64 x1, .int .u64 x0, .int .u64 y, .int .u64 m] [] [] (fun _ : Unit => .tuple #[.int .u64 (((x1 * 18446744073709551616 + x0) / y : Nat) : Int), .int .u64 (((x1 * 18446744073709551616 + x0) % y : Nat) : Int)]) (fun _ => []) (fun _ => True) := by
  obtain ⟨n1, n2⟩ := nrm_ge (d := y) (by omega) hy
  obtain ⟨rc, e, he1, he, hrec⟩ := recip_e n1 n2
  rw [← hm] at rc hrec
  have hb64 : blen y ≤ 64 := blen_lt (n := 64) hy
  obtain ⟨s, hs⟩ : ∃ s, s = 64 - blen y := ⟨_, rfl⟩
  have hn : nrm y = y * 2 ^ s := by rw [hs]; rfl
  have hp : 0 < 2 ^ s := Nat.two_pow_pos _
  have hx1 : x1 * 2 ^ s < y * 2 ^ s := Nat.mul_lt_mul_of_pos_right h hp
  rw [hn] at n1 n2 he hrec
  refine Spec.enter Tryz.func252 rfl Tryz.ntmps252 (by simp) [(0, .int .u64 x1), (1, .int .u64 x0), (2, .int .u64 y), (3, .int .u64 m)] (by simp) ?_
  intro X hR
  try simp only [apC, apN]
  refine G.seq (G.region (J.assign rfl rfl (J.assign rfl rfl (J.nil (G.seq (G.region (J.move rfl rfl (J.eff (E.callP (nlz_spec hy) [] [] rfl rfl rfl rfl rfl) rfl fun _ _ => ?_))))))))
  try simp only [apC, apN]
  refine J.assign rfl rfl (J.nil (G.seq (G.seq (G.region (J.move rfl rfl ?_)))))
  (first | refine J.neN rfl rfl rfl ?_ | refine J.neZ rfl rfl rfl ?_)
  refine J.nil ?_
  rw [← hs]
  refine G.cut (σ := Nat × Nat) (fun t => t.1 * 18446744073709551616 + t.2 = (x1 * 18446744073709551616 + x0) * 2 ^ s ∧ t.2 < 18446744073709551616) (fun t => [(0, .int .u64 (t.1 : Nat)), (1, .int .u64 (t.2 : Nat)), (2, .int .u64 ((y * 2 ^ s : Nat) : Int)), (3, .int .u64 m), (8, .int .u64 0), (9, .int .u64 0), (10, .int .u64 s)]) (fun _ => []) (fun hk => ?_) ?_
  · skip
    refine G.condP rfl (fun hc => ?_) (fun hc => ?_)
    · refine G.seq ?_
      refine G.region (J.move rfl rfl (J.move rfl rfl (J.shlA rfl rfl rfl  fun v29 h29 b29 => J.move rfl rfl (J.move rfl rfl (J.subA rfl rfl rfl (by first | assumption | decide | omega) fun v32 h32 b32 => J.shrA rfl rfl rfl (by first | assumption | decide | omega) fun v33 h33 b33 => J.orA rfl rfl rfl (by first | assumption | decide | omega) (by first | assumption | decide | omega) fun v34 h34 b34 => ?_)))))
      refine J.assign rfl rfl (J.nil (G.prune [0, 1, 2, 3, 8, 9, 10] rfl (G.seq (G.region (J.move rfl rfl (J.move rfl rfl (J.shlA rfl rfl rfl  fun v37 h37 b37 => J.assign rfl rfl ?_)))))))
      refine J.nil (G.prune [0, 1, 2, 3, 8, 9, 10] rfl (G.region (J.move rfl rfl (J.move rfl rfl (J.shlA rfl rfl rfl  fun v40 h40 b40 => J.assign rfl rfl (J.nil (G.prune [0, 1, 2, 3, 8, 9, 10] rfl ?_)))))))
      have hl := shl_law (x1 := x1) (by omega : s ≤ 64) hx0 (by omega)
      have e32 : v32 = 64 - s := by omega
      rw [e32] at h33
      rw [← h33, ← h29, ← h34, ← h37] at hl
      have e40 : v40 = y * 2 ^ s := by omega
      rw [e40]
      exact G.wl (hk (v34, v37) ⟨hl, b37⟩)
    · refine G.skip ?_
      have hs0 : s = 0 := by omega
      have hk' := hk (x1, x0) ⟨by rw [hs0]; simp, hx0⟩
      simp only [hs0, Nat.pow_zero, Nat.mul_one] at hk' ⊢
      exact G.wl hk'
  rintro ⟨u1, u0⟩ ⟨hu, hu0⟩
  simp only at hu hu0 ⊢
  obtain ⟨d, hd⟩ : ∃ d, d = y * 2 ^ s := ⟨_, rfl⟩
  rw [← hd] at n1 n2 he hrec hx1 ⊢
  have hu1 : u1 < d := by
    have h1 : (x1 + 1) * 2 ^ s ≤ d := by rw [hd]; exact Nat.mul_le_mul_right _ h
    have h2 : (x1 * 18446744073709551616 + x0) * 2 ^ s < (x1 + 1) * 18446744073709551616 * 2 ^ s := Nat.mul_lt_mul_of_pos_right (by omega) hp
    have h3 : (x1 + 1) * 18446744073709551616 * 2 ^ s = (x1 + 1) * 2 ^ s * 18446744073709551616 := Nat.mul_right_comm _ _ _
    omega
  obtain ⟨R, hR1, hR2⟩ := mg_law hrec he1 he n2 hu1 hu0
  refine G.seq (G.region (J.move rfl rfl (J.assign rfl rfl (J.nil (G.seq (G.region (J.move rfl rfl (J.move rfl rfl ?_))))))))
  refine J.eff (E.callP (mul_spec rc (by omega : u1 < 18446744073709551616)) [] [] rfl rfl rfl rfl rfl) rfl fun _ _ => ?_
  try simp only [apC, apN]
  refine J.move rfl rfl (J.extractL rfl rfl rfl (J.extractL rfl rfl rfl (J.assign rfl rfl (J.assign rfl rfl (J.nil (G.prune [0, 1, 8, 9, 10, 11, 12, 13] rfl (G.seq (G.region ?_))))))))
  refine J.move rfl rfl (J.move rfl rfl (J.eff (E.callP (add_spec (c := 0) (by omega)) [] [] rfl rfl rfl rfl rfl) rfl fun _ _ => ?_))
  try simp only [apC, apN]
  refine J.move rfl rfl (J.extractL rfl rfl rfl (J.extractL rfl rfl rfl (J.assign rfl rfl (J.assign rfl rfl (J.nil (G.prune [0, 1, 8, 9, 10, 11, 12, 15] rfl (G.seq (G.region ?_))))))))
  refine J.move rfl rfl (J.move rfl rfl (J.move rfl rfl ?_))
  simp only [Nat.add_zero]
  refine J.eff (E.callP (add_spec (by omega)) [] [] rfl rfl rfl rfl rfl) rfl fun _ _ => ?_
  try simp only [apC, apN]
  refine J.move rfl rfl (J.extractL rfl rfl rfl (J.extractL rfl rfl rfl (J.assign rfl rfl (J.nil (G.prune [0, 1, 8, 9, 10, 11, 12] rfl (G.seq (G.region (J.move rfl rfl ?_))))))))
  refine J.assign rfl rfl (J.nil (G.seq (G.region (J.move rfl rfl (J.move rfl rfl ?_)))))
  obtain ⟨qq, hqq⟩ : ∃ q, q = ((m + 18446744073709551616) * u1 + u0) / 18446744073709551616 := ⟨_, rfl⟩
  rw [← hqq] at hR1
  have hqlt : qq < 18446744073709551616 := by
    refine Nat.lt_of_mul_lt_mul_right (a := d) ?_
    have : (u1 + 1) * 18446744073709551616 ≤ d * 18446744073709551616 := Nat.mul_le_mul_right _ hu1
    rw [Nat.mul_comm 18446744073709551616 d]
    omega
  simp only [mg_qq, ← hqq, Nat.mod_eq_of_lt hqlt]
  refine J.eff (E.callP (mul_spec n2 hqlt) [] [] rfl rfl rfl rfl rfl) rfl fun _ _ => ?_
  try simp only [apC, apN]
  refine J.move rfl rfl (J.extractL rfl rfl rfl (J.extractL rfl rfl rfl (J.assign rfl rfl (J.assign rfl rfl (J.nil (G.prune [0, 1, 8, 9, 10, 11, 16, 17, 18] rfl (G.seq (G.region ?_))))))))
  refine J.move rfl rfl (J.move rfl rfl (J.eff (E.callP (sub_spec (b := 0) (by omega)) [] [] rfl rfl rfl rfl rfl) rfl fun _ _ => ?_))
  try simp only [apC, apN]
  refine J.move rfl rfl (J.extractL rfl rfl rfl (J.extractL rfl rfl rfl (J.assign rfl rfl (J.assign rfl rfl (J.nil (G.prune [0, 8, 9, 10, 11, 16, 17, 19, 20] rfl (G.seq (G.region ?_))))))))
  refine J.move rfl rfl (J.move rfl rfl (J.move rfl rfl ?_))
  simp only [Nat.add_zero, Nat.sub_zero]
  refine J.eff (E.callP (sub_spec (by split <;> omega)) [] [] rfl rfl rfl rfl rfl) rfl fun _ _ => ?_
  try simp only [apC, apN]
  refine J.move rfl rfl (J.extractL rfl rfl rfl (J.extractL rfl rfl rfl (J.assign rfl rfl (J.assign rfl rfl (J.nil (G.prune [8, 9, 10, 11, 16, 19, 21] rfl (G.seq (G.seq ?_))))))))
  refine G.region (J.move rfl rfl ?_)
  (first | refine J.neN rfl rfl rfl ?_ | refine J.neZ rfl rfl rfl ?_)
  refine J.nil ?_
  obtain ⟨r0, hr0⟩ : ∃ a, a = (u0 + 18446744073709551616 - d * qq % 18446744073709551616) % 18446744073709551616 := ⟨_, rfl⟩
  obtain ⟨r1, hr1⟩ : ∃ a, a = (u1 + 18446744073709551616 - d * qq / 18446744073709551616 - (if u0 < d * qq % 18446744073709551616 then 1 else 0)) % 18446744073709551616 := ⟨_, rfl⟩
  rw [Nat.mul_comm] at hR1
  obtain ⟨f0, f1⟩ := mg_rest hR1 (by omega) hu0 hr0 hr1
  simp only [← hr0, ← hr1]
  rw [Nat.mul_comm] at hR1
  obtain ⟨g1, g2, g3, g4⟩ := mg_end n1 n2 hR1 hR2
  rw [hu, hd, Nat.mul_div_mul_right _ _ hp, Nat.mul_mod_mul_right, ← hd] at g1 g2 g3 g4
  have fin : ∀ a b, a = (x1 * 18446744073709551616 + x0) / y → b = (x1 * 18446744073709551616 + x0) % y * 2 ^ s → b / 2 ^ s = (x1 * 18446744073709551616 + x0) % y ∧ a = (x1 * 18446744073709551616 + x0) / y := fun a b h1 h2 => ⟨by rw [h2, Nat.mul_div_cancel _ hp], h1⟩
  have hQ : (x1 * 18446744073709551616 + x0) / y < 18446744073709551616 := by
    rw [Nat.div_lt_iff_lt_mul (by omega), Nat.mul_comm]
    have : (x1 + 1) * 18446744073709551616 ≤ y * 18446744073709551616 := Nat.mul_le_mul_right _ h
    omega
  obtain ⟨Q, hQe⟩ : ∃ Q, Q = (x1 * 18446744073709551616 + x0) / y := ⟨_, rfl⟩
  obtain ⟨r, hre⟩ : ∃ r, r = (x1 * 18446744073709551616 + x0) % y := ⟨_, rfl⟩
  simp only [← hQe, ← hre] at *
  clear hqq hR1 hrec hu hr0 hr1
  refine G.condP rfl (fun hc => ?_) (fun hc => ?_)
  · refine G.seq ?_
    refine G.region (J.move rfl rfl (J.addA rfl rfl rfl  fun v84 h84 b84 => J.assign rfl rfl (J.nil (G.region (J.move rfl rfl (J.move rfl rfl (J.subA rfl rfl rfl (by first | assumption | decide | omega) fun v87 h87 b87 => ?_)))))))
    refine J.assign rfl rfl (J.nil (G.prune [8, 9, 10, 11, 16, 19] rfl (G.seq (G.seq (G.region (J.move rfl rfl (J.move rfl rfl ?_)))))))
    (first | refine J.geN rfl rfl rfl ?_ | refine J.geZ rfl rfl rfl ?_)
    refine J.nil ?_
    have e87 : v87 = R - d := by omega
    refine G.condP rfl (fun hc2 => ?_) (fun hc2 => ?_)
    · refine G.seq ?_
      refine G.region (J.move rfl rfl (J.addA rfl rfl rfl  fun v92 h92 b92 => J.assign rfl rfl (J.nil (G.region (J.move rfl rfl (J.move rfl rfl (J.subA rfl rfl rfl (by first | assumption | decide | omega) fun v95 h95 b95 => ?_)))))))
      refine J.assign rfl rfl (J.nil (G.prune [8, 9, 10, 16, 19] rfl (G.seq (G.region (J.move rfl rfl (J.move rfl rfl (J.move rfl rfl (J.shrA rfl rfl rfl (by first | assumption | decide | omega) fun v99 h99 b99 => ?_))))))))
      refine J.assign rfl rfl (J.assign rfl rfl (J.nil (G.prune [8, 9] rfl ?_)))
      obtain ⟨k1, k2⟩ := g4 (by omega) (by omega)
      have e92 : v92 = Q := by omega
      have e95 : v95 = r * 2 ^ s := by omega
      rw [h99, e92, e95, Nat.mul_div_cancel _ hp]
      refine G.ret (hR _) ?_
      exact GL.done (()) rfl rfl (trivial) rfl [] rfl (by decide) (by simp)
    · refine G.skip ?_
      refine G.seq (G.region (J.move rfl rfl (J.move rfl rfl (J.move rfl rfl (J.shrA rfl rfl rfl (by first | assumption | decide | omega) fun v99 h99 b99 => J.assign rfl rfl (J.assign rfl rfl (J.nil ?_)))))))
      refine G.prune [8, 9] rfl ?_
      obtain ⟨k1, k2⟩ := g3 (by omega) (by omega)
      have e84 : v84 = Q := by omega
      have e95 : v87 = r * 2 ^ s := by omega
      rw [h99, e84, e95, Nat.mul_div_cancel _ hp]
      refine G.ret (hR _) ?_
      exact GL.done (()) rfl rfl (trivial) rfl [] rfl (by decide) (by simp)
  · refine G.skip ?_
    refine G.seq (G.seq (G.region (J.move rfl rfl (J.move rfl rfl ?_))))
    (first | refine J.geN rfl rfl rfl ?_ | refine J.geZ rfl rfl rfl ?_)
    refine J.nil ?_
    refine G.condP rfl (fun hc2 => ?_) (fun hc2 => ?_)
    · refine G.seq ?_
      refine G.region (J.move rfl rfl (J.addA rfl rfl rfl  fun v92 h92 b92 => J.assign rfl rfl (J.nil (G.region (J.move rfl rfl (J.move rfl rfl (J.subA rfl rfl rfl (by first | assumption | decide | omega) fun v95 h95 b95 => ?_)))))))
      refine J.assign rfl rfl (J.nil (G.prune [8, 9, 10, 16, 19] rfl (G.seq (G.region (J.move rfl rfl (J.move rfl rfl (J.move rfl rfl (J.shrA rfl rfl rfl (by first | assumption | decide | omega) fun v99 h99 b99 => ?_))))))))
      refine J.assign rfl rfl (J.assign rfl rfl (J.nil (G.prune [8, 9] rfl ?_)))
      obtain ⟨k1, k2⟩ := g2 (by omega) (by omega)
      have e92 : v92 = Q := by omega
      have e95 : v95 = r * 2 ^ s := by omega
      rw [h99, e92, e95, Nat.mul_div_cancel _ hp]
      refine G.ret (hR _) ?_
      exact GL.done (()) rfl rfl (trivial) rfl [] rfl (by decide) (by simp)
    · refine G.skip ?_
      refine G.seq (G.region (J.move rfl rfl (J.move rfl rfl (J.move rfl rfl (J.shrA rfl rfl rfl (by first | assumption | decide | omega) fun v99 h99 b99 => J.assign rfl rfl (J.assign rfl rfl (J.nil ?_)))))))
      refine G.prune [8, 9] rfl ?_
      obtain ⟨k1, k2⟩ := g1 (by omega)
      have e95 : r0 = r * 2 ^ s := by omega
      rw [h99, k1, e95, Nat.mul_div_cancel _ hp]
      refine G.ret (hR _) ?_
      exact GL.done (()) rfl rfl (trivial) rfl [] rfl (by decide) (by simp)
end
section
set_option maxRecDepth 100000
set_option pp.deepTerms false
variable {V : Addr}
def rv (xs : List Nat) (o : Nat) : Nat → Nat
  | 0 => 0
  | n + 1 => rv xs o n + xs.getD (o + n) 0 * 18446744073709551616 ^ n
def Wd (xs : List Nat) : Prop := ∀ j, xs.getD j 0 < 18446744073709551616
theorem rv_succ (xs : List Nat) (o n : Nat) : rv xs o (n + 1) = rv xs o n + xs.getD (o + n) 0 * 18446744073709551616 ^ n := rfl
theorem rv_congr {xs ys : List Nat} {o o' n : Nat} (h : ∀ j, j < n → xs.getD (o + j) 0 = ys.getD (o' + j) 0) : rv xs o n = rv ys o' n := by
  induction n with
  | zero => rfl
  | succ n ih => rw [rv_succ, rv_succ, ih (fun j hj => h j (by omega)), h n (by omega)]
theorem rv_lt {xs : List Nat} (hw : Wd xs) (o n : Nat) : rv xs o n < 18446744073709551616 ^ n := by
  induction n with
  | zero => simp [rv]
  | succ n ih =>
    rw [rv_succ, Nat.pow_succ]
    have h := hw (o + n)
    have : (xs.getD (o + n) 0 + 1) * 18446744073709551616 ^ n ≤ 18446744073709551616 * 18446744073709551616 ^ n := Nat.mul_le_mul_right _ h
    rw [Nat.add_mul, Nat.one_mul] at this
    rw [Nat.mul_comm (18446744073709551616 ^ n)]
    omega
theorem rv_split (xs : List Nat) (o m n : Nat) : rv xs o (m + n) = rv xs o m + 18446744073709551616 ^ m * rv xs (o + m) n := by
  induction n with
  | zero => simp [rv]
  | succ n ih =>
    rw [← Nat.add_assoc, rv_succ, ih, rv_succ, Nat.mul_add, Nat.pow_add, ← Nat.add_assoc o, Nat.add_assoc]
    congr 2
    rw [Nat.mul_left_comm]
theorem getD_set {xs : List Nat} {i v j : Nat} : (xs.set i v).getD j 0 = if i = j ∧ j < xs.length then v else xs.getD j 0 := by
  simp only [List.getD_eq_getElem?_getD, List.getElem?_set]
  by_cases h1 : i = j
  · subst h1
    by_cases h2 : i < xs.length
    · simp [h2]
    · simp [h2]
  · simp [h1]
theorem getD_set_ne {xs : List Nat} {i v j : Nat} (h : i ≠ j) : (xs.set i v).getD j 0 = xs.getD j 0 := by rw [getD_set, if_neg (fun q => h q.1)]
theorem getD_set_eq {xs : List Nat} {i v : Nat} (h : i < xs.length) : (xs.set i v).getD i 0 = v := by rw [getD_set, if_pos ⟨rfl, h⟩]
theorem Wd.set {xs : List Nat} (h : Wd xs) {i v : Nat} (hv : v < 18446744073709551616) : Wd (xs.set i v) := fun j => by
  rw [getD_set]; split
  · exact hv
  · exact h j
theorem rv_set {xs : List Nat} {o n i v : Nat} (h : i < o ∨ o + n ≤ i) : rv (xs.set i v) o n = rv xs o n :=
  rv_congr fun j hj => getD_set_ne (by omega)
structure Wr (zs0 zs : List Nat) (o i : Nat) : Prop where
  len : zs.length = zs0.length
  out : ∀ j, j < o ∨ o + i ≤ j → zs.getD j 0 = zs0.getD j 0
  wd : Wd zs
theorem Wr.z {zs0 : List Nat} (h : Wd zs0) (o : Nat) : Wr zs0 zs0 o 0 := ⟨rfl, fun _ _ => rfl, h⟩
theorem Wr.s {zs0 zs : List Nat} {o i v : Nat} (h : Wr zs0 zs o i) (hv : v < 18446744073709551616) : Wr zs0 (zs.set (o + i) v) o (i + 1) :=
  ⟨by rw [List.length_set, h.len], fun j hj => by rw [getD_set_ne (by omega)]; exact h.out j (by omega), h.wd.set hv⟩
theorem Wr.mono {zs0 zs : List Nat} {o i j : Nat} (h : Wr zs0 zs o i) (hij : i ≤ j) : Wr zs0 zs o j := ⟨h.len, fun k hk => h.out k (by omega), h.wd⟩
theorem rv_put {zs : List Nat} {o i v : Nat} (h : o + i < zs.length) : rv (zs.set (o + i) v) o (i + 1) = rv zs o i + v * 18446744073709551616 ^ i := by
  rw [rv_succ, rv_set (by omega), getD_set_eq h]
structure MA (zs0 xs0 : List Nat) (oz ox y r i c : Nat) (zs : List Nat) : Prop where
  w : Wr zs0 zs oz i
  lt : c < 18446744073709551616
  e : rv zs oz i + c * 18446744073709551616 ^ i = rv xs0 ox i * y + r
theorem mulc_lt {x y c : Nat} (hx : x < 18446744073709551616) (hy : y < 18446744073709551616) (hc : c < 18446744073709551616) : (x * y + c) / 18446744073709551616 < 18446744073709551616 := (mulAddWWW_law hx hy hc rfl rfl).2.2
theorem MA.s {zs0 xs0 zs : List Nat} {oz ox y r i c x : Nat} (h : MA zs0 xs0 oz ox y r i c zs) (hx : x = xs0.getD (ox + i) 0) (hxw : x < 18446744073709551616) (hy : y < 18446744073709551616) (hl : oz + i < zs0.length) :
    MA zs0 xs0 oz ox y r (i + 1) ((x * y + c) / 18446744073709551616) (zs.set (oz + i) ((x * y + c) % 18446744073709551616)) := by
  refine ⟨h.w.s (Nat.mod_lt _ (by decide)), mulc_lt hxw hy h.lt, ?_⟩
  rw [rv_put (by rw [h.w.len]; exact hl), rv_succ, ← hx, Nat.pow_succ, Nat.add_mul (rv xs0 ox i)]
  have e := h.e
  have e2 := Nat.div_add_mod (x * y + c) 18446744073709551616
  generalize 18446744073709551616 ^ i = P at *
  have e3 : x * P * y = x * y * P := Nat.mul_right_comm _ _ _
  rw [e3]
  generalize x * y = m at *
  have e4 : (m + c) / 18446744073709551616 * (P * 18446744073709551616) = 18446744073709551616 * ((m + c) / 18446744073709551616) * P := by
    rw [Nat.mul_comm P, ← Nat.mul_assoc, Nat.mul_comm _ 18446744073709551616]
  have e5 : (m + c) % 18446744073709551616 * P + 18446744073709551616 * ((m + c) / 18446744073709551616) * P = (m + c) * P := by rw [← Nat.add_mul]; congr 1; omega
  rw [e4, Nat.add_assoc, e5, Nat.add_mul]
  omega
theorem mulAddVWW_gS_spec {b oz ox n cz cx2 y r : Nat} {zs0 : List Nat} (hz : oz + n ≤ zs0.length) (hw : Wd zs0) (hx : ox + n ≤ zs0.length) (hd : oz ≤ ox ∨ ox + n ≤ oz) (hn : n < 9223372036854775808) (hy : y < 18446744073709551616) (hr : r < 18446744073709551616) :
    Spec (cx V) 238 #[.slice (some ⟨b, oz, none⟩) n cz, .slice (some ⟨b, ox, none⟩) n cx2, .int .u64 y, .int .u64 r] [⟨b, 162, cells .u64 zs0, true⟩] []
      (fun p : Nat × List Nat => .int .u64 (p.1 : Nat)) (fun p => [⟨b, 162, cells .u64 p.2, true⟩]) (fun p => MA zs0 zs0 oz ox y r n p.1 p.2) := by
  refine Spec.enter Tryz.func238 rfl Tryz.ntmps238 (by simp) [(0, .slice (some ⟨b, oz, none⟩) n cz), (1, .slice (some ⟨b, ox, none⟩) n cx2), (2, .int .u64 y), (3, .int .u64 r)] (by simp) ?_
  intro X hR
  try simp only [apC, apN]
  refine G.seq (G.region (J.assign rfl rfl (J.nil (G.seq (G.seq (G.region (J.move rfl rfl (J.lenS rfl rfl ?_))))))))
  refine J.move rfl rfl (J.lenS rfl rfl ?_)
  (first | refine J.neN rfl rfl rfl ?_ | refine J.neZ rfl rfl rfl ?_)
  refine J.nil (G.prune [0, 1, 2, 3, 8, 9, 14] rfl (G.cF rfl (G.skip (G.seq (G.region (J.move rfl rfl (J.assign rfl rfl (J.nil ?_))))))))
  refine G.seq (G.seq (G.region (J.move rfl rfl (J.lenS rfl rfl (J.move rfl rfl (J.nil (G.block ?_)))))))
  refine G.loopW (σ := {s : Nat × Nat × List Nat // s.1 ≤ n ∧ MA zs0 zs0 oz ox y r s.1 s.2.1 s.2.2}) (fun s => [(0, .slice (some ⟨b, oz, none⟩) n cz), (1, .slice (some ⟨b, ox, none⟩) n cx2), (2, .int .u64 y), (8, .int .u64 (s.1.2.1 : Nat)), (18, .int .i64 n), (19, .int .i64 (s.1.1 : Nat))]) (fun s => [⟨b, 162, cells .u64 s.1.2.2, true⟩]) (fun s => n - s.1.1) ⟨(0, r, zs0), by simp, Wr.z hw _, hr, by simp [rv]⟩ (by repeat (first | exact SubSlots.nil _ | refine SubSlots.cons rfl ?_)) [0] rfl (by decide) ?_
  rintro ⟨⟨i, c, zs⟩, hi, hm⟩ ih
  simp only at ih hi hm ⊢
  have hlen := hm.w.len
  refine G.seq (G.region ?_)
  (first | refine J.ltN rfl rfl rfl ?_ | refine J.ltZ rfl rfl rfl ?_)
  refine J.nil (G.seq ?_)
  refine G.condP rfl (fun h => ?_) (fun h => ?_)
  · refine G.skip ?_
    refine G.seq (G.block (G.seq (G.region (J.move rfl rfl (J.assign rfl rfl (J.nil (G.region (J.move rfl rfl ?_))))))))
    refine J.move rfl rfl (J.move rfl rfl (J.move rfl rfl (J.ix rfl rfl rfl (J.lc rfl rfl rfl (J.move rfl rfl (J.move rfl rfl (J.eff (E.callP (mulAddWWW_spec (c := c) (hm.w.wd _) hy hm.lt) [] [] rfl rfl rfl rfl rfl) rfl fun _ _ => ?_)))))))
    try simp only [apC, apN]
    refine J.move rfl rfl (J.extractL rfl rfl rfl (J.extractL rfl rfl rfl (J.assign rfl rfl (J.ix rfl rfl rfl (J.eff (E.sc rfl rfl) rfl (J.nil (G.prune [0, 1, 2, 3, 8, 9, 18, 19] rfl (G.inBlock ?_))))))))
    refine G.region ?_
    (first | refine J.addI rfl rfl rfl (by omega) ?_ | refine J.addZ rfl rfl rfl (by omega) (by omega) ?_)
    refine J.move rfl rfl (J.nil ?_)
    have hm' := MA.s (x := zs.getD (ox + i) 0) hm (hm.w.out (ox + i) (by omega)) (hm.w.wd _) hy (by omega)
    exact G.wk [0] (ih ⟨(i + 1, (zs.getD (ox + i) 0 * y + c) / 18446744073709551616, zs.set (oz + i) ((zs.getD (ox + i) 0 * y + c) % 18446744073709551616)), by simp only; omega, hm'⟩ (by simp only; omega))
  · refine G.exit rfl ?_
    obtain rfl : i = n := by omega
    refine G.ret (hR _) ?_
    exact GL.done ((c, zs)) rfl rfl (hm) rfl [0] rfl (by decide) (by simp)
theorem mulAddVWWS_spec {b oz ox n cz cx2 y r : Nat} {zs0 : List Nat} (hz : oz + n ≤ zs0.length) (hw : Wd zs0) (hx : ox + n ≤ zs0.length) (hd : oz ≤ ox ∨ ox + n ≤ oz) (hn : n < 9223372036854775808) (hy : y < 18446744073709551616) (hr : r < 18446744073709551616) :
    Spec (cx V) 199 #[.slice (some ⟨b, oz, none⟩) n cz, .slice (some ⟨b, ox, none⟩) n cx2, .int .u64 y, .int .u64 r] [⟨b, 162, cells .u64 zs0, true⟩] []
      (fun p : Nat × List Nat => .int .u64 (p.1 : Nat)) (fun p => [⟨b, 162, cells .u64 p.2, true⟩]) (fun p => MA zs0 zs0 oz ox y r n p.1 p.2) := by
  refine Spec.enter Tryz.func199 rfl Tryz.ntmps199 (by simp) [(0, .slice (some ⟨b, oz, none⟩) n cz), (1, .slice (some ⟨b, ox, none⟩) n cx2), (2, .int .u64 y), (3, .int .u64 r)] (by simp) ?_
  intro X hR
  try simp only [apC, apN]
  refine G.seq (G.region (J.assign rfl rfl (J.nil (G.seq (G.region (J.move rfl rfl (J.move rfl rfl (J.move rfl rfl ?_))))))))
  refine J.move rfl rfl (J.eff (E.callP (mulAddVWW_gS_spec (V := V) hz hw hx hd hn hy hr) [0] [] rfl rfl rfl rfl rfl) rfl fun p hp => ?_)
  try simp only [apC, apN]
  refine J.assign rfl rfl (J.nil (G.prune [8] rfl (G.ret (hR _) ?_)))
  exact GL.done (p) rfl rfl (hp) rfl [0] rfl (by decide) (by simp)
theorem mulAddVWW_gO_spec {b b2 oz ox n cz cx2 y r : Nat} {zs0 xs0 : List Nat} (hz : oz + n ≤ zs0.length) (hw : Wd zs0) (hx : ox + n ≤ xs0.length) (hw2 : Wd xs0) (hn : n < 9223372036854775808) (hy : y < 18446744073709551616) (hr : r < 18446744073709551616) :
    Spec (cx V) 238 #[.slice (some ⟨b, oz, none⟩) n cz, .slice (some ⟨b2, ox, none⟩) n cx2, .int .u64 y, .int .u64 r] [⟨b, 162, cells .u64 zs0, true⟩] [⟨b2, 162, cells .u64 xs0, false⟩]
      (fun p : Nat × List Nat => .int .u64 (p.1 : Nat)) (fun p => [⟨b, 162, cells .u64 p.2, true⟩]) (fun p => MA zs0 xs0 oz ox y r n p.1 p.2) := by
  refine Spec.enter Tryz.func238 rfl Tryz.ntmps238 (by simp) [(0, .slice (some ⟨b, oz, none⟩) n cz), (1, .slice (some ⟨b2, ox, none⟩) n cx2), (2, .int .u64 y), (3, .int .u64 r)] (by simp) ?_
  intro X hR
  try simp only [apC, apN]
  refine G.seq (G.region (J.assign rfl rfl (J.nil (G.seq (G.seq (G.region (J.move rfl rfl (J.lenS rfl rfl ?_))))))))
  refine J.move rfl rfl (J.lenS rfl rfl ?_)
  (first | refine J.neN rfl rfl rfl ?_ | refine J.neZ rfl rfl rfl ?_)
  refine J.nil (G.prune [0, 1, 2, 3, 8, 9, 14] rfl (G.cF rfl (G.skip (G.seq (G.region (J.move rfl rfl (J.assign rfl rfl (J.nil ?_))))))))
  refine G.seq (G.seq (G.region (J.move rfl rfl (J.lenS rfl rfl (J.move rfl rfl (J.nil (G.block ?_)))))))
  refine G.loopW (σ := {s : Nat × Nat × List Nat // s.1 ≤ n ∧ MA zs0 xs0 oz ox y r s.1 s.2.1 s.2.2}) (fun s => [(0, .slice (some ⟨b, oz, none⟩) n cz), (1, .slice (some ⟨b2, ox, none⟩) n cx2), (2, .int .u64 y), (8, .int .u64 (s.1.2.1 : Nat)), (18, .int .i64 n), (19, .int .i64 (s.1.1 : Nat))]) (fun s => [⟨b, 162, cells .u64 s.1.2.2, true⟩, ⟨b2, 162, cells .u64 xs0, false⟩]) (fun s => n - s.1.1) ⟨(0, r, zs0), by simp, Wr.z hw _, hr, by simp [rv]⟩ (by repeat (first | exact SubSlots.nil _ | refine SubSlots.cons rfl ?_)) [0, 1] rfl (by decide) ?_
  rintro ⟨⟨i, c, zs⟩, hi, hm⟩ ih
  simp only at ih hi hm ⊢
  have hlen := hm.w.len
  refine G.seq (G.region ?_)
  (first | refine J.ltN rfl rfl rfl ?_ | refine J.ltZ rfl rfl rfl ?_)
  refine J.nil (G.seq ?_)
  refine G.condP rfl (fun h => ?_) (fun h => ?_)
  · refine G.skip ?_
    refine G.seq (G.block (G.seq (G.region (J.move rfl rfl (J.assign rfl rfl (J.nil (G.region (J.move rfl rfl ?_))))))))
    refine J.move rfl rfl (J.move rfl rfl (J.move rfl rfl (J.ix rfl rfl rfl (J.lc rfl rfl rfl (J.move rfl rfl (J.move rfl rfl (J.eff (E.callP (mulAddWWW_spec (c := c) (hw2 _) hy hm.lt) [] [] rfl rfl rfl rfl rfl) rfl fun _ _ => ?_)))))))
    try simp only [apC, apN]
    refine J.move rfl rfl (J.extractL rfl rfl rfl (J.extractL rfl rfl rfl (J.assign rfl rfl (J.ix rfl rfl rfl (J.eff (E.sc rfl rfl) rfl (J.nil (G.prune [0, 1, 2, 3, 8, 9, 18, 19] rfl (G.inBlock ?_))))))))
    refine G.region ?_
    (first | refine J.addI rfl rfl rfl (by omega) ?_ | refine J.addZ rfl rfl rfl (by omega) (by omega) ?_)
    refine J.move rfl rfl (J.nil ?_)
    have hm' := MA.s (x := xs0.getD (ox + i) 0) hm (rfl) (hw2 _) hy (by omega)
    exact G.wk [0, 1] (ih ⟨(i + 1, (xs0.getD (ox + i) 0 * y + c) / 18446744073709551616, zs.set (oz + i) ((xs0.getD (ox + i) 0 * y + c) % 18446744073709551616)), by simp only; omega, hm'⟩ (by simp only; omega))
  · refine G.exit rfl ?_
    obtain rfl : i = n := by omega
    refine G.ret (hR _) ?_
    exact GL.done ((c, zs)) rfl rfl (hm) rfl [0] rfl (by decide) (by simp)
theorem mulAddVWWO_spec {b b2 oz ox n cz cx2 y r : Nat} {zs0 xs0 : List Nat} (hz : oz + n ≤ zs0.length) (hw : Wd zs0) (hx : ox + n ≤ xs0.length) (hw2 : Wd xs0) (hn : n < 9223372036854775808) (hy : y < 18446744073709551616) (hr : r < 18446744073709551616) :
    Spec (cx V) 199 #[.slice (some ⟨b, oz, none⟩) n cz, .slice (some ⟨b2, ox, none⟩) n cx2, .int .u64 y, .int .u64 r] [⟨b, 162, cells .u64 zs0, true⟩] [⟨b2, 162, cells .u64 xs0, false⟩]
      (fun p : Nat × List Nat => .int .u64 (p.1 : Nat)) (fun p => [⟨b, 162, cells .u64 p.2, true⟩]) (fun p => MA zs0 xs0 oz ox y r n p.1 p.2) := by
  refine Spec.enter Tryz.func199 rfl Tryz.ntmps199 (by simp) [(0, .slice (some ⟨b, oz, none⟩) n cz), (1, .slice (some ⟨b2, ox, none⟩) n cx2), (2, .int .u64 y), (3, .int .u64 r)] (by simp) ?_
  intro X hR
  try simp only [apC, apN]
  refine G.seq (G.region (J.assign rfl rfl (J.nil (G.seq (G.region (J.move rfl rfl (J.move rfl rfl (J.move rfl rfl ?_))))))))
  refine J.move rfl rfl (J.eff (E.callP (mulAddVWW_gO_spec (V := V) hz hw hx hw2 hn hy hr) [0] [0] rfl rfl rfl rfl rfl) rfl fun p hp => ?_)
  try simp only [apC, apN]
  refine J.assign rfl rfl (J.nil (G.prune [8] rfl (G.ret (hR _) ?_)))
  exact GL.done (p) rfl rfl (hp) rfl [0] rfl (by decide) (by simp)
end
section
set_option maxRecDepth 100000
set_option pp.deepTerms false
variable {V : Addr}
structure AM (zs0 ys0 : List Nat) (oz oy m a i c : Nat) (zs : List Nat) : Prop where
  w : Wr zs0 zs oz i
  lt : c < 18446744073709551616
  e : rv zs oz i + c * 18446744073709551616 ^ i = rv zs0 oz i + rv ys0 oy i * m + a
theorem am_word {y m x c : Nat} (hy : y < 18446744073709551616) (hm : m < 18446744073709551616) (hx : x < 18446744073709551616) (hc : c < 18446744073709551616) :
    ((y * m + x) % 18446744073709551616 + c) / 18446744073709551616 + (y * m + x) / 18446744073709551616 < 18446744073709551616 ∧
    ((y * m + x) % 18446744073709551616 + c) % 18446744073709551616 + 18446744073709551616 * (((y * m + x) % 18446744073709551616 + c) / 18446744073709551616 + (y * m + x) / 18446744073709551616) = y * m + x + c := by
  have h : y * m ≤ 18446744073709551615 * 18446744073709551615 := Nat.mul_le_mul (by omega) (by omega)
  generalize y * m = p at *
  omega
theorem AM.s {zs0 ys0 zs : List Nat} {oz oy m a i c x y lo c' : Nat} (h : AM zs0 ys0 oz oy m a i c zs) (hx : x = zs0.getD (oz + i) 0) (hy : y = ys0.getD (oy + i) 0) (hlo : lo < 18446744073709551616) (hc : c' < 18446744073709551616) (e : lo + 18446744073709551616 * c' = y * m + x + c) (hl : oz + i < zs0.length) :
    AM zs0 ys0 oz oy m a (i + 1) c' (zs.set (oz + i) lo) := by
  refine ⟨h.w.s hlo, hc, ?_⟩
  have h1 := h.e
  rw [rv_put (by rw [h.w.len]; exact hl), rv_succ zs0, rv_succ ys0, ← hx, ← hy, Nat.pow_succ, Nat.add_mul (rv ys0 oy i)]
  generalize 18446744073709551616 ^ i = P at *
  have e3 : y * P * m = y * m * P := Nat.mul_right_comm _ _ _
  have e4 : c' * (P * 18446744073709551616) = 18446744073709551616 * c' * P := by rw [Nat.mul_comm P, ← Nat.mul_assoc, Nat.mul_comm c']
  have e5 : lo * P + 18446744073709551616 * c' * P = y * m * P + x * P + c * P := by rw [← Nat.add_mul, e, Nat.add_mul, Nat.add_mul]
  rw [e3, e4, Nat.add_assoc, e5]
  omega
structure AV (zs0 ys0 : List Nat) (oz oy i c : Nat) (zs : List Nat) : Prop where
  w : Wr zs0 zs oz i
  lt : c ≤ 1
  e : rv zs oz i + c * 18446744073709551616 ^ i = rv zs0 oz i + rv ys0 oy i
theorem AV.s {zs0 ys0 zs : List Nat} {oz oy i c x y : Nat} (h : AV zs0 ys0 oz oy i c zs) (hx : x = zs0.getD (oz + i) 0) (hy : y = ys0.getD (oy + i) 0) (hxw : x < 18446744073709551616) (hyw : y < 18446744073709551616) (hl : oz + i < zs0.length) :
    AV zs0 ys0 oz oy (i + 1) ((x + y + c) / 18446744073709551616) (zs.set (oz + i) ((x + y + c) % 18446744073709551616)) := by
  have hc := h.lt
  refine ⟨h.w.s (Nat.mod_lt _ (by decide)), by omega, ?_⟩
  have h1 := h.e
  rw [rv_put (by rw [h.w.len]; exact hl), rv_succ zs0, rv_succ ys0, ← hx, ← hy, Nat.pow_succ]
  generalize 18446744073709551616 ^ i = P at *
  obtain ⟨q, hq⟩ : ∃ q, q = (x + y + c) / 18446744073709551616 := ⟨_, rfl⟩
  obtain ⟨r, hr⟩ : ∃ r, r = (x + y + c) % 18446744073709551616 := ⟨_, rfl⟩
  have e : r + 18446744073709551616 * q = x + y + c := by omega
  rw [← hq, ← hr]
  have e4 : q * (P * 18446744073709551616) = 18446744073709551616 * q * P := by rw [Nat.mul_comm P, ← Nat.mul_assoc, Nat.mul_comm q]
  have e5 : r * P + 18446744073709551616 * q * P = x * P + y * P + c * P := by rw [← Nat.add_mul, e, Nat.add_mul, Nat.add_mul]
  rw [e4, Nat.add_assoc, e5]
  omega
structure SV (zs0 ys0 : List Nat) (oz oy i c : Nat) (zs : List Nat) : Prop where
  w : Wr zs0 zs oz i
  lt : c ≤ 1
  e : rv zs oz i + rv ys0 oy i = rv zs0 oz i + c * 18446744073709551616 ^ i
theorem SV.s {zs0 ys0 zs : List Nat} {oz oy i c x y : Nat} (h : SV zs0 ys0 oz oy i c zs) (hx : x = zs0.getD (oz + i) 0) (hy : y = ys0.getD (oy + i) 0) (hxw : x < 18446744073709551616) (hyw : y < 18446744073709551616) (hl : oz + i < zs0.length) :
    SV zs0 ys0 oz oy (i + 1) (if x < y + c then 1 else 0) (zs.set (oz + i) ((x + 18446744073709551616 - y - c) % 18446744073709551616)) := by
  have hc := h.lt
  refine ⟨h.w.s (Nat.mod_lt _ (by decide)), by split <;> omega, ?_⟩
  have h1 := h.e
  rw [rv_put (by rw [h.w.len]; exact hl), rv_succ zs0, rv_succ ys0, ← hx, ← hy, Nat.pow_succ]
  generalize 18446744073709551616 ^ i = P at *
  obtain ⟨q, hq⟩ : ∃ q, q = (if x < y + c then 1 else 0) := ⟨_, rfl⟩
  obtain ⟨r, hr⟩ : ∃ r, r = (x + 18446744073709551616 - y - c) % 18446744073709551616 := ⟨_, rfl⟩
  have e : r + y + c = x + 18446744073709551616 * q := by split at hq <;> omega
  rw [← hq, ← hr]
  have e4 : q * (P * 18446744073709551616) = 18446744073709551616 * q * P := by rw [Nat.mul_comm P, ← Nat.mul_assoc, Nat.mul_comm q]
  have e5 : r * P + y * P + c * P = x * P + 18446744073709551616 * q * P := by rw [← Nat.add_mul, ← Nat.add_mul, e, Nat.add_mul]
  rw [e4]
  omega
theorem addMulVVWW_g_spec {b b2 oz oy n cz cx2 cy m a : Nat} {zs0 ys0 : List Nat} (hz : oz + n ≤ zs0.length) (hw : Wd zs0) (hx : oy + n ≤ ys0.length) (hw2 : Wd ys0) (hn : n < 9223372036854775808) (hm : m < 18446744073709551616) (ha : a < 18446744073709551616) :
    Spec (cx V) 247 #[.slice (some ⟨b, oz, none⟩) n cz, .slice (some ⟨b, oz, none⟩) n cx2, .slice (some ⟨b2, oy, none⟩) n cy, .int .u64 m, .int .u64 a] [⟨b, 162, cells .u64 zs0, true⟩] [⟨b2, 162, cells .u64 ys0, false⟩]
      (fun p : Nat × List Nat => .int .u64 (p.1 : Nat)) (fun p => [⟨b, 162, cells .u64 p.2, true⟩]) (fun p => AM zs0 ys0 oz oy m a n p.1 p.2) := by
  refine Spec.enter Tryz.func247 rfl Tryz.ntmps247 (by simp) [(0, .slice (some ⟨b, oz, none⟩) n cz), (1, .slice (some ⟨b, oz, none⟩) n cx2), (2, .slice (some ⟨b2, oy, none⟩) n cy), (3, .int .u64 m), (4, .int .u64 a)] (by simp) ?_
  intro X hR
  try simp only [apC, apN]
  refine G.seq (G.region (J.assign rfl rfl (J.nil (G.seq (G.seq (G.region (J.move rfl rfl (J.lenS rfl rfl ?_))))))))
  refine J.move rfl rfl (J.lenS rfl rfl ?_)
  (first | refine J.neN rfl rfl rfl ?_ | refine J.neZ rfl rfl rfl ?_)
  refine J.move rfl rfl (J.wF rfl rfl (J.move rfl rfl (J.wF rfl rfl (J.lenS rfl rfl (J.wF rfl rfl (J.move rfl rfl (J.wF rfl rfl (J.lenS rfl rfl ?_))))))))
  refine J.wF rfl rfl ?_
  (first | refine J.neN rfl rfl rfl ?_ | refine J.neZ rfl rfl rfl ?_)
  refine J.pF rfl rfl rfl (J.nil (G.prune [0, 1, 2, 3, 4, 10, 11, 12, 13, 14, 15, 27] rfl (G.cF rfl (G.skip (G.seq (G.region (J.move rfl rfl (J.assign rfl rfl ?_))))))))
  refine J.nil (G.seq (G.seq (G.region (J.move rfl rfl (J.lenS rfl rfl (J.move rfl rfl (J.nil (G.block ?_))))))))
  refine G.loopW (σ := {s : Nat × Nat × List Nat // s.1 ≤ n ∧ AM zs0 ys0 oz oy m a s.1 s.2.1 s.2.2}) (fun s => [(0, .slice (some ⟨b, oz, none⟩) n cz), (1, .slice (some ⟨b, oz, none⟩) n cx2), (2, .slice (some ⟨b2, oy, none⟩) n cy), (3, .int .u64 m), (10, .int .u64 (s.1.2.1 : Nat)), (31, .int .i64 n), (32, .int .i64 (s.1.1 : Nat))]) (fun s => [⟨b, 162, cells .u64 s.1.2.2, true⟩, ⟨b2, 162, cells .u64 ys0, false⟩]) (fun s => n - s.1.1) ⟨(0, a, zs0), by simp, Wr.z hw _, ha, by simp [rv]⟩ (by repeat (first | exact SubSlots.nil _ | refine SubSlots.cons rfl ?_)) [0, 1] rfl (by decide) ?_
  rintro ⟨⟨i, c, zs⟩, hi, hmm⟩ ih
  simp only at ih hi hmm ⊢
  have hlen := hmm.w.len
  refine G.seq (G.region ?_)
  (first | refine J.ltN rfl rfl rfl ?_ | refine J.ltZ rfl rfl rfl ?_)
  refine J.nil (G.seq ?_)
  refine G.condP rfl (fun h => ?_) (fun h => ?_)
  · refine G.skip ?_
    refine G.seq (G.block (G.seq (G.region (J.move rfl rfl (J.assign rfl rfl (J.nil (G.seq ?_)))))))
    have o1 : zs.getD (oz + i) 0 = zs0.getD (oz + i) 0 := hmm.w.out _ (by omega)
    obtain ⟨w1, w2⟩ := am_word (hw2 (oy + i)) hm (hmm.w.wd (oz + i)) hmm.lt
    refine G.regionS [0, 1, 2, 3, 4, 5, 6, 7, 8, 9, 10, 11, 12, 13, 14] none none [⟨b, 162, cells .u64 zs, true⟩, ⟨b2, 162, cells .u64 ys0, false⟩] (by kernel_rfl) (SubH.of [0, 1] rfl) rfl (J.move rfl rfl (J.move rfl rfl (J.ix rfl rfl rfl (J.loadC rfl rfl rfl (by first | exact Mem.h | exact M1 | exact M2 | exact M3 | exact M4 | exact M5 | exact M6 | exact M7 | exact M8 | exact M9) (by first | omega | (simp only [Nat.mul_one, Nat.one_mul, Nat.zero_mul, List.length_set, List.length_cons, List.length_nil, List.length_replicate]; omega) | (simp; omega)) (J.move rfl rfl (J.move rfl rfl (J.move rfl rfl (J.ix rfl rfl rfl ?_))))))))
    refine J.loadC rfl rfl rfl (by first | exact Mem.h | exact M1 | exact M2 | exact M3 | exact M4 | exact M5 | exact M6 | exact M7 | exact M8 | exact M9) (by first | omega | (simp only [Nat.mul_one, Nat.one_mul, Nat.zero_mul, List.length_set, List.length_cons, List.length_nil, List.length_replicate]; omega) | (simp; omega)) ?_
    refine J.effH (E.callP (mulAddWWW_spec (c := zs.getD (oz + i) 0) (hw2 _) hm (hmm.w.wd _)) [] [] rfl rfl rfl rfl rfl) rfl rfl fun _ _ => ⟨fun _ => SubH.of [0, 1] rfl, ?_⟩
    try simp only [apC, apN]
    refine J.move rfl rfl (J.extractL rfl rfl rfl (J.extractL rfl rfl rfl (J.assign rfl rfl (J.assign rfl rfl (J.nil (G.prune [0, 1, 2, 3, 4, 10, 11, 12, 13, 31, 32] rfl (G.seq (G.region ?_))))))))
    refine J.move rfl rfl (J.move rfl rfl (J.eff (E.callP (add_spec (c := 0) (by omega)) [] [] rfl rfl rfl rfl rfl) rfl fun _ _ => ?_))
    try simp only [apC, apN]
    refine J.move rfl rfl (J.extractL rfl rfl rfl (J.extractL rfl rfl rfl (J.assign rfl rfl (J.assign rfl rfl (J.nil (G.prune [0, 1, 2, 3, 4, 10, 11, 12, 13, 14, 15, 31, 32] rfl (G.seq (G.region ?_))))))))
    refine J.move rfl rfl (J.move rfl rfl (J.move rfl rfl (J.move rfl rfl (J.assign rfl rfl (J.ix rfl rfl rfl (J.eff (E.sc rfl rfl) rfl (J.nil (G.prune [0, 1, 2, 3, 4, 10, 11, 12, 13, 14, 15, 31, 32] rfl ?_))))))))
    refine G.region (J.move rfl rfl (J.move rfl rfl (J.addU rfl rfl rfl (by omega) (J.assign rfl rfl (J.nil (G.prune [0, 1, 2, 3, 4, 10, 11, 12, 13, 14, 15, 31, 32] rfl (G.inBlock (G.region ?_))))))))
    (first | refine J.addI rfl rfl rfl (by omega) ?_ | refine J.addZ rfl rfl rfl (by omega) (by omega) ?_)
    refine J.move rfl rfl (J.nil ?_)
    simp only [Nat.add_zero]
    have hmm' := AM.s hmm o1 rfl (Nat.mod_lt _ (by decide)) w1 w2 (by omega)
    exact G.wk [0, 1] (ih ⟨(i + 1, _, zs.set (oz + i) _), by simp only; omega, hmm'⟩ (by simp only; omega))
  · refine G.exit rfl ?_
    obtain rfl : i = n := by omega
    refine G.ret (hR _) ?_
    exact GL.done ((c, zs)) rfl rfl (hmm) rfl [0] rfl (by decide) (by simp)
theorem addMulVVWW_spec {b b2 oz oy n cz cx2 cy m a : Nat} {zs0 ys0 : List Nat} (hz : oz + n ≤ zs0.length) (hw : Wd zs0) (hx : oy + n ≤ ys0.length) (hw2 : Wd ys0) (hn : n < 9223372036854775808) (hm : m < 18446744073709551616) (ha : a < 18446744073709551616) :
    Spec (cx V) 212 #[.slice (some ⟨b, oz, none⟩) n cz, .slice (some ⟨b, oz, none⟩) n cx2, .slice (some ⟨b2, oy, none⟩) n cy, .int .u64 m, .int .u64 a] [⟨b, 162, cells .u64 zs0, true⟩] [⟨b2, 162, cells .u64 ys0, false⟩]
      (fun p : Nat × List Nat => .int .u64 (p.1 : Nat)) (fun p => [⟨b, 162, cells .u64 p.2, true⟩]) (fun p => AM zs0 ys0 oz oy m a n p.1 p.2) := by
  refine Spec.enter Tryz.func212 rfl Tryz.ntmps212 (by simp) [(0, .slice (some ⟨b, oz, none⟩) n cz), (1, .slice (some ⟨b, oz, none⟩) n cx2), (2, .slice (some ⟨b2, oy, none⟩) n cy), (3, .int .u64 m), (4, .int .u64 a)] (by simp) ?_
  intro X hR
  try simp only [apC, apN]
  refine G.seq (G.region (J.assign rfl rfl (J.nil (G.seq (G.region (J.move rfl rfl (J.move rfl rfl (J.move rfl rfl ?_))))))))
  refine J.move rfl rfl (J.move rfl rfl (J.eff (E.callP (addMulVVWW_g_spec (V := V) hz hw hx hw2 hn hm ha) [0] [0] rfl rfl rfl rfl rfl) rfl fun p hp => ?_))
  try simp only [apC, apN]
  refine J.assign rfl rfl (J.nil (G.prune [10] rfl (G.ret (hR _) ?_)))
  exact GL.done (p) rfl rfl (hp) rfl [0] rfl (by decide) (by simp)
theorem addVV_g_spec {b b2 oz oy n cz cx2 cy : Nat} {zs0 ys0 : List Nat} (hz : oz + n ≤ zs0.length) (hw : Wd zs0) (hx : oy + n ≤ ys0.length) (hw2 : Wd ys0) (hn : n < 9223372036854775808) :
    Spec (cx V) 249 #[.slice (some ⟨b, oz, none⟩) n cz, .slice (some ⟨b, oz, none⟩) n cx2, .slice (some ⟨b2, oy, none⟩) n cy] [⟨b, 162, cells .u64 zs0, true⟩] [⟨b2, 162, cells .u64 ys0, false⟩]
      (fun p : Nat × List Nat => .int .u64 (p.1 : Nat)) (fun p => [⟨b, 162, cells .u64 p.2, true⟩]) (fun p => AV zs0 ys0 oz oy n p.1 p.2) := by
  refine Spec.enter Tryz.func249 rfl Tryz.ntmps249 (by simp) [(0, .slice (some ⟨b, oz, none⟩) n cz), (1, .slice (some ⟨b, oz, none⟩) n cx2), (2, .slice (some ⟨b2, oy, none⟩) n cy)] (by simp) ?_
  intro X hR
  try simp only [apC, apN]
  refine G.seq (G.region (J.assign rfl rfl (J.nil (G.seq (G.seq (G.region (J.move rfl rfl (J.lenS rfl rfl ?_))))))))
  refine J.move rfl rfl (J.lenS rfl rfl ?_)
  (first | refine J.neN rfl rfl rfl ?_ | refine J.neZ rfl rfl rfl ?_)
  refine J.move rfl rfl (J.wF rfl rfl (J.move rfl rfl (J.wF rfl rfl (J.lenS rfl rfl (J.wF rfl rfl (J.move rfl rfl (J.wF rfl rfl (J.lenS rfl rfl ?_))))))))
  refine J.wF rfl rfl ?_
  (first | refine J.neN rfl rfl rfl ?_ | refine J.neZ rfl rfl rfl ?_)
  refine J.pF rfl rfl rfl (J.nil (G.prune [0, 1, 2, 6, 7, 8, 9, 21] rfl (G.cF rfl (G.skip (G.seq (G.seq (G.region (J.move rfl rfl ?_))))))))
  refine J.lenS rfl rfl (J.move rfl rfl (J.nil (G.block ?_)))
  refine G.loopW (σ := {s : Nat × Nat × List Nat // s.1 ≤ n ∧ AV zs0 ys0 oz oy s.1 s.2.1 s.2.2}) (fun s => [(0, .slice (some ⟨b, oz, none⟩) n cz), (1, .slice (some ⟨b, oz, none⟩) n cx2), (2, .slice (some ⟨b2, oy, none⟩) n cy), (6, .int .u64 (s.1.2.1 : Nat)), (24, .int .i64 n), (25, .int .i64 (s.1.1 : Nat))]) (fun s => [⟨b, 162, cells .u64 s.1.2.2, true⟩, ⟨b2, 162, cells .u64 ys0, false⟩]) (fun s => n - s.1.1) ⟨(0, 0, zs0), by simp, Wr.z hw _, Nat.zero_le _, by simp [rv]⟩ (by repeat (first | exact SubSlots.nil _ | refine SubSlots.cons rfl ?_)) [0, 1] rfl (by decide) ?_
  rintro ⟨⟨i, c, zs⟩, hi, hmm⟩ ih
  simp only at ih hi hmm ⊢
  have hlen := hmm.w.len
  refine G.seq (G.region ?_)
  (first | refine J.ltN rfl rfl rfl ?_ | refine J.ltZ rfl rfl rfl ?_)
  refine J.nil (G.seq ?_)
  refine G.condP rfl (fun h => ?_) (fun h => ?_)
  · refine G.skip ?_
    refine G.seq (G.block (G.seq (G.region (J.move rfl rfl (J.assign rfl rfl (J.nil (G.seq ?_)))))))
    have o1 : zs.getD (oz + i) 0 = zs0.getD (oz + i) 0 := hmm.w.out _ (by omega)
    refine G.regionS [0, 1, 2, 3, 4, 5, 6, 7, 8, 9, 10, 11, 12, 13, 14] none none [⟨b, 162, cells .u64 zs, true⟩, ⟨b2, 162, cells .u64 ys0, false⟩] (by kernel_rfl) (SubH.of [0, 1] rfl) rfl (J.move rfl rfl (J.move rfl rfl (J.ix rfl rfl rfl (J.loadC rfl rfl rfl (by first | exact Mem.h | exact M1 | exact M2 | exact M3 | exact M4 | exact M5 | exact M6 | exact M7 | exact M8 | exact M9) (by first | omega | (simp only [Nat.mul_one, Nat.one_mul, Nat.zero_mul, List.length_set, List.length_cons, List.length_nil, List.length_replicate]; omega) | (simp; omega)) (J.move rfl rfl (J.move rfl rfl (J.ix rfl rfl rfl (J.loadC rfl rfl rfl (by first | exact Mem.h | exact M1 | exact M2 | exact M3 | exact M4 | exact M5 | exact M6 | exact M7 | exact M8 | exact M9) (by first | omega | (simp only [Nat.mul_one, Nat.one_mul, Nat.zero_mul, List.length_set, List.length_cons, List.length_nil, List.length_replicate]; omega) | (simp; omega)) ?_))))))))
    refine J.move rfl rfl ?_
    refine J.effH (E.callP (add_spec (x := zs.getD (oz + i) 0) (y := ys0.getD (oy + i) 0) hmm.lt) [] [] rfl rfl rfl rfl rfl) rfl rfl fun _ _ => ⟨fun _ => SubH.of [0, 1] rfl, ?_⟩
    try simp only [apC, apN]
    refine J.move rfl rfl (J.extractL rfl rfl rfl (J.extractL rfl rfl rfl (J.assign rfl rfl (J.assign rfl rfl (J.nil (G.prune [0, 1, 2, 6, 7, 8, 9, 24, 25] rfl (G.seq (G.region ?_))))))))
    refine J.move rfl rfl (J.move rfl rfl (J.move rfl rfl (J.ix rfl rfl rfl (J.eff (E.sc rfl rfl) rfl (J.nil (G.prune [0, 1, 2, 6, 7, 8, 9, 24, 25] rfl (G.region (J.move rfl rfl ?_))))))))
    refine J.assign rfl rfl (J.nil (G.inBlock (G.region ?_)))
    (first | refine J.addI rfl rfl rfl (by omega) ?_ | refine J.addZ rfl rfl rfl (by omega) (by omega) ?_)
    refine J.move rfl rfl (J.nil ?_)
    have hmm' := AV.s hmm o1 (y := ys0.getD (oy + i) 0) rfl (hmm.w.wd _) (hw2 _) (by omega)
    exact G.wk [0, 1] (ih ⟨(i + 1, _, zs.set (oz + i) _), by simp only; omega, hmm'⟩ (by simp only; omega))
  · refine G.exit rfl ?_
    obtain rfl : i = n := by omega
    refine G.ret (hR _) ?_
    exact GL.done ((c, zs)) rfl rfl (hmm) rfl [0] rfl (by decide) (by simp)
theorem addVV_spec {b b2 oz oy n cz cx2 cy : Nat} {zs0 ys0 : List Nat} (hz : oz + n ≤ zs0.length) (hw : Wd zs0) (hx : oy + n ≤ ys0.length) (hw2 : Wd ys0) (hn : n < 9223372036854775808) :
    Spec (cx V) 218 #[.slice (some ⟨b, oz, none⟩) n cz, .slice (some ⟨b, oz, none⟩) n cx2, .slice (some ⟨b2, oy, none⟩) n cy] [⟨b, 162, cells .u64 zs0, true⟩] [⟨b2, 162, cells .u64 ys0, false⟩]
      (fun p : Nat × List Nat => .int .u64 (p.1 : Nat)) (fun p => [⟨b, 162, cells .u64 p.2, true⟩]) (fun p => AV zs0 ys0 oz oy n p.1 p.2) := by
  refine Spec.enter Tryz.func218 rfl Tryz.ntmps218 (by simp) [(0, .slice (some ⟨b, oz, none⟩) n cz), (1, .slice (some ⟨b, oz, none⟩) n cx2), (2, .slice (some ⟨b2, oy, none⟩) n cy)] (by simp) ?_
  intro X hR
  try simp only [apC, apN]
  refine G.seq (G.region (J.assign rfl rfl (J.nil (G.seq (G.region (J.move rfl rfl (J.move rfl rfl (J.move rfl rfl ?_))))))))
  refine J.eff (E.callP (addVV_g_spec (V := V) hz hw hx hw2 hn) [0] [0] rfl rfl rfl rfl rfl) rfl fun p hp => ?_
  try simp only [apC, apN]
  refine J.assign rfl rfl (J.nil (G.prune [6] rfl (G.ret (hR _) ?_)))
  exact GL.done (p) rfl rfl (hp) rfl [0] rfl (by decide) (by simp)
theorem subVV_g_spec {b b2 oz oy n cz cx2 cy : Nat} {zs0 ys0 : List Nat} (hz : oz + n ≤ zs0.length) (hw : Wd zs0) (hx : oy + n ≤ ys0.length) (hw2 : Wd ys0) (hn : n < 9223372036854775808) :
    Spec (cx V) 264 #[.slice (some ⟨b, oz, none⟩) n cz, .slice (some ⟨b, oz, none⟩) n cx2, .slice (some ⟨b2, oy, none⟩) n cy] [⟨b, 162, cells .u64 zs0, true⟩] [⟨b2, 162, cells .u64 ys0, false⟩]
      (fun p : Nat × List Nat => .int .u64 (p.1 : Nat)) (fun p => [⟨b, 162, cells .u64 p.2, true⟩]) (fun p => SV zs0 ys0 oz oy n p.1 p.2) := by
  refine Spec.enter Tryz.func264 rfl Tryz.ntmps264 (by simp) [(0, .slice (some ⟨b, oz, none⟩) n cz), (1, .slice (some ⟨b, oz, none⟩) n cx2), (2, .slice (some ⟨b2, oy, none⟩) n cy)] (by simp) ?_
  intro X hR
  try simp only [apC, apN]
  refine G.seq (G.region (J.assign rfl rfl (J.nil (G.seq (G.seq (G.region (J.move rfl rfl (J.lenS rfl rfl ?_))))))))
  refine J.move rfl rfl (J.lenS rfl rfl ?_)
  (first | refine J.neN rfl rfl rfl ?_ | refine J.neZ rfl rfl rfl ?_)
  refine J.move rfl rfl (J.wF rfl rfl (J.move rfl rfl (J.wF rfl rfl (J.lenS rfl rfl (J.wF rfl rfl (J.move rfl rfl (J.wF rfl rfl (J.lenS rfl rfl ?_))))))))
  refine J.wF rfl rfl ?_
  (first | refine J.neN rfl rfl rfl ?_ | refine J.neZ rfl rfl rfl ?_)
  refine J.pF rfl rfl rfl (J.nil (G.prune [0, 1, 2, 6, 7, 8, 9, 21] rfl (G.cF rfl (G.skip (G.seq (G.seq (G.region (J.move rfl rfl ?_))))))))
  refine J.lenS rfl rfl (J.move rfl rfl (J.nil (G.block ?_)))
  refine G.loopW (σ := {s : Nat × Nat × List Nat // s.1 ≤ n ∧ SV zs0 ys0 oz oy s.1 s.2.1 s.2.2}) (fun s => [(0, .slice (some ⟨b, oz, none⟩) n cz), (1, .slice (some ⟨b, oz, none⟩) n cx2), (2, .slice (some ⟨b2, oy, none⟩) n cy), (6, .int .u64 (s.1.2.1 : Nat)), (24, .int .i64 n), (25, .int .i64 (s.1.1 : Nat))]) (fun s => [⟨b, 162, cells .u64 s.1.2.2, true⟩, ⟨b2, 162, cells .u64 ys0, false⟩]) (fun s => n - s.1.1) ⟨(0, 0, zs0), by simp, Wr.z hw _, Nat.zero_le _, by simp [rv]⟩ (by repeat (first | exact SubSlots.nil _ | refine SubSlots.cons rfl ?_)) [0, 1] rfl (by decide) ?_
  rintro ⟨⟨i, c, zs⟩, hi, hmm⟩ ih
  simp only at ih hi hmm ⊢
  have hlen := hmm.w.len
  refine G.seq (G.region ?_)
  (first | refine J.ltN rfl rfl rfl ?_ | refine J.ltZ rfl rfl rfl ?_)
  refine J.nil (G.seq ?_)
  refine G.condP rfl (fun h => ?_) (fun h => ?_)
  · refine G.skip ?_
    refine G.seq (G.block (G.seq (G.region (J.move rfl rfl (J.assign rfl rfl (J.nil (G.seq ?_)))))))
    have o1 : zs.getD (oz + i) 0 = zs0.getD (oz + i) 0 := hmm.w.out _ (by omega)
    refine G.regionS [0, 1, 2, 3, 4, 5, 6, 7, 8, 9, 10, 11, 12, 13, 14] none none [⟨b, 162, cells .u64 zs, true⟩, ⟨b2, 162, cells .u64 ys0, false⟩] (by kernel_rfl) (SubH.of [0, 1] rfl) rfl (J.move rfl rfl (J.move rfl rfl (J.ix rfl rfl rfl (J.loadC rfl rfl rfl (by first | exact Mem.h | exact M1 | exact M2 | exact M3 | exact M4 | exact M5 | exact M6 | exact M7 | exact M8 | exact M9) (by first | omega | (simp only [Nat.mul_one, Nat.one_mul, Nat.zero_mul, List.length_set, List.length_cons, List.length_nil, List.length_replicate]; omega) | (simp; omega)) (J.move rfl rfl (J.move rfl rfl (J.ix rfl rfl rfl (J.loadC rfl rfl rfl (by first | exact Mem.h | exact M1 | exact M2 | exact M3 | exact M4 | exact M5 | exact M6 | exact M7 | exact M8 | exact M9) (by first | omega | (simp only [Nat.mul_one, Nat.one_mul, Nat.zero_mul, List.length_set, List.length_cons, List.length_nil, List.length_replicate]; omega) | (simp; omega)) ?_))))))))
    refine J.move rfl rfl ?_
    refine J.effH (E.callP (sub_spec (x := zs.getD (oz + i) 0) (y := ys0.getD (oy + i) 0) hmm.lt) [] [] rfl rfl rfl rfl rfl) rfl rfl fun _ _ => ⟨fun _ => SubH.of [0, 1] rfl, ?_⟩
    try simp only [apC, apN]
    refine J.move rfl rfl (J.extractL rfl rfl rfl (J.extractL rfl rfl rfl (J.assign rfl rfl (J.assign rfl rfl (J.nil (G.prune [0, 1, 2, 6, 7, 8, 9, 24, 25] rfl (G.seq (G.region ?_))))))))
    refine J.move rfl rfl (J.move rfl rfl (J.move rfl rfl (J.ix rfl rfl rfl (J.eff (E.sc rfl rfl) rfl (J.nil (G.prune [0, 1, 2, 6, 7, 8, 9, 24, 25] rfl (G.region (J.move rfl rfl ?_))))))))
    refine J.assign rfl rfl (J.nil (G.inBlock (G.region ?_)))
    (first | refine J.addI rfl rfl rfl (by omega) ?_ | refine J.addZ rfl rfl rfl (by omega) (by omega) ?_)
    refine J.move rfl rfl (J.nil ?_)
    have hmm' := SV.s hmm o1 (y := ys0.getD (oy + i) 0) rfl (hmm.w.wd _) (hw2 _) (by omega)
    exact G.wk [0, 1] (ih ⟨(i + 1, _, zs.set (oz + i) _), by simp only; omega, hmm'⟩ (by simp only; omega))
  · refine G.exit rfl ?_
    obtain rfl : i = n := by omega
    refine G.ret (hR _) ?_
    exact GL.done ((c, zs)) rfl rfl (hmm) rfl [0] rfl (by decide) (by simp)
theorem subVV_spec {b b2 oz oy n cz cx2 cy : Nat} {zs0 ys0 : List Nat} (hz : oz + n ≤ zs0.length) (hw : Wd zs0) (hx : oy + n ≤ ys0.length) (hw2 : Wd ys0) (hn : n < 9223372036854775808) :
    Spec (cx V) 239 #[.slice (some ⟨b, oz, none⟩) n cz, .slice (some ⟨b, oz, none⟩) n cx2, .slice (some ⟨b2, oy, none⟩) n cy] [⟨b, 162, cells .u64 zs0, true⟩] [⟨b2, 162, cells .u64 ys0, false⟩]
      (fun p : Nat × List Nat => .int .u64 (p.1 : Nat)) (fun p => [⟨b, 162, cells .u64 p.2, true⟩]) (fun p => SV zs0 ys0 oz oy n p.1 p.2) := by
  refine Spec.enter Tryz.func239 rfl Tryz.ntmps239 (by simp) [(0, .slice (some ⟨b, oz, none⟩) n cz), (1, .slice (some ⟨b, oz, none⟩) n cx2), (2, .slice (some ⟨b2, oy, none⟩) n cy)] (by simp) ?_
  intro X hR
  try simp only [apC, apN]
  refine G.seq (G.region (J.assign rfl rfl (J.nil (G.seq (G.region (J.move rfl rfl (J.move rfl rfl (J.move rfl rfl ?_))))))))
  refine J.eff (E.callP (subVV_g_spec (V := V) hz hw hx hw2 hn) [0] [0] rfl rfl rfl rfl rfl) rfl fun p hp => ?_
  try simp only [apC, apN]
  refine J.assign rfl rfl (J.nil (G.prune [6] rfl (G.ret (hR _) ?_)))
  exact GL.done (p) rfl rfl (hp) rfl [0] rfl (by decide) (by simp)
end
section
set_option maxRecDepth 100000
set_option pp.deepTerms false
variable {V : Addr}
theorem and63 (x : Nat) : x &&& 63 = x % 64 := Nat.and_two_pow_sub_one_eq_mod x 6
theorem or_shift {a b s : Nat} (hs : s ≤ 64) (hb : b < 18446744073709551616) : a * 2 ^ s % 18446744073709551616 ||| b / 2 ^ (64 - s) = a * 2 ^ s % 18446744073709551616 + b / 2 ^ (64 - s) := by
  have e64 : 18446744073709551616 = 2 ^ (64 - s) * 2 ^ s := by rw [← Nat.pow_add, show 64 - s + s = 64 by omega]
  have hlt : b / 2 ^ (64 - s) < 2 ^ s := by
    rw [Nat.div_lt_iff_lt_mul (Nat.two_pow_pos _), Nat.mul_comm, ← e64]; exact hb
  have e : a * 2 ^ s % 18446744073709551616 = 2 ^ s * (a % 2 ^ (64 - s)) := by
    rw [e64, Nat.mul_mod_mul_right, Nat.mul_comm]
  rw [e, Nat.two_pow_add_eq_or_of_lt hlt]
theorem or_lt {a b s : Nat} (hs : s ≤ 64) (hb : b < 18446744073709551616) : a * 2 ^ s % 18446744073709551616 + b / 2 ^ (64 - s) < 18446744073709551616 := by
  rw [← or_shift hs hb]
  refine Nat.or_lt_two_pow (n := 64) (Nat.mod_lt _ (by decide)) ?_
  exact Nat.lt_of_le_of_lt (Nat.div_le_self _ _) hb
theorem word_split {a s : Nat} (hs : s ≤ 64) : a * 2 ^ s % 18446744073709551616 + 18446744073709551616 * (a / 2 ^ (64 - s)) = a * 2 ^ s := by
  have e64 : 18446744073709551616 = 2 ^ (64 - s) * 2 ^ s := by rw [← Nat.pow_add, show 64 - s + s = 64 by omega]
  have e : a / 2 ^ (64 - s) = a * 2 ^ s / 18446744073709551616 := by
    rw [e64, Nat.mul_div_mul_right _ _ (Nat.two_pow_pos _)]
  rw [e]
  exact Nat.mod_add_div _ _
def shlW (xs : List Nat) (o s j : Nat) : Nat := xs.getD (o + j) 0 * 2 ^ s % 18446744073709551616 + (if j = 0 then 0 else xs.getD (o + (j - 1)) 0 / 2 ^ (64 - s))
theorem shlW_lt {xs : List Nat} (h : Wd xs) {s : Nat} (hs : s ≤ 64) (o j : Nat) : shlW xs o s j < 18446744073709551616 := by
  unfold shlW
  split
  · exact Nat.mod_lt _ (by decide)
  · exact or_lt hs (h _)
theorem rv_shl {xs zs : List Nat} {o oz s n : Nat} (hs : s ≤ 64) (h : ∀ j, j < n → zs.getD (oz + j) 0 = shlW xs o s j) :
    rv zs oz n + (if n = 0 then 0 else xs.getD (o + (n - 1)) 0 / 2 ^ (64 - s)) * 18446744073709551616 ^ n = rv xs o n * 2 ^ s := by
  induction n with
  | zero => simp [rv]
  | succ n ih =>
    have ih' := ih (fun j hj => h j (by omega))
    rw [rv_succ, rv_succ, h n (by omega), Nat.add_mul, ← ih', Nat.pow_succ, if_neg (by omega : ¬ n + 1 = 0), Nat.add_sub_cancel]
    unfold shlW
    have e := word_split (a := xs.getD (o + n) 0) hs
    generalize xs.getD (o + n) 0 = a at *
    generalize (if n = 0 then 0 else xs.getD (o + (n - 1)) 0 / 2 ^ (64 - s)) = c
    generalize a / 2 ^ (64 - s) = t at *
    rw [show a * 18446744073709551616 ^ n * 2 ^ s = a * 2 ^ s * 18446744073709551616 ^ n by rw [Nat.mul_right_comm]]
    obtain ⟨m, hm⟩ : ∃ m, m = a * 2 ^ s % 18446744073709551616 := ⟨_, rfl⟩
    rw [← hm] at e ⊢
    rw [← e]
    generalize 18446744073709551616 ^ n = P
    rw [Nat.add_mul, Nat.add_mul, show t * (P * 18446744073709551616) = 18446744073709551616 * t * P by rw [Nat.mul_comm P, ← Nat.mul_assoc, Nat.mul_comm t]]
    omega
theorem getD_splice {xs ys : List Nat} {o j : Nat} (h : o + ys.length ≤ xs.length) : (splice xs o ys).getD j 0 = if o ≤ j ∧ j < o + ys.length then ys.getD (j - o) 0 else xs.getD j 0 := by
  unfold splice
  have l1 : (xs.take o).length = o := by simp; omega
  simp only [List.getD_eq_getElem?_getD]
  by_cases h1 : j < o
  · rw [if_neg (by omega), List.append_assoc, List.getElem?_append_left (by omega), List.getElem?_take, if_pos h1]
  · by_cases h2 : j < o + ys.length
    · rw [if_pos (by omega), List.append_assoc, List.getElem?_append_right (by omega), l1, List.getElem?_append_left (by omega)]
    · rw [if_neg (by omega), List.getElem?_append_right (by simp; omega), List.getElem?_drop]
      simp only [List.length_append, l1]
      congr 2; omega
theorem getD_drop_take {xs : List Nat} {o n j : Nat} (h : j < n) : ((xs.drop o).take n).getD j 0 = xs.getD (o + j) 0 := by
  simp [List.getD_eq_getElem?_getD, List.getElem?_take, h]
theorem Wd.splice {xs ys : List Nat} {o : Nat} (h : Wd xs) (h2 : Wd ys) (hl : o + ys.length ≤ xs.length) : Wd (splice xs o ys) := fun j => by
  rw [getD_splice hl]; split
  · exact h2 _
  · exact h j
theorem Wd.sub {xs : List Nat} (h : Wd xs) (o n : Nat) : Wd ((xs.drop o).take n) := fun j => by
  by_cases hj : j < n
  · rw [getD_drop_take hj]; exact h _
  · simp [List.getD_eq_getElem?_getD, List.getElem?_take, hj]
theorem drop_take_len {xs : List Nat} {o n : Nat} (h : o + n ≤ xs.length) : ((xs.drop o).take n).length = n := by simp; omega
structure SL (zs0 xs0 : List Nat) (oz ox s n c : Nat) (zs : List Nat) : Prop where
  w : Wr zs0 zs oz n
  e : ∀ j, j < n → zs.getD (oz + j) 0 = shlW xs0 ox s j
  c : c = (if n = 0 then 0 else xs0.getD (ox + (n - 1)) 0 / 2 ^ (64 - s))
theorem SL.copy {zs0 xs0 : List Nat} {oz ox n : Nat} (hz : oz + n ≤ zs0.length) (hx : ox + n ≤ xs0.length) (hw : Wd zs0) (hw2 : Wd xs0) :
    SL zs0 xs0 oz ox 0 n 0 (splice zs0 oz ((xs0.drop ox).take n)) := by
  have hl := drop_take_len hx
  refine ⟨⟨splice_len _ _ _ (by omega), fun j hj => ?_, hw.splice (hw2.sub _ _) (by omega)⟩, fun j hj => ?_, ?_⟩
  · rw [getD_splice (by omega), if_neg (by omega)]
  · rw [getD_splice (by omega), if_pos (by omega), Nat.add_sub_cancel_left, getD_drop_take hj]
    unfold shlW
    have := hw2 (ox + j)
    have := hw2 (ox + (j - 1))
    rw [Nat.div_eq_of_lt (a := xs0.getD (ox + (j - 1)) 0) (by simpa using this)]
    simp only [Nat.pow_zero, Nat.mul_one]
    split <;> omega
  · split
    · rfl
    · rw [Nat.div_eq_of_lt]; simpa using hw2 _
structure SM (zs0 xs0 : List Nat) (oz ox s n i : Nat) (zs : List Nat) : Prop where
  len : zs.length = zs0.length
  out : ∀ j, j < oz + i + 1 ∨ oz + n ≤ j → zs.getD j 0 = zs0.getD j 0
  wd : Wd zs
  e : ∀ j, i < j → j < n → zs.getD (oz + j) 0 = shlW xs0 ox s j
theorem SM.s {zs0 xs0 zs : List Nat} {oz ox s n i v : Nat} (h : SM zs0 xs0 oz ox s n (i + 1) zs) (hs : s ≤ 64) (hw : Wd xs0) (hv : v = shlW xs0 ox s (i + 1)) (hl : oz + n ≤ zs0.length) (hi : i + 1 < n) : SM zs0 xs0 oz ox s n i (zs.set (oz + (i + 1)) v) := by
  subst hv
  refine ⟨by rw [List.length_set, h.len], fun j hj => ?_, h.wd.set (shlW_lt hw hs _ _), fun j h1 h2 => ?_⟩
  · rw [getD_set_ne (by omega)]; exact h.out j (by omega)
  · by_cases hj : j = i + 1
    · subst hj; rw [getD_set_eq (by rw [h.len]; omega)]
    · rw [getD_set_ne (by omega)]; exact h.e j (by omega) h2
theorem SM.end_ {zs0 xs0 zs : List Nat} {oz ox s n v : Nat} (h : SM zs0 xs0 oz ox s n 0 zs) (hs : s ≤ 64) (hw : Wd xs0) (hv : v = xs0.getD (ox + 0) 0 * 2 ^ s % 18446744073709551616) (hl : oz + n ≤ zs0.length) (hn : 0 < n) :
    SL zs0 xs0 oz ox s n (xs0.getD (ox + (n - 1)) 0 / 2 ^ (64 - s)) (zs.set (oz + 0) v) := by
  have hv' : v = shlW xs0 ox s 0 := by rw [hv]; rfl
  subst hv'
  refine ⟨⟨by rw [List.length_set, h.len], fun j hj => ?_, h.wd.set (shlW_lt hw hs _ _)⟩, fun j h2 => ?_, by rw [if_neg (by omega)]⟩
  · rw [getD_set_ne (by omega)]; exact h.out j (by omega)
  · by_cases hj : j = 0
    · subst hj; rw [getD_set_eq (by rw [h.len]; omega)]
    · rw [getD_set_ne (by omega)]; exact h.e j (by omega) h2
theorem lshVU_gS_spec {b oz ox n cz cx2 s : Nat} {zs0 : List Nat} (hz : oz + n ≤ zs0.length) (hw : Wd zs0) (hx : ox + n ≤ zs0.length) (hd : ox ≤ oz ∨ oz + n ≤ ox) (hn : n < 9223372036854775808) (hs : s < 64) :
    Spec (cx V) 174 #[.slice (some ⟨b, oz, none⟩) n cz, .slice (some ⟨b, ox, none⟩) n cx2, .int .u64 s] [⟨b, 162, cells .u64 zs0, true⟩] []
      (fun p : Nat × List Nat => .int .u64 (p.1 : Nat)) (fun p => [⟨b, 162, cells .u64 p.2, true⟩]) (fun p => SL zs0 zs0 oz ox s n p.1 p.2) := by
  refine Spec.enter Tryz.func174 rfl Tryz.ntmps174 (by simp) [(0, .slice (some ⟨b, oz, none⟩) n cz), (1, .slice (some ⟨b, ox, none⟩) n cx2), (2, .int .u64 s)] (by simp) ?_
  intro X hR
  try simp only [apC, apN]
  refine G.seq (G.region (J.assign rfl rfl (J.nil (G.seq (G.seq (G.region (J.move rfl rfl (J.lenS rfl rfl ?_))))))))
  refine J.move rfl rfl (J.lenS rfl rfl ?_)
  (first | refine J.neN rfl rfl rfl ?_ | refine J.neZ rfl rfl rfl ?_)
  refine J.nil (G.prune [0, 1, 2, 6, 13] rfl (G.cF rfl (G.skip (G.seq (G.seq (G.region (J.move rfl rfl ?_)))))))
  (first | refine J.eqN rfl rfl rfl ?_ | refine J.eqZ rfl rfl rfl ?_)
  refine J.nil ?_
  refine G.condP rfl (fun hs0 => ?_) (fun hs0 => ?_)
  · refine G.seq ?_
    refine G.region (J.move rfl rfl (J.move rfl rfl ?_))
    subst hs0
    refine J.eff (E.copy (xs := zs0) (ys := zs0) (o := oz) (o2 := ox) (q := n) rfl rfl rfl Mem.h (Nat.min_self n) hx hz Upd1.h) rfl (J.nil (G.ret (hR _) ?_))
    exact GL.done ((0, splice zs0 oz ((zs0.drop ox).take n))) rfl rfl (SL.copy hz hx hw hw) rfl [0] rfl (by decide) (by simp)
  · refine G.skip ?_
    refine G.seq (G.seq (G.region (J.move rfl rfl (J.lenS rfl rfl ?_))))
    (first | refine J.eqN rfl rfl rfl ?_ | refine J.eqZ rfl rfl rfl ?_)
    refine J.nil ?_
    have w0 := hw (ox + (n - 1))
    refine G.condP rfl (fun hn0 => ?_) (fun hn0 => ?_)
    · skip
      subst hn0
      refine G.ret (hR _) ?_
      exact GL.done ((0, zs0)) rfl rfl (⟨Wr.z hw _, fun j hj => absurd hj (by omega), by simp⟩) rfl [0] rfl (by decide) (by simp)
    · refine G.skip ?_
      refine G.seq (G.region (J.move rfl rfl (J.andA rfl rfl rfl (by first | assumption | decide | omega) (by first | assumption | decide | omega) fun v24 h24 b24 => J.assign rfl rfl (J.nil (G.seq (G.region (J.move rfl rfl ?_)))))))
      refine J.subA rfl rfl rfl (by first | assumption | decide | omega) fun v26 h26 b26 => J.assign rfl rfl (J.nil (G.seq (G.region (J.move rfl rfl (J.andA rfl rfl rfl (by first | assumption | decide | omega) (by first | assumption | decide | omega) fun v28 h28 b28 => J.assign rfl rfl (J.nil ?_))))))
      refine G.seq (G.region (J.move rfl rfl (J.move rfl rfl (J.lenS rfl rfl ?_))))
      (first | refine J.subI rfl rfl rfl (by omega) (by omega) ?_ | refine J.subZ rfl rfl rfl (by omega) (by omega) ?_)
      refine J.ix rfl rfl rfl (J.lc rfl rfl rfl (J.move rfl rfl (J.shrA rfl rfl rfl (by first | assumption | decide | omega) fun v36 h36 b36 => J.assign rfl rfl (J.nil (G.prune [0, 1, 2, 6, 7] rfl (G.seq (G.seq ?_)))))))
      refine G.region (J.move rfl rfl (J.lenS rfl rfl ?_))
      (first | refine J.subI rfl rfl rfl (by omega) (by omega) ?_ | refine J.subZ rfl rfl rfl (by omega) (by omega) ?_)
      refine J.assign rfl rfl (J.nil (G.prune [0, 1, 2, 6, 7, 8] rfl (G.block ?_)))
      rw [and63] at h24 h28
      have e24 : s = v24 := by omega
      have e26 : v26 = 64 - s := by omega
      have e28 : v28 = 64 - s := by omega
      subst e24 e26 e28
      rw [h36]
      refine G.loopW (σ := {t : Nat × List Nat // t.1 < n ∧ SM zs0 zs0 oz ox s n t.1 t.2}) (fun t => [(0, .slice (some ⟨b, oz, none⟩) n cz), (1, .slice (some ⟨b, ox, none⟩) n cx2), (2, .int .u64 s), (6, .int .u64 ((zs0.getD (ox + (n - 1)) 0 / 2 ^ (64 - s) : Nat) : Int)), (7, .int .u64 ((64 - s : Nat) : Int)), (8, .int .i64 (t.1.1 : Nat))]) (fun t => [⟨b, 162, cells .u64 t.1.2, true⟩]) (fun t => t.1.1) ⟨(n - 1, zs0), by omega, rfl, fun _ _ => rfl, hw, fun j h1 h2 => absurd h2 (by omega)⟩ (by repeat (first | exact SubSlots.nil _ | refine SubSlots.cons rfl ?_)) [0] rfl (by decide) ?_
      rintro ⟨⟨i, zs⟩, hi, hm⟩ ih
      simp only at ih hi hm ⊢
      have hlen := hm.len
      refine G.seq (G.seq (G.region (J.move rfl rfl ?_)))
      (first | refine J.gtN rfl rfl rfl ?_ | refine J.gtZ rfl rfl rfl ?_)
      refine J.nil ?_
      refine G.condP rfl (fun hc => ?_) (fun hc => ?_)
      · obtain ⟨i, rfl⟩ : ∃ k, i = k + 1 := ⟨i - 1, by omega⟩
        have r1 := or_shift (a := zs.getD (ox + (i + 1)) 0) (b := zs.getD (ox + (i + 1 - 1)) 0) (by omega : s ≤ 64) (hm.wd _)
        have w1 := hm.wd (ox + (i + 1))
        have w2 := hm.wd (ox + (i + 1 - 1))
        refine G.skip (G.seq (G.block (G.regionS [0, 1, 2, 3, 4, 5, 6, 7, 8, 9, 10, 11, 12, 13, 14, 15, 16, 17] (some 17) (some 0) [⟨b, 162, cells .u64 zs, true⟩] (by kernel_rfl) (SubH.of [0] rfl) rfl (J.move rfl rfl (J.move rfl rfl (J.move rfl rfl (J.move rfl rfl (J.ix rfl rfl rfl ?_))))))))
        refine J.loadC rfl rfl rfl (by first | exact Mem.h | exact M1 | exact M2 | exact M3 | exact M4 | exact M5 | exact M6 | exact M7 | exact M8 | exact M9) (by first | omega | (simp only [Nat.mul_one, Nat.one_mul, Nat.zero_mul, List.length_set, List.length_cons, List.length_nil, List.length_replicate]; omega) | (simp; omega)) (J.move rfl rfl (J.shlA rfl rfl rfl  fun v51 h51 b51 => J.move rfl rfl (J.move rfl rfl ?_)))
        (first | refine J.subI rfl rfl rfl (by omega) (by omega) ?_ | refine J.subZ rfl rfl rfl (by omega) (by omega) ?_)
        refine J.ix rfl rfl rfl (J.loadC rfl rfl rfl (by first | exact Mem.h | exact M1 | exact M2 | exact M3 | exact M4 | exact M5 | exact M6 | exact M7 | exact M8 | exact M9) (by first | omega | (simp only [Nat.mul_one, Nat.one_mul, Nat.zero_mul, List.length_set, List.length_cons, List.length_nil, List.length_replicate]; omega) | (simp; omega)) (J.move rfl rfl (J.shrA rfl rfl rfl (by first | assumption | decide | omega) fun v58 h58 b58 => J.orA rfl rfl rfl (by first | assumption | decide | omega) (by first | assumption | decide | omega) fun v59 h59 b59 => J.ix rfl rfl rfl ?_)))
        refine J.effH (E.storeCI rfl rfl (by first | omega | (simp only [Nat.mul_one, Nat.one_mul, Nat.zero_mul, List.length_set, List.length_cons, List.length_nil, List.length_replicate]; omega) | (simp; omega))) rfl rfl ⟨fun h => Bool.noConfusion h, ?_⟩
        refine J.nil (G.prune [0, 1, 2, 6, 7, 8] rfl (G.inBlock (G.region (J.move rfl rfl ?_))))
        (first | refine J.subI rfl rfl rfl (by omega) (by omega) ?_ | refine J.subZ rfl rfl rfl (by omega) (by omega) ?_)
        refine J.assign rfl rfl (J.nil ?_)
        have hv : v59 = shlW zs0 ox s (i + 1) := by
          rw [h59, h51, h58, r1, hm.out (ox + (i + 1)) (by omega), hm.out (ox + (i + 1 - 1)) (by omega)]; rfl
        have hm' := SM.s hm (by omega) hw hv hz (by omega)
        exact G.wk [0] (ih ⟨(i, zs.set (oz + (i + 1)) _), by simp only; omega, hm'⟩ (by simp only; omega))
      · refine G.exit rfl ?_
        refine G.seq (G.region (J.move rfl rfl (J.move rfl rfl (J.ix rfl rfl rfl (J.lc rfl rfl rfl (J.move rfl rfl (J.shlA rfl rfl rfl  fun v66 h66 b66 => J.ix rfl rfl rfl ?_)))))))
        refine J.eff (E.sc rfl rfl) rfl (J.nil (G.prune [6] rfl ?_))
        obtain rfl : i = 0 := by omega
        have w1 := hm.wd (ox + 0)
        have hm' := SM.end_ (v := v66) hm (by omega) hw (by rw [h66, hm.out (ox + 0) (by omega)]) hz (by omega)
        refine G.ret (hR _) ?_
        exact GL.done ((_, zs.set (oz + 0) _)) rfl rfl (hm') rfl [0] rfl (by decide) (by simp)
theorem lshVUS_spec {b oz ox n cz cx2 s : Nat} {zs0 : List Nat} (hz : oz + n ≤ zs0.length) (hw : Wd zs0) (hx : ox + n ≤ zs0.length) (hd : ox ≤ oz ∨ oz + n ≤ ox) (hn : n < 9223372036854775808) (hs : s < 64) :
    Spec (cx V) 126 #[.slice (some ⟨b, oz, none⟩) n cz, .slice (some ⟨b, ox, none⟩) n cx2, .int .u64 s] [⟨b, 162, cells .u64 zs0, true⟩] []
      (fun p : Nat × List Nat => .int .u64 (p.1 : Nat)) (fun p => [⟨b, 162, cells .u64 p.2, true⟩]) (fun p => SL zs0 zs0 oz ox s n p.1 p.2) := by
  refine Spec.enter Tryz.func126 rfl Tryz.ntmps126 (by simp) [(0, .slice (some ⟨b, oz, none⟩) n cz), (1, .slice (some ⟨b, ox, none⟩) n cx2), (2, .int .u64 s)] (by simp) ?_
  intro X hR
  try simp only [apC, apN]
  refine G.seq (G.region (J.assign rfl rfl (J.nil (G.seq (G.region (J.move rfl rfl (J.move rfl rfl (J.move rfl rfl ?_))))))))
  refine J.eff (E.callP (lshVU_gS_spec (V := V) hz hw hx hd hn hs) [0] [] rfl rfl rfl rfl rfl) rfl fun p hp => ?_
  try simp only [apC, apN]
  refine J.assign rfl rfl (J.nil (G.prune [6] rfl (G.ret (hR _) ?_)))
  exact GL.done (p) rfl rfl (hp) rfl [0] rfl (by decide) (by simp)
theorem lshVU_gO_spec {b b2 oz ox n cz cx2 s : Nat} {zs0 xs0 : List Nat} (hz : oz + n ≤ zs0.length) (hw : Wd zs0) (hx : ox + n ≤ xs0.length) (hw2 : Wd xs0) (hn : n < 9223372036854775808) (hs : s < 64) :
    Spec (cx V) 174 #[.slice (some ⟨b, oz, none⟩) n cz, .slice (some ⟨b2, ox, none⟩) n cx2, .int .u64 s] [⟨b, 162, cells .u64 zs0, true⟩] [⟨b2, 162, cells .u64 xs0, false⟩]
      (fun p : Nat × List Nat => .int .u64 (p.1 : Nat)) (fun p => [⟨b, 162, cells .u64 p.2, true⟩]) (fun p => SL zs0 xs0 oz ox s n p.1 p.2) := by
  refine Spec.enter Tryz.func174 rfl Tryz.ntmps174 (by simp) [(0, .slice (some ⟨b, oz, none⟩) n cz), (1, .slice (some ⟨b2, ox, none⟩) n cx2), (2, .int .u64 s)] (by simp) ?_
  intro X hR
  try simp only [apC, apN]
  refine G.seq (G.region (J.assign rfl rfl (J.nil (G.seq (G.seq (G.region (J.move rfl rfl (J.lenS rfl rfl ?_))))))))
  refine J.move rfl rfl (J.lenS rfl rfl ?_)
  (first | refine J.neN rfl rfl rfl ?_ | refine J.neZ rfl rfl rfl ?_)
  refine J.nil (G.prune [0, 1, 2, 6, 13] rfl (G.cF rfl (G.skip (G.seq (G.seq (G.region (J.move rfl rfl ?_)))))))
  (first | refine J.eqN rfl rfl rfl ?_ | refine J.eqZ rfl rfl rfl ?_)
  refine J.nil ?_
  refine G.condP rfl (fun hs0 => ?_) (fun hs0 => ?_)
  · refine G.seq ?_
    refine G.region (J.move rfl rfl (J.move rfl rfl ?_))
    subst hs0
    refine J.eff (E.copy (xs := zs0) (ys := xs0) (o := oz) (o2 := ox) (q := n) rfl rfl rfl (Mem.t Mem.h) (Nat.min_self n) hx hz Upd1.h) rfl (J.nil (G.ret (hR _) ?_))
    exact GL.done ((0, splice zs0 oz ((xs0.drop ox).take n))) rfl rfl (SL.copy hz hx hw hw2) rfl [0] rfl (by decide) (by simp)
  · refine G.skip ?_
    refine G.seq (G.seq (G.region (J.move rfl rfl (J.lenS rfl rfl ?_))))
    (first | refine J.eqN rfl rfl rfl ?_ | refine J.eqZ rfl rfl rfl ?_)
    refine J.nil ?_
    have w0 := hw2 (ox + (n - 1))
    refine G.condP rfl (fun hn0 => ?_) (fun hn0 => ?_)
    · skip
      subst hn0
      refine G.ret (hR _) ?_
      exact GL.done ((0, zs0)) rfl rfl (⟨Wr.z hw _, fun j hj => absurd hj (by omega), by simp⟩) rfl [0] rfl (by decide) (by simp)
    · refine G.skip ?_
      refine G.seq (G.region (J.move rfl rfl (J.andA rfl rfl rfl (by first | assumption | decide | omega) (by first | assumption | decide | omega) fun v24 h24 b24 => J.assign rfl rfl (J.nil (G.seq (G.region (J.move rfl rfl ?_)))))))
      refine J.subA rfl rfl rfl (by first | assumption | decide | omega) fun v26 h26 b26 => J.assign rfl rfl (J.nil (G.seq (G.region (J.move rfl rfl (J.andA rfl rfl rfl (by first | assumption | decide | omega) (by first | assumption | decide | omega) fun v28 h28 b28 => J.assign rfl rfl (J.nil ?_))))))
      refine G.seq (G.region (J.move rfl rfl (J.move rfl rfl (J.lenS rfl rfl ?_))))
      (first | refine J.subI rfl rfl rfl (by omega) (by omega) ?_ | refine J.subZ rfl rfl rfl (by omega) (by omega) ?_)
      refine J.ix rfl rfl rfl (J.lc rfl rfl rfl (J.move rfl rfl (J.shrA rfl rfl rfl (by first | assumption | decide | omega) fun v36 h36 b36 => J.assign rfl rfl (J.nil (G.prune [0, 1, 2, 6, 7] rfl (G.seq (G.seq ?_)))))))
      refine G.region (J.move rfl rfl (J.lenS rfl rfl ?_))
      (first | refine J.subI rfl rfl rfl (by omega) (by omega) ?_ | refine J.subZ rfl rfl rfl (by omega) (by omega) ?_)
      refine J.assign rfl rfl (J.nil (G.prune [0, 1, 2, 6, 7, 8] rfl (G.block ?_)))
      rw [and63] at h24 h28
      have e24 : s = v24 := by omega
      have e26 : v26 = 64 - s := by omega
      have e28 : v28 = 64 - s := by omega
      subst e24 e26 e28
      rw [h36]
      refine G.loopW (σ := {t : Nat × List Nat // t.1 < n ∧ SM zs0 xs0 oz ox s n t.1 t.2}) (fun t => [(0, .slice (some ⟨b, oz, none⟩) n cz), (1, .slice (some ⟨b2, ox, none⟩) n cx2), (2, .int .u64 s), (6, .int .u64 ((xs0.getD (ox + (n - 1)) 0 / 2 ^ (64 - s) : Nat) : Int)), (7, .int .u64 ((64 - s : Nat) : Int)), (8, .int .i64 (t.1.1 : Nat))]) (fun t => [⟨b, 162, cells .u64 t.1.2, true⟩, ⟨b2, 162, cells .u64 xs0, false⟩]) (fun t => t.1.1) ⟨(n - 1, zs0), by omega, rfl, fun _ _ => rfl, hw, fun j h1 h2 => absurd h2 (by omega)⟩ (by repeat (first | exact SubSlots.nil _ | refine SubSlots.cons rfl ?_)) [0, 1] rfl (by decide) ?_
      rintro ⟨⟨i, zs⟩, hi, hm⟩ ih
      simp only at ih hi hm ⊢
      have hlen := hm.len
      refine G.seq (G.seq (G.region (J.move rfl rfl ?_)))
      (first | refine J.gtN rfl rfl rfl ?_ | refine J.gtZ rfl rfl rfl ?_)
      refine J.nil ?_
      refine G.condP rfl (fun hc => ?_) (fun hc => ?_)
      · obtain ⟨i, rfl⟩ : ∃ k, i = k + 1 := ⟨i - 1, by omega⟩
        have r1 := or_shift (a := xs0.getD (ox + (i + 1)) 0) (b := xs0.getD (ox + (i + 1 - 1)) 0) (by omega : s ≤ 64) (hw2 _)
        have w1 := hw2 (ox + (i + 1))
        have w2 := hw2 (ox + (i + 1 - 1))
        refine G.skip (G.seq (G.block (G.regionS [0, 1, 2, 3, 4, 5, 6, 7, 8, 9, 10, 11, 12, 13, 14, 15, 16, 17] (some 17) (some 0) [⟨b, 162, cells .u64 zs, true⟩, ⟨b2, 162, cells .u64 xs0, false⟩] (by kernel_rfl) (SubH.of [0, 1] rfl) rfl (J.move rfl rfl (J.move rfl rfl (J.move rfl rfl (J.move rfl rfl (J.ix rfl rfl rfl ?_))))))))
        refine J.loadC rfl rfl rfl (by first | exact Mem.h | exact M1 | exact M2 | exact M3 | exact M4 | exact M5 | exact M6 | exact M7 | exact M8 | exact M9) (by first | omega | (simp only [Nat.mul_one, Nat.one_mul, Nat.zero_mul, List.length_set, List.length_cons, List.length_nil, List.length_replicate]; omega) | (simp; omega)) (J.move rfl rfl (J.shlA rfl rfl rfl  fun v51 h51 b51 => J.move rfl rfl (J.move rfl rfl ?_)))
        (first | refine J.subI rfl rfl rfl (by omega) (by omega) ?_ | refine J.subZ rfl rfl rfl (by omega) (by omega) ?_)
        refine J.ix rfl rfl rfl (J.loadC rfl rfl rfl (by first | exact Mem.h | exact M1 | exact M2 | exact M3 | exact M4 | exact M5 | exact M6 | exact M7 | exact M8 | exact M9) (by first | omega | (simp only [Nat.mul_one, Nat.one_mul, Nat.zero_mul, List.length_set, List.length_cons, List.length_nil, List.length_replicate]; omega) | (simp; omega)) (J.move rfl rfl (J.shrA rfl rfl rfl (by first | assumption | decide | omega) fun v58 h58 b58 => J.orA rfl rfl rfl (by first | assumption | decide | omega) (by first | assumption | decide | omega) fun v59 h59 b59 => J.ix rfl rfl rfl ?_)))
        refine J.effH (E.storeCI rfl rfl (by first | omega | (simp only [Nat.mul_one, Nat.one_mul, Nat.zero_mul, List.length_set, List.length_cons, List.length_nil, List.length_replicate]; omega) | (simp; omega))) rfl rfl ⟨fun h => Bool.noConfusion h, ?_⟩
        refine J.nil (G.prune [0, 1, 2, 6, 7, 8] rfl (G.inBlock (G.region (J.move rfl rfl ?_))))
        (first | refine J.subI rfl rfl rfl (by omega) (by omega) ?_ | refine J.subZ rfl rfl rfl (by omega) (by omega) ?_)
        refine J.assign rfl rfl (J.nil ?_)
        have hv : v59 = shlW xs0 ox s (i + 1) := by
          rw [h59, h51, h58, r1]; rfl
        have hm' := SM.s hm (by omega) hw2 hv hz (by omega)
        exact G.wk [0, 1] (ih ⟨(i, zs.set (oz + (i + 1)) _), by simp only; omega, hm'⟩ (by simp only; omega))
      · refine G.exit rfl ?_
        refine G.seq (G.region (J.move rfl rfl (J.move rfl rfl (J.ix rfl rfl rfl (J.lc rfl rfl rfl (J.move rfl rfl (J.shlA rfl rfl rfl  fun v66 h66 b66 => J.ix rfl rfl rfl ?_)))))))
        refine J.eff (E.sc rfl rfl) rfl (J.nil (G.prune [6] rfl ?_))
        obtain rfl : i = 0 := by omega
        have w1 := hw2 (ox + 0)
        have hm' := SM.end_ (v := v66) hm (by omega) hw2 (by rw [h66]) hz (by omega)
        refine G.ret (hR _) ?_
        exact GL.done ((_, zs.set (oz + 0) _)) rfl rfl (hm') rfl [0] rfl (by decide) (by simp)
theorem lshVUO_spec {b b2 oz ox n cz cx2 s : Nat} {zs0 xs0 : List Nat} (hz : oz + n ≤ zs0.length) (hw : Wd zs0) (hx : ox + n ≤ xs0.length) (hw2 : Wd xs0) (hn : n < 9223372036854775808) (hs : s < 64) :
    Spec (cx V) 126 #[.slice (some ⟨b, oz, none⟩) n cz, .slice (some ⟨b2, ox, none⟩) n cx2, .int .u64 s] [⟨b, 162, cells .u64 zs0, true⟩] [⟨b2, 162, cells .u64 xs0, false⟩]
      (fun p : Nat × List Nat => .int .u64 (p.1 : Nat)) (fun p => [⟨b, 162, cells .u64 p.2, true⟩]) (fun p => SL zs0 xs0 oz ox s n p.1 p.2) := by
  refine Spec.enter Tryz.func126 rfl Tryz.ntmps126 (by simp) [(0, .slice (some ⟨b, oz, none⟩) n cz), (1, .slice (some ⟨b2, ox, none⟩) n cx2), (2, .int .u64 s)] (by simp) ?_
  intro X hR
  try simp only [apC, apN]
  refine G.seq (G.region (J.assign rfl rfl (J.nil (G.seq (G.region (J.move rfl rfl (J.move rfl rfl (J.move rfl rfl ?_))))))))
  refine J.eff (E.callP (lshVU_gO_spec (V := V) hz hw hx hw2 hn hs) [0] [0] rfl rfl rfl rfl rfl) rfl fun p hp => ?_
  try simp only [apC, apN]
  refine J.assign rfl rfl (J.nil (G.prune [6] rfl (G.ret (hR _) ?_)))
  exact GL.done (p) rfl rfl (hp) rfl [0] rfl (by decide) (by simp)
end
section
set_option maxRecDepth 100000
set_option pp.deepTerms false
variable {V : Addr}
theorem or_shift2 {a b s : Nat} (hs : s ≤ 64) (ha : a < 18446744073709551616) : a / 2 ^ s ||| b * 2 ^ (64 - s) % 18446744073709551616 = a / 2 ^ s + b * 2 ^ (64 - s) % 18446744073709551616 := by
  have h := or_shift (a := b) (b := a) (s := 64 - s) (by omega) ha
  rw [show 64 - (64 - s) = s by omega] at h
  rw [Nat.or_comm, h, Nat.add_comm]
def shrW (xs : List Nat) (o s n j : Nat) : Nat := xs.getD (o + j) 0 / 2 ^ s + (if j + 1 < n then xs.getD (o + (j + 1)) 0 * 2 ^ (64 - s) % 18446744073709551616 else 0)
theorem shrW_lt {xs : List Nat} (h : Wd xs) {s : Nat} (hs : s ≤ 64) (o n j : Nat) : shrW xs o s n j < 18446744073709551616 := by
  unfold shrW
  split
  · have h2 := or_lt (a := xs.getD (o + (j + 1)) 0) (b := xs.getD (o + j) 0) (s := 64 - s) (by omega) (h _)
    rw [show 64 - (64 - s) = s by omega] at h2
    omega
  · exact Nat.lt_of_le_of_lt (Nat.div_le_self _ _) (h _)
structure SR (zs0 xs0 : List Nat) (oz ox s n c : Nat) (zs : List Nat) : Prop where
  w : Wr zs0 zs oz n
  e : ∀ j, j < n → zs.getD (oz + j) 0 = shrW xs0 ox s n j
  c : c = (if n = 0 then 0 else xs0.getD ox 0 * 2 ^ (64 - s) % 18446744073709551616)
theorem SR.copy {zs0 xs0 : List Nat} {oz ox n : Nat} (hz : oz + n ≤ zs0.length) (hx : ox + n ≤ xs0.length) (hw : Wd zs0) (hw2 : Wd xs0) :
    SR zs0 xs0 oz ox 0 n 0 (splice zs0 oz ((xs0.drop ox).take n)) := by
  have h := SL.copy hz hx hw hw2
  refine ⟨h.w, fun j hj => ?_, ?_⟩
  · rw [h.e j hj]
    unfold shlW shrW
    have h1 := hw2 (ox + j)
    have h2 := hw2 (ox + (j - 1))
    rw [Nat.div_eq_of_lt (a := xs0.getD (ox + (j - 1)) 0) (by simpa using h2)]
    simp only [Nat.pow_zero, Nat.mul_one, Nat.div_one, Nat.sub_zero, Nat.reducePow, Nat.mul_mod_left, ite_self, Nat.add_zero]
    exact Nat.mod_eq_of_lt h1
  · simp only [Nat.sub_zero, Nat.reducePow, Nat.mul_mod_left, ite_self]
structure RM (zs0 xs0 : List Nat) (oz ox s n i : Nat) (zs : List Nat) : Prop where
  w : Wr zs0 zs oz i
  e : ∀ j, j < i → zs.getD (oz + j) 0 = shrW xs0 ox s n j
theorem RM.s {zs0 xs0 zs : List Nat} {oz ox s n i v : Nat} (h : RM zs0 xs0 oz ox s n i zs) (hs : s ≤ 64) (hw : Wd xs0) (hv : v = shrW xs0 ox s n i) (hl : oz + n ≤ zs0.length) (hi : i < n) : RM zs0 xs0 oz ox s n (i + 1) (zs.set (oz + i) v) := by
  subst hv
  refine ⟨h.w.s (shrW_lt hw hs _ _ _), fun j h2 => ?_⟩
  by_cases hj : j = i
  · subst hj; rw [getD_set_eq (by rw [h.w.len]; omega)]
  · rw [getD_set_ne (by omega)]; exact h.e j (by omega)
theorem rshVU_gS_spec {b oz ox n cz cx2 s : Nat} {zs0 : List Nat} (hz : oz + n ≤ zs0.length) (hw : Wd zs0) (hx : ox + n ≤ zs0.length) (hd : oz ≤ ox ∨ ox + n ≤ oz) (hn : n < 9223372036854775808) (hs : s < 64) :
    Spec (cx V) 234 #[.slice (some ⟨b, oz, none⟩) n cz, .slice (some ⟨b, ox, none⟩) n cx2, .int .u64 s] [⟨b, 162, cells .u64 zs0, true⟩] []
      (fun p : Nat × List Nat => .int .u64 (p.1 : Nat)) (fun p => [⟨b, 162, cells .u64 p.2, true⟩]) (fun p => SR zs0 zs0 oz ox s n p.1 p.2) := by
  refine Spec.enter Tryz.func234 rfl Tryz.ntmps234 (by simp) [(0, .slice (some ⟨b, oz, none⟩) n cz), (1, .slice (some ⟨b, ox, none⟩) n cx2), (2, .int .u64 s)] (by simp) ?_
  intro X hR
  try simp only [apC, apN]
  refine G.seq (G.region (J.assign rfl rfl (J.nil (G.seq (G.seq (G.region (J.move rfl rfl (J.lenS rfl rfl ?_))))))))
  refine J.move rfl rfl (J.lenS rfl rfl ?_)
  (first | refine J.neN rfl rfl rfl ?_ | refine J.neZ rfl rfl rfl ?_)
  refine J.nil (G.prune [0, 1, 2, 6, 13] rfl (G.cF rfl (G.skip (G.seq (G.seq (G.region (J.move rfl rfl ?_)))))))
  (first | refine J.eqN rfl rfl rfl ?_ | refine J.eqZ rfl rfl rfl ?_)
  refine J.nil ?_
  refine G.condP rfl (fun hs0 => ?_) (fun hs0 => ?_)
  · refine G.seq ?_
    refine G.region (J.move rfl rfl (J.move rfl rfl ?_))
    subst hs0
    refine J.eff (E.copy (xs := zs0) (ys := zs0) (o := oz) (o2 := ox) (q := n) rfl rfl rfl Mem.h (Nat.min_self n) hx hz Upd1.h) rfl (J.nil (G.ret (hR _) ?_))
    exact GL.done ((0, splice zs0 oz ((zs0.drop ox).take n))) rfl rfl (SR.copy hz hx hw hw) rfl [0] rfl (by decide) (by simp)
  · refine G.skip ?_
    refine G.seq (G.seq (G.region (J.move rfl rfl (J.lenS rfl rfl ?_))))
    (first | refine J.eqN rfl rfl rfl ?_ | refine J.eqZ rfl rfl rfl ?_)
    refine J.nil ?_
    have w0 := hw (ox + 0)
    refine G.condP rfl (fun hn0 => ?_) (fun hn0 => ?_)
    · skip
      subst hn0
      refine G.ret (hR _) ?_
      exact GL.done ((0, zs0)) rfl rfl (⟨Wr.z hw _, fun j hj => absurd hj (by omega), by simp⟩) rfl [0] rfl (by decide) (by simp)
    · refine G.skip ?_
      refine G.seq (G.region (J.move rfl rfl (J.andA rfl rfl rfl (by first | assumption | decide | omega) (by first | assumption | decide | omega) fun v24 h24 b24 => J.assign rfl rfl (J.nil (G.seq (G.region (J.move rfl rfl ?_)))))))
      refine J.subA rfl rfl rfl (by first | assumption | decide | omega) fun v26 h26 b26 => J.assign rfl rfl (J.nil (G.seq (G.region (J.move rfl rfl (J.andA rfl rfl rfl (by first | assumption | decide | omega) (by first | assumption | decide | omega) fun v28 h28 b28 => J.assign rfl rfl (J.nil ?_))))))
      refine G.seq (G.region (J.move rfl rfl (J.ix rfl rfl rfl (J.lc rfl rfl rfl (J.move rfl rfl (J.shlA rfl rfl rfl  fun v33 h33 b33 => J.assign rfl rfl (J.nil ?_)))))))
      refine G.prune [0, 1, 2, 6, 7] rfl (G.seq (G.seq (G.region (J.assign rfl rfl (J.nil (G.block ?_))))))
      rw [and63] at h24 h28
      have e24 : s = v24 := by omega
      have e26 : v26 = 64 - s := by omega
      have e28 : v28 = 64 - s := by omega
      subst e24 e26 e28
      rw [h33]
      refine G.loopW (σ := {t : Nat × List Nat // t.1 < n ∧ RM zs0 zs0 oz ox s n t.1 t.2}) (fun t => [(0, .slice (some ⟨b, oz, none⟩) n cz), (1, .slice (some ⟨b, ox, none⟩) n cx2), (2, .int .u64 s), (6, .int .u64 ((zs0.getD (ox + 0) 0 * 2 ^ (64 - s) % 18446744073709551616 : Nat) : Int)), (7, .int .u64 ((64 - s : Nat) : Int)), (8, .int .i64 ((t.1.1 + 1 : Nat) : Int))]) (fun t => [⟨b, 162, cells .u64 t.1.2, true⟩]) (fun t => n - t.1.1) ⟨(0, zs0), by omega, Wr.z hw _, fun j h1 => absurd h1 (by omega)⟩ (by repeat (first | exact SubSlots.nil _ | refine SubSlots.cons rfl ?_)) [0] rfl (by decide) ?_
      rintro ⟨⟨i, zs⟩, hi, hm⟩ ih
      simp only at ih hi hm ⊢
      have hlen := hm.w.len
      refine G.seq (G.seq (G.region (J.move rfl rfl (J.move rfl rfl (J.lenS rfl rfl ?_)))))
      (first | refine J.ltN rfl rfl rfl ?_ | refine J.ltZ rfl rfl rfl ?_)
      refine J.nil (G.prune [0, 1, 2, 6, 7, 8, 37] rfl ?_)
      refine G.condP rfl (fun hc => ?_) (fun hc => ?_)
      · have r1 := or_shift2 (a := zs.getD (ox + i) 0) (b := zs.getD (ox + (i + 1)) 0) (by omega : s ≤ 64) (hm.w.wd _)
        have w1 := hm.w.wd (ox + (i + 1 - 1))
        have w2 := hm.w.wd (ox + (i + 1))
        refine G.skip (G.seq (G.block (G.regionS [0, 1, 2, 3, 4, 5, 6, 7, 8, 9, 10, 11, 12, 13, 14, 15, 16, 17, 18] (some 18) (some 0) [⟨b, 162, cells .u64 zs, true⟩] (by kernel_rfl) (SubH.of [0] rfl) rfl (J.move rfl rfl (J.move rfl rfl ?_)))))
        (first | refine J.subI rfl rfl rfl (by omega) (by omega) ?_ | refine J.subZ rfl rfl rfl (by omega) (by omega) ?_)
        refine J.move rfl rfl (J.move rfl rfl ?_)
        (first | refine J.subI rfl rfl rfl (by omega) (by omega) ?_ | refine J.subZ rfl rfl rfl (by omega) (by omega) ?_)
        refine J.ix rfl rfl rfl (J.loadC rfl rfl rfl (by first | exact Mem.h | exact M1 | exact M2 | exact M3 | exact M4 | exact M5 | exact M6 | exact M7 | exact M8 | exact M9) (by first | omega | (simp only [Nat.mul_one, Nat.one_mul, Nat.zero_mul, List.length_set, List.length_cons, List.length_nil, List.length_replicate]; omega) | (simp; omega)) (J.move rfl rfl (J.shrA rfl rfl rfl (by first | assumption | decide | omega) fun v49 h49 b49 => J.move rfl rfl (J.move rfl rfl (J.ix rfl rfl rfl (J.loadC rfl rfl rfl (by first | exact Mem.h | exact M1 | exact M2 | exact M3 | exact M4 | exact M5 | exact M6 | exact M7 | exact M8 | exact M9) (by first | omega | (simp only [Nat.mul_one, Nat.one_mul, Nat.zero_mul, List.length_set, List.length_cons, List.length_nil, List.length_replicate]; omega) | (simp; omega)) (J.move rfl rfl ?_)))))))
        refine J.shlA rfl rfl rfl  fun v55 h55 b55 => J.orA rfl rfl rfl (by first | assumption | decide | omega) (by first | assumption | decide | omega) fun v56 h56 b56 => J.ix rfl rfl rfl ?_
        refine J.effH (E.storeCI rfl rfl (by first | omega | (simp only [Nat.mul_one, Nat.one_mul, Nat.zero_mul, List.length_set, List.length_cons, List.length_nil, List.length_replicate]; omega) | (simp; omega))) rfl rfl ⟨fun h => Bool.noConfusion h, ?_⟩
        refine J.nil (G.prune [0, 1, 2, 6, 7, 8] rfl (G.inBlock (G.region (J.move rfl rfl ?_))))
        (first | refine J.addI rfl rfl rfl (by omega) ?_ | refine J.addZ rfl rfl rfl (by omega) (by omega) ?_)
        refine J.assign rfl rfl (J.nil ?_)
        have hv : v56 = shrW zs0 ox s n i := by
          rw [h56, h49, h55, Nat.add_sub_cancel, r1, hm.w.out (ox + i) (by omega), hm.w.out (ox + (i + 1)) (by omega), shrW, if_pos (by omega)]
        have hm' := RM.s hm (by omega) hw hv hz (by omega)
        exact G.wk [0] (ih ⟨(i + 1, zs.set (oz + i) _), by simp only; omega, hm'⟩ (by simp only; omega))
      · skip
        have hni : i = n - 1 := by omega
        subst hni
        have w1 := hm.w.wd (ox + (n - 1))
        refine G.exit rfl (G.seq (G.region (J.move rfl rfl (J.move rfl rfl (J.lenS rfl rfl ?_)))))
        (first | refine J.subI rfl rfl rfl (by omega) (by omega) ?_ | refine J.subZ rfl rfl rfl (by omega) (by omega) ?_)
        refine J.move rfl rfl (J.move rfl rfl (J.lenS rfl rfl ?_))
        (first | refine J.subI rfl rfl rfl (by omega) (by omega) ?_ | refine J.subZ rfl rfl rfl (by omega) (by omega) ?_)
        refine J.ix rfl rfl rfl (J.lc rfl rfl rfl (J.move rfl rfl (J.shrA rfl rfl rfl (by first | assumption | decide | omega) fun v69 h69 b69 => J.ix rfl rfl rfl (J.eff (E.sc rfl rfl) rfl (J.nil (G.prune [6] rfl ?_))))))
        have hm' := RM.s (v := v69) hm (by omega) hw (by rw [h69, hm.w.out (ox + (n - 1)) (by omega), shrW, if_neg (by omega), Nat.add_zero]) hz (by omega)
        rw [show n - 1 + 1 = n by omega] at hm'
        refine G.ret (hR _) ?_
        exact GL.done ((_, zs.set (oz + (n - 1)) _)) rfl rfl (⟨hm'.w, hm'.e, by rw [if_neg (by omega)]; rfl⟩) rfl [0] rfl (by decide) (by simp)
theorem rshVUS_spec {b oz ox n cz cx2 s : Nat} {zs0 : List Nat} (hz : oz + n ≤ zs0.length) (hw : Wd zs0) (hx : ox + n ≤ zs0.length) (hd : oz ≤ ox ∨ ox + n ≤ oz) (hn : n < 9223372036854775808) (hs : s < 64) :
    Spec (cx V) 193 #[.slice (some ⟨b, oz, none⟩) n cz, .slice (some ⟨b, ox, none⟩) n cx2, .int .u64 s] [⟨b, 162, cells .u64 zs0, true⟩] []
      (fun p : Nat × List Nat => .int .u64 (p.1 : Nat)) (fun p => [⟨b, 162, cells .u64 p.2, true⟩]) (fun p => SR zs0 zs0 oz ox s n p.1 p.2) := by
  refine Spec.enter Tryz.func193 rfl Tryz.ntmps193 (by simp) [(0, .slice (some ⟨b, oz, none⟩) n cz), (1, .slice (some ⟨b, ox, none⟩) n cx2), (2, .int .u64 s)] (by simp) ?_
  intro X hR
  try simp only [apC, apN]
  refine G.seq (G.region (J.assign rfl rfl (J.nil (G.seq (G.region (J.move rfl rfl (J.move rfl rfl (J.move rfl rfl ?_))))))))
  refine J.eff (E.callP (rshVU_gS_spec (V := V) hz hw hx hd hn hs) [0] [] rfl rfl rfl rfl rfl) rfl fun p hp => ?_
  try simp only [apC, apN]
  refine J.assign rfl rfl (J.nil (G.prune [6] rfl (G.ret (hR _) ?_)))
  exact GL.done (p) rfl rfl (hp) rfl [0] rfl (by decide) (by simp)
end
section
set_option maxRecDepth 100000
set_option pp.deepTerms false
variable {V : Addr}
theorem div64z_spec {lo y : Nat} (hlo : lo < 18446744073709551616) (hy : y ≠ 0) (hyW : y < 18446744073709551616) :
    Spec (cx V) 273 #[.int .u64 ((0 : Nat) : Int), .int .u64 lo, .int .u64 y] [] [] (fun _ : Unit => .tuple #[.int .u64 ((lo / y : Nat) : Int), .int .u64 ((lo % y : Nat) : Int)]) (fun _ => []) (fun _ => True) := by
  refine Spec.enter Tryz.func273 rfl Tryz.ntmps273 (by simp) [(0, .int .u64 ((0 : Nat) : Int)), (1, .int .u64 lo), (2, .int .u64 y)] (by simp) ?_
  intro X hR
  try simp only [apC, apN]
  refine G.seq (G.region (J.assign rfl rfl (J.assign rfl rfl (J.nil (G.seq (G.seq (G.region (J.move rfl rfl ?_))))))))
  (first | refine J.eqN rfl rfl rfl ?_ | refine J.eqZ rfl rfl rfl ?_)
  refine J.nil (G.cF rfl (G.skip (G.seq (G.seq (G.region (J.move rfl rfl (J.move rfl rfl ?_)))))))
  (first | refine J.leN rfl rfl rfl ?_ | refine J.leZ rfl rfl rfl ?_)
  refine J.nil (G.cF rfl (G.skip (G.seq (G.seq (G.region (J.move rfl rfl ?_))))))
  (first | refine J.eqN rfl rfl rfl ?_ | refine J.eqZ rfl rfl rfl ?_)
  refine J.nil (G.cT rfl (G.seq (G.regionS [0, 1, 2, 3, 4, 5, 6, 7] none none [] (by kernel_rfl) (SubH.of [] rfl) rfl (J.move rfl rfl (J.move rfl rfl (J.quoU rfl rfl rfl (by omega) (by omega) (J.move rfl rfl (J.move rfl rfl ?_))))))))
  refine J.remN rfl rfl rfl (by omega) (J.assign rfl rfl (J.assign rfl rfl (J.nil (G.prune [0, 1, 2, 6, 7, 17, 18] rfl (G.ret (hR _) ?_)))))
  exact GL.done (()) rfl rfl (trivial) rfl [] rfl (by decide) (by simp)
theorem bitsDivz_spec {lo y : Nat} (hlo : lo < 18446744073709551616) (hy : y ≠ 0) (hyW : y < 18446744073709551616) :
    Spec (cx V) 250 #[.int .u64 ((0 : Nat) : Int), .int .u64 lo, .int .u64 y] [] [] (fun _ : Unit => .tuple #[.int .u64 ((lo / y : Nat) : Int), .int .u64 ((lo % y : Nat) : Int)]) (fun _ => []) (fun _ => True) := by
  refine Spec.enter Tryz.func250 rfl Tryz.ntmps250 (by simp) [(0, .int .u64 ((0 : Nat) : Int)), (1, .int .u64 lo), (2, .int .u64 y)] (by simp) ?_
  intro X hR
  try simp only [apC, apN]
  refine G.seq (G.region (J.assign rfl rfl (J.assign rfl rfl (J.nil (G.seq (G.region (J.move rfl rfl (J.move rfl rfl ?_))))))))
  refine J.move rfl rfl (J.eff (E.callP (div64z_spec hlo hy hyW) [] [] rfl rfl rfl rfl rfl) rfl fun _ _ => ?_)
  try simp only [apC, apN]
  refine J.move rfl rfl (J.extractL rfl rfl rfl (J.extractL rfl rfl rfl (J.assign rfl rfl (J.assign rfl rfl (J.nil (G.prune [6, 7, 8, 9] rfl (G.seq (G.region ?_))))))))
  refine J.move rfl rfl (J.move rfl rfl (J.assign rfl rfl (J.assign rfl rfl (J.nil (G.prune [6, 7] rfl (G.ret (hR _) ?_))))))
  exact GL.done (()) rfl rfl (trivial) rfl [] rfl (by decide) (by simp)
theorem rv_head (xs : List Nat) (o n : Nat) : rv xs o (n + 1) = xs.getD o 0 + 18446744073709551616 * rv xs (o + 1) n := by
  rw [Nat.add_comm n 1, rv_split]
  simp [rv]
structure DV (zs0 xs0 : List Nat) (oz ox y n r : Nat) (zs : List Nat) : Prop where
  w : Wr zs0 zs oz n
  e : rv zs oz n * y + r = rv xs0 ox n
  lt : r < y
structure DM (zs0 xs0 : List Nat) (oz ox y n k r : Nat) (zs : List Nat) : Prop where
  len : zs.length = zs0.length
  out : ∀ j, j < oz + k ∨ oz + n ≤ j → zs.getD j 0 = zs0.getD j 0
  wd : Wd zs
  e : rv zs (oz + k) (n - k) * y + r = rv xs0 (ox + k) (n - k)
  lt : r < y
theorem DM.s {zs0 xs0 zs : List Nat} {oz ox y n k r x : Nat} (h : DM zs0 xs0 oz ox y n (k + 1) r zs) (hx : x = xs0.getD (ox + k) 0) (hxw : x < 18446744073709551616) (hl : oz + n ≤ zs0.length) (hk : k < n) :
    (r * 18446744073709551616 + x) / y < 18446744073709551616 ∧ DM zs0 xs0 oz ox y n k ((r * 18446744073709551616 + x) % y) (zs.set (oz + k) ((r * 18446744073709551616 + x) / y)) := by
  have hlt := h.lt
  have hq : (r * 18446744073709551616 + x) / y < 18446744073709551616 := by
    rw [Nat.div_lt_iff_lt_mul (by omega), Nat.mul_comm]
    have : (r + 1) * 18446744073709551616 ≤ y * 18446744073709551616 := Nat.mul_le_mul_right _ hlt
    omega
  refine ⟨hq, by rw [List.length_set, h.len], fun j hj => ?_, h.wd.set hq, ?_, Nat.mod_lt _ (by omega)⟩
  · rw [getD_set_ne (by omega)]; exact h.out j (by omega)
  · have e := h.e
    rw [show n - k = n - (k + 1) + 1 by omega, rv_head, rv_head, ← hx, getD_set_eq (by rw [h.len]; omega), rv_set (by omega), Nat.add_assoc oz, Nat.add_assoc ox, ← e]
    have e2 := Nat.div_add_mod (r * 18446744073709551616 + x) y
    rw [Nat.mul_comm] at e2
    generalize rv zs (oz + (k + 1)) (n - (k + 1)) = R at *
    rw [Nat.add_mul, Nat.mul_assoc, Nat.mul_add]
    obtain ⟨p, hp⟩ : ∃ p, p = R * y := ⟨_, rfl⟩
    obtain ⟨q, hq'⟩ : ∃ q, q = (r * 18446744073709551616 + x) / y * y := ⟨_, rfl⟩
    obtain ⟨t, ht⟩ : ∃ t, t = (r * 18446744073709551616 + x) % y := ⟨_, rfl⟩
    rw [← hq', ← ht] at e2
    rw [← hp, ← hq', ← ht]
    clear hp hq' ht e
    omega
theorem DM.z {zs0 xs0 : List Nat} {oz ox y n : Nat} (hw : Wd zs0) (hy : y ≠ 0) : DM zs0 xs0 oz ox y n n 0 zs0 :=
  ⟨rfl, fun _ _ => rfl, hw, by simp [rv], by omega⟩
theorem DM.end_ {zs0 xs0 zs : List Nat} {oz ox y n r : Nat} (h : DM zs0 xs0 oz ox y n 0 r zs) : DV zs0 xs0 oz ox y n r zs :=
  ⟨⟨h.len, h.out, h.wd⟩, h.e, h.lt⟩
theorem divWVWS_spec {b oz ox n cz cx2 y : Nat} {zs0 : List Nat} (hz : oz + n ≤ zs0.length) (hw : Wd zs0) (hx : ox + n ≤ zs0.length) (hd : ox ≤ oz ∨ oz + n ≤ ox) (hn : n < 9223372036854775808) (hn0 : 0 < n) (hy : y ≠ 0) (hyW : y < 18446744073709551616) :
    Spec (cx V) 229 #[.slice (some ⟨b, oz, none⟩) n cz, .int .u64 0, .slice (some ⟨b, ox, none⟩) n cx2, .int .u64 y] [⟨b, 162, cells .u64 zs0, true⟩] []
      (fun p : Nat × List Nat => .int .u64 (p.1 : Nat)) (fun p => [⟨b, 162, cells .u64 p.2, true⟩]) (fun p => DV zs0 zs0 oz ox y n p.1 p.2) := by
  refine Spec.enter Tryz.func229 rfl Tryz.ntmps229 (by simp) [(0, .slice (some ⟨b, oz, none⟩) n cz), (1, .int .u64 ((0 : Nat) : Int)), (2, .slice (some ⟨b, ox, none⟩) n cx2), (3, .int .u64 y)] (by simp) ?_
  intro X hR
  try simp only [apC, apN]
  refine G.seq (G.region (J.assign rfl rfl (J.nil (G.seq (G.region (J.move rfl rfl (J.assign rfl rfl (J.nil ?_))))))))
  refine G.seq (G.seq (G.region (J.move rfl rfl (J.lenS rfl rfl ?_))))
  (first | refine J.eqN rfl rfl rfl ?_ | refine J.eqZ rfl rfl rfl ?_)
  refine J.nil ?_
  refine G.condP rfl (fun h1 => ?_) (fun h1 => ?_)
  · refine G.seq ?_
    refine G.region (J.move rfl rfl (J.move rfl rfl (J.ix rfl rfl rfl (J.lc rfl rfl rfl (J.move rfl rfl ?_)))))
    subst h1
    refine J.eff (E.callP (bitsDivz_spec (lo := zs0.getD (ox + 0) 0) (hw _) hy hyW) [] [] rfl rfl rfl rfl rfl) rfl fun _ _ => ?_
    try simp only [apC, apN]
    refine J.move rfl rfl (J.extractL rfl rfl rfl (J.extractL rfl rfl rfl (J.assign rfl rfl (J.assign rfl rfl (J.nil (G.prune [0, 1, 2, 3, 8, 9, 10] rfl (G.seq (G.region ?_))))))))
    refine J.move rfl rfl (J.move rfl rfl (J.ix rfl rfl rfl (J.eff (E.sc rfl rfl) rfl (J.nil (G.prune [0, 1, 2, 3, 8, 9, 10] rfl (G.seq (G.region (J.move rfl rfl ?_))))))))
    refine J.assign rfl rfl (J.nil ?_)
    obtain ⟨w1, hm⟩ := DM.s (k := 0) (n := 1) (x := zs0.getD (ox + 0) 0) (xs0 := zs0) (ox := ox) (DM.z hw hy) rfl (hw _) hz (by omega)
    simp only [Nat.zero_mul, Nat.zero_add] at hm
    refine G.ret (hR _) ?_
    exact GL.done ((_, zs0.set (oz + 0) _)) rfl rfl (hm.end_) rfl [0] rfl (by decide) (by simp)
  · refine G.skip ?_
    refine G.seq (G.region (J.move rfl rfl (J.eff (E.callP (recip_spec hy hyW) [] [] rfl rfl rfl rfl rfl) rfl fun _ _ => ?_)))
    try simp only [apC, apN]
    refine J.assign rfl rfl (J.nil (G.seq (G.seq (G.region (J.move rfl rfl (J.lenS rfl rfl ?_))))))
    (first | refine J.subI rfl rfl rfl (by omega) (by omega) ?_ | refine J.subZ rfl rfl rfl (by omega) (by omega) ?_)
    refine J.assign rfl rfl (J.nil (G.prune [0, 1, 2, 3, 8, 9, 10, 11, 12] rfl (G.block ?_)))
    rw [show ((n - 1 : Nat) : Int) = ((n : Nat) : Int) - 1 by omega]
    refine G.loopW (σ := {t : Nat × Nat × List Nat // t.1 ≤ n ∧ DM zs0 zs0 oz ox y n t.1 t.2.1 t.2.2}) (fun t => [(0, .slice (some ⟨b, oz, none⟩) n cz), (2, .slice (some ⟨b, ox, none⟩) n cx2), (3, .int .u64 y), (8, .int .u64 (t.1.2.1 : Nat)), (11, .int .u64 (recip y : Nat)), (12, .int .i64 (((t.1.1 : Nat) : Int) - 1))]) (fun t => [⟨b, 162, cells .u64 t.1.2.2, true⟩]) (fun t => t.1.1) ⟨(n, 0, zs0), Nat.le_refl _, DM.z hw hy⟩ (by repeat (first | exact SubSlots.nil _ | refine SubSlots.cons rfl ?_)) [0] rfl (by decide) ?_
    rintro ⟨⟨k, r, zs⟩, hi, hm⟩ ih
    simp only at ih hi hm ⊢
    have hlen := hm.len
    refine G.seq (G.seq (G.region (J.move rfl rfl ?_)))
    (first | refine J.geN rfl rfl rfl ?_ | refine J.geZ rfl rfl rfl ?_)
    refine J.nil ?_
    rcases k with _ | k
    · skip
      refine G.cF rfl (G.exit rfl (G.seq (G.region (J.move rfl rfl (J.assign rfl rfl (J.nil (G.ret (hR _) ?_)))))))
      exact GL.done ((r, zs)) rfl rfl (hm.end_) rfl [0] rfl (by decide) (by simp)
    · skip
      refine G.cT rfl ?_
      rw [show ((k + 1 : Nat) : Int) - 1 = ((k : Nat) : Int) by omega]
      refine G.skip (G.seq (G.block (G.region (J.move rfl rfl (J.move rfl rfl (J.move rfl rfl (J.move rfl rfl (J.move rfl rfl ?_))))))))
      refine J.ix rfl rfl rfl (J.lc rfl rfl rfl (J.move rfl rfl (J.move rfl rfl (J.eff (E.callP (divWW_spec (x0 := zs.getD (ox + k) 0) hm.lt (hm.wd _) hyW rfl) [] [] rfl rfl rfl rfl rfl) rfl fun _ _ => ?_))))
      try simp only [apC, apN]
      refine J.move rfl rfl (J.extractL rfl rfl rfl (J.extractL rfl rfl rfl (J.ix rfl rfl rfl (J.eff (E.sc rfl rfl) rfl (J.assign rfl rfl (J.nil (G.prune [0, 1, 2, 3, 8, 9, 10, 11, 12] rfl (G.inBlock ?_))))))))
      refine G.region (J.move rfl rfl ?_)
      (first | refine J.subI rfl rfl rfl (by omega) (by omega) ?_ | refine J.subZ rfl rfl rfl (by omega) (by omega) ?_)
      refine J.assign rfl rfl (J.nil ?_)
      obtain ⟨w1, hm'⟩ := DM.s (x := zs.getD (ox + k) 0) hm (hm.out _ (by omega)) (hm.wd _) hz (by omega)
      exact G.wk [0] (ih ⟨(k, _, zs.set (oz + k) _), by simp only; omega, hm'⟩ (by simp only; omega))
theorem divWVWO_spec {b b2 oz ox n cz cx2 y : Nat} {zs0 xs0 : List Nat} (hz : oz + n ≤ zs0.length) (hw : Wd zs0) (hx : ox + n ≤ xs0.length) (hw2 : Wd xs0) (hn : n < 9223372036854775808) (hn0 : 0 < n) (hy : y ≠ 0) (hyW : y < 18446744073709551616) :
    Spec (cx V) 229 #[.slice (some ⟨b, oz, none⟩) n cz, .int .u64 0, .slice (some ⟨b2, ox, none⟩) n cx2, .int .u64 y] [⟨b, 162, cells .u64 zs0, true⟩] [⟨b2, 162, cells .u64 xs0, false⟩]
      (fun p : Nat × List Nat => .int .u64 (p.1 : Nat)) (fun p => [⟨b, 162, cells .u64 p.2, true⟩]) (fun p => DV zs0 xs0 oz ox y n p.1 p.2) := by
  refine Spec.enter Tryz.func229 rfl Tryz.ntmps229 (by simp) [(0, .slice (some ⟨b, oz, none⟩) n cz), (1, .int .u64 ((0 : Nat) : Int)), (2, .slice (some ⟨b2, ox, none⟩) n cx2), (3, .int .u64 y)] (by simp) ?_
  intro X hR
  try simp only [apC, apN]
  refine G.seq (G.region (J.assign rfl rfl (J.nil (G.seq (G.region (J.move rfl rfl (J.assign rfl rfl (J.nil ?_))))))))
  refine G.seq (G.seq (G.region (J.move rfl rfl (J.lenS rfl rfl ?_))))
  (first | refine J.eqN rfl rfl rfl ?_ | refine J.eqZ rfl rfl rfl ?_)
  refine J.nil ?_
  refine G.condP rfl (fun h1 => ?_) (fun h1 => ?_)
  · refine G.seq ?_
    refine G.region (J.move rfl rfl (J.move rfl rfl (J.ix rfl rfl rfl (J.lc rfl rfl rfl (J.move rfl rfl ?_)))))
    subst h1
    refine J.eff (E.callP (bitsDivz_spec (lo := xs0.getD (ox + 0) 0) (hw2 _) hy hyW) [] [] rfl rfl rfl rfl rfl) rfl fun _ _ => ?_
    try simp only [apC, apN]
    refine J.move rfl rfl (J.extractL rfl rfl rfl (J.extractL rfl rfl rfl (J.assign rfl rfl (J.assign rfl rfl (J.nil (G.prune [0, 1, 2, 3, 8, 9, 10] rfl (G.seq (G.region ?_))))))))
    refine J.move rfl rfl (J.move rfl rfl (J.ix rfl rfl rfl (J.eff (E.sc rfl rfl) rfl (J.nil (G.prune [0, 1, 2, 3, 8, 9, 10] rfl (G.seq (G.region (J.move rfl rfl ?_))))))))
    refine J.assign rfl rfl (J.nil ?_)
    obtain ⟨w1, hm⟩ := DM.s (k := 0) (n := 1) (x := xs0.getD (ox + 0) 0) (xs0 := xs0) (ox := ox) (DM.z hw hy) rfl (hw2 _) hz (by omega)
    simp only [Nat.zero_mul, Nat.zero_add] at hm
    refine G.ret (hR _) ?_
    exact GL.done ((_, zs0.set (oz + 0) _)) rfl rfl (hm.end_) rfl [0] rfl (by decide) (by simp)
  · refine G.skip ?_
    refine G.seq (G.region (J.move rfl rfl (J.eff (E.callP (recip_spec hy hyW) [] [] rfl rfl rfl rfl rfl) rfl fun _ _ => ?_)))
    try simp only [apC, apN]
    refine J.assign rfl rfl (J.nil (G.seq (G.seq (G.region (J.move rfl rfl (J.lenS rfl rfl ?_))))))
    (first | refine J.subI rfl rfl rfl (by omega) (by omega) ?_ | refine J.subZ rfl rfl rfl (by omega) (by omega) ?_)
    refine J.assign rfl rfl (J.nil (G.prune [0, 1, 2, 3, 8, 9, 10, 11, 12] rfl (G.block ?_)))
    rw [show ((n - 1 : Nat) : Int) = ((n : Nat) : Int) - 1 by omega]
    refine G.loopW (σ := {t : Nat × Nat × List Nat // t.1 ≤ n ∧ DM zs0 xs0 oz ox y n t.1 t.2.1 t.2.2}) (fun t => [(0, .slice (some ⟨b, oz, none⟩) n cz), (2, .slice (some ⟨b2, ox, none⟩) n cx2), (3, .int .u64 y), (8, .int .u64 (t.1.2.1 : Nat)), (11, .int .u64 (recip y : Nat)), (12, .int .i64 (((t.1.1 : Nat) : Int) - 1))]) (fun t => [⟨b, 162, cells .u64 t.1.2.2, true⟩, ⟨b2, 162, cells .u64 xs0, false⟩]) (fun t => t.1.1) ⟨(n, 0, zs0), Nat.le_refl _, DM.z hw hy⟩ (by repeat (first | exact SubSlots.nil _ | refine SubSlots.cons rfl ?_)) [0, 1] rfl (by decide) ?_
    rintro ⟨⟨k, r, zs⟩, hi, hm⟩ ih
    simp only at ih hi hm ⊢
    have hlen := hm.len
    refine G.seq (G.seq (G.region (J.move rfl rfl ?_)))
    (first | refine J.geN rfl rfl rfl ?_ | refine J.geZ rfl rfl rfl ?_)
    refine J.nil ?_
    rcases k with _ | k
    · skip
      refine G.cF rfl (G.exit rfl (G.seq (G.region (J.move rfl rfl (J.assign rfl rfl (J.nil (G.ret (hR _) ?_)))))))
      exact GL.done ((r, zs)) rfl rfl (hm.end_) rfl [0] rfl (by decide) (by simp)
    · skip
      refine G.cT rfl ?_
      rw [show ((k + 1 : Nat) : Int) - 1 = ((k : Nat) : Int) by omega]
      refine G.skip (G.seq (G.block (G.region (J.move rfl rfl (J.move rfl rfl (J.move rfl rfl (J.move rfl rfl (J.move rfl rfl ?_))))))))
      refine J.ix rfl rfl rfl (J.lc rfl rfl rfl (J.move rfl rfl (J.move rfl rfl (J.eff (E.callP (divWW_spec (x0 := xs0.getD (ox + k) 0) hm.lt (hw2 _) hyW rfl) [] [] rfl rfl rfl rfl rfl) rfl fun _ _ => ?_))))
      try simp only [apC, apN]
      refine J.move rfl rfl (J.extractL rfl rfl rfl (J.extractL rfl rfl rfl (J.ix rfl rfl rfl (J.eff (E.sc rfl rfl) rfl (J.assign rfl rfl (J.nil (G.prune [0, 1, 2, 3, 8, 9, 10, 11, 12] rfl (G.inBlock ?_))))))))
      refine G.region (J.move rfl rfl ?_)
      (first | refine J.subI rfl rfl rfl (by omega) (by omega) ?_ | refine J.subZ rfl rfl rfl (by omega) (by omega) ?_)
      refine J.assign rfl rfl (J.nil ?_)
      obtain ⟨w1, hm'⟩ := DM.s (x := xs0.getD (ox + k) 0) hm (rfl) (hw2 _) hz (by omega)
      exact G.wk [0, 1] (ih ⟨(k, _, zs.set (oz + k) _), by simp only; omega, hm'⟩ (by simp only; omega))
end
section
set_option maxRecDepth 100000
set_option pp.deepTerms false
variable {V : Addr}
structure RS where
  b : Nat
  len : Nat
  xs : List Nat
def zv : Option RS → Value
  | none => .slice none 0 0
  | some r => .slice (some ⟨r.b, 0, none⟩) r.len r.xs.length
def zh (w : Bool) : Option RS → Hp
  | none => []
  | some r => [⟨r.b, 162, cells .u64 r.xs, w⟩]
theorem zh_wr (z : Option RS) : ∀ e ∈ zh true z, e.wr = true := by
  rcases z with _ | r <;> simp [zh]
def zn : Option RS → Nat
  | none => 0
  | some r => rv r.xs 0 r.len
def zlen : Option RS → Nat
  | none => 0
  | some r => r.len
def zok : Option RS → Prop
  | none => True
  | some r => r.len ≤ r.xs.length ∧ r.xs.length ≤ 9223372036854775807 ∧ Wd r.xs
def znm : Option RS → Prop
  | none => True
  | some r => r.len = 0 ∨ r.xs.getD (r.len - 1) 0 ≠ 0
structure Res (q : Option RS) (n : Nat) : Prop where
  ok : zok q
  nm : znm q
  n : zn q = n
theorem nl_le (xs : List Nat) (o i : Nat) : nl xs o i ≤ i := by
  induction i with
  | zero => simp [nl]
  | succ i ih => unfold nl; split <;> omega
theorem nl_rv (xs : List Nat) (o i : Nat) : rv xs o (nl xs o i) = rv xs o i := by
  induction i with
  | zero => simp [nl]
  | succ i ih =>
    unfold nl
    split
    · rename_i h; rw [ih, rv_succ, h]; simp
    · rfl
theorem nl_top (xs : List Nat) (o i : Nat) : nl xs o i = 0 ∨ xs.getD (o + (nl xs o i - 1)) 0 ≠ 0 := by
  induction i with
  | zero => simp [nl]
  | succ i ih =>
    unfold nl
    split
    · exact ih
    · rename_i h; right; simpa using h
theorem rv_lt_len {xs : List Nat} {n k : Nat} (hw : Wd xs) (h : n = 0 ∨ xs.getD (n - 1) 0 ≠ 0) (hk : rv xs 0 n < 18446744073709551616 ^ k) : n ≤ k := by
  rcases Nat.lt_or_ge k n with h1 | h1
  · exfalso
    obtain ⟨m, rfl⟩ : ∃ m, n = m + 1 := ⟨n - 1, by omega⟩
    have h2 : xs.getD m 0 ≠ 0 := by simpa using h
    rw [rv_succ, Nat.zero_add] at hk
    have h3 : 18446744073709551616 ^ k ≤ 18446744073709551616 ^ m := Nat.pow_le_pow_right (by decide) (by omega)
    have h4 : 1 * 18446744073709551616 ^ m ≤ xs.getD m 0 * 18446744073709551616 ^ m := Nat.mul_le_mul_right _ (by omega)
    omega
  · exact h1
theorem rv_ge_top {xs : List Nat} {n : Nat} (h : xs.getD n 0 ≠ 0) : 18446744073709551616 ^ n ≤ rv xs 0 (n + 1) := by
  rw [rv_succ, Nat.zero_add]
  have h4 : 1 * 18446744073709551616 ^ n ≤ xs.getD n 0 * 18446744073709551616 ^ n := Nat.mul_le_mul_right _ (by omega)
  omega
theorem Res.len_le {q : Option RS} {n k : Nat} (h : Res q n) (hk : n < 18446744073709551616 ^ k) : zlen q ≤ k := by
  obtain ⟨h1, h2, h3⟩ := h
  rcases q with _ | ⟨b, l, xs⟩
  · simp [zlen]
  · simp only [zok, znm, zn, zlen] at *
    exact rv_lt_len h1.2.2 h2 (by rw [h3]; exact hk)
theorem Wd.rep (n : Nat) : Wd (List.replicate n 0) := fun j => by
  by_cases h : j < n <;> simp [List.getD_eq_getElem?_getD, List.getElem?_replicate, h]
def mcap (n : Nat) : Nat := if n = 1 then 1 else n + 4
theorem mcap_ge (n : Nat) : n ≤ mcap n := by unfold mcap; split <;> omega
theorem mcap_le (n : Nat) : mcap n ≤ n + 4 := by unfold mcap; split <;> omega
theorem make_fit {a : Option Addr} {l c n : Nat} (h : n ≤ c) :
    Spec (cx V) 123 #[.slice a l c, .int .i64 n] [] [] (fun _ : Unit => .slice a n c) (fun _ => []) (fun _ => True) := by
  refine Spec.enter Tryz.func123 rfl Tryz.ntmps123 (by simp) [(0, .slice a l c), (1, .int .i64 n)] (by simp) ?_
  intro X hR
  try simp only [apC, apN]
  refine G.seq (G.region (J.assign rfl rfl (J.nil (G.seq (G.seq (G.region (J.move rfl rfl (J.move rfl rfl ?_))))))))
  refine J.capS rfl rfl ?_
  (first | refine J.leN rfl rfl rfl ?_ | refine J.leZ rfl rfl rfl ?_)
  refine J.nil (G.prune [0, 1, 4, 8] rfl (G.cT rfl (G.seq (G.region (J.move rfl rfl (J.move rfl rfl (J.slH rfl rfl rfl (by omega) (J.assign rfl rfl ?_))))))))
  refine J.nil (G.prune [1, 4] rfl (G.ret (hR _) ?_))
  exact GL.done (()) rfl rfl (trivial) rfl [] rfl (by decide) (by simp [zh])
theorem make_new {a : Option Addr} {l c n : Nat} (h : c < n) (hn : n ≤ 4294967000) :
    Spec (cx V) 123 #[.slice a l c, .int .i64 n] [] [] (fun g : Nat => .slice (some ⟨g, 0, none⟩) n (mcap n)) (fun g => [⟨g, 162, cells .u64 (List.replicate (mcap n) 0), true⟩]) (fun _ => True) := by
  refine Spec.enter Tryz.func123 rfl Tryz.ntmps123 (by simp) [(0, .slice a l c), (1, .int .i64 n)] (by simp) ?_
  intro X hR
  try simp only [apC, apN]
  refine G.seq (G.region (J.assign rfl rfl (J.nil (G.seq (G.seq (G.region (J.move rfl rfl (J.move rfl rfl ?_))))))))
  refine J.capS rfl rfl ?_
  (first | refine J.leN rfl rfl rfl ?_ | refine J.leZ rfl rfl rfl ?_)
  refine J.nil (G.prune [0, 1, 4, 8] rfl (G.cF rfl (G.skip (G.seq (G.seq (G.region (J.move rfl rfl ?_)))))))
  (first | refine J.eqN rfl rfl rfl ?_ | refine J.eqZ rfl rfl rfl ?_)
  refine J.nil ?_
  refine G.condP rfl (fun h1 => ?_) (fun h1 => ?_)
  · refine G.seq ?_
    refine G.region (J.eff (E.make rfl rfl rfl (by omega) (by omega) (by omega)) rfl fun g14 => J.assign rfl rfl (J.nil ?_))
    subst h1
    refine G.ret (hR _) ?_
    exact GL.done (g14) rfl rfl (trivial) rfl [0] rfl (by decide) (by simp [zh])
  · refine G.skip ?_
    refine G.seq (G.region (J.move rfl rfl (J.move rfl rfl ?_)))
    (first | refine J.addI rfl rfl rfl (by omega) ?_ | refine J.addZ rfl rfl rfl (by omega) (by omega) ?_)
    refine J.eff (E.make rfl rfl rfl (by omega) (by omega) (by omega)) rfl fun g18 => J.assign rfl rfl (J.nil (G.prune [4] rfl (G.ret (hR _) ?_)))
    have e : n + 4 = mcap n := by unfold mcap; rw [if_neg h1]
    rw [e]
    exact GL.done (g18) rfl rfl (trivial) rfl [0] rfl (by decide) (by simp [zh])
theorem rv_one {xs : List Nat} {v : Nat} (h : 0 < xs.length) : rv (xs.set 0 v) 0 1 = v := by
  rw [rv_succ]; simp only [rv, Nat.pow_zero, Nat.mul_one, Nat.zero_add]; rw [getD_set_eq h]
theorem Res.one {b x : Nat} {xs : List Nat} (h : 0 < xs.length) (hc : xs.length ≤ 9223372036854775807) (hw : Wd xs) (hx : x < 18446744073709551616) (h0 : x ≠ 0) : Res (some ⟨b, 1, xs.set 0 x⟩) x := by
  refine ⟨⟨?_, ?_, hw.set hx⟩, .inr ?_, rv_one h⟩
  · show 1 ≤ (xs.set 0 x).length; rw [List.length_set]; exact h
  · show (xs.set 0 x).length ≤ _; rw [List.length_set]; exact hc
  · show (xs.set 0 x).getD 0 0 ≠ 0; rw [getD_set_eq h]; exact h0
theorem Res.zero {b : Nat} {xs : List Nat} (hc : xs.length ≤ 9223372036854775807) (hw : Wd xs) : Res (some ⟨b, 0, xs⟩) 0 := ⟨⟨Nat.zero_le _, hc, hw⟩, .inl rfl, rfl⟩
theorem Res.norm {b l n : Nat} {xs : List Nat} (hl : l ≤ xs.length) (hc : xs.length ≤ 9223372036854775807) (hw : Wd xs) (hn : rv xs 0 l = n) : Res (some ⟨b, nl xs 0 l, xs⟩) n := by
  refine ⟨⟨Nat.le_trans (nl_le _ _ _) hl, hc, hw⟩, ?_, (nl_rv _ _ _).trans hn⟩
  have h := nl_top xs 0 l
  simpa only [znm, Nat.zero_add] using h
theorem setWord_spec {z : Option RS} {x : Nat} (hz : zok z) (hx : x < 18446744073709551616) :
    Spec (cx V) 110 #[zv z, .int .u64 x] (zh true z) [] zv (zh true) (fun q => Res q x) := by
  have hm1 := mcap_ge 1
  have hm2 : 0 < (List.replicate (mcap 1) 0).length := by rw [List.length_replicate]; omega
  have hm3 : (List.replicate (mcap 1) 0).length ≤ 9223372036854775807 := by decide
  rcases z with _ | ⟨b, l, zs⟩
  all_goals simp only [zv, zh, zok] at *
  · refine Spec.enter Tryz.func110 rfl Tryz.ntmps110 (by simp) [(0, .slice none 0 0), (1, .int .u64 x)] (by simp) ?_
    intro X hR
    try simp only [apC, apN]
    refine G.seq (G.region (J.assign rfl rfl (J.nil (G.seq (G.seq (G.region (J.move rfl rfl ?_)))))))
    (first | refine J.eqN rfl rfl rfl ?_ | refine J.eqZ rfl rfl rfl ?_)
    refine J.nil ?_
    refine G.condP rfl (fun h0 => ?_) (fun h0 => ?_)
    · refine G.seq ?_
      refine G.region (J.move rfl rfl (J.slH rfl rfl rfl (by omega) (J.assign rfl rfl (J.nil ?_))))
      subst h0
      refine G.ret (hR _) ?_
      exact GL.done (none) rfl rfl (⟨trivial, trivial, rfl⟩) rfl [] rfl (by decide) (by simp [zh])
    · refine G.skip ?_
      refine G.seq (G.region (J.move rfl rfl (J.eff (E.callP (make_new (n := 1) (by omega) (by omega)) [] [] rfl rfl rfl rfl rfl) rfl fun g _ => ?_)))
      try simp only [apC, apN]
      refine J.assign rfl rfl (J.nil (G.seq (G.region (J.move rfl rfl (J.move rfl rfl (J.ix rfl rfl rfl (J.eff (E.sc rfl rfl) rfl (J.nil ?_))))))))
      refine G.prune [0, 4] rfl (G.seq (G.region (J.move rfl rfl (J.assign rfl rfl (J.nil (G.ret (hR _) ?_))))))
      exact GL.done (some ⟨g, 1, (List.replicate (mcap 1) 0).set 0 x⟩) rfl rfl (Res.one hm2 hm3 (Wd.rep _) hx h0) rfl [0] rfl (by decide) (by simp [zh])
  · refine Spec.enter Tryz.func110 rfl Tryz.ntmps110 (by simp) [(0, .slice (some ⟨b, 0, none⟩) l zs.length), (1, .int .u64 x)] (by simp) ?_
    intro X hR
    try simp only [apC, apN]
    refine G.seq (G.region (J.assign rfl rfl (J.nil (G.seq (G.seq (G.region (J.move rfl rfl ?_)))))))
    (first | refine J.eqN rfl rfl rfl ?_ | refine J.eqZ rfl rfl rfl ?_)
    refine J.nil ?_
    refine G.condP rfl (fun h0 => ?_) (fun h0 => ?_)
    · refine G.seq ?_
      refine G.region (J.move rfl rfl (J.slH rfl rfl rfl (by omega) (J.assign rfl rfl (J.nil ?_))))
      subst h0
      refine G.ret (hR _) ?_
      exact GL.done (some ⟨b, 0, zs⟩) rfl rfl (Res.zero hz.2.1 hz.2.2) rfl [0] rfl (by decide) (by simp [zh])
    · refine G.skip ?_
      refine G.seq (G.region (J.move rfl rfl ?_))
      by_cases hf : 1 ≤ zs.length
      · skip
        refine J.eff (E.callP (make_fit hf) [] [] rfl rfl rfl rfl rfl) rfl fun _ _ => ?_
        try simp only [apC, apN]
        refine J.assign rfl rfl (J.nil (G.seq (G.region (J.move rfl rfl (J.move rfl rfl (J.ix rfl rfl rfl (J.eff (E.sc rfl rfl) rfl (J.nil ?_))))))))
        refine G.prune [0, 4] rfl (G.seq (G.region (J.move rfl rfl (J.assign rfl rfl (J.nil (G.ret (hR _) ?_))))))
        exact GL.done (some ⟨b, 1, zs.set 0 x⟩) rfl rfl (Res.one hf hz.2.1 hz.2.2 hx h0) (by simp only [zv, List.length_set]; rfl) [0] rfl (by decide) (by simp [zh])
      · skip
        refine J.eff (E.callP (make_new (n := 1) (by omega) (by omega)) [] [] rfl rfl rfl rfl rfl) rfl fun g _ => ?_
        try simp only [apC, apN]
        refine J.assign rfl rfl (J.nil (G.seq (G.region (J.move rfl rfl (J.move rfl rfl (J.ix rfl rfl rfl (J.eff (E.sc rfl rfl) rfl (J.nil ?_))))))))
        refine G.prune [0, 4] rfl (G.seq (G.region (J.move rfl rfl (J.assign rfl rfl (J.nil (G.ret (hR _) ?_))))))
        exact GL.done (some ⟨g, 1, (List.replicate (mcap 1) 0).set 0 x⟩) rfl rfl (Res.one hm2 hm3 (Wd.rep _) hx h0) rfl [0] rfl (by decide) (by simp [zh])
end
section
set_option maxRecDepth 100000
set_option pp.deepTerms false
variable {V : Addr}
theorem ma_top {zs0 xs0 zs : List Nat} {y r l c : Nat} (h : MA zs0 xs0 0 0 y r l c zs) (hl : l < zs0.length) (hc : zs0.length ≤ 9223372036854775807) :
    Wd (zs.set l c) ∧ (zs.set l c).length = zs0.length ∧ rv (zs.set l c) 0 (l + 1) = rv xs0 0 l * y + r := by
  have hlen := h.w.len
  refine ⟨h.w.wd.set h.lt, by rw [List.length_set, hlen], ?_⟩
  rw [← h.e]
  have := rv_put (zs := zs) (o := 0) (i := l) (v := c) (by omega)
  simpa only [Nat.zero_add] using this
theorem mulAddWW_same {z : Option RS} {y r : Nat} (hz : zok z) (hl : zlen z ≤ 1000000) (hy : y < 18446744073709551616) (hr : r < 18446744073709551616) :
    Spec (cx V) 143 #[zv z, zv z, .int .u64 y, .int .u64 r] (zh true z) [] zv (zh true) (fun q => Res q (zn z * y + r)) := by
  rcases z with _ | ⟨b, l, zs⟩
  · simp only [zv, zh, zn] at *
    refine Spec.enter Tryz.func143 rfl Tryz.ntmps143 (by simp) [(0, .slice none 0 0), (1, .slice none 0 0), (2, .int .u64 y), (3, .int .u64 r)] (by simp) ?_
    intro X hR
    try simp only [apC, apN]
    refine G.seq (G.region (J.assign rfl rfl (J.nil (G.seq (G.region (J.move rfl rfl (J.lenS rfl rfl (J.assign rfl rfl ?_))))))))
    refine J.nil (G.seq (G.seq (G.region (J.move rfl rfl ?_))))
    (first | refine J.eqN rfl rfl rfl ?_ | refine J.eqZ rfl rfl rfl ?_)
    refine J.move rfl rfl (J.sk rfl rfl rfl rfl (J.sk rfl rfl rfl rfl (J.pT rfl rfl rfl (J.nil (G.prune [0, 1, 2, 3, 8, 9, 17] rfl (G.cT rfl (G.seq (G.region ?_))))))))
    refine J.move rfl rfl (J.move rfl rfl (J.eff (E.callP (setWord_spec (z := none) trivial hr) [] [] rfl rfl rfl rfl rfl) rfl fun q hq => ?_))
    try simp only [apC, apN]
    refine J.assign rfl rfl (J.nil (G.prune [0, 1, 2, 3, 8, 9] rfl (G.ret (hR _) ?_)))
    exact GL.doneA (q) rfl rfl (by simpa using hq) rfl [] rfl (zh_wr _)
  · simp only [zv, zh, zok, zlen, zn] at *
    obtain ⟨h1, h2, h3⟩ := hz
    refine Spec.enter Tryz.func143 rfl Tryz.ntmps143 (by simp) [(0, .slice (some ⟨b, 0, none⟩) l zs.length), (1, .slice (some ⟨b, 0, none⟩) l zs.length), (2, .int .u64 y), (3, .int .u64 r)] (by simp) ?_
    intro X hR
    try simp only [apC, apN]
    refine G.seq (G.region (J.assign rfl rfl (J.nil (G.seq (G.region (J.move rfl rfl (J.lenS rfl rfl (J.assign rfl rfl ?_))))))))
    refine J.nil (G.seq (G.seq (G.region (J.move rfl rfl ?_))))
    (first | refine J.eqN rfl rfl rfl ?_ | refine J.eqZ rfl rfl rfl ?_)
    refine J.move rfl rfl ?_
    by_cases h0 : l = 0
    · subst h0
      refine J.sk rfl rfl rfl rfl (J.sk rfl rfl rfl rfl (J.pT rfl rfl rfl (J.nil (G.prune [0, 1, 2, 3, 8, 9, 17] rfl (G.cT rfl (G.seq (G.region (J.move rfl rfl ?_))))))))
      refine J.move rfl rfl ?_
      refine J.eff (E.callP (setWord_spec (z := some ⟨b, 0, zs⟩) ⟨h1, h2, h3⟩ hr) [0] [] rfl rfl rfl rfl rfl) rfl fun q hq => ?_
      try simp only [apC, apN]
      refine J.assign rfl rfl (J.nil (G.prune [0, 1, 2, 3, 8, 9] rfl (G.ret (hR _) ?_)))
      exact GL.doneA (q) rfl rfl (by simpa [rv] using hq) rfl [] rfl (zh_wr _)
    by_cases h0' : y = 0
    · subst h0'
      refine J.wF rfl rfl (J.move rfl rfl (J.wF rfl rfl ?_))
      (first | refine J.eqN rfl rfl rfl ?_ | refine J.eqZ rfl rfl rfl ?_)
      refine J.pF rfl rfl rfl (J.nil (G.prune [0, 1, 2, 3, 8, 9, 17] rfl (G.cT rfl (G.seq (G.region (J.move rfl rfl (J.move rfl rfl ?_)))))))
      refine J.eff (E.callP (setWord_spec (z := some ⟨b, l, zs⟩) ⟨h1, h2, h3⟩ hr) [0] [] rfl rfl rfl rfl rfl) rfl fun q hq => ?_
      try simp only [apC, apN]
      refine J.assign rfl rfl (J.nil (G.prune [0, 1, 2, 3, 8, 9] rfl (G.ret (hR _) ?_)))
      exact GL.doneA (q) rfl rfl (by simpa using hq) rfl [] rfl (zh_wr _)
    refine J.wF rfl rfl (J.move rfl rfl (J.wF rfl rfl ?_))
    (first | refine J.eqN rfl rfl rfl ?_ | refine J.eqZ rfl rfl rfl ?_)
    refine J.pF rfl rfl rfl (J.nil (G.prune [0, 1, 2, 3, 8, 9, 17] rfl (G.cF rfl (G.skip (G.seq (G.region (J.move rfl rfl (J.move rfl rfl ?_))))))))
    (first | refine J.addI rfl rfl rfl (by omega) ?_ | refine J.addZ rfl rfl rfl (by omega) (by omega) ?_)
    by_cases hf : l + 1 ≤ zs.length
    · skip
      refine J.eff (E.callP (make_fit hf) [] [] rfl rfl rfl rfl rfl) rfl fun _ _ => ?_
      try simp only [apC, apN]
      refine J.assign rfl rfl (J.nil (G.prune [0, 1, 2, 3, 8, 9] rfl (G.seq (G.region (J.move rfl rfl (J.move rfl rfl (J.move rfl rfl (J.move rfl rfl ?_))))))))
      refine J.slH0 rfl rfl rfl (by omega) rfl (J.move rfl rfl (J.move rfl rfl (J.move rfl rfl (J.eff (E.callP (mulAddVWWS_spec (oz := 0) (ox := 0) (zs0 := zs) (by omega) h3 (by omega) (.inl (Nat.le_refl _)) (by omega) hy hr) [0] [] rfl rfl rfl rfl rfl) rfl fun p hp => ?_))))
      try simp only [apC, apN]
      have hlen := hp.w.len
      obtain ⟨t1, t2, t3⟩ := ma_top hp (by omega) h2
      refine J.ix rfl rfl rfl (J.eff (E.sc rfl rfl) rfl (J.nil (G.prune [0, 8] rfl (G.seq (G.region (J.move rfl rfl ?_))))))
      simp only [Nat.zero_add]
      refine J.eff (E.callP (norm_spec (o := 0) (xs := p.2.set l p.1) (by omega) (by omega) (by omega)) [] [0] rfl rfl rfl rfl rfl) rfl fun _ _ => ?_
      try simp only [apC, apN]
      refine J.assign rfl rfl (J.nil (G.ret (hR _) ?_))
      exact GL.done (some ⟨b, nl (p.2.set l p.1) 0 (l + 1), p.2.set l p.1⟩) rfl rfl (Res.norm (by omega) (by omega) t1 t3) (by simp only [zv, t2]; rfl) [0] rfl (by decide) (by simp [zh])
    · skip
      have hc1 := mcap_ge (l + 1)
      have hc2 := mcap_le (l + 1)
      have hl2 : (List.replicate (mcap (l + 1)) 0).length = mcap (l + 1) := List.length_replicate ..
      refine J.eff (E.callP (make_new (n := l + 1) (by omega) (by omega)) [] [] rfl rfl rfl rfl rfl) rfl fun g _ => ?_
      try simp only [apC, apN]
      refine J.assign rfl rfl (J.nil (G.prune [0, 1, 2, 3, 8, 9] rfl (G.seq (G.region (J.move rfl rfl (J.move rfl rfl (J.move rfl rfl (J.move rfl rfl ?_))))))))
      refine J.slH0 rfl rfl rfl (by omega) rfl (J.move rfl rfl (J.move rfl rfl (J.move rfl rfl (J.eff (E.callP (mulAddVWWO_spec (oz := 0) (ox := 0) (zs0 := List.replicate (mcap (l + 1)) 0) (xs0 := zs) (by omega) (Wd.rep _) (by omega) h3 (by omega) hy hr) [0] [0] rfl rfl rfl rfl rfl) rfl fun p hp => ?_))))
      try simp only [apC, apN]
      have hlen := hp.w.len
      obtain ⟨t1, t2, t3⟩ := ma_top hp (by omega) (by omega)
      refine J.ix rfl rfl rfl (J.eff (E.sc rfl rfl) rfl (J.nil (G.prune [0, 8] rfl (G.seq (G.region (J.move rfl rfl ?_))))))
      simp only [Nat.zero_add]
      refine J.eff (E.callP (norm_spec (o := 0) (xs := p.2.set l p.1) (by omega) (by omega) (by omega)) [] [0] rfl rfl rfl rfl rfl) rfl fun _ _ => ?_
      try simp only [apC, apN]
      refine J.assign rfl rfl (J.nil (G.ret (hR _) ?_))
      exact GL.done (some ⟨g, nl (p.2.set l p.1) 0 (l + 1), p.2.set l p.1⟩) rfl rfl (Res.norm (by omega) (by omega) t1 t3) (by simp only [zv, t2, hl2]; rfl) [0] rfl (by decide) (by simp [zh])
end
section
set_option maxRecDepth 100000
set_option pp.deepTerms false
variable {V : Addr}
theorem mulAddWW_other {z : Option RS} {x : RS} {y r : Nat} (hz : zok z) (hx : zok (some x)) (hl : x.len ≤ 1000000) (hy : y < 18446744073709551616) (hr : r < 18446744073709551616) :
    Spec (cx V) 143 #[zv z, zv (some x), .int .u64 y, .int .u64 r] (zh true z) (zh false (some x)) zv (zh true) (fun q => Res q (zn (some x) * y + r)) := by
  obtain ⟨b2, l, xs⟩ := x
  simp only [zok] at hx
  obtain ⟨h1, h2, h3⟩ := hx
  rcases z with _ | ⟨b, lz, zs⟩
  · simp only [zv, zh, zn] at *
    refine Spec.enter Tryz.func143 rfl Tryz.ntmps143 (by simp) [(0, .slice none 0 0), (1, .slice (some ⟨b2, 0, none⟩) l xs.length), (2, .int .u64 y), (3, .int .u64 r)] (by simp) ?_
    intro X hR
    try simp only [apC, apN]
    refine G.seq (G.region (J.assign rfl rfl (J.nil (G.seq (G.region (J.move rfl rfl (J.lenS rfl rfl (J.assign rfl rfl ?_))))))))
    refine J.nil (G.seq (G.seq (G.region (J.move rfl rfl ?_))))
    (first | refine J.eqN rfl rfl rfl ?_ | refine J.eqZ rfl rfl rfl ?_)
    refine J.move rfl rfl ?_
    by_cases h0 : l = 0
    · subst h0
      refine J.sk rfl rfl rfl rfl (J.sk rfl rfl rfl rfl (J.pT rfl rfl rfl (J.nil (G.prune [0, 1, 2, 3, 8, 9, 17] rfl (G.cT rfl (G.seq (G.region (J.move rfl rfl ?_))))))))
      refine J.move rfl rfl (J.eff (E.callP (setWord_spec (z := none) trivial hr) [] [] rfl rfl rfl rfl rfl) rfl fun q hq => ?_)
      try simp only [apC, apN]
      refine J.assign rfl rfl (J.nil (G.prune [0, 1, 2, 3, 8, 9] rfl (G.ret (hR _) ?_)))
      exact GL.doneA (q) rfl rfl (by simpa [rv] using hq) rfl _ rfl (zh_wr _)
    by_cases h0' : y = 0
    · subst h0'
      refine J.wF rfl rfl (J.move rfl rfl (J.wF rfl rfl ?_))
      (first | refine J.eqN rfl rfl rfl ?_ | refine J.eqZ rfl rfl rfl ?_)
      refine J.pF rfl rfl rfl (J.nil (G.prune [0, 1, 2, 3, 8, 9, 17] rfl (G.cT rfl (G.seq (G.region (J.move rfl rfl (J.move rfl rfl (J.eff (E.callP (setWord_spec (z := none) trivial hr) [] [] rfl rfl rfl rfl rfl) rfl fun q hq => ?_))))))))
      try simp only [apC, apN]
      refine J.assign rfl rfl (J.nil (G.prune [0, 1, 2, 3, 8, 9] rfl (G.ret (hR _) ?_)))
      exact GL.doneA (q) rfl rfl (by simpa using hq) rfl _ rfl (zh_wr _)
    refine J.wF rfl rfl (J.move rfl rfl (J.wF rfl rfl ?_))
    (first | refine J.eqN rfl rfl rfl ?_ | refine J.eqZ rfl rfl rfl ?_)
    refine J.pF rfl rfl rfl (J.nil (G.prune [0, 1, 2, 3, 8, 9, 17] rfl (G.cF rfl (G.skip (G.seq (G.region (J.move rfl rfl (J.move rfl rfl ?_))))))))
    (first | refine J.addI rfl rfl rfl (by omega) ?_ | refine J.addZ rfl rfl rfl (by omega) (by omega) ?_)
    · skip
      have hc1 := mcap_ge (l + 1)
      have hc2 := mcap_le (l + 1)
      have hl2 : (List.replicate (mcap (l + 1)) 0).length = mcap (l + 1) := List.length_replicate ..
      refine J.eff (E.callP (make_new (n := l + 1) (by omega) (by omega)) [] [] rfl rfl rfl rfl rfl) rfl fun g _ => ?_
      try simp only [apC, apN]
      refine J.assign rfl rfl (J.nil (G.prune [0, 1, 2, 3, 8, 9] rfl (G.seq (G.region (J.move rfl rfl (J.move rfl rfl (J.move rfl rfl (J.move rfl rfl ?_))))))))
      refine J.slH0 rfl rfl rfl (by omega) rfl (J.move rfl rfl (J.move rfl rfl (J.move rfl rfl (J.eff (E.callP (mulAddVWWO_spec (oz := 0) (ox := 0) (zs0 := List.replicate (mcap (l + 1)) 0) (xs0 := xs) (by omega) (Wd.rep _) (by omega) h3 (by omega) hy hr) [0] [0] rfl rfl rfl rfl rfl) rfl fun p hp => ?_))))
      try simp only [apC, apN]
      have hlen := hp.w.len
      obtain ⟨t1, t2, t3⟩ := ma_top hp (by omega) (by omega)
      refine J.ix rfl rfl rfl (J.eff (E.sc rfl rfl) rfl (J.nil (G.prune [0, 8] rfl (G.seq (G.region (J.move rfl rfl ?_))))))
      simp only [Nat.zero_add]
      refine J.eff (E.callP (norm_spec (o := 0) (xs := p.2.set l p.1) (by omega) (by omega) (by omega)) [] [0] rfl rfl rfl rfl rfl) rfl fun _ _ => ?_
      try simp only [apC, apN]
      refine J.assign rfl rfl (J.nil (G.ret (hR _) ?_))
      exact GL.done (some ⟨g, nl (p.2.set l p.1) 0 (l + 1), p.2.set l p.1⟩) rfl rfl (Res.norm (by omega) (by omega) t1 t3) (by simp only [zv, t2, hl2]; rfl) [0] rfl (by decide) (by simp [zh])
  · simp only [zv, zh, zok, zn] at *
    obtain ⟨z1, z2, z3⟩ := hz
    refine Spec.enter Tryz.func143 rfl Tryz.ntmps143 (by simp) [(0, .slice (some ⟨b, 0, none⟩) lz zs.length), (1, .slice (some ⟨b2, 0, none⟩) l xs.length), (2, .int .u64 y), (3, .int .u64 r)] (by simp) ?_
    intro X hR
    try simp only [apC, apN]
    refine G.seq (G.region (J.assign rfl rfl (J.nil (G.seq (G.region (J.move rfl rfl (J.lenS rfl rfl (J.assign rfl rfl ?_))))))))
    refine J.nil (G.seq (G.seq (G.region (J.move rfl rfl ?_))))
    (first | refine J.eqN rfl rfl rfl ?_ | refine J.eqZ rfl rfl rfl ?_)
    refine J.move rfl rfl ?_
    by_cases h0 : l = 0
    · subst h0
      refine J.sk rfl rfl rfl rfl (J.sk rfl rfl rfl rfl (J.pT rfl rfl rfl (J.nil (G.prune [0, 1, 2, 3, 8, 9, 17] rfl (G.cT rfl (G.seq (G.region (J.move rfl rfl ?_))))))))
      refine J.move rfl rfl ?_
      refine J.eff (E.callP (setWord_spec (z := some ⟨b, lz, zs⟩) ⟨z1, z2, z3⟩ hr) [0] [] rfl rfl rfl rfl rfl) rfl fun q hq => ?_
      try simp only [apC, apN]
      refine J.assign rfl rfl (J.nil (G.prune [0, 1, 2, 3, 8, 9] rfl (G.ret (hR _) ?_)))
      exact GL.doneA (q) rfl rfl (by simpa [rv] using hq) rfl _ rfl (zh_wr _)
    by_cases h0' : y = 0
    · subst h0'
      refine J.wF rfl rfl (J.move rfl rfl (J.wF rfl rfl ?_))
      (first | refine J.eqN rfl rfl rfl ?_ | refine J.eqZ rfl rfl rfl ?_)
      refine J.pF rfl rfl rfl (J.nil (G.prune [0, 1, 2, 3, 8, 9, 17] rfl (G.cT rfl (G.seq (G.region (J.move rfl rfl (J.move rfl rfl ?_)))))))
      refine J.eff (E.callP (setWord_spec (z := some ⟨b, lz, zs⟩) ⟨z1, z2, z3⟩ hr) [0] [] rfl rfl rfl rfl rfl) rfl fun q hq => ?_
      try simp only [apC, apN]
      refine J.assign rfl rfl (J.nil (G.prune [0, 1, 2, 3, 8, 9] rfl (G.ret (hR _) ?_)))
      exact GL.doneA (q) rfl rfl (by simpa using hq) rfl _ rfl (zh_wr _)
    refine J.wF rfl rfl (J.move rfl rfl (J.wF rfl rfl ?_))
    (first | refine J.eqN rfl rfl rfl ?_ | refine J.eqZ rfl rfl rfl ?_)
    refine J.pF rfl rfl rfl (J.nil (G.prune [0, 1, 2, 3, 8, 9, 17] rfl (G.cF rfl (G.skip (G.seq (G.region (J.move rfl rfl (J.move rfl rfl ?_))))))))
    (first | refine J.addI rfl rfl rfl (by omega) ?_ | refine J.addZ rfl rfl rfl (by omega) (by omega) ?_)
    by_cases hf : l + 1 ≤ zs.length
    · skip
      refine J.eff (E.callP (make_fit hf) [] [] rfl rfl rfl rfl rfl) rfl fun _ _ => ?_
      try simp only [apC, apN]
      refine J.assign rfl rfl (J.nil (G.prune [0, 1, 2, 3, 8, 9] rfl (G.seq (G.region (J.move rfl rfl (J.move rfl rfl (J.move rfl rfl (J.move rfl rfl ?_))))))))
      refine J.slH0 rfl rfl rfl (by omega) rfl (J.move rfl rfl (J.move rfl rfl (J.move rfl rfl (J.eff (E.callP (mulAddVWWO_spec (oz := 0) (ox := 0) (zs0 := zs) (xs0 := xs) (by omega) z3 (by omega) h3 (by omega) hy hr) [0] [0] rfl rfl rfl rfl rfl) rfl fun p hp => ?_))))
      try simp only [apC, apN]
      have hlen := hp.w.len
      obtain ⟨t1, t2, t3⟩ := ma_top hp (by omega) (by omega)
      refine J.ix rfl rfl rfl (J.eff (E.sc rfl rfl) rfl (J.nil (G.prune [0, 8] rfl (G.seq (G.region (J.move rfl rfl ?_))))))
      simp only [Nat.zero_add]
      refine J.eff (E.callP (norm_spec (o := 0) (xs := p.2.set l p.1) (by omega) (by omega) (by omega)) [] [0] rfl rfl rfl rfl rfl) rfl fun _ _ => ?_
      try simp only [apC, apN]
      refine J.assign rfl rfl (J.nil (G.ret (hR _) ?_))
      exact GL.done (some ⟨b, nl (p.2.set l p.1) 0 (l + 1), p.2.set l p.1⟩) rfl rfl (Res.norm (by omega) (by omega) t1 t3) (by simp only [zv, t2]; rfl) [0] rfl (by decide) (by simp [zh])
    · skip
      have hc1 := mcap_ge (l + 1)
      have hc2 := mcap_le (l + 1)
      have hl2 : (List.replicate (mcap (l + 1)) 0).length = mcap (l + 1) := List.length_replicate ..
      refine J.eff (E.callP (make_new (n := l + 1) (by omega) (by omega)) [] [] rfl rfl rfl rfl rfl) rfl fun g _ => ?_
      try simp only [apC, apN]
      refine J.assign rfl rfl (J.nil (G.prune [0, 1, 2, 3, 8, 9] rfl (G.seq (G.region (J.move rfl rfl (J.move rfl rfl (J.move rfl rfl (J.move rfl rfl ?_))))))))
      refine J.slH0 rfl rfl rfl (by omega) rfl (J.move rfl rfl (J.move rfl rfl (J.move rfl rfl (J.eff (E.callP (mulAddVWWO_spec (oz := 0) (ox := 0) (zs0 := List.replicate (mcap (l + 1)) 0) (xs0 := xs) (by omega) (Wd.rep _) (by omega) h3 (by omega) hy hr) [0] [1] rfl rfl rfl rfl rfl) rfl fun p hp => ?_))))
      try simp only [apC, apN]
      have hlen := hp.w.len
      obtain ⟨t1, t2, t3⟩ := ma_top hp (by omega) (by omega)
      refine J.ix rfl rfl rfl (J.eff (E.sc rfl rfl) rfl (J.nil (G.prune [0, 8] rfl (G.seq (G.region (J.move rfl rfl ?_))))))
      simp only [Nat.zero_add]
      refine J.eff (E.callP (norm_spec (o := 0) (xs := p.2.set l p.1) (by omega) (by omega) (by omega)) [] [0] rfl rfl rfl rfl rfl) rfl fun _ _ => ?_
      try simp only [apC, apN]
      refine J.assign rfl rfl (J.nil (G.ret (hR _) ?_))
      exact GL.done (some ⟨g, nl (p.2.set l p.1) 0 (l + 1), p.2.set l p.1⟩) rfl rfl (Res.norm (by omega) (by omega) t1 t3) (by simp only [zv, t2, hl2]; rfl) [0] rfl (by decide) (by simp [zh])
theorem alias_nil {a : Option Addr} {l c n m : Nat} {S : Hp} :
    Spec (cx V) 125 #[.slice none 0 0, .slice a l c] [] [] (fun _ : Unit => .bool false) (fun _ => []) (fun _ => True) := by
  refine Spec.enter Tryz.func125 rfl Tryz.ntmps125 (by simp) [(0, .slice none 0 0), (1, .slice a l c)] (by simp) ?_
  intro X hR
  try simp only [apC, apN]
  refine G.seq (G.region (J.assign rfl rfl (J.nil (G.seq (G.regionS [0, 1, 2, 3, 4, 5, 6, 7, 8, 9, 10, 11, 12, 13, 14, 15, 16, 17, 18, 19, 20, 21, 22, 23, 24, 25, 26, 27] none none [] (by kernel_rfl) (SubH.of [] rfl) rfl (J.move rfl rfl (J.capS rfl rfl ?_)))))))
  (first | refine J.gtN rfl rfl rfl ?_ | refine J.gtZ rfl rfl rfl ?_)
  refine J.move rfl rfl (J.sk rfl rfl rfl rfl (J.sk rfl rfl rfl rfl (J.sk rfl rfl rfl rfl (J.pF rfl rfl rfl (J.move rfl rfl (J.sk rfl rfl rfl rfl (J.sk rfl rfl rfl rfl (J.sk rfl rfl rfl rfl ?_))))))))
  refine J.sk rfl rfl rfl rfl (J.sk rfl rfl rfl rfl (J.sk rfl rfl rfl rfl (J.sk rfl rfl rfl rfl (J.sk rfl rfl rfl rfl (J.sk rfl rfl rfl rfl (J.sk rfl rfl rfl rfl (J.sk rfl rfl rfl rfl (J.sk rfl rfl rfl rfl ?_))))))))
  refine J.sk rfl rfl rfl rfl (J.sk rfl rfl rfl rfl (J.sk rfl rfl rfl rfl (J.sk rfl rfl rfl rfl (J.sk rfl rfl rfl rfl (J.pF rfl rfl rfl (J.assign rfl rfl (J.nil (G.prune [4] rfl ?_))))))))
  refine G.ret (hR _) ?_
  exact GL.done (()) rfl rfl (trivial) rfl [] rfl (by decide) (by simp [zh])
theorem alias_other {b b2 o o2 l c n m : Nat} {cs cs2 : List Value} (hne : b ≠ b2) (hc : c < 9223372036854775808) (hm : m < 9223372036854775808) :
    Spec (cx V) 125 #[.slice (some ⟨b, o, none⟩) l c, .slice (some ⟨b2, o2, none⟩) n m] [] [⟨b, 162, cs, false⟩, ⟨b2, 162, cs2, false⟩] (fun _ : Unit => .bool false) (fun _ => []) (fun _ => True) := by
  refine Spec.enter Tryz.func125 rfl Tryz.ntmps125 (by simp) [(0, .slice (some ⟨b, o, none⟩) l c), (1, .slice (some ⟨b2, o2, none⟩) n m)] (by simp) ?_
  intro X hR
  try simp only [apC, apN]
  refine G.seq (G.region (J.assign rfl rfl (J.nil (G.seq (G.regionS [0, 1, 2, 3, 4, 5, 6, 7, 8, 9, 10, 11, 12, 13, 14, 15, 16, 17, 18, 19, 20, 21, 22, 23, 24, 25, 26, 27] none none [⟨b, 162, cs, false⟩, ⟨b2, 162, cs2, false⟩] (by kernel_rfl) (SubH.of [0, 1] rfl) rfl (J.move rfl rfl (J.capS rfl rfl ?_)))))))
  (first | refine J.gtN rfl rfl rfl ?_ | refine J.gtZ rfl rfl rfl ?_)
  refine J.move rfl rfl ?_
  by_cases h1 : c = 0
  · skip
    refine J.sk rfl rfl rfl rfl (J.sk rfl rfl rfl rfl (J.sk rfl rfl rfl rfl (J.pF rfl rfl rfl (J.move rfl rfl (J.sk rfl rfl rfl rfl (J.sk rfl rfl rfl rfl (J.sk rfl rfl rfl rfl (J.sk rfl rfl rfl rfl ?_))))))))
    refine J.sk rfl rfl rfl rfl (J.sk rfl rfl rfl rfl (J.sk rfl rfl rfl rfl (J.sk rfl rfl rfl rfl (J.sk rfl rfl rfl rfl (J.sk rfl rfl rfl rfl (J.sk rfl rfl rfl rfl (J.sk rfl rfl rfl rfl (J.sk rfl rfl rfl rfl ?_))))))))
    refine J.sk rfl rfl rfl rfl (J.sk rfl rfl rfl rfl (J.sk rfl rfl rfl rfl (J.sk rfl rfl rfl rfl (J.pF rfl rfl rfl (J.assign rfl rfl (J.nil (G.prune [4] rfl (G.ret (hR _) ?_))))))))
    exact GL.done (()) rfl rfl (trivial) rfl [] rfl (by decide) (by simp [zh])
  by_cases h2 : m = 0
  · skip
    refine J.wT rfl rfl (J.move rfl rfl (J.wT rfl rfl (J.capS rfl rfl (J.wT rfl rfl ?_))))
    (first | refine J.gtN rfl rfl rfl ?_ | refine J.gtZ rfl rfl rfl ?_)
    refine J.pT rfl rfl rfl (J.move rfl rfl (J.sk rfl rfl rfl rfl (J.sk rfl rfl rfl rfl (J.sk rfl rfl rfl rfl (J.sk rfl rfl rfl rfl (J.sk rfl rfl rfl rfl (J.sk rfl rfl rfl rfl (J.sk rfl rfl rfl rfl ?_))))))))
    refine J.sk rfl rfl rfl rfl (J.sk rfl rfl rfl rfl (J.sk rfl rfl rfl rfl (J.sk rfl rfl rfl rfl (J.sk rfl rfl rfl rfl (J.sk rfl rfl rfl rfl (J.sk rfl rfl rfl rfl (J.sk rfl rfl rfl rfl (J.sk rfl rfl rfl rfl ?_))))))))
    refine J.sk rfl rfl rfl rfl (J.pF rfl rfl rfl (J.assign rfl rfl (J.nil (G.prune [4] rfl (G.ret (hR _) ?_)))))
    exact GL.done (()) rfl rfl (trivial) rfl [] rfl (by decide) (by simp [zh])
  refine J.wT rfl rfl (J.move rfl rfl (J.wT rfl rfl (J.capS rfl rfl (J.wT rfl rfl ?_))))
  (first | refine J.gtN rfl rfl rfl ?_ | refine J.gtZ rfl rfl rfl ?_)
  refine J.pT rfl rfl rfl (J.move rfl rfl (J.wT rfl rfl (J.move rfl rfl (J.wT rfl rfl (J.move rfl rfl (J.wT rfl rfl (J.capS rfl rfl (J.wT rfl rfl ?_))))))))
  refine J.slH0 rfl rfl rfl (by omega) rfl (J.wT rfl rfl (J.move rfl rfl (J.wT rfl rfl (J.capS rfl rfl (J.wT rfl rfl ?_)))))
  (first | refine J.subI rfl rfl rfl (by omega) (by omega) ?_ | refine J.subZ rfl rfl rfl (by omega) (by omega) ?_)
  refine J.wT rfl rfl (J.ix rfl rfl rfl (J.wT rfl rfl (J.move rfl rfl (J.wT rfl rfl (J.move rfl rfl (J.wT rfl rfl (J.capS rfl rfl (J.wT rfl rfl ?_))))))))
  refine J.slH0 rfl rfl rfl (by omega) rfl (J.wT rfl rfl (J.move rfl rfl (J.wT rfl rfl (J.capS rfl rfl (J.wT rfl rfl ?_)))))
  (first | refine J.subI rfl rfl rfl (by omega) (by omega) ?_ | refine J.subZ rfl rfl rfl (by omega) (by omega) ?_)
  refine J.wT rfl rfl (J.ix rfl rfl rfl (J.wT rfl rfl (J.ptrOther rfl rfl rfl hne (by first | exact Mem.h | exact M1 | exact M2 | exact M3 | exact M4 | exact M5 | exact M6 | exact M7 | exact M8 | exact M9) (by first | exact Mem.h | exact M1 | exact M2 | exact M3 | exact M4 | exact M5 | exact M6 | exact M7 | exact M8 | exact M9) (J.pT rfl rfl rfl (J.assign rfl rfl (J.nil (G.prune [4] rfl (G.ret (hR _) ?_))))))))
  exact GL.done (()) rfl rfl (trivial) rfl [] rfl (by decide) (by simp [zh])
end
section
set_option maxRecDepth 100000
set_option pp.deepTerms false
variable {V : Addr}
theorem alias_same {b o l c n : Nat} {cs : List Value} (hc : c < 9223372036854775808) (h0 : 0 < c) :
    Spec (cx V) 125 #[.slice (some ⟨b, o, none⟩) l c, .slice (some ⟨b, o, none⟩) n c] [] [⟨b, 162, cs, false⟩] (fun _ : Unit => .bool true) (fun _ => []) (fun _ => True) := by
  refine Spec.enter Tryz.func125 rfl Tryz.ntmps125 (by simp) [(0, .slice (some ⟨b, o, none⟩) l c), (1, .slice (some ⟨b, o, none⟩) n c)] (by simp) ?_
  intro X hR
  try simp only [apC, apN]
  refine G.seq (G.region (J.assign rfl rfl (J.nil (G.seq (G.regionS [0, 1, 2, 3, 4, 5, 6, 7, 8, 9, 10, 11, 12, 13, 14, 15, 16, 17, 18, 19, 20, 21, 22, 23, 24, 25, 26, 27] none none [⟨b, 162, cs, false⟩] (by kernel_rfl) (SubH.of [0] rfl) rfl (J.move rfl rfl (J.capS rfl rfl ?_)))))))
  (first | refine J.gtN rfl rfl rfl ?_ | refine J.gtZ rfl rfl rfl ?_)
  refine J.move rfl rfl (J.wT rfl rfl (J.move rfl rfl (J.wT rfl rfl (J.capS rfl rfl (J.wT rfl rfl ?_)))))
  (first | refine J.gtN rfl rfl rfl ?_ | refine J.gtZ rfl rfl rfl ?_)
  refine J.pT rfl rfl rfl (J.move rfl rfl (J.wT rfl rfl (J.move rfl rfl (J.wT rfl rfl (J.move rfl rfl (J.wT rfl rfl (J.capS rfl rfl (J.wT rfl rfl ?_))))))))
  refine J.slH0 rfl rfl rfl (by omega) rfl (J.wT rfl rfl (J.move rfl rfl (J.wT rfl rfl (J.capS rfl rfl (J.wT rfl rfl ?_)))))
  (first | refine J.subI rfl rfl rfl (by omega) (by omega) ?_ | refine J.subZ rfl rfl rfl (by omega) (by omega) ?_)
  refine J.wT rfl rfl (J.ix rfl rfl rfl (J.wT rfl rfl (J.move rfl rfl (J.wT rfl rfl (J.move rfl rfl (J.wT rfl rfl (J.capS rfl rfl (J.wT rfl rfl ?_))))))))
  refine J.slH0 rfl rfl rfl (by omega) rfl (J.wT rfl rfl (J.move rfl rfl (J.wT rfl rfl (J.capS rfl rfl (J.wT rfl rfl ?_)))))
  (first | refine J.subI rfl rfl rfl (by omega) (by omega) ?_ | refine J.subZ rfl rfl rfl (by omega) (by omega) ?_)
  refine J.wT rfl rfl (J.ix rfl rfl rfl (J.wT rfl rfl (J.ptrSame rfl rfl rfl (by first | exact Mem.h | exact M1 | exact M2 | exact M3 | exact M4 | exact M5 | exact M6 | exact M7 | exact M8 | exact M9) (J.pT rfl rfl rfl (J.assign rfl rfl (J.nil (G.prune [4] rfl ?_)))))))
  simp only [decide_true]
  refine G.ret (hR _) ?_
  exact GL.done (()) rfl rfl (trivial) rfl [] rfl (by decide) (by simp)
structure BM (zs0 xs0 ys0 : List Nat) (lx ly i : Nat) (zs : List Nat) : Prop where
  w : Wr zs0 zs 0 (lx + ly)
  z : ∀ j, lx + i ≤ j → j < lx + ly → zs.getD j 0 = 0
  e : rv zs 0 (lx + i) = rv xs0 0 lx * rv ys0 0 i
theorem rv_zero {zs : List Nat} {o n : Nat} (h : ∀ j, j < n → zs.getD (o + j) 0 = 0) : rv zs o n = 0 := by
  induction n with
  | zero => rfl
  | succ n ih => rw [rv_succ, ih (fun j hj => h j (by omega)), h n (by omega)]; simp
theorem BM.start {zs0 xs0 ys0 : List Nat} {lx ly : Nat} (hw : Wd zs0) (hl : lx + ly ≤ zs0.length) : BM zs0 xs0 ys0 lx ly 0 (splice zs0 0 (List.replicate (lx + ly) 0)) := by
  have hr : (List.replicate (lx + ly) 0).length = lx + ly := List.length_replicate ..
  have hz : ∀ j, j < lx + ly → (splice zs0 0 (List.replicate (lx + ly) 0)).getD j 0 = 0 := fun j hj => by
    rw [getD_splice (by omega), if_pos (by omega)]
    simp [List.getD_eq_getElem?_getD, List.getElem?_replicate, hj]
  refine ⟨⟨splice_len _ _ _ (by omega), fun j hj => ?_, hw.splice (Wd.rep _) (by omega)⟩, fun j _ h => hz j h, ?_⟩
  · rw [getD_splice (by omega), if_neg (by omega)]
  · rw [rv_zero (fun j hj => by rw [Nat.zero_add]; exact hz j (by omega))]; simp [rv]
theorem BM.skip {zs0 xs0 ys0 zs : List Nat} {lx ly i : Nat} (h : BM zs0 xs0 ys0 lx ly i zs) (hi : i < ly) (h0 : ys0.getD i 0 = 0) : BM zs0 xs0 ys0 lx ly (i + 1) zs := by
  refine ⟨h.w, fun j h1 h2 => h.z j (by omega) h2, ?_⟩
  rw [← Nat.add_assoc, rv_succ, rv_succ, Nat.zero_add, Nat.zero_add, h0, h.z (lx + i) (Nat.le_refl _) (by omega), h.e]
  simp
theorem BM.step {zs0 xs0 ys0 zs zs2 : List Nat} {lx ly i c d : Nat} (h : BM zs0 xs0 ys0 lx ly i zs) (hi : i < ly) (hl : lx + ly ≤ zs0.length) (hd : d = ys0.getD i 0) (ha : AM zs xs0 i 0 d 0 lx c zs2) :
    BM zs0 xs0 ys0 lx ly (i + 1) (zs2.set (lx + i) c) := by
  have l1 := h.w.len
  have l2 := ha.w.len
  have hc := ha.lt
  refine ⟨⟨by rw [List.length_set]; omega, fun j hj => ?_, ha.w.wd.set hc⟩, fun j h1 h2 => ?_, ?_⟩
  · rw [getD_set_ne (by omega), ha.w.out j (by omega)]; exact h.w.out j hj
  · rw [getD_set_ne (by omega), ha.w.out j (by omega)]; exact h.z j (by omega) h2
  · rw [← Nat.add_assoc, rv_succ, Nat.zero_add, getD_set_eq (by omega), rv_set (by omega), rv_succ, Nat.zero_add, ← hd, Nat.mul_add, ← h.e]
    rw [Nat.add_comm lx i, rv_split, rv_split]
    have e := ha.e
    simp only [Nat.zero_add, Nat.add_zero] at e ⊢
    have e1 : rv zs2 0 i = rv zs 0 i := rv_congr fun j hj => ha.w.out _ (by omega)
    rw [e1, Nat.pow_add, Nat.add_assoc, Nat.mul_comm (18446744073709551616 ^ i) (18446744073709551616 ^ lx), ← Nat.mul_assoc, Nat.mul_comm (c * _), ← Nat.mul_add, e, Nat.mul_add]
    rw [Nat.add_assoc]
    congr 2
    rw [Nat.mul_comm, Nat.mul_assoc]
theorem basicMulD_spec {b b2 b3 lz cz lx cx2 ly cy : Nat} {zs0 xs0 ys0 : List Nat} (hw : Wd zs0) (hx : lx ≤ xs0.length) (hxw : Wd xs0) (hy : ly ≤ ys0.length) (hyw : Wd ys0) (hz : lx + ly ≤ zs0.length) (hc : lx + ly ≤ cz) (hcz : cz ≤ zs0.length) (hlz : lx + ly ≤ lz) (hn : zs0.length < 9223372036854775808) :
    Spec (cx V) 155 #[.slice (some ⟨b, 0, none⟩) lz cz, .slice (some ⟨b2, 0, none⟩) lx cx2, .slice (some ⟨b3, 0, none⟩) ly cy] [⟨b, 162, cells .u64 zs0, true⟩] [⟨b2, 162, cells .u64 xs0, false⟩, ⟨b3, 162, cells .u64 ys0, false⟩]
      (fun _ : List Nat => .tuple #[]) (fun p => [⟨b, 162, cells .u64 p, true⟩]) (fun p => BM zs0 xs0 ys0 lx ly ly p) := by
  refine Spec.enter Tryz.func155 rfl Tryz.ntmps155 (by simp) [(0, .slice (some ⟨b, 0, none⟩) lz cz), (1, .slice (some ⟨b2, 0, none⟩) lx cx2), (2, .slice (some ⟨b3, 0, none⟩) ly cy)] (by simp) ?_
  intro X hR
  try simp only [apC, apN]
  refine G.seq (G.region (J.move rfl rfl (J.move rfl rfl (J.lenS rfl rfl (J.move rfl rfl (J.lenS rfl rfl ?_))))))
  (first | refine J.addI rfl rfl rfl (by omega) ?_ | refine J.addZ rfl rfl rfl (by omega) (by omega) ?_)
  refine J.slH0 rfl rfl rfl (by omega) rfl (J.eff (E.clear (xs := zs0) rfl rfl (by omega) Upd1.h) rfl (J.nil (G.prune [0, 1, 2, 6, 7] rfl (G.seq (G.region (J.move rfl rfl (J.lenS rfl rfl (J.move rfl rfl ?_))))))))
  refine J.nil (G.block ?_)
  refine G.loopW (σ := {t : Nat × List Nat // t.1 ≤ ly ∧ BM zs0 xs0 ys0 lx ly t.1 t.2}) (fun t => [(0, .slice (some ⟨b, 0, none⟩) lz cz), (1, .slice (some ⟨b2, 0, none⟩) lx cx2), (15, .slice (some ⟨b3, 0, none⟩) ly cy), (16, .int .i64 ly), (17, .int .i64 (t.1.1 : Nat))]) (fun t => [⟨b, 162, cells .u64 t.1.2, true⟩, ⟨b2, 162, cells .u64 xs0, false⟩, ⟨b3, 162, cells .u64 ys0, false⟩]) (fun t => ly - t.1.1) ⟨(0, splice zs0 0 (List.replicate (lx + ly) 0)), Nat.zero_le _, BM.start hw hz⟩ (by repeat (first | exact SubSlots.nil _ | refine SubSlots.cons rfl ?_)) [0, 1, 2] rfl (by decide) ?_
  rintro ⟨⟨i, zs⟩, hi, hm⟩ ih
  simp only at ih hi hm ⊢
  have hlen := hm.w.len
  refine G.seq (G.region ?_)
  (first | refine J.ltN rfl rfl rfl ?_ | refine J.ltZ rfl rfl rfl ?_)
  refine J.nil (G.seq ?_)
  refine G.condP rfl (fun hc => ?_) (fun hc => ?_)
  · refine G.skip ?_
    refine G.seq (G.block (G.seq (G.region (J.move rfl rfl (J.ix rfl rfl rfl (J.lc rfl rfl rfl (J.assign rfl rfl (J.assign rfl rfl ?_))))))))
    refine J.nil (G.prune [0, 1, 2, 6, 7, 15, 16, 17] rfl (G.seq (G.region (J.move rfl rfl ?_))))
    (first | refine J.neN rfl rfl rfl ?_ | refine J.neZ rfl rfl rfl ?_)
    refine J.nil ?_
    simp only [Nat.zero_add]
    refine G.condP rfl (fun hd => ?_) (fun hd => ?_)
    · skip
      refine G.regionS [0, 1, 2, 3, 4, 5, 6, 7, 8, 9, 10, 11, 12, 13, 14, 15, 16, 17, 18, 19, 20, 21, 22, 23] none none [] (by kernel_rfl) (SubH.of [] rfl) rfl (J.move rfl rfl (J.move rfl rfl (J.lenS rfl rfl (J.move rfl rfl ?_))))
      (first | refine J.addI rfl rfl rfl (by omega) ?_ | refine J.addZ rfl rfl rfl (by omega) (by omega) ?_)
      refine J.move rfl rfl (J.move rfl rfl (J.move rfl rfl (J.move rfl rfl (J.lenS rfl rfl ?_))))
      (first | refine J.addI rfl rfl rfl (by omega) ?_ | refine J.addZ rfl rfl rfl (by omega) (by omega) ?_)
      (first | refine J.slLH1 rfl rfl rfl rfl (by omega) (by omega) (by omega) ?_ | refine J.slLHnil rfl rfl rfl rfl (by omega) (by omega) ?_)
      refine J.move rfl rfl (J.move rfl rfl (J.move rfl rfl (J.move rfl rfl (J.lenS rfl rfl ?_))))
      (first | refine J.addI rfl rfl rfl (by omega) ?_ | refine J.addZ rfl rfl rfl (by omega) (by omega) ?_)
      (first | refine J.slLH1 rfl rfl rfl rfl (by omega) (by omega) (by omega) ?_ | refine J.slLHnil rfl rfl rfl rfl (by omega) (by omega) ?_)
      refine J.move rfl rfl (J.move rfl rfl ?_)
      simp only [Nat.zero_add, Nat.add_sub_cancel_left]
      refine J.effH (E.callP (addMulVVWW_spec (a := 0) (oz := i) (n := lx) (zs0 := zs) (ys0 := xs0) (oy := 0) (by omega) hm.w.wd (by omega) hxw (by omega) (by first | exact hyw _ | exact hxw _) (by decide)) [0] [0] rfl rfl rfl rfl rfl) rfl rfl fun p hp => ⟨fun _ => SubH.of [] rfl, ?_⟩
      try simp only [apC, apN]
      refine J.ix rfl rfl rfl ?_
      have l2 := hp.w.len
      refine J.effH (E.storeCI rfl rfl (by first | omega | (simp only [Nat.mul_one, Nat.one_mul, Nat.zero_mul, List.length_set, List.length_cons, List.length_nil, List.length_replicate]; omega) | (simp; omega))) rfl rfl ⟨fun _ => SubH.of [] rfl, ?_⟩
      refine J.nil (G.prune [0, 1, 2, 6, 7, 15, 16, 17] rfl (G.inBlock (G.region ?_)))
      (first | refine J.addI rfl rfl rfl (by omega) ?_ | refine J.addZ rfl rfl rfl (by omega) (by omega) ?_)
      refine J.move rfl rfl (J.nil ?_)
      simp only [Nat.zero_add]
      have hm' := BM.step hm (by omega) hz rfl hp
      exact G.wk [0, 1, 2] (ih ⟨(i + 1, p.2.set (lx + i) p.1), by simp only; omega, hm'⟩ (by simp only; omega))
    · refine G.skip ?_
      refine G.inBlock (G.region ?_)
      (first | refine J.addI rfl rfl rfl (by omega) ?_ | refine J.addZ rfl rfl rfl (by omega) (by omega) ?_)
      refine J.move rfl rfl (J.nil ?_)
      have hm' := BM.skip hm (by omega) (by omega)
      exact G.wk [0, 1, 2] (ih ⟨(i + 1, zs), by simp only; omega, hm'⟩ (by simp only; omega))
  · refine G.exit rfl ?_
    obtain rfl : i = ly := by omega
    refine G.fall (hR _) ?_
    exact GL.done (zs) rfl rfl (hm) rfl [0] rfl (by decide) (by simp)
theorem basicMulX_spec {b b2 lz cz lx cx2 : Nat} {zs0 xs0 : List Nat} (hw : Wd zs0) (hx : lx ≤ xs0.length) (hxw : Wd xs0) (hz : lx + lx ≤ zs0.length) (hc : lx + lx ≤ cz) (hcz : cz ≤ zs0.length) (hlz : lx + lx ≤ lz) (hn : zs0.length < 9223372036854775808) :
    Spec (cx V) 155 #[.slice (some ⟨b, 0, none⟩) lz cz, .slice (some ⟨b2, 0, none⟩) lx cx2, .slice (some ⟨b2, 0, none⟩) lx cx2] [⟨b, 162, cells .u64 zs0, true⟩] [⟨b2, 162, cells .u64 xs0, false⟩]
      (fun _ : List Nat => .tuple #[]) (fun p => [⟨b, 162, cells .u64 p, true⟩]) (fun p => BM zs0 xs0 xs0 lx lx lx p) := by
  refine Spec.enter Tryz.func155 rfl Tryz.ntmps155 (by simp) [(0, .slice (some ⟨b, 0, none⟩) lz cz), (1, .slice (some ⟨b2, 0, none⟩) lx cx2), (2, .slice (some ⟨b2, 0, none⟩) lx cx2)] (by simp) ?_
  intro X hR
  try simp only [apC, apN]
  refine G.seq (G.region (J.move rfl rfl (J.move rfl rfl (J.lenS rfl rfl (J.move rfl rfl (J.lenS rfl rfl ?_))))))
  (first | refine J.addI rfl rfl rfl (by omega) ?_ | refine J.addZ rfl rfl rfl (by omega) (by omega) ?_)
  refine J.slH0 rfl rfl rfl (by omega) rfl (J.eff (E.clear (xs := zs0) rfl rfl (by omega) Upd1.h) rfl (J.nil (G.prune [0, 1, 2, 6, 7] rfl (G.seq (G.region (J.move rfl rfl (J.lenS rfl rfl (J.move rfl rfl ?_))))))))
  refine J.nil (G.block ?_)
  refine G.loopW (σ := {t : Nat × List Nat // t.1 ≤ lx ∧ BM zs0 xs0 xs0 lx lx t.1 t.2}) (fun t => [(0, .slice (some ⟨b, 0, none⟩) lz cz), (1, .slice (some ⟨b2, 0, none⟩) lx cx2), (15, .slice (some ⟨b2, 0, none⟩) lx cx2), (16, .int .i64 lx), (17, .int .i64 (t.1.1 : Nat))]) (fun t => [⟨b, 162, cells .u64 t.1.2, true⟩, ⟨b2, 162, cells .u64 xs0, false⟩]) (fun t => lx - t.1.1) ⟨(0, splice zs0 0 (List.replicate (lx + lx) 0)), Nat.zero_le _, BM.start hw hz⟩ (by repeat (first | exact SubSlots.nil _ | refine SubSlots.cons rfl ?_)) [0, 1] rfl (by decide) ?_
  rintro ⟨⟨i, zs⟩, hi, hm⟩ ih
  simp only at ih hi hm ⊢
  have hlen := hm.w.len
  refine G.seq (G.region ?_)
  (first | refine J.ltN rfl rfl rfl ?_ | refine J.ltZ rfl rfl rfl ?_)
  refine J.nil (G.seq ?_)
  refine G.condP rfl (fun hc => ?_) (fun hc => ?_)
  · refine G.skip ?_
    refine G.seq (G.block (G.seq (G.region (J.move rfl rfl (J.ix rfl rfl rfl (J.lc rfl rfl rfl (J.assign rfl rfl (J.assign rfl rfl ?_))))))))
    refine J.nil (G.prune [0, 1, 2, 6, 7, 15, 16, 17] rfl (G.seq (G.region (J.move rfl rfl ?_))))
    (first | refine J.neN rfl rfl rfl ?_ | refine J.neZ rfl rfl rfl ?_)
    refine J.nil ?_
    simp only [Nat.zero_add]
    refine G.condP rfl (fun hd => ?_) (fun hd => ?_)
    · skip
      refine G.regionS [0, 1, 2, 3, 4, 5, 6, 7, 8, 9, 10, 11, 12, 13, 14, 15, 16, 17, 18, 19, 20, 21, 22, 23] none none [] (by kernel_rfl) (SubH.of [] rfl) rfl (J.move rfl rfl (J.move rfl rfl (J.lenS rfl rfl (J.move rfl rfl ?_))))
      (first | refine J.addI rfl rfl rfl (by omega) ?_ | refine J.addZ rfl rfl rfl (by omega) (by omega) ?_)
      refine J.move rfl rfl (J.move rfl rfl (J.move rfl rfl (J.move rfl rfl (J.lenS rfl rfl ?_))))
      (first | refine J.addI rfl rfl rfl (by omega) ?_ | refine J.addZ rfl rfl rfl (by omega) (by omega) ?_)
      (first | refine J.slLH1 rfl rfl rfl rfl (by omega) (by omega) (by omega) ?_ | refine J.slLHnil rfl rfl rfl rfl (by omega) (by omega) ?_)
      refine J.move rfl rfl (J.move rfl rfl (J.move rfl rfl (J.move rfl rfl (J.lenS rfl rfl ?_))))
      (first | refine J.addI rfl rfl rfl (by omega) ?_ | refine J.addZ rfl rfl rfl (by omega) (by omega) ?_)
      (first | refine J.slLH1 rfl rfl rfl rfl (by omega) (by omega) (by omega) ?_ | refine J.slLHnil rfl rfl rfl rfl (by omega) (by omega) ?_)
      refine J.move rfl rfl (J.move rfl rfl ?_)
      simp only [Nat.zero_add, Nat.add_sub_cancel_left]
      refine J.effH (E.callP (addMulVVWW_spec (a := 0) (oz := i) (n := lx) (zs0 := zs) (ys0 := xs0) (oy := 0) (by omega) hm.w.wd (by omega) hxw (by omega) (by first | exact hyw _ | exact hxw _) (by decide)) [0] [0] rfl rfl rfl rfl rfl) rfl rfl fun p hp => ⟨fun _ => SubH.of [] rfl, ?_⟩
      try simp only [apC, apN]
      refine J.ix rfl rfl rfl ?_
      have l2 := hp.w.len
      refine J.effH (E.storeCI rfl rfl (by first | omega | (simp only [Nat.mul_one, Nat.one_mul, Nat.zero_mul, List.length_set, List.length_cons, List.length_nil, List.length_replicate]; omega) | (simp; omega))) rfl rfl ⟨fun _ => SubH.of [] rfl, ?_⟩
      refine J.nil (G.prune [0, 1, 2, 6, 7, 15, 16, 17] rfl (G.inBlock (G.region ?_)))
      (first | refine J.addI rfl rfl rfl (by omega) ?_ | refine J.addZ rfl rfl rfl (by omega) (by omega) ?_)
      refine J.move rfl rfl (J.nil ?_)
      simp only [Nat.zero_add]
      have hm' := BM.step hm (by omega) hz rfl hp
      exact G.wk [0, 1] (ih ⟨(i + 1, p.2.set (lx + i) p.1), by simp only; omega, hm'⟩ (by simp only; omega))
    · refine G.skip ?_
      refine G.inBlock (G.region ?_)
      (first | refine J.addI rfl rfl rfl (by omega) ?_ | refine J.addZ rfl rfl rfl (by omega) (by omega) ?_)
      refine J.move rfl rfl (J.nil ?_)
      have hm' := BM.skip hm (by omega) (by omega)
      exact G.wk [0, 1] (ih ⟨(i + 1, zs), by simp only; omega, hm'⟩ (by simp only; omega))
  · refine G.exit rfl ?_
    have hii : i = lx := by omega
    rw [hii] at hm
    refine G.fall (hR _) ?_
    exact GL.done (zs) rfl rfl (hm) rfl [0] rfl (by decide) (by simp)
end
section
set_option maxRecDepth 100000
set_option pp.deepTerms false
variable {V : Addr}
theorem Res.mul {zs0 xs ys p : List Nat} {g lx ly : Nat} (h : BM zs0 xs ys lx ly ly p) (hl : lx + ly ≤ zs0.length) (hc : zs0.length ≤ 9223372036854775807) : Res (some ⟨g, nl p 0 (lx + ly), p⟩) (rv xs 0 lx * rv ys 0 ly) := by
  have := h.w.len
  exact Res.norm (by omega) (by omega) h.w.wd h.e
theorem mul_geN {b2 b3 lx ly : Nat} {xs ys : List Nat} {sv : Value} (x1 : lx ≤ xs.length) (x2 : xs.length ≤ 9223372036854775807) (x3 : Wd xs) (y1 : ly ≤ ys.length) (y2 : ys.length ≤ 9223372036854775807) (y3 : Wd ys) (h1 : ly ≤ lx) (h2 : 0 < ly) (h3 : ly ≤ 39) (h4 : lx ≤ 1000000) :
    Spec (cx V) 111 #[.slice none 0 0, sv, .slice (some ⟨b2, 0, none⟩) lx xs.length, .slice (some ⟨b3, 0, none⟩) ly ys.length] [] [⟨b2, 162, cells .u64 xs, false⟩, ⟨b3, 162, cells .u64 ys, false⟩] zv (zh true) (fun q => Res q (rv xs 0 lx * rv ys 0 ly)) := by
  refine Spec.enter Tryz.func111 rfl Tryz.ntmps111 (by simp) [(0, .slice none 0 0), (1, sv), (2, .slice (some ⟨b2, 0, none⟩) lx xs.length), (3, .slice (some ⟨b3, 0, none⟩) ly ys.length)] (by simp) ?_
  intro X hR
  try simp only [apC, apN]
  refine G.seq (G.region (J.assign rfl rfl (J.nil (G.seq (G.region (J.move rfl rfl (J.lenS rfl rfl (J.assign rfl rfl ?_))))))))
  refine J.nil (G.seq (G.region (J.move rfl rfl (J.lenS rfl rfl (J.assign rfl rfl (J.nil (G.seq (G.block ?_))))))))
  refine G.seq (G.region (J.move rfl rfl (J.move rfl rfl ?_)))
  (first | refine J.ltN rfl rfl rfl ?_ | refine J.ltZ rfl rfl rfl ?_)
  refine J.assign rfl rfl (J.nil (G.prune [0, 1, 2, 3, 8, 9, 10, 17] rfl (G.cF rfl (G.seq (G.region (J.move rfl rfl ?_))))))
  (first | refine J.eqN rfl rfl rfl ?_ | refine J.eqZ rfl rfl rfl ?_)
  refine J.move rfl rfl (J.wF rfl rfl (J.move rfl rfl (J.wF rfl rfl ?_)))
  (first | refine J.eqN rfl rfl rfl ?_ | refine J.eqZ rfl rfl rfl ?_)
  refine J.pF rfl rfl rfl (J.assign rfl rfl (J.nil (G.prune [0, 1, 2, 3, 8, 9, 10, 26] rfl (G.cF rfl (G.seq (G.region (J.move rfl rfl ?_)))))))
  (first | refine J.eqN rfl rfl rfl ?_ | refine J.eqZ rfl rfl rfl ?_)
  refine J.assign rfl rfl (J.nil ?_)
  by_cases hy1 : ly = 1
  · subst hy1
    refine G.cT rfl (G.seq (G.region (J.move rfl rfl (J.move rfl rfl (J.move rfl rfl (J.ix rfl rfl rfl (J.lc rfl rfl rfl ?_)))))))
    have e1 : rv ys 0 1 = ys.getD (0 + 0) 0 := by simp [rv]
    refine J.eff (E.callP (mulAddWW_other (z := none) (x := ⟨b2, lx, xs⟩) (r := 0) trivial ⟨x1, x2, x3⟩ h4 (y3 _) (by decide)) [] [0] rfl rfl rfl rfl rfl) rfl fun q hq => ?_
    try simp only [apC, apN]
    refine J.assign rfl rfl (J.nil (G.prune [0, 1, 2, 3, 8, 9, 10] rfl (G.ret (hR _) ?_)))
    exact GL.doneA (q) rfl rfl (by rw [e1]; simpa [zn] using hq) rfl _ rfl (zh_wr _)
  refine G.cF rfl (G.skip (G.inBlock (G.seq (G.seq (G.region (J.move rfl rfl (J.move rfl rfl (J.eff (E.callP (alias_nil (n := 0) (m := 0) (S := [])) [] [] rfl rfl rfl rfl rfl) rfl fun _ _ => ?_))))))))
  try simp only [apC, apN]
  refine J.move rfl rfl (J.wF rfl rfl (J.move rfl rfl (J.wF rfl rfl (J.move rfl rfl (J.wF rfl rfl (J.eff (E.callP (alias_nil (n := 0) (m := 0) (S := [])) [] [] rfl rfl rfl rfl rfl) rfl fun _ _ => ?_))))))
  try simp only [apC, apN]
  refine J.pF rfl rfl rfl (J.nil (G.prune [0, 1, 2, 3, 8, 9, 10, 51] rfl (G.cF rfl (G.skip (G.seq (G.region (J.move rfl rfl (J.move rfl rfl ?_))))))))
  refine J.move rfl rfl ?_
  (first | refine J.addI rfl rfl rfl (by omega) ?_ | refine J.addZ rfl rfl rfl (by omega) (by omega) ?_)
  · skip
    have hc1 := mcap_ge (lx + ly)
    have hc2 := mcap_le (lx + ly)
    have hl2 : (List.replicate (mcap (lx + ly)) 0).length = mcap (lx + ly) := List.length_replicate ..
    refine J.eff (E.callP (make_new (n := lx + ly) (by omega) (by omega)) [] [] rfl rfl rfl rfl rfl) rfl fun g _ => ?_
    try simp only [apC, apN]
    refine J.assign rfl rfl (J.nil (G.prune [0, 1, 2, 3, 8, 9, 10] rfl (G.seq (G.seq (G.region (J.move rfl rfl (J.loadGi 1 rfl rfl rfl rfl ?_)))))))
    (first | refine J.ltN rfl rfl rfl ?_ | refine J.ltZ rfl rfl rfl ?_)
    refine J.nil (G.cT rfl (G.seq (G.region (J.move rfl rfl (J.move rfl rfl (J.move rfl rfl (J.eff (E.callP (basicMulD_spec (xs0 := xs) (ys0 := ys) (zs0 := List.replicate (mcap (lx + ly)) 0) (ly := ly) (lx := lx) (Wd.rep _) x1 x3 y1 y3 (by omega) (by omega) (by omega) (by omega) (by omega)) [0] [0, 1] rfl rfl rfl rfl rfl) rfl fun p hp => ?_)))))))
    try simp only [apC, apN]
    have hlen := hp.w.len
    refine J.nil (G.prune [0, 1, 2, 3, 8, 9, 10] rfl (G.seq (G.region (J.move rfl rfl (J.eff (E.callP (norm_spec (o := 0) (xs := p) (by omega) (by omega) (by omega)) [] [0] rfl rfl rfl rfl rfl) rfl fun _ _ => ?_)))))
    try simp only [apC, apN]
    refine J.assign rfl rfl (J.nil (G.ret (hR _) ?_))
    exact GL.done (some ⟨g, nl p 0 (lx + ly), p⟩) rfl rfl (Res.mul hp (by omega) (by omega)) (by simp only [zv, hlen, hl2]; rfl) [0] rfl (by decide) (by simp [zh])
theorem mul_geZ {b2 b3 lx ly : Nat} {xs ys : List Nat} {sv : Value} {b lz : Nat} {zs : List Nat} (x1 : lx ≤ xs.length) (x2 : xs.length ≤ 9223372036854775807) (x3 : Wd xs) (y1 : ly ≤ ys.length) (y2 : ys.length ≤ 9223372036854775807) (y3 : Wd ys) (z1 : lz ≤ zs.length) (z2 : zs.length ≤ 9223372036854775807) (z3 : Wd zs) (h1 : ly ≤ lx) (h2 : 0 < ly) (h3 : ly ≤ 39) (h4 : lx ≤ 1000000) :
    Spec (cx V) 111 #[.slice (some ⟨b, 0, none⟩) lz zs.length, sv, .slice (some ⟨b2, 0, none⟩) lx xs.length, .slice (some ⟨b3, 0, none⟩) ly ys.length] [⟨b, 162, cells .u64 zs, true⟩] [⟨b2, 162, cells .u64 xs, false⟩, ⟨b3, 162, cells .u64 ys, false⟩] zv (zh true) (fun q => Res q (rv xs 0 lx * rv ys 0 ly)) := by
  refine Spec.enter Tryz.func111 rfl Tryz.ntmps111 (by simp) [(0, .slice (some ⟨b, 0, none⟩) lz zs.length), (1, sv), (2, .slice (some ⟨b2, 0, none⟩) lx xs.length), (3, .slice (some ⟨b3, 0, none⟩) ly ys.length)] (by simp) ?_
  intro X hR
  try simp only [apC, apN]
  refine G.sep 0 1 rfl rfl (by decide) (.inl rfl) fun hn1 => ?_
  refine G.sep 0 2 rfl rfl (by decide) (.inl rfl) fun hn2 => ?_
  simp only at hn1 hn2
  refine G.seq (G.region (J.assign rfl rfl (J.nil (G.seq (G.region (J.move rfl rfl (J.lenS rfl rfl (J.assign rfl rfl ?_))))))))
  refine J.nil (G.seq (G.region (J.move rfl rfl (J.lenS rfl rfl (J.assign rfl rfl (J.nil (G.seq (G.block ?_))))))))
  refine G.seq (G.region (J.move rfl rfl (J.move rfl rfl ?_)))
  (first | refine J.ltN rfl rfl rfl ?_ | refine J.ltZ rfl rfl rfl ?_)
  refine J.assign rfl rfl (J.nil (G.prune [0, 1, 2, 3, 8, 9, 10, 17] rfl (G.cF rfl (G.seq (G.region (J.move rfl rfl ?_))))))
  (first | refine J.eqN rfl rfl rfl ?_ | refine J.eqZ rfl rfl rfl ?_)
  refine J.move rfl rfl (J.wF rfl rfl (J.move rfl rfl (J.wF rfl rfl ?_)))
  (first | refine J.eqN rfl rfl rfl ?_ | refine J.eqZ rfl rfl rfl ?_)
  refine J.pF rfl rfl rfl (J.assign rfl rfl (J.nil (G.prune [0, 1, 2, 3, 8, 9, 10, 26] rfl (G.cF rfl (G.seq (G.region (J.move rfl rfl ?_)))))))
  (first | refine J.eqN rfl rfl rfl ?_ | refine J.eqZ rfl rfl rfl ?_)
  refine J.assign rfl rfl (J.nil ?_)
  by_cases hy1 : ly = 1
  · subst hy1
    refine G.cT rfl (G.seq (G.region (J.move rfl rfl (J.move rfl rfl (J.move rfl rfl (J.ix rfl rfl rfl (J.lc rfl rfl rfl ?_)))))))
    have e1 : rv ys 0 1 = ys.getD (0 + 0) 0 := by simp [rv]
    refine J.eff (E.callP (mulAddWW_other (z := some ⟨b, lz, zs⟩) (x := ⟨b2, lx, xs⟩) (r := 0) ⟨z1, z2, z3⟩ ⟨x1, x2, x3⟩ h4 (y3 _) (by decide)) [0] [0] rfl rfl rfl rfl rfl) rfl fun q hq => ?_
    try simp only [apC, apN]
    refine J.assign rfl rfl (J.nil (G.prune [0, 1, 2, 3, 8, 9, 10] rfl (G.ret (hR _) ?_)))
    exact GL.doneA (q) rfl rfl (by rw [e1]; simpa [zn] using hq) rfl _ rfl (zh_wr _)
  refine G.cF rfl (G.skip (G.inBlock (G.seq (G.seq (G.region (J.move rfl rfl (J.move rfl rfl (J.eff (E.callP (alias_other (cs := cells .u64 zs) (cs2 := cells .u64 xs) hn1 (by omega) (by omega)) [] [0, 1] rfl rfl rfl rfl rfl) rfl fun _ _ => ?_))))))))
  try simp only [apC, apN]
  refine J.move rfl rfl (J.wF rfl rfl (J.move rfl rfl (J.wF rfl rfl (J.move rfl rfl (J.wF rfl rfl (J.eff (E.callP (alias_other (cs := cells .u64 zs) (cs2 := cells .u64 ys) hn2 (by omega) (by omega)) [] [0, 2] rfl rfl rfl rfl rfl) rfl fun _ _ => ?_))))))
  try simp only [apC, apN]
  refine J.pF rfl rfl rfl (J.nil (G.prune [0, 1, 2, 3, 8, 9, 10, 51] rfl (G.cF rfl (G.skip (G.seq (G.region (J.move rfl rfl (J.move rfl rfl ?_))))))))
  refine J.move rfl rfl ?_
  (first | refine J.addI rfl rfl rfl (by omega) ?_ | refine J.addZ rfl rfl rfl (by omega) (by omega) ?_)
  by_cases hf : lx + ly ≤ zs.length
  · skip
    refine J.eff (E.callP (make_fit hf) [] [] rfl rfl rfl rfl rfl) rfl fun _ _ => ?_
    try simp only [apC, apN]
    refine J.assign rfl rfl (J.nil (G.prune [0, 1, 2, 3, 8, 9, 10] rfl (G.seq (G.seq (G.region (J.move rfl rfl (J.loadGi 1 rfl rfl rfl rfl ?_)))))))
    (first | refine J.ltN rfl rfl rfl ?_ | refine J.ltZ rfl rfl rfl ?_)
    refine J.nil (G.cT rfl (G.seq (G.region (J.move rfl rfl (J.move rfl rfl (J.move rfl rfl (J.eff (E.callP (basicMulD_spec (xs0 := xs) (ys0 := ys) (zs0 := zs) (ly := ly) (lx := lx) z3 x1 x3 y1 y3 (by omega) (by omega) (by omega) (by omega) (by omega)) [0] [0, 1] rfl rfl rfl rfl rfl) rfl fun p hp => ?_)))))))
    try simp only [apC, apN]
    have hlen := hp.w.len
    refine J.nil (G.prune [0, 1, 2, 3, 8, 9, 10] rfl (G.seq (G.region (J.move rfl rfl (J.eff (E.callP (norm_spec (o := 0) (xs := p) (by omega) (by omega) (by omega)) [] [0] rfl rfl rfl rfl rfl) rfl fun _ _ => ?_)))))
    try simp only [apC, apN]
    refine J.assign rfl rfl (J.nil (G.ret (hR _) ?_))
    exact GL.done (some ⟨b, nl p 0 (lx + ly), p⟩) rfl rfl (Res.mul hp (by omega) (by omega)) (by simp only [zv, hlen, ]; rfl) [0] rfl (by decide) (by simp [zh])
  · skip
    have hc1 := mcap_ge (lx + ly)
    have hc2 := mcap_le (lx + ly)
    have hl2 : (List.replicate (mcap (lx + ly)) 0).length = mcap (lx + ly) := List.length_replicate ..
    refine J.eff (E.callP (make_new (n := lx + ly) (by omega) (by omega)) [] [] rfl rfl rfl rfl rfl) rfl fun g _ => ?_
    try simp only [apC, apN]
    refine J.assign rfl rfl (J.nil (G.prune [0, 1, 2, 3, 8, 9, 10] rfl (G.seq (G.seq (G.region (J.move rfl rfl (J.loadGi 1 rfl rfl rfl rfl ?_)))))))
    (first | refine J.ltN rfl rfl rfl ?_ | refine J.ltZ rfl rfl rfl ?_)
    refine J.nil (G.cT rfl (G.seq (G.region (J.move rfl rfl (J.move rfl rfl (J.move rfl rfl (J.eff (E.callP (basicMulD_spec (xs0 := xs) (ys0 := ys) (zs0 := List.replicate (mcap (lx + ly)) 0) (ly := ly) (lx := lx) (Wd.rep _) x1 x3 y1 y3 (by omega) (by omega) (by omega) (by omega) (by omega)) [0] [1, 2] rfl rfl rfl rfl rfl) rfl fun p hp => ?_)))))))
    try simp only [apC, apN]
    have hlen := hp.w.len
    refine J.nil (G.prune [0, 1, 2, 3, 8, 9, 10] rfl (G.seq (G.region (J.move rfl rfl (J.eff (E.callP (norm_spec (o := 0) (xs := p) (by omega) (by omega) (by omega)) [] [0] rfl rfl rfl rfl rfl) rfl fun _ _ => ?_)))))
    try simp only [apC, apN]
    refine J.assign rfl rfl (J.nil (G.ret (hR _) ?_))
    exact GL.done (some ⟨g, nl p 0 (lx + ly), p⟩) rfl rfl (Res.mul hp (by omega) (by omega)) (by simp only [zv, hlen, hl2]; rfl) [0] rfl (by decide) (by simp [zh])
theorem mul_geX1 {b2 b3 lx ly : Nat} {xs ys : List Nat} {sv : Value} (x1 : lx ≤ xs.length) (x2 : xs.length ≤ 9223372036854775807) (x3 : Wd xs) (y1 : ly ≤ ys.length) (y2 : ys.length ≤ 9223372036854775807) (y3 : Wd ys) (h1 : ly ≤ lx) (h2 : 0 < ly) (h3 : ly ≤ 39) (h4 : lx ≤ 1000000) :
    Spec (cx V) 111 #[.slice (some ⟨b2, 0, none⟩) lx xs.length, sv, .slice (some ⟨b2, 0, none⟩) lx xs.length, .slice (some ⟨b3, 0, none⟩) ly ys.length] [⟨b2, 162, cells .u64 xs, true⟩] [⟨b3, 162, cells .u64 ys, false⟩] zv (zh true) (fun q => Res q (rv xs 0 lx * rv ys 0 ly)) := by
  refine Spec.enter Tryz.func111 rfl Tryz.ntmps111 (by simp) [(0, .slice (some ⟨b2, 0, none⟩) lx xs.length), (1, sv), (2, .slice (some ⟨b2, 0, none⟩) lx xs.length), (3, .slice (some ⟨b3, 0, none⟩) ly ys.length)] (by simp) ?_
  intro X hR
  try simp only [apC, apN]
  refine G.seq (G.region (J.assign rfl rfl (J.nil (G.seq (G.region (J.move rfl rfl (J.lenS rfl rfl (J.assign rfl rfl ?_))))))))
  refine J.nil (G.seq (G.region (J.move rfl rfl (J.lenS rfl rfl (J.assign rfl rfl (J.nil (G.seq (G.block ?_))))))))
  refine G.seq (G.region (J.move rfl rfl (J.move rfl rfl ?_)))
  (first | refine J.ltN rfl rfl rfl ?_ | refine J.ltZ rfl rfl rfl ?_)
  refine J.assign rfl rfl (J.nil (G.prune [0, 1, 2, 3, 8, 9, 10, 17] rfl (G.cF rfl (G.seq (G.region (J.move rfl rfl ?_))))))
  (first | refine J.eqN rfl rfl rfl ?_ | refine J.eqZ rfl rfl rfl ?_)
  refine J.move rfl rfl (J.wF rfl rfl (J.move rfl rfl (J.wF rfl rfl ?_)))
  (first | refine J.eqN rfl rfl rfl ?_ | refine J.eqZ rfl rfl rfl ?_)
  refine J.pF rfl rfl rfl (J.assign rfl rfl (J.nil (G.prune [0, 1, 2, 3, 8, 9, 10, 26] rfl (G.cF rfl (G.seq (G.region (J.move rfl rfl ?_)))))))
  (first | refine J.eqN rfl rfl rfl ?_ | refine J.eqZ rfl rfl rfl ?_)
  refine J.assign rfl rfl (J.nil ?_)
  by_cases hy1 : ly = 1
  · subst hy1
    refine G.cT rfl (G.seq (G.region (J.move rfl rfl (J.move rfl rfl (J.move rfl rfl (J.ix rfl rfl rfl (J.lc rfl rfl rfl ?_)))))))
    have e1 : rv ys 0 1 = ys.getD (0 + 0) 0 := by simp [rv]
    refine J.eff (E.callP (mulAddWW_same (z := some ⟨b2, lx, xs⟩) (r := 0) ⟨x1, x2, x3⟩ h4 (y3 _) (by decide)) [0] [] rfl rfl rfl rfl rfl) rfl fun q hq => ?_
    try simp only [apC, apN]
    refine J.assign rfl rfl (J.nil (G.prune [0, 1, 2, 3, 8, 9, 10] rfl (G.ret (hR _) ?_)))
    exact GL.doneA (q) rfl rfl (by rw [e1]; simpa [zn] using hq) rfl _ rfl (zh_wr _)
  refine G.cF rfl (G.skip (G.inBlock (G.seq (G.seq (G.region (J.move rfl rfl (J.move rfl rfl (J.eff (E.callP (alias_same (cs := cells .u64 xs) (by omega) (by omega)) [] [0] rfl rfl rfl rfl rfl) rfl fun _ _ => ?_))))))))
  try simp only [apC, apN]
  refine J.move rfl rfl (J.sk rfl rfl rfl rfl (J.sk rfl rfl rfl rfl (J.skE rfl rfl rfl (J.pT rfl rfl rfl (J.nil (G.prune [0, 1, 2, 3, 8, 9, 10, 51] rfl (G.cT rfl (G.region ?_))))))))
  refine J.assign rfl rfl (J.nil (G.seq (G.region (J.move rfl rfl (J.move rfl rfl (J.move rfl rfl ?_))))))
  (first | refine J.addI rfl rfl rfl (by omega) ?_ | refine J.addZ rfl rfl rfl (by omega) (by omega) ?_)
  · skip
    have hc1 := mcap_ge (lx + ly)
    have hc2 := mcap_le (lx + ly)
    have hl2 : (List.replicate (mcap (lx + ly)) 0).length = mcap (lx + ly) := List.length_replicate ..
    refine J.eff (E.callP (make_new (n := lx + ly) (by omega) (by omega)) [] [] rfl rfl rfl rfl rfl) rfl fun g _ => ?_
    try simp only [apC, apN]
    refine J.assign rfl rfl (J.nil (G.prune [0, 1, 2, 3, 8, 9, 10] rfl (G.seq (G.seq (G.region (J.move rfl rfl (J.loadGi 1 rfl rfl rfl rfl ?_)))))))
    (first | refine J.ltN rfl rfl rfl ?_ | refine J.ltZ rfl rfl rfl ?_)
    refine J.nil (G.cT rfl (G.seq (G.region (J.move rfl rfl (J.move rfl rfl (J.move rfl rfl (J.eff (E.callP (basicMulD_spec (xs0 := xs) (ys0 := ys) (zs0 := List.replicate (mcap (lx + ly)) 0) (ly := ly) (lx := lx) (Wd.rep _) x1 x3 y1 y3 (by omega) (by omega) (by omega) (by omega) (by omega)) [0] [0, 1] rfl rfl rfl rfl rfl) rfl fun p hp => ?_)))))))
    try simp only [apC, apN]
    have hlen := hp.w.len
    refine J.nil (G.prune [0, 1, 2, 3, 8, 9, 10] rfl (G.seq (G.region (J.move rfl rfl (J.eff (E.callP (norm_spec (o := 0) (xs := p) (by omega) (by omega) (by omega)) [] [0] rfl rfl rfl rfl rfl) rfl fun _ _ => ?_)))))
    try simp only [apC, apN]
    refine J.assign rfl rfl (J.nil (G.ret (hR _) ?_))
    exact GL.done (some ⟨g, nl p 0 (lx + ly), p⟩) rfl rfl (Res.mul hp (by omega) (by omega)) (by simp only [zv, hlen, hl2]; rfl) [0] rfl (by decide) (by simp [zh])
theorem mul_geX2 {b2 b3 lx ly : Nat} {xs ys : List Nat} {sv : Value} (x1 : lx ≤ xs.length) (x2 : xs.length ≤ 9223372036854775807) (x3 : Wd xs) (y1 : ly ≤ ys.length) (y2 : ys.length ≤ 9223372036854775807) (y3 : Wd ys) (h1 : ly ≤ lx) (h2 : 0 < ly) (h3 : ly ≤ 39) (h4 : lx ≤ 1000000) :
    Spec (cx V) 111 #[.slice (some ⟨b3, 0, none⟩) ly ys.length, sv, .slice (some ⟨b2, 0, none⟩) lx xs.length, .slice (some ⟨b3, 0, none⟩) ly ys.length] [⟨b3, 162, cells .u64 ys, true⟩] [⟨b2, 162, cells .u64 xs, false⟩] zv (zh true) (fun q => Res q (rv xs 0 lx * rv ys 0 ly)) := by
  refine Spec.enter Tryz.func111 rfl Tryz.ntmps111 (by simp) [(0, .slice (some ⟨b3, 0, none⟩) ly ys.length), (1, sv), (2, .slice (some ⟨b2, 0, none⟩) lx xs.length), (3, .slice (some ⟨b3, 0, none⟩) ly ys.length)] (by simp) ?_
  intro X hR
  try simp only [apC, apN]
  refine G.sep 0 1 rfl rfl (by decide) (.inl rfl) fun hn1 => ?_
  simp only at hn1
  refine G.seq (G.region (J.assign rfl rfl (J.nil (G.seq (G.region (J.move rfl rfl (J.lenS rfl rfl (J.assign rfl rfl ?_))))))))
  refine J.nil (G.seq (G.region (J.move rfl rfl (J.lenS rfl rfl (J.assign rfl rfl (J.nil (G.seq (G.block ?_))))))))
  refine G.seq (G.region (J.move rfl rfl (J.move rfl rfl ?_)))
  (first | refine J.ltN rfl rfl rfl ?_ | refine J.ltZ rfl rfl rfl ?_)
  refine J.assign rfl rfl (J.nil (G.prune [0, 1, 2, 3, 8, 9, 10, 17] rfl (G.cF rfl (G.seq (G.region (J.move rfl rfl ?_))))))
  (first | refine J.eqN rfl rfl rfl ?_ | refine J.eqZ rfl rfl rfl ?_)
  refine J.move rfl rfl (J.wF rfl rfl (J.move rfl rfl (J.wF rfl rfl ?_)))
  (first | refine J.eqN rfl rfl rfl ?_ | refine J.eqZ rfl rfl rfl ?_)
  refine J.pF rfl rfl rfl (J.assign rfl rfl (J.nil (G.prune [0, 1, 2, 3, 8, 9, 10, 26] rfl (G.cF rfl (G.seq (G.region (J.move rfl rfl ?_)))))))
  (first | refine J.eqN rfl rfl rfl ?_ | refine J.eqZ rfl rfl rfl ?_)
  refine J.assign rfl rfl (J.nil ?_)
  by_cases hy1 : ly = 1
  · subst hy1
    refine G.cT rfl (G.seq (G.region (J.move rfl rfl (J.move rfl rfl (J.move rfl rfl (J.ix rfl rfl rfl (J.lc rfl rfl rfl ?_)))))))
    have e1 : rv ys 0 1 = ys.getD (0 + 0) 0 := by simp [rv]
    refine J.eff (E.callP (mulAddWW_other (z := some ⟨b3, 1, ys⟩) (x := ⟨b2, lx, xs⟩) (r := 0) ⟨y1, y2, y3⟩ ⟨x1, x2, x3⟩ h4 (y3 _) (by decide)) [0] [0] rfl rfl rfl rfl rfl) rfl fun q hq => ?_
    try simp only [apC, apN]
    refine J.assign rfl rfl (J.nil (G.prune [0, 1, 2, 3, 8, 9, 10] rfl (G.ret (hR _) ?_)))
    exact GL.doneA (q) rfl rfl (by rw [e1]; simpa [zn] using hq) rfl _ rfl (zh_wr _)
  refine G.cF rfl (G.skip (G.inBlock (G.seq (G.seq (G.region (J.move rfl rfl (J.move rfl rfl (J.eff (E.callP (alias_other (cs := cells .u64 ys) (cs2 := cells .u64 xs) hn1 (by omega) (by omega)) [] [0, 1] rfl rfl rfl rfl rfl) rfl fun _ _ => ?_))))))))
  try simp only [apC, apN]
  refine J.move rfl rfl (J.wF rfl rfl (J.move rfl rfl (J.wF rfl rfl (J.move rfl rfl (J.wF rfl rfl (J.eff (E.callP (alias_same (cs := cells .u64 ys) (by omega) (by omega)) [] [0] rfl rfl rfl rfl rfl) rfl fun _ _ => ?_))))))
  try simp only [apC, apN]
  refine J.pF rfl rfl rfl (J.nil (G.prune [0, 1, 2, 3, 8, 9, 10, 51] rfl (G.cT rfl (G.region (J.assign rfl rfl (J.nil (G.seq (G.region ?_))))))))
  refine J.move rfl rfl (J.move rfl rfl (J.move rfl rfl ?_))
  (first | refine J.addI rfl rfl rfl (by omega) ?_ | refine J.addZ rfl rfl rfl (by omega) (by omega) ?_)
  · skip
    have hc1 := mcap_ge (lx + ly)
    have hc2 := mcap_le (lx + ly)
    have hl2 : (List.replicate (mcap (lx + ly)) 0).length = mcap (lx + ly) := List.length_replicate ..
    refine J.eff (E.callP (make_new (n := lx + ly) (by omega) (by omega)) [] [] rfl rfl rfl rfl rfl) rfl fun g _ => ?_
    try simp only [apC, apN]
    refine J.assign rfl rfl (J.nil (G.prune [0, 1, 2, 3, 8, 9, 10] rfl (G.seq (G.seq (G.region (J.move rfl rfl (J.loadGi 1 rfl rfl rfl rfl ?_)))))))
    (first | refine J.ltN rfl rfl rfl ?_ | refine J.ltZ rfl rfl rfl ?_)
    refine J.nil (G.cT rfl (G.seq (G.region (J.move rfl rfl (J.move rfl rfl (J.move rfl rfl (J.eff (E.callP (basicMulD_spec (xs0 := xs) (ys0 := ys) (zs0 := List.replicate (mcap (lx + ly)) 0) (ly := ly) (lx := lx) (Wd.rep _) x1 x3 y1 y3 (by omega) (by omega) (by omega) (by omega) (by omega)) [0] [1, 0] rfl rfl rfl rfl rfl) rfl fun p hp => ?_)))))))
    try simp only [apC, apN]
    have hlen := hp.w.len
    refine J.nil (G.prune [0, 1, 2, 3, 8, 9, 10] rfl (G.seq (G.region (J.move rfl rfl (J.eff (E.callP (norm_spec (o := 0) (xs := p) (by omega) (by omega) (by omega)) [] [0] rfl rfl rfl rfl rfl) rfl fun _ _ => ?_)))))
    try simp only [apC, apN]
    refine J.assign rfl rfl (J.nil (G.ret (hR _) ?_))
    exact GL.done (some ⟨g, nl p 0 (lx + ly), p⟩) rfl rfl (Res.mul hp (by omega) (by omega)) (by simp only [zv, hlen, hl2]; rfl) [0] rfl (by decide) (by simp [zh])
theorem natMul_spec {z : Option RS} {x y : RS} {sv : Value} (hz : zok z) (hx : zok (some x)) (hy : zok (some y)) (hx0 : 0 < x.len) (hy0 : 0 < y.len) (hx9 : x.len ≤ 39) (hy9 : y.len ≤ 39) :
    Spec (cx V) 111 #[zv z, sv, zv (some x), zv (some y)] (zh true z) [⟨x.b, 162, cells .u64 x.xs, false⟩, ⟨y.b, 162, cells .u64 y.xs, false⟩] zv (zh true) (fun q => Res q (zn (some x) * zn (some y))) := by
  obtain ⟨b2, lx, xs⟩ := x
  obtain ⟨b3, ly, ys⟩ := y
  simp only [zok, zn] at *
  obtain ⟨x1, x2, x3⟩ := hx
  obtain ⟨y1, y2, y3⟩ := hy
  rcases z with _ | ⟨b, lz, zs⟩
  · simp only [zv, zh]
    by_cases h : ly ≤ lx
    · exact mul_geN x1 x2 x3 y1 y2 y3 h hy0 hy9 (by omega)
    · refine Spec.enter Tryz.func111 rfl Tryz.ntmps111 (by simp) [(0, .slice none 0 0), (1, sv), (2, .slice (some ⟨b2, 0, none⟩) lx xs.length), (3, .slice (some ⟨b3, 0, none⟩) ly ys.length)] (by simp) ?_
      intro X hR
      try simp only [apC, apN]
      refine G.seq (G.region (J.assign rfl rfl (J.nil (G.seq (G.region (J.move rfl rfl (J.lenS rfl rfl (J.assign rfl rfl ?_))))))))
      refine J.nil (G.seq (G.region (J.move rfl rfl (J.lenS rfl rfl (J.assign rfl rfl (J.nil (G.seq (G.block ?_))))))))
      refine G.seq (G.region (J.move rfl rfl (J.move rfl rfl ?_)))
      (first | refine J.ltN rfl rfl rfl ?_ | refine J.ltZ rfl rfl rfl ?_)
      refine J.assign rfl rfl (J.nil (G.prune [0, 1, 2, 3, 8, 9, 10, 17] rfl (G.cT rfl (G.seq (G.region (J.move rfl rfl (J.move rfl rfl (J.move rfl rfl ?_))))))))
      refine J.move rfl rfl (J.eff (E.callP (mul_geN y1 y2 y3 x1 x2 x3 (by omega) hx0 hx9 (by omega)) [] [1, 0] rfl rfl rfl rfl rfl) rfl fun q hq => ?_)
      try simp only [apC, apN]
      refine J.assign rfl rfl (J.nil (G.prune [0, 1, 2, 3, 8, 9, 10] rfl (G.ret (hR _) ?_)))
      exact GL.doneA (q) rfl rfl (by rw [Nat.mul_comm]; exact hq) rfl _ rfl (zh_wr _)
  · simp only [zv, zh]
    obtain ⟨z1, z2, z3⟩ := hz
    by_cases h : ly ≤ lx
    · exact mul_geZ x1 x2 x3 y1 y2 y3 z1 z2 z3 h hy0 hy9 (by omega)
    · refine Spec.enter Tryz.func111 rfl Tryz.ntmps111 (by simp) [(0, .slice (some ⟨b, 0, none⟩) lz zs.length), (1, sv), (2, .slice (some ⟨b2, 0, none⟩) lx xs.length), (3, .slice (some ⟨b3, 0, none⟩) ly ys.length)] (by simp) ?_
      intro X hR
      try simp only [apC, apN]
      refine G.seq (G.region (J.assign rfl rfl (J.nil (G.seq (G.region (J.move rfl rfl (J.lenS rfl rfl (J.assign rfl rfl ?_))))))))
      refine J.nil (G.seq (G.region (J.move rfl rfl (J.lenS rfl rfl (J.assign rfl rfl (J.nil (G.seq (G.block ?_))))))))
      refine G.seq (G.region (J.move rfl rfl (J.move rfl rfl ?_)))
      (first | refine J.ltN rfl rfl rfl ?_ | refine J.ltZ rfl rfl rfl ?_)
      refine J.assign rfl rfl (J.nil (G.prune [0, 1, 2, 3, 8, 9, 10, 17] rfl (G.cT rfl (G.seq (G.region (J.move rfl rfl (J.move rfl rfl (J.move rfl rfl ?_))))))))
      refine J.move rfl rfl (J.eff (E.callP (mul_geZ y1 y2 y3 x1 x2 x3 z1 z2 z3 (by omega) hx0 hx9 (by omega)) [0] [1, 0] rfl rfl rfl rfl rfl) rfl fun q hq => ?_)
      try simp only [apC, apN]
      refine J.assign rfl rfl (J.nil (G.prune [0, 1, 2, 3, 8, 9, 10] rfl (G.ret (hR _) ?_)))
      exact GL.doneA (q) rfl rfl (by rw [Nat.mul_comm]; exact hq) rfl _ rfl (zh_wr _)
theorem natMul_same {x y : RS} {sv : Value} (hx : zok (some x)) (hy : zok (some y)) (hx0 : 0 < x.len) (hy0 : 0 < y.len) (hx9 : x.len ≤ 39) (hy9 : y.len ≤ 39) :
    Spec (cx V) 111 #[zv (some x), sv, zv (some x), zv (some y)] (zh true (some x)) (zh false (some y)) zv (zh true) (fun q => Res q (zn (some x) * zn (some y))) := by
  obtain ⟨b2, lx, xs⟩ := x
  obtain ⟨b3, ly, ys⟩ := y
  simp only [zok, zn, zv, zh] at *
  obtain ⟨x1, x2, x3⟩ := hx
  obtain ⟨y1, y2, y3⟩ := hy
  by_cases h : ly ≤ lx
  · exact mul_geX1 x1 x2 x3 y1 y2 y3 h hy0 hy9 (by omega)
  · refine Spec.enter Tryz.func111 rfl Tryz.ntmps111 (by simp) [(0, .slice (some ⟨b2, 0, none⟩) lx xs.length), (1, sv), (2, .slice (some ⟨b2, 0, none⟩) lx xs.length), (3, .slice (some ⟨b3, 0, none⟩) ly ys.length)] (by simp) ?_
    intro X hR
    try simp only [apC, apN]
    refine G.seq (G.region (J.assign rfl rfl (J.nil (G.seq (G.region (J.move rfl rfl (J.lenS rfl rfl (J.assign rfl rfl ?_))))))))
    refine J.nil (G.seq (G.region (J.move rfl rfl (J.lenS rfl rfl (J.assign rfl rfl (J.nil (G.seq (G.block ?_))))))))
    refine G.seq (G.region (J.move rfl rfl (J.move rfl rfl ?_)))
    (first | refine J.ltN rfl rfl rfl ?_ | refine J.ltZ rfl rfl rfl ?_)
    refine J.assign rfl rfl (J.nil (G.prune [0, 1, 2, 3, 8, 9, 10, 17] rfl (G.cT rfl (G.seq (G.region (J.move rfl rfl (J.move rfl rfl (J.move rfl rfl ?_))))))))
    refine J.move rfl rfl (J.eff (E.callP (mul_geX2 y1 y2 y3 x1 x2 x3 (by omega) hx0 hx9 (by omega)) [0] [0] rfl rfl rfl rfl rfl) rfl fun q hq => ?_)
    try simp only [apC, apN]
    refine J.assign rfl rfl (J.nil (G.prune [0, 1, 2, 3, 8, 9, 10] rfl (G.ret (hR _) ?_)))
    exact GL.doneA (q) rfl rfl (by rw [Nat.mul_comm]; exact hq) rfl _ rfl (zh_wr _)
end
section
set_option maxRecDepth 100000
set_option pp.deepTerms false
variable {V : Addr}
theorem rv_two {zs : List Nat} {hi lo : Nat} (h : 2 ≤ zs.length) : rv ((zs.set 1 hi).set 0 lo) 0 2 = lo + hi * 18446744073709551616 := by
  rw [rv_succ, rv_succ]
  simp only [rv, Nat.pow_zero, Nat.mul_one, Nat.zero_add, Nat.pow_one]
  rw [getD_set_eq (by rw [List.length_set]; omega), getD_set_ne (by omega), getD_set_eq (by omega)]
theorem Res.two {zs : List Nat} {g d : Nat} (h : 2 ≤ zs.length) (hc : zs.length ≤ 9223372036854775807) (hw : Wd zs) (hd : d < 18446744073709551616) :
    Res (some ⟨g, nl ((zs.set 1 (d * d / 18446744073709551616)).set 0 (d * d % 18446744073709551616)) 0 2, (zs.set 1 (d * d / 18446744073709551616)).set 0 (d * d % 18446744073709551616)⟩) (d * d) := by
  have h1 : d * d / 18446744073709551616 < 18446744073709551616 := by
    rw [Nat.div_lt_iff_lt_mul (by decide)]; exact Nat.mul_lt_mul_of_lt_of_lt hd hd
  refine Res.norm (by simp; omega) (by simpa using hc) ((hw.set h1).set (Nat.mod_lt _ (by decide))) ?_
  rw [rv_two h]
  have := Nat.mod_add_div (d * d) 18446744073709551616
  omega
theorem Res.sqr {zs0 xs p : List Nat} {g lx m : Nat} (h : BM zs0 xs xs lx lx lx p) (hl : m = lx + lx) (h2 : lx + lx ≤ zs0.length) (hc : zs0.length ≤ 9223372036854775807) : Res (some ⟨g, nl p 0 m, p⟩) (rv xs 0 lx * rv xs 0 lx) := by
  subst hl
  have := h.w.len
  exact Res.norm (by omega) (by omega) h.w.wd h.e
theorem sqr_spec {z : Option RS} {x : RS} {sv : Value} (hz : zok z) (hx : zok (some x)) (h0 : 0 < x.len) (h9 : x.len ≤ 11) :
    Spec (cx V) 154 #[zv z, sv, zv (some x)] (zh true z) (zh false (some x)) zv (zh true) (fun q => Res q (zn (some x) * zn (some x))) := by
  obtain ⟨b2, lx, xs⟩ := x
  simp only [zok, zn] at hx h0 h9 ⊢
  obtain ⟨x1, x2, x3⟩ := hx
  rcases z with _ | ⟨b, lz, zs⟩
  · simp only [zv, zh] at *
    refine Spec.enter Tryz.func154 rfl Tryz.ntmps154 (by simp) [(0, .slice none 0 0), (1, sv), (2, .slice (some ⟨b2, 0, none⟩) lx xs.length)] (by simp) ?_
    intro X hR
    try simp only [apC, apN]
    refine G.seq (G.region (J.assign rfl rfl (J.nil (G.seq (G.region (J.move rfl rfl (J.lenS rfl rfl (J.assign rfl rfl ?_))))))))
    refine J.nil (G.seq (G.block (G.seq (G.region (J.move rfl rfl ?_)))))
    (first | refine J.eqN rfl rfl rfl ?_ | refine J.eqZ rfl rfl rfl ?_)
    refine J.assign rfl rfl (J.nil (G.cF rfl (G.seq (G.region (J.move rfl rfl ?_)))))
    (first | refine J.eqN rfl rfl rfl ?_ | refine J.eqZ rfl rfl rfl ?_)
    refine J.assign rfl rfl (J.nil ?_)
    by_cases h1 : lx = 1
    · subst h1
      refine G.cT rfl (G.seq (G.region (J.move rfl rfl (J.ix rfl rfl rfl (J.lc rfl rfl rfl (J.assign rfl rfl (J.nil (G.prune [0, 1, 2, 6, 7, 8] rfl ?_))))))))
      refine G.seq (G.region (J.move rfl rfl ?_))
      skip
      have hc1 := mcap_ge 2
      have hc2 := mcap_le 2
      have hl2 : (List.replicate (mcap 2) 0).length = mcap 2 := List.length_replicate ..
      refine J.eff (E.callP (make_new (n := 2) (by omega) (by omega)) [] [] rfl rfl rfl rfl rfl) rfl fun g _ => ?_
      try simp only [apC, apN]
      refine J.assign rfl rfl (J.nil (G.seq (G.region (J.move rfl rfl (J.move rfl rfl (J.move rfl rfl (J.move rfl rfl (J.eff (E.callP (mulWW_spec (x := xs.getD (0 + 0) 0) (y := xs.getD (0 + 0) 0) (x3 _) (x3 _)) [] [] rfl rfl rfl rfl rfl) rfl fun _ _ => ?_))))))))
      try simp only [apC, apN]
      refine J.move rfl rfl (J.extractL rfl rfl rfl (J.extractL rfl rfl rfl (J.ix rfl rfl rfl (J.eff (E.sc rfl rfl) rfl (J.ix rfl rfl rfl (J.eff (E.sc rfl rfl) rfl (J.nil (G.prune [0, 1, 2, 6, 7] rfl ?_))))))))
      refine G.seq (G.region (J.move rfl rfl ?_))
      simp only [Nat.zero_add]
      refine J.eff (E.callP (norm_spec (o := 0) (len := 2) (xs := ((List.replicate (mcap 2) 0).set 1 (xs.getD 0 0 * xs.getD 0 0 / 18446744073709551616)).set 0 (xs.getD 0 0 * xs.getD 0 0 % 18446744073709551616)) (by simp; omega) (by omega) (by omega)) [] [0] rfl rfl rfl rfl rfl) rfl fun _ _ => ?_
      try simp only [apC, apN]
      refine J.assign rfl rfl (J.nil ?_)
      have e1 : rv xs 0 1 = xs.getD 0 0 := by simp [rv]
      refine G.ret (hR _) ?_
      exact GL.done (some ⟨g, nl (((List.replicate (mcap 2) 0).set 1 (xs.getD 0 0 * xs.getD 0 0 / 18446744073709551616)).set 0 (xs.getD 0 0 * xs.getD 0 0 % 18446744073709551616)) 0 2, ((List.replicate (mcap 2) 0).set 1 (xs.getD 0 0 * xs.getD 0 0 / 18446744073709551616)).set 0 (xs.getD 0 0 * xs.getD 0 0 % 18446744073709551616)⟩) rfl rfl (by rw [e1]; exact Res.two (by omega) (by omega) (Wd.rep _) (x3 _)) (by simp only [zv, List.length_set, List.length_replicate]; rfl) [0] rfl (by decide) (by simp [zh])
    refine G.cF rfl (G.skip (G.inBlock (G.seq (G.seq (G.region (J.move rfl rfl (J.move rfl rfl (J.eff (E.callP (alias_nil (n := 0) (m := 0) (S := [])) [] [] rfl rfl rfl rfl rfl) rfl fun _ _ => ?_))))))))
    try simp only [apC, apN]
    refine J.nil (G.cF rfl (G.skip (G.seq (G.region (J.move rfl rfl (J.move rfl rfl (J.mulI rfl rfl rfl (by omega) ?_)))))))
    skip
    have hc1 := mcap_ge (2 * lx)
    have hc2 := mcap_le (2 * lx)
    have hl2 : (List.replicate (mcap (2 * lx)) 0).length = mcap (2 * lx) := List.length_replicate ..
    refine J.eff (E.callP (make_new (n := (2 * lx)) (by omega) (by omega)) [] [] rfl rfl rfl rfl rfl) rfl fun g _ => ?_
    try simp only [apC, apN]
    refine J.assign rfl rfl (J.nil (G.prune [0, 1, 2, 6, 7] rfl (G.seq (G.seq (G.region (J.move rfl rfl (J.loadGi 2 rfl rfl rfl rfl ?_)))))))
    (first | refine J.ltN rfl rfl rfl ?_ | refine J.ltZ rfl rfl rfl ?_)
    refine J.move rfl rfl (J.wT rfl rfl (J.move rfl rfl (J.wT rfl rfl (J.loadGi 3 rfl rfl rfl rfl (J.wT rfl rfl ?_)))))
    (first | refine J.ltN rfl rfl rfl ?_ | refine J.ltZ rfl rfl rfl ?_)
    refine J.pT rfl rfl rfl (J.nil (G.prune [0, 1, 2, 6, 7, 50] rfl (G.cT rfl (G.seq (G.region (J.move rfl rfl (J.move rfl rfl (J.move rfl rfl ?_))))))))
    refine J.eff (E.callP (basicMulX_spec (xs0 := xs) (zs0 := List.replicate (mcap (2 * lx)) 0) (lx := lx) (Wd.rep _) x1 x3 (by omega) (by omega) (by omega) (by omega) (by omega)) [0] [0] rfl rfl rfl rfl rfl) rfl fun p hp => ?_
    try simp only [apC, apN]
    have hlen := hp.w.len
    refine J.nil (G.prune [0, 1, 2, 6, 7] rfl (G.seq (G.region (J.move rfl rfl (J.eff (E.callP (norm_spec (o := 0) (len := 2 * lx) (xs := p) (by omega) (by omega) (by omega)) [] [0] rfl rfl rfl rfl rfl) rfl fun _ _ => ?_)))))
    try simp only [apC, apN]
    refine J.assign rfl rfl (J.nil (G.ret (hR _) ?_))
    exact GL.done (some ⟨g, nl p 0 (2 * lx), p⟩) rfl rfl (Res.sqr hp (by omega) (by omega) (by omega)) (by simp only [zv, hlen, hl2]; rfl) [0] rfl (by decide) (by simp [zh])
  · simp only [zv, zh, zok] at *
    obtain ⟨z1, z2, z3⟩ := hz
    refine Spec.enter Tryz.func154 rfl Tryz.ntmps154 (by simp) [(0, .slice (some ⟨b, 0, none⟩) lz zs.length), (1, sv), (2, .slice (some ⟨b2, 0, none⟩) lx xs.length)] (by simp) ?_
    intro X hR
    try simp only [apC, apN]
    refine G.sep 0 1 rfl rfl (by decide) (.inl rfl) fun hn1 => ?_
    simp only at hn1
    refine G.seq (G.region (J.assign rfl rfl (J.nil (G.seq (G.region (J.move rfl rfl (J.lenS rfl rfl (J.assign rfl rfl ?_))))))))
    refine J.nil (G.seq (G.block (G.seq (G.region (J.move rfl rfl ?_)))))
    (first | refine J.eqN rfl rfl rfl ?_ | refine J.eqZ rfl rfl rfl ?_)
    refine J.assign rfl rfl (J.nil (G.cF rfl (G.seq (G.region (J.move rfl rfl ?_)))))
    (first | refine J.eqN rfl rfl rfl ?_ | refine J.eqZ rfl rfl rfl ?_)
    refine J.assign rfl rfl (J.nil ?_)
    by_cases h1 : lx = 1
    · subst h1
      refine G.cT rfl (G.seq (G.region (J.move rfl rfl (J.ix rfl rfl rfl (J.lc rfl rfl rfl (J.assign rfl rfl (J.nil (G.prune [0, 1, 2, 6, 7, 8] rfl ?_))))))))
      refine G.seq (G.region (J.move rfl rfl ?_))
      by_cases hf : 2 ≤ zs.length
      · skip
        refine J.eff (E.callP (make_fit hf) [] [] rfl rfl rfl rfl rfl) rfl fun _ _ => ?_
        try simp only [apC, apN]
        refine J.assign rfl rfl (J.nil (G.seq (G.region (J.move rfl rfl (J.move rfl rfl (J.move rfl rfl (J.move rfl rfl (J.eff (E.callP (mulWW_spec (x := xs.getD (0 + 0) 0) (y := xs.getD (0 + 0) 0) (x3 _) (x3 _)) [] [] rfl rfl rfl rfl rfl) rfl fun _ _ => ?_))))))))
        try simp only [apC, apN]
        refine J.move rfl rfl (J.extractL rfl rfl rfl (J.extractL rfl rfl rfl (J.ix rfl rfl rfl (J.eff (E.sc rfl rfl) rfl (J.ix rfl rfl rfl (J.eff (E.sc rfl rfl) rfl (J.nil (G.prune [0, 1, 2, 6, 7] rfl ?_))))))))
        refine G.seq (G.region (J.move rfl rfl ?_))
        simp only [Nat.zero_add]
        refine J.eff (E.callP (norm_spec (o := 0) (len := 2) (xs := (zs.set 1 (xs.getD 0 0 * xs.getD 0 0 / 18446744073709551616)).set 0 (xs.getD 0 0 * xs.getD 0 0 % 18446744073709551616)) (by simp; omega) (by omega) (by omega)) [] [0] rfl rfl rfl rfl rfl) rfl fun _ _ => ?_
        try simp only [apC, apN]
        refine J.assign rfl rfl (J.nil ?_)
        have e1 : rv xs 0 1 = xs.getD 0 0 := by simp [rv]
        refine G.ret (hR _) ?_
        exact GL.done (some ⟨b, nl ((zs.set 1 (xs.getD 0 0 * xs.getD 0 0 / 18446744073709551616)).set 0 (xs.getD 0 0 * xs.getD 0 0 % 18446744073709551616)) 0 2, (zs.set 1 (xs.getD 0 0 * xs.getD 0 0 / 18446744073709551616)).set 0 (xs.getD 0 0 * xs.getD 0 0 % 18446744073709551616)⟩) rfl rfl (by rw [e1]; exact Res.two (by omega) (by omega) z3 (x3 _)) (by simp only [zv, List.length_set]; rfl) [0] rfl (by decide) (by simp [zh])
      · skip
        have hc1 := mcap_ge 2
        have hc2 := mcap_le 2
        have hl2 : (List.replicate (mcap 2) 0).length = mcap 2 := List.length_replicate ..
        refine J.eff (E.callP (make_new (n := 2) (by omega) (by omega)) [] [] rfl rfl rfl rfl rfl) rfl fun g _ => ?_
        try simp only [apC, apN]
        refine J.assign rfl rfl (J.nil (G.seq (G.region (J.move rfl rfl (J.move rfl rfl (J.move rfl rfl (J.move rfl rfl (J.eff (E.callP (mulWW_spec (x := xs.getD (0 + 0) 0) (y := xs.getD (0 + 0) 0) (x3 _) (x3 _)) [] [] rfl rfl rfl rfl rfl) rfl fun _ _ => ?_))))))))
        try simp only [apC, apN]
        refine J.move rfl rfl (J.extractL rfl rfl rfl (J.extractL rfl rfl rfl (J.ix rfl rfl rfl (J.eff (E.sc rfl rfl) rfl (J.ix rfl rfl rfl (J.eff (E.sc rfl rfl) rfl (J.nil (G.prune [0, 1, 2, 6, 7] rfl ?_))))))))
        refine G.seq (G.region (J.move rfl rfl ?_))
        simp only [Nat.zero_add]
        refine J.eff (E.callP (norm_spec (o := 0) (len := 2) (xs := ((List.replicate (mcap 2) 0).set 1 (xs.getD 0 0 * xs.getD 0 0 / 18446744073709551616)).set 0 (xs.getD 0 0 * xs.getD 0 0 % 18446744073709551616)) (by simp; omega) (by omega) (by omega)) [] [0] rfl rfl rfl rfl rfl) rfl fun _ _ => ?_
        try simp only [apC, apN]
        refine J.assign rfl rfl (J.nil ?_)
        have e1 : rv xs 0 1 = xs.getD 0 0 := by simp [rv]
        refine G.ret (hR _) ?_
        exact GL.done (some ⟨g, nl (((List.replicate (mcap 2) 0).set 1 (xs.getD 0 0 * xs.getD 0 0 / 18446744073709551616)).set 0 (xs.getD 0 0 * xs.getD 0 0 % 18446744073709551616)) 0 2, ((List.replicate (mcap 2) 0).set 1 (xs.getD 0 0 * xs.getD 0 0 / 18446744073709551616)).set 0 (xs.getD 0 0 * xs.getD 0 0 % 18446744073709551616)⟩) rfl rfl (by rw [e1]; exact Res.two (by omega) (by omega) (Wd.rep _) (x3 _)) (by simp only [zv, List.length_set, List.length_replicate]; rfl) [0] rfl (by decide) (by simp [zh])
    refine G.cF rfl (G.skip (G.inBlock (G.seq (G.seq (G.region (J.move rfl rfl (J.move rfl rfl (J.eff (E.callP (alias_other (cs := cells .u64 zs) (cs2 := cells .u64 xs) hn1 (by omega) (by omega)) [] [0, 1] rfl rfl rfl rfl rfl) rfl fun _ _ => ?_))))))))
    try simp only [apC, apN]
    refine J.nil (G.cF rfl (G.skip (G.seq (G.region (J.move rfl rfl (J.move rfl rfl (J.mulI rfl rfl rfl (by omega) ?_)))))))
    by_cases hf : 2 * lx ≤ zs.length
    · skip
      refine J.eff (E.callP (make_fit hf) [] [] rfl rfl rfl rfl rfl) rfl fun _ _ => ?_
      try simp only [apC, apN]
      refine J.assign rfl rfl (J.nil (G.prune [0, 1, 2, 6, 7] rfl (G.seq (G.seq (G.region (J.move rfl rfl (J.loadGi 2 rfl rfl rfl rfl ?_)))))))
      (first | refine J.ltN rfl rfl rfl ?_ | refine J.ltZ rfl rfl rfl ?_)
      refine J.move rfl rfl (J.wT rfl rfl (J.move rfl rfl (J.wT rfl rfl (J.loadGi 3 rfl rfl rfl rfl (J.wT rfl rfl ?_)))))
      (first | refine J.ltN rfl rfl rfl ?_ | refine J.ltZ rfl rfl rfl ?_)
      refine J.pT rfl rfl rfl (J.nil (G.prune [0, 1, 2, 6, 7, 50] rfl (G.cT rfl (G.seq (G.region (J.move rfl rfl (J.move rfl rfl (J.move rfl rfl ?_))))))))
      refine J.eff (E.callP (basicMulX_spec (xs0 := xs) (zs0 := zs) (lx := lx) z3 x1 x3 (by omega) (by omega) (by omega) (by omega) (by omega)) [0] [0] rfl rfl rfl rfl rfl) rfl fun p hp => ?_
      try simp only [apC, apN]
      have hlen := hp.w.len
      refine J.nil (G.prune [0, 1, 2, 6, 7] rfl (G.seq (G.region (J.move rfl rfl (J.eff (E.callP (norm_spec (o := 0) (len := 2 * lx) (xs := p) (by omega) (by omega) (by omega)) [] [0] rfl rfl rfl rfl rfl) rfl fun _ _ => ?_)))))
      try simp only [apC, apN]
      refine J.assign rfl rfl (J.nil (G.ret (hR _) ?_))
      exact GL.done (some ⟨b, nl p 0 (2 * lx), p⟩) rfl rfl (Res.sqr hp (by omega) (by omega) (by omega)) (by simp only [zv, hlen]; rfl) [0] rfl (by decide) (by simp [zh])
    · skip
      have hc1 := mcap_ge (2 * lx)
      have hc2 := mcap_le (2 * lx)
      have hl2 : (List.replicate (mcap (2 * lx)) 0).length = mcap (2 * lx) := List.length_replicate ..
      refine J.eff (E.callP (make_new (n := (2 * lx)) (by omega) (by omega)) [] [] rfl rfl rfl rfl rfl) rfl fun g _ => ?_
      try simp only [apC, apN]
      refine J.assign rfl rfl (J.nil (G.prune [0, 1, 2, 6, 7] rfl (G.seq (G.seq (G.region (J.move rfl rfl (J.loadGi 2 rfl rfl rfl rfl ?_)))))))
      (first | refine J.ltN rfl rfl rfl ?_ | refine J.ltZ rfl rfl rfl ?_)
      refine J.move rfl rfl (J.wT rfl rfl (J.move rfl rfl (J.wT rfl rfl (J.loadGi 3 rfl rfl rfl rfl (J.wT rfl rfl ?_)))))
      (first | refine J.ltN rfl rfl rfl ?_ | refine J.ltZ rfl rfl rfl ?_)
      refine J.pT rfl rfl rfl (J.nil (G.prune [0, 1, 2, 6, 7, 50] rfl (G.cT rfl (G.seq (G.region (J.move rfl rfl (J.move rfl rfl (J.move rfl rfl ?_))))))))
      refine J.eff (E.callP (basicMulX_spec (xs0 := xs) (zs0 := List.replicate (mcap (2 * lx)) 0) (lx := lx) (Wd.rep _) x1 x3 (by omega) (by omega) (by omega) (by omega) (by omega)) [0] [1] rfl rfl rfl rfl rfl) rfl fun p hp => ?_
      try simp only [apC, apN]
      have hlen := hp.w.len
      refine J.nil (G.prune [0, 1, 2, 6, 7] rfl (G.seq (G.region (J.move rfl rfl (J.eff (E.callP (norm_spec (o := 0) (len := 2 * lx) (xs := p) (by omega) (by omega) (by omega)) [] [0] rfl rfl rfl rfl rfl) rfl fun _ _ => ?_)))))
      try simp only [apC, apN]
      refine J.assign rfl rfl (J.nil (G.ret (hR _) ?_))
      exact GL.done (some ⟨g, nl p 0 (2 * lx), p⟩) rfl rfl (Res.sqr hp (by omega) (by omega) (by omega)) (by simp only [zv, hlen, hl2]; rfl) [0] rfl (by decide) (by simp [zh])
theorem Res.copy {b b2 n l : Nat} {zs ys : List Nat} (hz : n ≤ zs.length) (hc : zs.length ≤ 9223372036854775807) (hw : Wd zs) (h : Res (some ⟨b2, n, ys⟩) l) : Res (some ⟨b, n, splice zs 0 ((ys.drop 0).take n)⟩) l := by
  obtain ⟨⟨h1, h2, h3⟩, h4, h5⟩ := h
  simp only [znm, zn] at h1 h2 h3 h4 h5
  have hl := drop_take_len (xs := ys) (o := 0) (n := n) (by omega)
  have hg : ∀ j, j < n → (splice zs 0 ((ys.drop 0).take n)).getD j 0 = ys.getD j 0 := fun j hj => by
    rw [getD_splice (by omega), if_pos (by omega), getD_drop_take (by omega)]
    congr 1; omega
  refine ⟨⟨?_, ?_, hw.splice (h3.sub _ _) (by omega)⟩, ?_, ?_⟩
  · show n ≤ (splice _ _ _).length; rw [splice_len _ _ _ (by omega)]; exact hz
  · show (splice _ _ _).length ≤ _; rw [splice_len _ _ _ (by omega)]; exact hc
  · simp only [znm]
    rcases Nat.eq_zero_or_pos n with h0 | h0
    · exact .inl h0
    · rw [hg _ (by omega)]; exact h4
  · simp only [zn]
    rw [← h5]
    exact rv_congr fun j hj => by rw [Nat.zero_add]; exact hg j hj
theorem set_nil {x : RS} {l : Nat} (hx : Res (some x) l) (h0 : 0 < x.len) (h9 : x.len ≤ 1000000) :
    Spec (cx V) 87 #[.slice none 0 0, zv (some x)] [] (zh false (some x)) zv (zh true) (fun q => Res q l) := by
  obtain ⟨b2, lx, xs⟩ := x
  obtain ⟨x1, x2, x3⟩ := hx.ok
  simp only [zv, zh] at *
  refine Spec.enter Tryz.func87 rfl Tryz.ntmps87 (by simp) [(0, .slice none 0 0), (1, .slice (some ⟨b2, 0, none⟩) lx xs.length)] (by simp) ?_
  intro X hR
  try simp only [apC, apN]
  refine G.seq (G.region (J.assign rfl rfl (J.nil (G.seq (G.region (J.move rfl rfl (J.move rfl rfl (J.lenS rfl rfl ?_))))))))
  have hc1 := mcap_ge lx
  have hc2 := mcap_le lx
  have hl2 : (List.replicate (mcap lx) 0).length = mcap lx := List.length_replicate ..
  refine J.eff (E.callP (make_new (n := lx) (by omega) (by omega)) [] [] rfl rfl rfl rfl rfl) rfl fun g _ => ?_
  try simp only [apC, apN]
  refine J.assign rfl rfl (J.nil (G.prune [0, 1, 4] rfl (G.seq (G.region (J.move rfl rfl (J.move rfl rfl (J.eff (E.copy (xs := List.replicate (mcap lx) 0) (ys := xs) (o := 0) (o2 := 0) (q := lx) rfl rfl rfl (Mem.t Mem.h) (Nat.min_self _) (by omega) (by omega) Upd1.h) rfl (J.nil ?_))))))))
  refine G.seq (G.region (J.move rfl rfl (J.assign rfl rfl (J.nil (G.ret (hR _) ?_)))))
  have hl3 : (splice (List.replicate (mcap lx) 0) 0 ((xs.drop 0).take lx)).length = mcap lx := by rw [splice_len _ _ _ (by rw [drop_take_len (by omega)]; omega), hl2]
  exact GL.done (some ⟨g, lx, splice (List.replicate (mcap lx) 0) 0 ((xs.drop 0).take lx)⟩) rfl rfl (Res.copy (by omega) (by omega) (Wd.rep _) hx) (by simp only [zv, hl3]; rfl) [0] rfl (by decide) (by simp [zh])
end
section
set_option maxRecDepth 100000
set_option pp.deepTerms false
variable {V : Addr}
theorem Wd.one {x : Nat} (h : x < 18446744073709551616) : Wd [x] := fun j => by
  rcases j with _ | j
  · simpa using h
  · simp
theorem five_spec : Spec (cx V) 109 #[] [] [] (fun g : Nat => zv (some ⟨g, 1, [5]⟩)) (fun g => zh true (some ⟨g, 1, [5]⟩)) (fun _ => True) := by
  refine Spec.enter Tryz.func109 rfl Tryz.ntmps109 (by simp) [] (by simp) ?_
  intro X hR
  try simp only [apC, apN]
  refine G.seq (G.region (J.assign rfl rfl (J.nil (G.seq (G.region (J.eff (E.slice1 rfl rfl) rfl fun g1 => J.assign rfl rfl (J.nil ?_)))))))
  refine G.ret (hR _) ?_
  exact GL.done (τ := Nat) g1 rfl rfl trivial rfl [0] rfl (by decide) (by simp [zh])
theorem Res.five (g : Nat) : Res (some ⟨g, 1, [5]⟩) 5 := ⟨⟨by simp, by simp, Wd.one (by decide)⟩, .inr (by simp), by simp [zn, rv]⟩
theorem Res.some {q : Option RS} {n : Nat} (h : Res q n) (h0 : n ≠ 0) : ∃ r, q = some r ∧ 0 < r.len := by
  rcases q with _ | r
  · exact absurd h.n.symm h0
  · refine ⟨r, rfl, ?_⟩
    rcases Nat.eq_zero_or_pos r.len with h1 | h1
    · have := h.n
      simp only [zn, h1, rv] at this
      exact absurd this.symm h0
    · exact h1
theorem bit_law {n k s : Nat} (hn : n < 18446744073709551616) (hk : k < 64) (hs : s = 63 - k) : n * 2 ^ s % 18446744073709551616 &&& 9223372036854775808 ≠ 0 ↔ n / 2 ^ k % 2 = 1 := by
  subst hs
  have e : n * 2 ^ (63 - k) % 18446744073709551616 / 9223372036854775808 = n / 2 ^ k % 2 := by
    rw [show 18446744073709551616 = 9223372036854775808 * 2 by decide, Nat.mod_mul_right_div_self]
    congr 1
    rw [show 9223372036854775808 = 2 ^ k * 2 ^ (63 - k) by rw [← Nat.pow_add, show k + (63 - k) = 63 by omega]]
    exact Nat.mul_div_mul_right _ _ (Nat.two_pow_pos _)
  have hlt := Nat.mod_lt (n * 2 ^ (63 - k)) (show 18446744073709551616 > 0 by decide)
  generalize n * 2 ^ (63 - k) % 18446744073709551616 = v at *
  have h2 : v &&& 2 ^ 63 = if v.testBit 63 then 2 ^ 63 else 0 := by
    apply Nat.eq_of_testBit_eq
    intro i
    rw [Nat.testBit_and, Nat.testBit_two_pow]
    by_cases h : 63 = i
    · subst h
      cases hb : v.testBit 63
      · simp
      · rw [if_pos rfl]; decide
    · rw [decide_eq_false h, Bool.and_false]
      split
      · exact (Nat.testBit_two_pow_of_ne h).symm
      · exact (Nat.zero_testBit i).symm
  rw [show (9223372036854775808 : Nat) = 2 ^ 63 by decide, h2, Nat.testBit_eq_decide_div_mod_eq, ← e]
  rw [show (2 ^ 63 : Nat) = 9223372036854775808 by decide]
  have : v / 9223372036854775808 < 2 := by omega
  rcases Nat.mod_two_eq_zero_or_one (v / 9223372036854775808) with h | h <;> simp [h] <;> omega
structure Ex (n k : Nat) (z : RS) : Prop where
  r : Res (some z) (5 ^ (n / 2 ^ k))
  l : 0 < z.len
theorem pow5_lt {e k : Nat} (h : e ≤ 27 * k) : 5 ^ e < 18446744073709551616 ^ k ∨ k = 0 := by
  rcases Nat.eq_zero_or_pos k with h0 | h0
  · exact .inr h0
  · left
    have h1 : 5 ^ e ≤ 5 ^ (27 * k) := Nat.pow_le_pow_right (by decide) h
    rw [Nat.pow_mul] at h1
    exact Nat.lt_of_le_of_lt h1 (Nat.pow_lt_pow_left (by decide) (by omega))
theorem pow5_len {z : RS} {e k : Nat} (h : Res (some z) (5 ^ e)) (hk : e ≤ 27 * k) (h0 : 0 < k) : z.len ≤ k := by
  have := h.len_le (k := k) ((pow5_lt hk).resolve_right (by omega))
  simpa [zlen] using this
theorem sq_law {n k : Nat} : 5 ^ (n / 2 ^ (k + 1)) * 5 ^ (n / 2 ^ (k + 1)) * (if n / 2 ^ k % 2 = 1 then 5 else 1) = 5 ^ (n / 2 ^ k) := by
  have h : n / 2 ^ k = n / 2 ^ (k + 1) + n / 2 ^ (k + 1) + n / 2 ^ k % 2 := by
    rw [Nat.pow_succ, ← Nat.div_div_eq_div_mul]; omega
  split
  · rename_i h1
    rw [← Nat.pow_add, ← Nat.pow_succ]; congr 1; omega
  · rw [← Nat.pow_add, Nat.mul_one]; congr 1; omega
theorem shl1_law (n s : Nat) : n * 2 ^ s % 18446744073709551616 * 2 ^ 1 % 18446744073709551616 = n * 2 ^ (s + 1) % 18446744073709551616 := by
  have e : n * 2 ^ (s + 1) = n * 2 ^ s * 2 := by rw [Nat.pow_succ, Nat.mul_assoc]
  rw [e, Nat.pow_one]
  generalize n * 2 ^ s = a
  omega
theorem expNN_spec {s : Addr} {x y : RS} {n : Nat} (hx : Res (some x) 5) (hx1 : x.len = 1) (hy : Res (some y) n) (hy1 : y.len = 1) (h1 : 1 ≤ n) (h4 : n ≤ 400) :
    Spec (cx V) 108 #[.slice none 0 0, .pointer (some s), zv (some x), zv (some y), .slice none 0 0, .bool false] [] [⟨x.b, 162, cells .u64 x.xs, false⟩, ⟨y.b, 162, cells .u64 y.xs, false⟩] zv (zh true) (fun q => Res q (5 ^ n)) := by
  obtain ⟨b2, lx, xs⟩ := x
  obtain ⟨b3, ly, ys⟩ := y
  obtain ⟨x1, x2, x3⟩ := hx.ok
  obtain ⟨y1, y2, y3⟩ := hy.ok
  have xn := hx.n
  have yn := hy.n
  simp only at hx1 hy1 x1 x2 x3 y1 y2 y3
  subst hx1 hy1
  simp only [zn, rv, Nat.zero_add, Nat.pow_zero, Nat.mul_one] at xn yn
  simp only [zv]
  refine Spec.enter Tryz.func108 rfl Tryz.ntmps108 (by simp) [(0, .slice none 0 0), (1, .pointer (some s)), (2, .slice (some ⟨b2, 0, none⟩) 1 xs.length), (3, .slice (some ⟨b3, 0, none⟩) 1 ys.length), (4, .slice none 0 0), (5, .bool false)] (by simp) ?_
  intro X hR
  try simp only [apC, apN]
  refine G.seq (G.region (J.assign rfl rfl (J.nil (G.seq (G.seq (G.region (J.move rfl rfl (J.move rfl rfl ?_))))))))
  refine J.eff (E.callP (alias_nil (n := 0) (m := 0) (S := [])) [] [] rfl rfl rfl rfl rfl) rfl fun _ _ => ?_
  try simp only [apC, apN]
  refine J.move rfl rfl (J.wF rfl rfl (J.move rfl rfl (J.wF rfl rfl (J.move rfl rfl (J.wF rfl rfl (J.eff (E.callP (alias_nil (n := 0) (m := 0) (S := [])) [] [] rfl rfl rfl rfl rfl) rfl fun _ _ => ?_))))))
  try simp only [apC, apN]
  refine J.pF rfl rfl rfl (J.nil (G.prune [0, 1, 2, 3, 4, 5, 12, 13, 14, 22, 23, 31] rfl (G.cF rfl (G.skip (G.seq (G.seq (G.region (J.move rfl rfl ?_))))))))
  refine J.lenS rfl rfl ?_
  (first | refine J.eqN rfl rfl rfl ?_ | refine J.eqZ rfl rfl rfl ?_)
  refine J.move rfl rfl (J.sk rfl rfl rfl rfl (J.sk rfl rfl rfl rfl (J.sk rfl rfl rfl rfl (J.sk rfl rfl rfl rfl (J.pF rfl rfl rfl (J.nil (G.prune [0, 1, 2, 3, 4, 5, 12, 13, 14, 22, 23, 40] rfl (G.cF rfl ?_))))))))
  refine G.skip (G.seq (G.seq (G.region (J.move rfl rfl (J.lenS rfl rfl ?_)))))
  (first | refine J.eqN rfl rfl rfl ?_ | refine J.eqZ rfl rfl rfl ?_)
  refine J.nil (G.cF rfl (G.skip (G.seq (G.seq (G.region (J.move rfl rfl (J.lenS rfl rfl ?_)))))))
  (first | refine J.eqN rfl rfl rfl ?_ | refine J.eqZ rfl rfl rfl ?_)
  refine J.nil (G.cF rfl (G.skip (G.seq (G.seq (G.region (J.move rfl rfl (J.lenS rfl rfl ?_)))))))
  (first | refine J.eqN rfl rfl rfl ?_ | refine J.eqZ rfl rfl rfl ?_)
  refine J.move rfl rfl (J.wT rfl rfl (J.move rfl rfl (J.wT rfl rfl (J.ix rfl rfl rfl (J.wT rfl rfl (J.lc rfl rfl rfl (J.wT rfl rfl ?_)))))))
  (first | refine J.eqN rfl rfl rfl ?_ | refine J.eqZ rfl rfl rfl ?_)
  refine J.pT rfl rfl rfl (J.nil (G.prune [0, 1, 2, 3, 4, 5, 12, 13, 14, 22, 23, 61] rfl ?_))
  simp only [Nat.zero_add, xn]
  refine G.cF rfl (G.skip (G.seq (G.seq (G.region (J.move rfl rfl (J.lenS rfl rfl ?_))))))
  (first | refine J.eqN rfl rfl rfl ?_ | refine J.eqZ rfl rfl rfl ?_)
  refine J.move rfl rfl (J.wT rfl rfl (J.move rfl rfl (J.wT rfl rfl (J.ix rfl rfl rfl (J.wT rfl rfl (J.lc rfl rfl rfl (J.wT rfl rfl ?_)))))))
  (first | refine J.eqN rfl rfl rfl ?_ | refine J.eqZ rfl rfl rfl ?_)
  refine J.pT rfl rfl rfl (J.move rfl rfl ?_)
  simp only [Nat.zero_add, yn]
  by_cases hn1 : n = 1
  · refine J.wT rfl rfl ?_
    refine J.move rfl rfl (J.wT rfl rfl (J.lenS rfl rfl (J.wT rfl rfl ?_)))
    (first | refine J.eqN rfl rfl rfl ?_ | refine J.eqZ rfl rfl rfl ?_)
    refine J.pT rfl rfl rfl (J.nil (G.prune [0, 1, 2, 3, 4, 5, 12, 13, 14, 22, 23, 77] rfl (G.cT rfl (G.seq (G.region (J.move rfl rfl (J.move rfl rfl ?_)))))))
    refine J.eff (E.callP (set_nil (x := ⟨b2, 1, xs⟩) hx Nat.one_pos (by simp only; omega)) [] [0] rfl rfl rfl rfl rfl) rfl fun q hq => ?_
    try simp only [apC, apN]
    refine J.assign rfl rfl (J.nil (G.prune [0, 1, 2, 3, 4, 5, 12, 13, 14, 22, 23] rfl (G.ret (hR _) ?_)))
    exact GL.doneA (q) rfl rfl (by rw [hn1]; exact hq) rfl _ rfl (zh_wr _)
  · skip
    refine J.sk rfl rfl rfl rfl (J.sk rfl rfl rfl rfl (J.sk rfl rfl rfl rfl (J.pF rfl rfl rfl (J.nil (G.prune [0, 1, 2, 3, 4, 5, 12, 13, 14, 22, 23, 77] rfl (G.cF rfl (G.skip (G.seq ?_))))))))
    refine G.seq (G.region (J.move rfl rfl (J.ptrNilE rfl rfl (J.nil (G.cF rfl (G.skip (G.seq (G.seq ?_))))))))
    refine G.region (J.move rfl rfl (J.lenS rfl rfl ?_))
    (first | refine J.eqN rfl rfl rfl ?_ | refine J.eqZ rfl rfl rfl ?_)
    refine J.move rfl rfl (J.wT rfl rfl (J.move rfl rfl (J.wT rfl rfl (J.ix rfl rfl rfl (J.wT rfl rfl (J.lc rfl rfl rfl (J.wT rfl rfl ?_)))))))
    (first | refine J.eqN rfl rfl rfl ?_ | refine J.eqZ rfl rfl rfl ?_)
    refine J.pT rfl rfl rfl (J.nil (G.prune [0, 1, 2, 3, 4, 5, 12, 13, 14, 22, 23, 93] rfl ?_))
    simp only [Nat.zero_add, yn]
    refine G.cF rfl (G.skip (G.seq (G.seq (G.region (J.move rfl rfl (J.lenS rfl rfl ?_))))))
    (first | refine J.neN rfl rfl rfl ?_ | refine J.neZ rfl rfl rfl ?_)
    refine J.nil (G.cF rfl (G.skip (G.seq (G.region (J.move rfl rfl (J.move rfl rfl ?_))))))
    refine J.eff (E.callP (set_nil (x := ⟨b2, 1, xs⟩) hx Nat.one_pos (by simp only; omega)) [] [0] rfl rfl rfl rfl rfl) rfl fun q hq => ?_
    try simp only [apC, apN]
    obtain ⟨z, rfl, hz0⟩ := Res.some hq (by decide)
    simp only [zh, List.cons_append, List.nil_append]
    obtain ⟨bz, lz, zs⟩ := z
    have hb1 : blen n ≤ 64 := blen_lt (n := 64) (by omega)
    have hb2 : 2 ≤ blen n := by
      have h := blen_le (x := n)
      rcases Nat.lt_or_ge (blen n) 2 with h3 | h3
      · have : 2 ^ blen n ≤ 2 ^ 1 := Nat.pow_le_pow_right (by decide) (by omega)
        omega
      · exact h3
    refine J.assign rfl rfl (J.nil (G.prune [0, 1, 2, 3, 4, 5, 12, 13, 14, 22, 23] rfl (G.seq (G.region (J.move rfl rfl (J.move rfl rfl (J.lenS rfl rfl ?_)))))))
    (first | refine J.subI rfl rfl rfl (by omega) (by omega) ?_ | refine J.subZ rfl rfl rfl (by omega) (by omega) ?_)
    refine J.ix rfl rfl rfl (J.lc rfl rfl rfl (J.assign rfl rfl (J.nil (G.prune [0, 1, 2, 3, 4, 5, 12, 13, 14, 15, 22, 23] rfl (G.seq (G.region (J.move rfl rfl ?_)))))))
    simp only [Nat.sub_self, Nat.add_zero, yn]
    refine J.eff (E.callP (nlz_spec (x := n) (by omega)) [] [] rfl rfl rfl rfl rfl) rfl fun _ _ => ?_
    try simp only [apC, apN]
    refine J.addU rfl rfl rfl (by omega) (J.assign rfl rfl (J.nil (G.prune [0, 1, 2, 3, 4, 5, 12, 13, 14, 15, 16, 22, 23] rfl (G.seq (G.region (J.move rfl rfl (J.move rfl rfl (J.shlU rfl rfl rfl ?_))))))))
    refine J.assign rfl rfl (J.nil (G.prune [0, 1, 2, 3, 4, 5, 12, 13, 14, 15, 16, 22, 23] rfl (G.seq (G.region (J.assign rfl rfl (J.nil (G.seq (G.region ?_))))))))
    refine J.move rfl rfl (J.convN rfl rfl (by show _ < _; omega) ?_)
    (first | refine J.subI rfl rfl rfl (by omega) (by omega) ?_ | refine J.subZ rfl rfl rfl (by omega) (by omega) ?_)
    refine J.assign rfl rfl (J.nil (G.prune [0, 1, 2, 3, 4, 5, 12, 13, 14, 15, 16, 17, 18, 22, 23] rfl (G.seq (G.region (J.assign rfl rfl (J.assign rfl rfl (J.nil (G.seq ?_))))))))
    refine G.seq (G.region (J.assign rfl rfl (J.nil (G.block ?_))))
    have hex0 : Ex n (blen n - 1) ⟨bz, lz, zs⟩ := by
      refine ⟨?_, hz0⟩
      have h := blen_ge (x := n) (by omega)
      have h' := blen_le (x := n)
      have : n / 2 ^ (blen n - 1) = 1 := by
        have e : 2 ^ blen n = 2 ^ (blen n - 1) * 2 := by rw [← Nat.pow_succ]; congr 1; omega
        refine (Nat.div_eq_iff (Nat.two_pow_pos _)).2 ?_
        omega
      rw [this]; exact hq
    refine G.loopW (σ := { t : Nat × RS × Option RS // t.1 ≤ blen n - 1 ∧ Ex n (blen n - 1 - t.1) t.2.1 ∧ zok t.2.2 }) (fun t => [(0, zv (some t.1.2.1)), (1, .pointer (some s)), (2, .slice (some ⟨b2, 0, none⟩) 1 xs.length), (3, .slice (some ⟨b3, 0, none⟩) 1 ys.length), (4, .slice none 0 0), (12, .slice none 0 0), (15, .int .u64 ((n * 2 ^ (64 - blen n + 1 + t.1.1) % 18446744073709551616 : Nat) : Int)), (17, .slice none 0 0), (18, .int .i64 ((64 - (64 - blen n + 1) : Nat) : Int)), (19, zv t.1.2.2), (20, .slice none 0 0), (21, .int .i64 (t.1.1 : Nat))]) (fun t => zh true (some t.1.2.1) ++ (zh true t.1.2.2 ++ [⟨b2, 162, cells .u64 xs, false⟩, ⟨b3, 162, cells .u64 ys, false⟩])) (fun t => blen n - t.1.1) ⟨(0, ⟨bz, lz, zs⟩, none), Nat.zero_le _, hex0, trivial⟩ (by repeat (first | exact SubSlots.nil _ | refine SubSlots.cons rfl ?_)) [0, 1, 2] rfl (by decide) ?_
    rintro ⟨⟨j, ⟨bz, lz, zs⟩, zz⟩, hj, hex, hzz⟩ ih
    simp only at ih hj hex hzz ⊢
    obtain ⟨z1, z2, z3⟩ := hex.r.ok
    have hz0 := hex.l
    have hzn := hex.r.n
    simp only [zn] at z1 z2 z3 hz0 hzn
    simp only [zv, zh, List.cons_append, List.nil_append]
    refine G.seq (G.seq (G.region (J.move rfl rfl (J.move rfl rfl ?_))))
    (first | refine J.ltN rfl rfl rfl ?_ | refine J.ltZ rfl rfl rfl ?_)
    refine J.nil ?_
    refine G.condP rfl (fun hc => ?_) (fun hc => ?_)
    · have hhalf : n / 2 ^ (blen n - 1 - j) ≤ n / 2 := by
        rw [show blen n - 1 - j = (blen n - 1 - j - 1) + 1 by omega, Nat.pow_succ, Nat.mul_comm, ← Nat.div_div_eq_div_mul]
        exact Nat.div_le_self _ _
      have hlz : lz ≤ 8 := by
        have := pow5_len (k := 8) hex.r (by omega) (by omega)
        exact this
      have hbit := bit_law (n := n) (k := blen n - 2 - j) (s := 64 - blen n + 1 + j) (by omega) (by omega) (by omega)
      have hsq := sq_law (n := n) (k := blen n - 2 - j)
      rw [show blen n - 2 - j + 1 = blen n - 1 - j by omega] at hsq
      have e400 : n / 2 ^ (blen n - 2 - j) ≤ 400 := Nat.le_trans (Nat.div_le_self _ _) h4
      rcases zz with _ | ⟨bw, lw, ws⟩
      · simp only [zv, zh, zok, List.cons_append, List.nil_append] at *
        refine G.skip (G.seq (G.block (G.seq (G.region (J.move rfl rfl (J.move rfl rfl (J.move rfl rfl ?_)))))))
        refine J.eff (E.callP (sqr_spec (z := none) (x := ⟨bz, lz, zs⟩) (sv := .pointer (some s)) trivial ⟨z1, z2, z3⟩ hz0 (by simp only; omega)) [] [0] rfl rfl rfl rfl rfl) rfl fun q1 hq1 => ?_
        try simp only [apC, apN]
        simp only [zn, hzn] at hq1
        obtain ⟨⟨br, lr, rs⟩, rfl, hr0⟩ := Res.some hq1 (by have := Nat.pow_pos (n := n / 2 ^ (blen n - 1 - j)) (show 0 < 5 by decide); exact Nat.ne_of_gt (Nat.mul_pos this this))
        simp only [zv, zh, List.cons_append, List.nil_append] at *
        refine J.assign rfl rfl (J.nil (G.prune [0, 1, 2, 3, 4, 5, 12, 13, 14, 15, 16, 17, 18, 19, 20, 21, 22, 23] rfl (G.seq (G.region (J.move rfl rfl (J.move rfl rfl (J.assign rfl rfl (J.assign rfl rfl ?_))))))))
        refine J.nil (G.prune [0, 1, 2, 3, 4, 5, 12, 13, 14, 15, 16, 17, 18, 19, 20, 21, 22, 23] rfl (G.seq (G.seq (G.region (J.move rfl rfl (J.andU rfl rfl rfl (by omega) (by omega) ?_))))))
        (first | refine J.neN rfl rfl rfl ?_ | refine J.neZ rfl rfl rfl ?_)
        refine J.nil ?_
        refine G.condP rfl (fun hb => ?_) (fun hb => ?_)
        · rw [if_pos (hbit.1 hb)] at hsq
          have hlr : lr ≤ 16 := by
            have h := hq1
            rw [← Nat.pow_add] at h
            exact pow5_len (k := 16) h (by omega) (by omega)
          refine G.seq (G.region (J.move rfl rfl (J.move rfl rfl (J.move rfl rfl (J.move rfl rfl ?_)))))
          refine J.eff (E.callP (natMul_spec (z := some ⟨bz, lz, zs⟩) (x := ⟨br, lr, rs⟩) (y := ⟨b2, 1, xs⟩) (sv := .pointer (some s)) ⟨z1, z2, z3⟩ hq1.ok hx.ok hr0 Nat.one_pos (by simp only; omega) (by simp only; omega)) [1] [0, 1] rfl rfl rfl rfl rfl) rfl fun q2 hq2 => ?_
          try simp only [apC, apN]
          simp only [hq1.n, hx.n, hsq] at hq2
          obtain ⟨⟨bt, lt, ts⟩, rfl, ht0⟩ := Res.some hq2 (Nat.ne_of_gt (Nat.pow_pos (by decide)))
          simp only [zv, zh, List.cons_append, List.nil_append] at *
          refine J.assign rfl rfl (J.nil (G.prune [0, 1, 2, 3, 4, 5, 12, 13, 14, 15, 16, 17, 18, 19, 20, 21, 22, 23] rfl (G.region (J.move rfl rfl (J.move rfl rfl (J.assign rfl rfl (J.assign rfl rfl (J.nil ?_))))))))
          refine G.prune [0, 1, 2, 3, 4, 5, 12, 13, 14, 15, 16, 17, 18, 19, 20, 21, 22, 23] rfl (G.seq (G.seq (G.region (J.move rfl rfl (J.lenS rfl rfl ?_)))))
          (first | refine J.neN rfl rfl rfl ?_ | refine J.neZ rfl rfl rfl ?_)
          refine J.nil (G.cF rfl (G.skip (G.region (J.move rfl rfl (J.shlU rfl rfl rfl (J.assign rfl rfl (J.nil (G.inBlock ?_))))))))
          refine G.region (J.move rfl rfl ?_)
          (first | refine J.addI rfl rfl rfl (by omega) ?_ | refine J.addZ rfl rfl rfl (by omega) (by omega) ?_)
          refine J.assign rfl rfl (J.nil ?_)
          rw [shl1_law]
          exact G.wk [0, 1, 2, 3] (ih ⟨(j + 1, ⟨bt, lt, ts⟩, some ⟨br, lr, rs⟩), by simp only; omega, ⟨by rw [show blen n - 1 - (j + 1) = blen n - 2 - j by omega]; exact hq2, ht0⟩, hq1.ok⟩ (by simp only; omega))
        · refine G.skip ?_
          refine G.seq (G.seq (G.region (J.move rfl rfl (J.lenS rfl rfl ?_))))
          (first | refine J.neN rfl rfl rfl ?_ | refine J.neZ rfl rfl rfl ?_)
          refine J.nil ?_
          rw [if_neg (fun h => hb (hbit.2 h)), Nat.mul_one] at hsq
          rw [hsq] at hq1
          refine G.cF rfl (G.skip (G.region (J.move rfl rfl (J.shlU rfl rfl rfl (J.assign rfl rfl (J.nil (G.inBlock (G.region ?_))))))))
          refine J.move rfl rfl ?_
          (first | refine J.addI rfl rfl rfl (by omega) ?_ | refine J.addZ rfl rfl rfl (by omega) (by omega) ?_)
          refine J.assign rfl rfl (J.nil ?_)
          rw [shl1_law]
          exact G.wk [0, 1, 2, 3] (ih ⟨(j + 1, ⟨br, lr, rs⟩, some ⟨bz, lz, zs⟩), by simp only; omega, ⟨by rw [show blen n - 1 - (j + 1) = blen n - 2 - j by omega]; exact hq1, hr0⟩, ⟨z1, z2, z3⟩⟩ (by simp only; omega))
      · simp only [zv, zh, zok, List.cons_append, List.nil_append] at *
        refine G.skip (G.seq (G.block (G.seq (G.region (J.move rfl rfl (J.move rfl rfl (J.move rfl rfl ?_)))))))
        refine J.eff (E.callP (sqr_spec (z := some ⟨bw, lw, ws⟩) (x := ⟨bz, lz, zs⟩) (sv := .pointer (some s)) hzz ⟨z1, z2, z3⟩ hz0 (by simp only; omega)) [1] [0] rfl rfl rfl rfl rfl) rfl fun q1 hq1 => ?_
        try simp only [apC, apN]
        simp only [zn, hzn] at hq1
        obtain ⟨⟨br, lr, rs⟩, rfl, hr0⟩ := Res.some hq1 (by have := Nat.pow_pos (n := n / 2 ^ (blen n - 1 - j)) (show 0 < 5 by decide); exact Nat.ne_of_gt (Nat.mul_pos this this))
        simp only [zv, zh, List.cons_append, List.nil_append] at *
        refine J.assign rfl rfl (J.nil (G.prune [0, 1, 2, 3, 4, 5, 12, 13, 14, 15, 16, 17, 18, 19, 20, 21, 22, 23] rfl (G.seq (G.region (J.move rfl rfl (J.move rfl rfl (J.assign rfl rfl (J.assign rfl rfl ?_))))))))
        refine J.nil (G.prune [0, 1, 2, 3, 4, 5, 12, 13, 14, 15, 16, 17, 18, 19, 20, 21, 22, 23] rfl (G.seq (G.seq (G.region (J.move rfl rfl (J.andU rfl rfl rfl (by omega) (by omega) ?_))))))
        (first | refine J.neN rfl rfl rfl ?_ | refine J.neZ rfl rfl rfl ?_)
        refine J.nil ?_
        refine G.condP rfl (fun hb => ?_) (fun hb => ?_)
        · rw [if_pos (hbit.1 hb)] at hsq
          have hlr : lr ≤ 16 := by
            have h := hq1
            rw [← Nat.pow_add] at h
            exact pow5_len (k := 16) h (by omega) (by omega)
          refine G.seq (G.region (J.move rfl rfl (J.move rfl rfl (J.move rfl rfl (J.move rfl rfl ?_)))))
          refine J.eff (E.callP (natMul_spec (z := some ⟨bz, lz, zs⟩) (x := ⟨br, lr, rs⟩) (y := ⟨b2, 1, xs⟩) (sv := .pointer (some s)) ⟨z1, z2, z3⟩ hq1.ok hx.ok hr0 Nat.one_pos (by simp only; omega) (by simp only; omega)) [1] [0, 1] rfl rfl rfl rfl rfl) rfl fun q2 hq2 => ?_
          try simp only [apC, apN]
          simp only [hq1.n, hx.n, hsq] at hq2
          obtain ⟨⟨bt, lt, ts⟩, rfl, ht0⟩ := Res.some hq2 (Nat.ne_of_gt (Nat.pow_pos (by decide)))
          simp only [zv, zh, List.cons_append, List.nil_append] at *
          refine J.assign rfl rfl (J.nil (G.prune [0, 1, 2, 3, 4, 5, 12, 13, 14, 15, 16, 17, 18, 19, 20, 21, 22, 23] rfl (G.region (J.move rfl rfl (J.move rfl rfl (J.assign rfl rfl (J.assign rfl rfl (J.nil ?_))))))))
          refine G.prune [0, 1, 2, 3, 4, 5, 12, 13, 14, 15, 16, 17, 18, 19, 20, 21, 22, 23] rfl (G.seq (G.seq (G.region (J.move rfl rfl (J.lenS rfl rfl ?_)))))
          (first | refine J.neN rfl rfl rfl ?_ | refine J.neZ rfl rfl rfl ?_)
          refine J.nil (G.cF rfl (G.skip (G.region (J.move rfl rfl (J.shlU rfl rfl rfl (J.assign rfl rfl (J.nil (G.inBlock ?_))))))))
          refine G.region (J.move rfl rfl ?_)
          (first | refine J.addI rfl rfl rfl (by omega) ?_ | refine J.addZ rfl rfl rfl (by omega) (by omega) ?_)
          refine J.assign rfl rfl (J.nil ?_)
          rw [shl1_law]
          exact G.wk [0, 1, 2, 3] (ih ⟨(j + 1, ⟨bt, lt, ts⟩, some ⟨br, lr, rs⟩), by simp only; omega, ⟨by rw [show blen n - 1 - (j + 1) = blen n - 2 - j by omega]; exact hq2, ht0⟩, hq1.ok⟩ (by simp only; omega))
        · refine G.skip ?_
          refine G.seq (G.seq (G.region (J.move rfl rfl (J.lenS rfl rfl ?_))))
          (first | refine J.neN rfl rfl rfl ?_ | refine J.neZ rfl rfl rfl ?_)
          refine J.nil ?_
          rw [if_neg (fun h => hb (hbit.2 h)), Nat.mul_one] at hsq
          rw [hsq] at hq1
          refine G.cF rfl (G.skip (G.region (J.move rfl rfl (J.shlU rfl rfl rfl (J.assign rfl rfl (J.nil (G.inBlock (G.region ?_))))))))
          refine J.move rfl rfl ?_
          (first | refine J.addI rfl rfl rfl (by omega) ?_ | refine J.addZ rfl rfl rfl (by omega) (by omega) ?_)
          refine J.assign rfl rfl (J.nil ?_)
          rw [shl1_law]
          exact G.wk [0, 1, 2, 3] (ih ⟨(j + 1, ⟨br, lr, rs⟩, some ⟨bz, lz, zs⟩), by simp only; omega, ⟨by rw [show blen n - 1 - (j + 1) = blen n - 2 - j by omega]; exact hq1, hr0⟩, ⟨z1, z2, z3⟩⟩ (by simp only; omega))
    · skip
      obtain rfl : j = blen n - 1 := by omega
      rw [Nat.sub_self] at hex hzn
      rw [Nat.pow_zero, Nat.div_one] at hzn
      rcases zz with _ | ⟨bw, lw, ws⟩
      all_goals simp only [zv, zh, List.cons_append, List.nil_append] at *
      · skip
        refine G.exit rfl (G.seq (G.seq (G.region (J.move rfl rfl (J.lenS rfl rfl ?_)))))
        (first | refine J.subI rfl rfl rfl (by omega) (by omega) ?_ | refine J.subZ rfl rfl rfl (by omega) (by omega) ?_)
        refine J.assign rfl rfl (J.nil (G.prune [0, 1, 2, 3, 4, 5, 12, 13, 14, 15, 16, 17, 18, 19, 20, 21, 22, 23] rfl (G.block (G.loop1 (G.seq (G.seq (G.region (J.move rfl rfl ?_))))))))
        (first | refine J.geN rfl rfl rfl ?_ | refine J.geZ rfl rfl rfl ?_)
        refine J.nil (G.cF rfl (G.exit rfl (G.seq (G.region (J.move rfl rfl (J.eff (E.callP (norm_spec (o := 0) (xs := zs) (by omega) z1 (by omega)) [] [0] rfl rfl rfl rfl rfl) rfl fun _ _ => ?_))))))
        try simp only [apC, apN]
        refine J.assign rfl rfl (J.nil (G.ret (hR _) ?_))
        exact GL.done (some ⟨bz, nl zs 0 lz, zs⟩) rfl rfl (Res.norm z1 z2 z3 hzn) rfl [0] rfl (by decide) (by simp [zh])
      · skip
        refine G.exit rfl (G.seq (G.seq (G.region (J.move rfl rfl (J.lenS rfl rfl ?_)))))
        (first | refine J.subI rfl rfl rfl (by omega) (by omega) ?_ | refine J.subZ rfl rfl rfl (by omega) (by omega) ?_)
        refine J.assign rfl rfl (J.nil (G.prune [0, 1, 2, 3, 4, 5, 12, 13, 14, 15, 16, 17, 18, 19, 20, 21, 22, 23] rfl (G.block (G.loop1 (G.seq (G.seq (G.region (J.move rfl rfl ?_))))))))
        (first | refine J.geN rfl rfl rfl ?_ | refine J.geZ rfl rfl rfl ?_)
        refine J.nil (G.cF rfl (G.exit rfl (G.seq (G.region (J.move rfl rfl (J.eff (E.callP (norm_spec (o := 0) (xs := zs) (by omega) z1 (by omega)) [] [0] rfl rfl rfl rfl rfl) rfl fun _ _ => ?_))))))
        try simp only [apC, apN]
        refine J.assign rfl rfl (J.nil (G.ret (hR _) ?_))
        exact GL.done (some ⟨bz, nl zs 0 lz, zs⟩) rfl rfl (Res.norm z1 z2 z3 hzn) rfl [0] rfl (by decide) (by simp [zh])
end
section
set_option maxRecDepth 100000
set_option pp.deepTerms false
variable {V : Addr}
theorem method_read (a : Option Addr) (w : World) : (method ((cx V).P.types.size + Made.depth) 127 (.pointer a) "ReadByte").run (cx V).P w = .ok (103, .pointer a) w := by rfl
theorem method_unread (a : Option Addr) (w : World) : (method ((cx V).P.types.size + Made.depth) 127 (.pointer a) "UnreadByte").run (cx V).P w = .ok (340, .pointer a) w := by rfl
def rd (b : Nat) (s : ByteArray) (i : Nat) : Hp := [⟨b, 184, [.string s, .int .i64 (i : Nat), .int .i64 (-1)], true⟩]
theorem built184 {s : ByteArray} {i j : Int} : (cx V).P.built 184 [(0, .string s), (1, .int .i64 i), (2, .int .i64 j)] = some [.string s, .int .i64 i, .int .i64 j].toArray := by kernel_rfl
theorem newReader_spec {s : ByteArray} : Spec (cx V) 60 #[.string s] [] [] (fun g : Nat => .pointer (some ⟨g, 0, none⟩)) (fun g => rd g s 0) (fun _ => True) := by
  refine Spec.enter Tryz.func60 rfl Tryz.ntmps60 (by simp) [(0, .string s)] (by simp) ?_
  intro X hR
  try simp only [apC, apN]
  refine G.seq (G.region (J.assign rfl rfl (J.nil (G.seq (G.region (J.move rfl rfl (J.build rfl rfl built184 (J.eff (E.box rfl rfl) rfl fun g5 => ?_))))))))
  refine J.assign rfl rfl (J.nil (G.prune [2] rfl (G.ret (hR _) ?_)))
  exact GL.done (τ := Nat) g5 rfl rfl trivial rfl [0] rfl (by decide) (by simp [rd])
theorem readByte_spec {b i : Nat} {s : ByteArray} {c : UInt8} (h : s[i]? = some c) (hs : s.size < 9223372036854775807) :
    Spec (cx V) 103 #[.pointer (some ⟨b, 0, none⟩)] (rd b s i) [] (fun _ : Unit => .tuple #[.int .u8 (c.toNat : Nat), .nilIface]) (fun _ => rd b s (i + 1)) (fun _ => True) := by
  have hi : i < s.size := by
    rcases Nat.lt_or_ge i s.size with h1 | h1
    · exact h1
    · rw [getElem?_neg s i (by omega)] at h; cases h
  simp only [rd]
  refine Spec.enter Tryz.func103 rfl Tryz.ntmps103 (by simp) [(0, .pointer (some ⟨b, 0, none⟩))] (by simp) ?_
  intro X hR
  try simp only [apC, apN]
  refine G.seq (G.region (J.assign rfl rfl (J.assign rfl rfl (J.nil (G.seq (G.region (J.move rfl rfl (J.nc rfl rfl rfl ?_))))))))
  refine J.fieldAddr rfl rfl (J.eff (E.si rfl rfl rfl rfl) rfl (J.nil (G.prune [0, 2, 3] rfl (G.seq (G.seq (G.regionS [0, 1, 2, 3, 4, 5, 6, 7, 8, 9] none none [⟨b, 184, [.string s, .int .i64 (i : Nat), .int .i64 (-1)], true⟩] (by kernel_rfl) (SubH.of [0] rfl) rfl (J.move rfl rfl (J.nc rfl rfl rfl ?_))))))))
  refine J.fieldAddr rfl rfl (J.ld rfl rfl rfl rfl rfl (J.move rfl rfl (J.nc rfl rfl rfl (J.fieldAddr rfl rfl (J.ld rfl rfl rfl rfl rfl (J.lenT rfl rfl ?_))))))
  (first | refine J.geN rfl rfl rfl ?_ | refine J.geZ rfl rfl rfl ?_)
  refine J.nil (G.prune [0, 2, 3, 17] rfl (G.cF rfl (G.skip (G.seq (G.regionS [0, 1, 2, 3, 4, 5, 6, 7, 8, 9] none none [⟨b, 184, [.string s, .int .i64 (i : Nat), .int .i64 (-1)], true⟩] (by kernel_rfl) (SubH.of [0] rfl) rfl (J.move rfl rfl (J.nc rfl rfl rfl (J.fieldAddr rfl rfl ?_))))))))
  refine J.ld rfl rfl rfl rfl rfl (J.move rfl rfl (J.nc rfl rfl rfl (J.fieldAddr rfl rfl (J.ld rfl rfl rfl rfl rfl (J.strAt rfl rfl rfl h (J.assign rfl rfl (J.nil (G.prune [0, 2, 3, 4] rfl ?_))))))))
  refine G.seq (G.region (J.move rfl rfl (J.nc rfl rfl rfl (J.fieldAddr rfl rfl (J.loadI rfl rfl rfl rfl ?_)))))
  (first | refine J.addI rfl rfl rfl (by omega) ?_ | refine J.addZ rfl rfl rfl (by omega) (by omega) ?_)
  refine J.nc rfl rfl rfl (J.fieldAddr rfl rfl (J.eff (E.si rfl rfl rfl rfl) rfl (J.nil (G.prune [2, 3, 4] rfl (G.seq (G.region (J.move rfl rfl (J.assign rfl rfl ?_))))))))
  refine J.assign rfl rfl (J.nil (G.ret (hR _) ?_))
  exact GL.done (()) rfl rfl (trivial) rfl [0] rfl (by decide) (by simp [rd])
theorem readByte_end {b : Nat} {s : ByteArray} (hs : s.size < 9223372036854775807) :
    Spec (cx V) 103 #[.pointer (some ⟨b, 0, none⟩)] (rd b s s.size) [] (fun _ : Unit => .tuple #[.int .u8 ((0 : Nat) : Int), .iface 275 (.pointer (some V))]) (fun _ => rd b s s.size) (fun _ => True) := by
  simp only [rd]
  refine Spec.enter Tryz.func103 rfl Tryz.ntmps103 (by simp) [(0, .pointer (some ⟨b, 0, none⟩))] (by simp) ?_
  intro X hR
  try simp only [apC, apN]
  refine G.seq (G.region (J.assign rfl rfl (J.assign rfl rfl (J.nil (G.seq (G.region (J.move rfl rfl (J.nc rfl rfl rfl ?_))))))))
  refine J.fieldAddr rfl rfl (J.eff (E.si rfl rfl rfl rfl) rfl (J.nil (G.prune [0, 2, 3] rfl (G.seq (G.seq (G.regionS [0, 1, 2, 3, 4, 5, 6, 7, 8, 9] none none [⟨b, 184, [.string s, .int .i64 (s.size : Nat), .int .i64 (-1)], true⟩] (by kernel_rfl) (SubH.of [0] rfl) rfl (J.move rfl rfl (J.nc rfl rfl rfl ?_))))))))
  refine J.fieldAddr rfl rfl (J.ld rfl rfl rfl rfl rfl (J.move rfl rfl (J.nc rfl rfl rfl (J.fieldAddr rfl rfl (J.ld rfl rfl rfl rfl rfl (J.lenT rfl rfl ?_))))))
  (first | refine J.geN rfl rfl rfl ?_ | refine J.geZ rfl rfl rfl ?_)
  refine J.nil (G.prune [0, 2, 3, 17] rfl (G.cT rfl (G.seq (G.regionS [0, 1, 2] none none [] (by kernel_rfl) (SubH.of [] rfl) rfl (J.loadGi 0 rfl rfl rfl rfl (J.assign rfl rfl (J.assign rfl rfl (J.nil ?_))))))))
  refine G.ret (hR _) ?_
  exact GL.done (()) rfl rfl (trivial) rfl [0] rfl (by decide) (by simp [rd])
theorem unread_spec {b i : Nat} {s : ByteArray} (hi : i + 1 < 9223372036854775808) :
    Spec (cx V) 340 #[.pointer (some ⟨b, 0, none⟩)] (rd b s (i + 1)) [] (fun _ : Unit => .nilIface) (fun _ => rd b s i) (fun _ => True) := by
  simp only [rd]
  refine Spec.enter Tryz.func340 rfl Tryz.ntmps340 (by simp) [(0, .pointer (some ⟨b, 0, none⟩))] (by simp) ?_
  intro X hR
  try simp only [apC, apN]
  refine G.seq (G.region (J.assign rfl rfl (J.nil (G.seq (G.seq (G.region (J.move rfl rfl (J.nc rfl rfl rfl ?_))))))))
  refine J.fieldAddr rfl rfl (J.loadI rfl rfl rfl rfl ?_)
  (first | refine J.leN rfl rfl rfl ?_ | refine J.leZ rfl rfl rfl ?_)
  refine J.nil (G.prune [0, 2, 7] rfl (G.cF rfl (G.skip (G.seq (G.region (J.move rfl rfl (J.nc rfl rfl rfl (J.fieldAddr rfl rfl ?_))))))))
  refine J.eff (E.si rfl rfl rfl rfl) rfl (J.nil (G.prune [0, 2] rfl (G.seq (G.region (J.move rfl rfl (J.nc rfl rfl rfl (J.fieldAddr rfl rfl (J.loadI rfl rfl rfl rfl ?_))))))))
  (first | refine J.subI rfl rfl rfl (by omega) (by omega) ?_ | refine J.subZ rfl rfl rfl (by omega) (by omega) ?_)
  refine J.nc rfl rfl rfl (J.fieldAddr rfl rfl (J.eff (E.si rfl rfl rfl rfl) rfl (J.nil (G.prune [2] rfl (G.seq (G.region (J.assign rfl rfl (J.nil ?_))))))))
  refine G.ret (hR _) ?_
  exact GL.done (()) rfl rfl (trivial) rfl [0] rfl (by decide) (by simp [rd])
theorem scanSign_spec {b : Nat} {s : ByteArray} {c : UInt8} (h : s[0]? = some c) (hs : s.size < 9223372036854775807) (h1 : c.toNat ≠ 45) (h2 : c.toNat ≠ 43) :
    Spec (cx V) 104 #[.iface 127 (.pointer (some ⟨b, 0, none⟩))] (rd b s 0) [] (fun _ : Unit => .tuple #[.bool false, .nilIface]) (fun _ => rd b s 0) (fun _ => True) := by
  refine Spec.enter Tryz.func104 rfl Tryz.ntmps104 (by simp) [(0, .iface 127 (.pointer (some ⟨b, 0, none⟩)))] (by simp) ?_
  intro X hR
  try simp only [apC, apN]
  simp only [rd, List.append_nil, List.cons_append, List.nil_append]
  refine G.seq (G.region (J.assign rfl rfl (J.assign rfl rfl (J.nil (G.seq (G.region (J.assign rfl rfl (J.nil ?_))))))))
  refine G.seq (G.seq (G.region (J.move rfl rfl (J.eff (E.inv0 (readByte_spec h hs) [0] [] (method_read _) rfl rfl rfl rfl rfl) rfl fun _ _ => ?_))))
  try simp only [apC, apN]
  refine J.move rfl rfl (J.extractL rfl rfl rfl (J.extractL rfl rfl rfl (J.assign rfl rfl (J.assign rfl rfl (J.nil (G.prune [0, 2, 3, 4] rfl (G.seq (G.region ?_))))))))
  refine J.move rfl rfl ?_
  (first | refine J.nilNilN rfl rfl ?_ | refine J.ifNilN rfl rfl ?_)
  refine J.nil (G.cF rfl (G.skip (G.seq (G.seq (G.region (J.move rfl rfl (J.nil (G.block ?_))))))))
  refine G.seq (G.region ?_)
  (first | refine J.eqN rfl rfl rfl ?_ | refine J.eqZ rfl rfl rfl ?_)
  refine J.assign rfl rfl (J.nil (G.cF rfl (G.seq (G.region ?_))))
  (first | refine J.eqN rfl rfl rfl ?_ | refine J.eqZ rfl rfl rfl ?_)
  refine J.assign rfl rfl (J.nil (G.cF rfl (G.region (J.move rfl rfl (J.eff (E.inv0 (unread_spec (i := 0) (s := s) (by decide)) [0] [] (method_unread _) rfl rfl rfl rfl rfl) rfl fun _ _ => ?_)))))
  try simp only [apC, apN]
  refine J.nil (G.inBlock (G.ret (hR _) ?_))
  exact GL.done (()) rfl rfl (trivial) rfl [0] rfl (by decide) (by simp [rd])
end
end Go.Proofs.YtfbbkngonohlkaaGreatDoor
