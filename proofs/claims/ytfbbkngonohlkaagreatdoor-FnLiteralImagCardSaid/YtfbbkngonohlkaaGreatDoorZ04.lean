/- The way to the laws, part 4 of 6 (the engine of the walks; contracts of the functions that the laws reach), joined by a program of ours out of: F5 F6 K1 K2 F7 F8 F9 F10 F11 -/
import Derived.Test.YtfbbkngonohlkaaGreatDoorZ03
namespace Go.Proofs.YtfbbkngonohlkaaGreatDoor
open Go
set_option linter.unusedVariables false
set_option linter.unusedSimpArgs false
set_option exponentiation.threshold 20000
section
set_option maxRecDepth 100000
set_option pp.deepTerms false
variable {V : Addr}
theorem MN.zok {m : RS} (h : MN m) : zok (some m) := h.ok
theorem mulTop {a b : RS} {bq lq : Nat} {xq : List Nat} (h : MN a) (h' : MN b) (hq : Res (some ⟨bq, lq, xq⟩) (zn (some a) * zn (some b))) :
    0 < lq ∧ 64 - blen (xq.getD (lq - 1) 0) ≤ 1 ∧ lq ≤ a.len + b.len := by
  obtain ⟨ba, la, xa⟩ := a
  obtain ⟨bb, lb, xb⟩ := b
  obtain ⟨p1, p2, p3⟩ := h.ok
  obtain ⟨q1, q2, q3⟩ := h'.ok
  have t1 := h.top
  have t2 := h'.top
  have l1 := h.l0
  have l2 := h'.l0
  simp only [zn] at *
  have u1 := rv_lt p3 0 la
  have u2 := rv_lt q3 0 lb
  have hu : rv xa 0 la * rv xb 0 lb < 18446744073709551616 ^ (la + lb) := by rw [Nat.pow_add]; exact Nat.mul_lt_mul'' u1 u2
  have hlen := hq.len_le hu
  simp only [zlen] at hlen
  obtain ⟨m, rfl⟩ : ∃ m, la = m + 1 := ⟨la - 1, by omega⟩
  obtain ⟨n, rfl⟩ : ∃ n, lb = n + 1 := ⟨lb - 1, by omega⟩
  simp only [Nat.add_sub_cancel] at t1 t2
  have hlo := Nat.mul_le_mul t1 t2
  rw [show 9223372036854775808 * 18446744073709551616 ^ m * (9223372036854775808 * 18446744073709551616 ^ n) = 4611686018427387904 * 18446744073709551616 ^ (m + n + 1) by
    rw [Nat.pow_succ, Nat.pow_add, Nat.mul_mul_mul_comm, Nat.mul_comm (18446744073709551616 ^ m * _) 18446744073709551616, ← Nat.mul_assoc 4611686018427387904]] at hlo
  rw [← hq.n] at hlo
  simp only [zn] at hlo
  obtain ⟨r1, r2, r3⟩ := hq.ok
  simp only at r1 r2 r3
  have h0 : 0 < lq := by
    rcases Nat.eq_zero_or_pos lq with e | e
    · subst e
      have : 0 < 18446744073709551616 ^ (m + n + 1) := Nat.pow_pos (by decide)
      simp only [rv] at hlo
      omega
    · exact e
  obtain ⟨k, rfl⟩ : ∃ k, lq = k + 1 := ⟨lq - 1, by omega⟩
  have hk : k = m + n + 1 := by
    rcases Nat.lt_or_ge k (m + n + 1) with e | e
    · exfalso
      have e1 := rv_lt r3 0 (k + 1)
      have e2 : 18446744073709551616 ^ (k + 1) ≤ 18446744073709551616 ^ (m + n + 1) := Nat.pow_le_pow_right (by decide) (by omega)
      omega
    · omega
  subst hk
  refine ⟨by omega, ?_, by omega⟩
  simp only [Nat.add_sub_cancel]
  rw [rv_succ, Nat.zero_add] at hlo
  have e1 := rv_lt r3 0 (m + n + 1)
  have hx : 4611686018427387904 ≤ xq.getD (m + n + 1) 0 := by
    rcases Nat.lt_or_ge (xq.getD (m + n + 1) 0) 4611686018427387904 with e | e
    · exfalso
      have := Nat.mul_le_mul_right (18446744073709551616 ^ (m + n + 1)) (Nat.succ_le_of_lt e)
      rw [Nat.succ_mul] at this
      omega
    · exact e
  have hb := blen_le (x := xq.getD (m + n + 1) 0)
  rcases Nat.lt_or_ge (blen (xq.getD (m + n + 1) 0)) 63 with e | e
  · exfalso
    have : 2 ^ blen (xq.getD (m + n + 1) 0) ≤ 2 ^ 62 := Nat.pow_le_pow_right (by decide) (by omega)
    have e62 : 2 ^ 62 = 4611686018427387904 := by decide
    omega
  · omega
theorem umul_spec {zb fb nz nf : Nat} {t u : FV} (ht : MN t.m) (hu : MN u.m) (hl : t.m.len ≤ 20) (hl2 : u.m.len ≤ 20) (hp : 2 ≤ nz) (hp2 : nz ≤ 100) (he : -10000 ≤ t.e ∧ t.e ≤ 10000) (he2 : -10000 ≤ u.e ∧ u.e ≤ 10000) :
    Spec (cx V) 237 #[.pointer (some ⟨zb, 0, none⟩), .pointer (some ⟨zb, 0, none⟩), .pointer (some ⟨fb, 0, none⟩)] (fh zb (64 * nz) t) [⟨fb, 166, fc (64 * nf) u, false⟩, ⟨u.m.b, 162, cells .u64 u.m.xs, false⟩] (fun _ : FV => .tuple #[]) (fh zb (64 * nz))
      (fun q => MN q.m ∧ q.m.len ≤ nz ∧ t.e + u.e - 1 ≤ q.e ∧ q.e ≤ t.e + u.e + 1) := by
  obtain ⟨a0, e, ⟨mb, l, xs⟩⟩ := t
  obtain ⟨a1, e1, ⟨mb1, l1, ys⟩⟩ := u
  simp only [fh, fc] at *
  refine Spec.enter Tryz.func237 rfl Tryz.ntmps237 (by simp) [(0, .pointer (some ⟨zb, 0, none⟩)), (1, .pointer (some ⟨zb, 0, none⟩)), (2, .pointer (some ⟨fb, 0, none⟩))] (by simp) ?_
  intro X hR
  try simp only [apC, apN]
  refine G.sep 0 2 rfl rfl (by decide) (.inl rfl) fun hne => ?_
  simp only at hne
  refine G.seq (G.regionS [0, 1, 2, 3, 4, 5, 6, 7, 8, 9, 10, 11] none none [⟨zb, 166, [.int .u32 ((64 * nz : Nat) : Int), .int .u8 0, .int .i8 a0, .int .u8 1, .bool false, .slice (some ⟨mb, 0, none⟩) l xs.length, .int .i32 e], true⟩, ⟨fb, 166, [.int .u32 ((64 * nf : Nat) : Int), .int .u8 0, .int .i8 a1, .int .u8 1, .bool false, .slice (some ⟨mb1, 0, none⟩) l1 ys.length, .int .i32 e1], false⟩] (by kernel_rfl) (SubH.of [0, 2] rfl) rfl (J.move rfl rfl (J.nc rfl rfl rfl (J.fieldAddr rfl rfl (J.ld rfl rfl rfl rfl rfl (J.conv64 rfl rfl (by omega) (by omega) (J.move rfl rfl (J.nc rfl rfl rfl ?_))))))))
  refine J.fieldAddr rfl rfl (J.ld rfl rfl rfl rfl rfl (J.conv64 rfl rfl (by omega) (by omega) ?_))
  (first | refine J.addI rfl rfl rfl (by omega) ?_ | refine J.addZ rfl rfl rfl (by omega) (by omega) ?_)
  refine J.assign rfl rfl (J.nil (G.prune [0, 1, 2, 6] rfl (G.seq (G.seq (G.region (J.move rfl rfl (J.move rfl rfl (J.ptrOther rfl rfl rfl hne (by first | exact Mem.h | exact M1 | exact M2 | exact M3 | exact M4 | exact M5 | exact M6 | exact M7 | exact M8 | exact M9) (by first | exact Mem.h | exact M1 | exact M2 | exact M3 | exact M4 | exact M5 | exact M6 | exact M7 | exact M8 | exact M9) ?_))))))))
  refine J.nil (G.cF rfl (G.regionS [0, 1, 2, 3, 4, 5, 6, 7, 8, 9, 10, 11, 12, 13, 14, 15, 16] (some 16) (some 0) [⟨zb, 166, [.int .u32 ((64 * nz : Nat) : Int), .int .u8 0, .int .i8 a0, .int .u8 1, .bool false, .slice (some ⟨mb, 0, none⟩) l xs.length, .int .i32 e], true⟩, ⟨fb, 166, [.int .u32 ((64 * nf : Nat) : Int), .int .u8 0, .int .i8 a1, .int .u8 1, .bool false, .slice (some ⟨mb1, 0, none⟩) l1 ys.length, .int .i32 e1], false⟩] (by kernel_rfl) (SubH.of [0, 2] rfl) rfl (J.move rfl rfl (J.move rfl rfl (J.nc rfl rfl rfl (J.fieldAddr rfl rfl (J.ld rfl rfl rfl rfl rfl (J.move rfl rfl ?_))))))))
  refine J.nc rfl rfl rfl (J.fieldAddr rfl rfl (J.ld rfl rfl rfl rfl rfl (J.move rfl rfl (J.nc rfl rfl rfl (J.fieldAddr rfl rfl (J.ld rfl rfl rfl rfl rfl ?_))))))
  refine J.effH (E.callP (natMul_same (sv := .pointer none) (x := ⟨mb, l, xs⟩) (y := ⟨mb1, l1, ys⟩) ht.zok hu.zok ht.l0 hu.l0 (by simp only; omega) (by simp only; omega)) [1] [2] rfl rfl rfl rfl rfl) rfl rfl fun q hq => ⟨fun _ => SubH.app (SubH.of [0, 1] rfl), ?_⟩
  try simp only [apC, apN]
  have hv0 : zn (some ⟨mb, l, xs⟩) * zn (some ⟨mb1, l1, ys⟩) ≠ 0 := Nat.ne_of_gt (Nat.mul_pos (Nat.lt_of_lt_of_le (Nat.mul_pos (by decide) (Nat.pow_pos (by decide))) ht.top) (Nat.lt_of_lt_of_le (Nat.mul_pos (by decide) (Nat.pow_pos (by decide))) hu.top))
  obtain ⟨⟨bq, lq, xq⟩, rfl, hq0⟩ := Res.some hq hv0
  obtain ⟨k1, k2, k3⟩ := mulTop ht hu hq
  simp only at k3
  simp only [zh, zv, List.cons_append, List.nil_append]
  refine J.nc rfl rfl rfl (J.fieldAddr rfl rfl ?_)
  refine J.effH (E.si rfl rfl rfl rfl) rfl rfl ⟨fun h => Bool.noConfusion h, ?_⟩
  refine J.nil (G.prune [0, 6] rfl (G.region (J.move rfl rfl (J.move rfl rfl (J.move rfl rfl (J.nc rfl rfl rfl (J.fieldAddr rfl rfl (J.loadI rfl rfl rfl rfl ?_))))))))
  refine J.eff (E.callP (fnorm_spec hq k1 (by omega)) [0] [] rfl rfl rfl rfl rfl) rfl fun p hp3 => ?_
  try simp only [apC, apN]
  obtain ⟨s, zs⟩ := p
  obtain ⟨hs, hmn, hlen⟩ := hp3
  simp only at hs hmn hlen ⊢
  rw [← hs] at k2
  rw [← hlen]
  (first | refine J.subI rfl rfl rfl (by omega) (by omega) ?_ | refine J.subZ rfl rfl rfl (by omega) (by omega) ?_)
  refine J.eff (E.callP (setExp_spec (fb := zb) (np := nz) (t := ⟨a0, e, ⟨bq, lq, zs⟩⟩) hmn (by simp only; omega) hp hp2 (by omega) (by omega) (by decide)) [1, 0] [] rfl rfl rfl rfl rfl) rfl fun q hq => ?_
  try simp only [apC, apN]
  refine J.nil (G.prune [] rfl (G.fall (hR _) ?_))
  exact GL.done (q : FV) rfl rfl ⟨hq.1, hq.2.1, by have := hq.2.2; omega, by have := hq.2.2; omega⟩ rfl [0, 1] rfl (by decide) (by simp [fh])
theorem umulS_spec {zb nz : Nat} {t : FV} (ht : MN t.m) (hl : t.m.len ≤ 11) (hp : 2 ≤ nz) (hp2 : nz ≤ 100) (he : -10000 ≤ t.e ∧ t.e ≤ 10000) :
    Spec (cx V) 237 #[.pointer (some ⟨zb, 0, none⟩), .pointer (some ⟨zb, 0, none⟩), .pointer (some ⟨zb, 0, none⟩)] (fh zb (64 * nz) t) [] (fun _ : FV => .tuple #[]) (fh zb (64 * nz))
      (fun q => MN q.m ∧ q.m.len ≤ nz ∧ t.e + t.e - 1 ≤ q.e ∧ q.e ≤ t.e + t.e + 1) := by
  obtain ⟨a0, e, ⟨mb, l, xs⟩⟩ := t
  simp only [fh, fc] at *
  refine Spec.enter Tryz.func237 rfl Tryz.ntmps237 (by simp) [(0, .pointer (some ⟨zb, 0, none⟩)), (1, .pointer (some ⟨zb, 0, none⟩)), (2, .pointer (some ⟨zb, 0, none⟩))] (by simp) ?_
  intro X hR
  try simp only [apC, apN]
  refine G.seq (G.regionS [0, 1, 2, 3, 4, 5, 6, 7, 8, 9, 10, 11] none none [⟨zb, 166, [.int .u32 ((64 * nz : Nat) : Int), .int .u8 0, .int .i8 a0, .int .u8 1, .bool false, .slice (some ⟨mb, 0, none⟩) l xs.length, .int .i32 e], true⟩] (by kernel_rfl) (SubH.of [0] rfl) rfl (J.move rfl rfl (J.nc rfl rfl rfl (J.fieldAddr rfl rfl (J.ld rfl rfl rfl rfl rfl (J.conv64 rfl rfl (by omega) (by omega) (J.move rfl rfl (J.nc rfl rfl rfl ?_))))))))
  refine J.fieldAddr rfl rfl (J.ld rfl rfl rfl rfl rfl (J.conv64 rfl rfl (by omega) (by omega) ?_))
  (first | refine J.addI rfl rfl rfl (by omega) ?_ | refine J.addZ rfl rfl rfl (by omega) (by omega) ?_)
  refine J.assign rfl rfl (J.nil (G.prune [0, 1, 2, 6] rfl (G.seq (G.seq (G.region (J.move rfl rfl (J.move rfl rfl (J.ptrSame rfl rfl rfl (by first | exact Mem.h | exact M1 | exact M2 | exact M3 | exact M4 | exact M5 | exact M6 | exact M7 | exact M8 | exact M9) ?_))))))))
  refine J.nil (G.cT rfl (G.regionS [0, 1, 2, 3, 4, 5, 6, 7, 8, 9, 10, 11, 12] (some 12) (some 0) [⟨zb, 166, [.int .u32 ((64 * nz : Nat) : Int), .int .u8 0, .int .i8 a0, .int .u8 1, .bool false, .slice (some ⟨mb, 0, none⟩) l xs.length, .int .i32 e], true⟩] (by kernel_rfl) (SubH.of [0] rfl) rfl (J.move rfl rfl (J.move rfl rfl (J.nc rfl rfl rfl (J.fieldAddr rfl rfl (J.ld rfl rfl rfl rfl rfl (J.move rfl rfl ?_))))))))
  refine J.nc rfl rfl rfl (J.fieldAddr rfl rfl (J.ld rfl rfl rfl rfl rfl ?_))
  refine J.effH (E.callP (sqr_same (sv := .pointer none) (x := ⟨mb, l, xs⟩) ht.zok ht.l0 hl) [1] [] rfl rfl rfl rfl rfl) rfl rfl fun q hq => ⟨fun _ => SubH.app (SubH.of [0] rfl), ?_⟩
  try simp only [apC, apN]
  have hv0 : zn (some ⟨mb, l, xs⟩) * zn (some ⟨mb, l, xs⟩) ≠ 0 := Nat.ne_of_gt (Nat.mul_pos (Nat.lt_of_lt_of_le (Nat.mul_pos (by decide) (Nat.pow_pos (by decide))) ht.top) (Nat.lt_of_lt_of_le (Nat.mul_pos (by decide) (Nat.pow_pos (by decide))) ht.top))
  obtain ⟨⟨bq, lq, xq⟩, rfl, hq0⟩ := Res.some hq hv0
  obtain ⟨k1, k2, k3⟩ := mulTop ht ht hq
  simp only at k3
  simp only [zh, zv, List.cons_append, List.nil_append]
  refine J.nc rfl rfl rfl (J.fieldAddr rfl rfl ?_)
  refine J.effH (E.si rfl rfl rfl rfl) rfl rfl ⟨fun h => Bool.noConfusion h, ?_⟩
  refine J.nil (G.prune [0, 6] rfl (G.region (J.move rfl rfl (J.move rfl rfl (J.move rfl rfl (J.nc rfl rfl rfl (J.fieldAddr rfl rfl (J.loadI rfl rfl rfl rfl ?_))))))))
  refine J.eff (E.callP (fnorm_spec hq k1 (by omega)) [0] [] rfl rfl rfl rfl rfl) rfl fun p hp3 => ?_
  try simp only [apC, apN]
  obtain ⟨s, zs⟩ := p
  obtain ⟨hs, hmn, hlen⟩ := hp3
  simp only at hs hmn hlen ⊢
  rw [← hs] at k2
  rw [← hlen]
  (first | refine J.subI rfl rfl rfl (by omega) (by omega) ?_ | refine J.subZ rfl rfl rfl (by omega) (by omega) ?_)
  refine J.eff (E.callP (setExp_spec (fb := zb) (np := nz) (t := ⟨a0, e, ⟨bq, lq, zs⟩⟩) hmn (by simp only; omega) hp hp2 (by omega) (by omega) (by decide)) [1, 0] [] rfl rfl rfl rfl rfl) rfl fun q hq => ?_
  try simp only [apC, apN]
  refine J.nil (G.prune [] rfl (G.fall (hR _) ?_))
  exact GL.done (q : FV) rfl rfl ⟨hq.1, hq.2.1, by have := hq.2.2; omega, by have := hq.2.2; omega⟩ rfl [0, 1] rfl (by decide) (by simp [fh])
theorem fmul_spec {zb fb nz nf : Nat} {t u : FV} (ht : MN t.m) (hu : MN u.m) (hl : t.m.len ≤ 20) (hl2 : u.m.len ≤ 20) (hp : 2 ≤ nz) (hp2 : nz ≤ 100) (he : -10000 ≤ t.e ∧ t.e ≤ 10000) (he2 : -10000 ≤ u.e ∧ u.e ≤ 10000) :
    Spec (cx V) 198 #[.pointer (some ⟨zb, 0, none⟩), .pointer (some ⟨zb, 0, none⟩), .pointer (some ⟨fb, 0, none⟩)] (fh zb (64 * nz) t) [⟨fb, 166, fc (64 * nf) u, false⟩, ⟨u.m.b, 162, cells .u64 u.m.xs, false⟩] (fun _ : FV => .pointer (some ⟨zb, 0, none⟩)) (fh zb (64 * nz))
      (fun q => MN q.m ∧ q.m.len ≤ nz ∧ t.e + u.e - 1 ≤ q.e ∧ q.e ≤ t.e + u.e + 1) := by
  obtain ⟨a0, e, ⟨mb, l, xs⟩⟩ := t
  obtain ⟨a1, e1, ⟨mb1, l1, ys⟩⟩ := u
  simp only [fh, fc] at *
  refine Spec.enter Tryz.func198 rfl Tryz.ntmps198 (by simp) [(0, .pointer (some ⟨zb, 0, none⟩)), (1, .pointer (some ⟨zb, 0, none⟩)), (2, .pointer (some ⟨fb, 0, none⟩))] (by simp) ?_
  intro X hR
  try simp only [apC, apN]
  refine G.seq (G.region (J.assign rfl rfl (J.nil (G.seq (G.seq (G.region (J.move rfl rfl (J.nc rfl rfl rfl ?_))))))))
  refine J.fieldAddr rfl rfl (J.loadI rfl rfl rfl rfl ?_)
  (first | refine J.eqN rfl rfl rfl ?_ | refine J.eqZ rfl rfl rfl ?_)
  refine J.nil (G.prune [0, 1, 2, 6, 11] rfl (G.cF rfl (G.skip (G.seq (G.regionS [0, 1, 2, 3, 4, 5, 6, 7, 8, 9, 10, 11, 12] (some 12) (some 0) [⟨zb, 166, [.int .u32 ((64 * nz : Nat) : Int), .int .u8 0, .int .i8 a0, .int .u8 1, .bool false, .slice (some ⟨mb, 0, none⟩) l xs.length, .int .i32 e], true⟩, ⟨fb, 166, [.int .u32 ((64 * nf : Nat) : Int), .int .u8 0, .int .i8 a1, .int .u8 1, .bool false, .slice (some ⟨mb1, 0, none⟩) l1 ys.length, .int .i32 e1], false⟩] (by kernel_rfl) (SubH.of [0, 2] rfl) rfl (J.move rfl rfl (J.move rfl rfl (J.nc rfl rfl rfl ?_))))))))
  refine J.fieldAddr rfl rfl (J.ld rfl rfl rfl rfl rfl (J.move rfl rfl (J.nc rfl rfl rfl (J.fieldAddr rfl rfl (J.ld rfl rfl rfl rfl rfl (J.neB rfl rfl rfl (J.nc rfl rfl rfl (J.fieldAddr rfl rfl ?_))))))))
  refine J.effH (E.si rfl rfl rfl rfl) rfl rfl ⟨fun h => Bool.noConfusion h, ?_⟩
  refine J.nil (G.prune [0, 1, 2, 6] rfl (G.seq (G.seq (G.region (J.move rfl rfl (J.nc rfl rfl rfl (J.fieldAddr rfl rfl (J.loadI rfl rfl rfl rfl ?_))))))))
  (first | refine J.eqN rfl rfl rfl ?_ | refine J.eqZ rfl rfl rfl ?_)
  refine J.move rfl rfl (J.wT rfl rfl (J.move rfl rfl (J.wT rfl rfl (J.nc rfl rfl rfl (J.wT rfl rfl (J.fieldAddr rfl rfl (J.wT rfl rfl (J.loadI rfl rfl rfl rfl ?_))))))))
  refine J.wT rfl rfl ?_
  (first | refine J.eqN rfl rfl rfl ?_ | refine J.eqZ rfl rfl rfl ?_)
  refine J.pT rfl rfl rfl (J.nil (G.prune [0, 1, 2, 6, 47] rfl (G.cT rfl (G.seq (G.region (J.move rfl rfl (J.move rfl rfl (J.move rfl rfl ?_))))))))
  refine J.eff (E.callP (umul_spec (zb := zb) (fb := fb) (nz := nz) (nf := nf) (t := ⟨a0, e, ⟨mb, l, xs⟩⟩) (u := ⟨a1, e1, ⟨mb1, l1, ys⟩⟩) ht hu hl hl2 hp hp2 he he2) [0, 0] [0, 1] rfl rfl rfl rfl rfl) rfl fun q hq => ?_
  try simp only [apC, apN]
  refine J.nil (G.prune [0, 1, 2, 6] rfl (G.seq (G.region (J.move rfl rfl (J.assign rfl rfl (J.nil (G.ret (hR _) ?_)))))))
  exact GL.done (q : FV) rfl rfl hq rfl [0, 1] rfl (by decide) (by simp [fh])
theorem fmulS_spec {zb nz : Nat} {t : FV} (ht : MN t.m) (hl : t.m.len ≤ 11) (hp : 2 ≤ nz) (hp2 : nz ≤ 100) (he : -10000 ≤ t.e ∧ t.e ≤ 10000) :
    Spec (cx V) 198 #[.pointer (some ⟨zb, 0, none⟩), .pointer (some ⟨zb, 0, none⟩), .pointer (some ⟨zb, 0, none⟩)] (fh zb (64 * nz) t) [] (fun _ : FV => .pointer (some ⟨zb, 0, none⟩)) (fh zb (64 * nz))
      (fun q => MN q.m ∧ q.m.len ≤ nz ∧ t.e + t.e - 1 ≤ q.e ∧ q.e ≤ t.e + t.e + 1) := by
  obtain ⟨a0, e, ⟨mb, l, xs⟩⟩ := t
  simp only [fh, fc] at *
  refine Spec.enter Tryz.func198 rfl Tryz.ntmps198 (by simp) [(0, .pointer (some ⟨zb, 0, none⟩)), (1, .pointer (some ⟨zb, 0, none⟩)), (2, .pointer (some ⟨zb, 0, none⟩))] (by simp) ?_
  intro X hR
  try simp only [apC, apN]
  refine G.seq (G.region (J.assign rfl rfl (J.nil (G.seq (G.seq (G.region (J.move rfl rfl (J.nc rfl rfl rfl ?_))))))))
  refine J.fieldAddr rfl rfl (J.loadI rfl rfl rfl rfl ?_)
  (first | refine J.eqN rfl rfl rfl ?_ | refine J.eqZ rfl rfl rfl ?_)
  refine J.nil (G.prune [0, 1, 2, 6, 11] rfl (G.cF rfl (G.skip (G.seq (G.regionS [0, 1, 2, 3, 4, 5, 6, 7, 8, 9, 10, 11, 12] (some 12) (some 0) [⟨zb, 166, [.int .u32 ((64 * nz : Nat) : Int), .int .u8 0, .int .i8 a0, .int .u8 1, .bool false, .slice (some ⟨mb, 0, none⟩) l xs.length, .int .i32 e], true⟩] (by kernel_rfl) (SubH.of [0] rfl) rfl (J.move rfl rfl (J.move rfl rfl (J.nc rfl rfl rfl ?_))))))))
  refine J.fieldAddr rfl rfl (J.ld rfl rfl rfl rfl rfl (J.move rfl rfl (J.nc rfl rfl rfl (J.fieldAddr rfl rfl (J.ld rfl rfl rfl rfl rfl (J.neB rfl rfl rfl (J.nc rfl rfl rfl (J.fieldAddr rfl rfl ?_))))))))
  refine J.effH (E.si rfl rfl rfl rfl) rfl rfl ⟨fun h => Bool.noConfusion h, ?_⟩
  refine J.nil (G.prune [0, 1, 2, 6] rfl (G.seq (G.seq (G.region (J.move rfl rfl (J.nc rfl rfl rfl (J.fieldAddr rfl rfl (J.loadI rfl rfl rfl rfl ?_))))))))
  (first | refine J.eqN rfl rfl rfl ?_ | refine J.eqZ rfl rfl rfl ?_)
  refine J.move rfl rfl (J.wT rfl rfl (J.move rfl rfl (J.wT rfl rfl (J.nc rfl rfl rfl (J.wT rfl rfl (J.fieldAddr rfl rfl (J.wT rfl rfl (J.loadI rfl rfl rfl rfl ?_))))))))
  refine J.wT rfl rfl ?_
  (first | refine J.eqN rfl rfl rfl ?_ | refine J.eqZ rfl rfl rfl ?_)
  refine J.pT rfl rfl rfl (J.nil (G.prune [0, 1, 2, 6, 47] rfl (G.cT rfl (G.seq (G.region (J.move rfl rfl (J.move rfl rfl (J.move rfl rfl ?_))))))))
  refine J.eff (E.callP (umulS_spec (zb := zb) (nz := nz) (t := ⟨a0, e, ⟨mb, l, xs⟩⟩) ht hl hp hp2 he) [0, 0] [] rfl rfl rfl rfl rfl) rfl fun q hq => ?_
  try simp only [apC, apN]
  refine J.nil (G.prune [0, 1, 2, 6] rfl (G.seq (G.region (J.move rfl rfl (J.assign rfl rfl (J.nil (G.ret (hR _) ?_)))))))
  exact GL.done (q : FV) rfl rfl hq rfl [0, 1] rfl (by decide) (by simp [fh])
theorem gs_pow5 {n : Nat} (h : n < 28) : ((⟨12, n, none⟩ : Addr), Value.int .u64 ((5 ^ n : Nat) : Int)) ∈ (cx V).GS := by
  show _ ∈ gs V
  unfold gs
  exact List.mem_append_right _ (List.mem_map.2 ⟨n, List.mem_range.2 h, rfl⟩)
theorem powStep {F F' z z' : Int} {m h b : Nat} (hm : m = 2 * h + b) (hb : b ≤ 1) (h1 : z + (F + 1) * m ≤ 1252) (h2 : F' + 1 ≤ 2 * (F + 1)) (h3 : z' ≤ z + (F + 1) * b) : z' + (F' + 1) * h ≤ 1252 := by
  have e1 : (F + 1) * (m : Int) = 2 * ((F + 1) * (h : Int)) + (F + 1) * (b : Int) := by
    subst hm
    rw [Int.natCast_add, Int.natCast_mul, Int.mul_add, Int.mul_left_comm]
    rfl
  have e2 : (F' + 1) * (h : Int) ≤ 2 * (F + 1) * (h : Int) := Int.mul_le_mul_of_nonneg_right h2 (by omega)
  rw [Int.mul_assoc] at e2
  omega
theorem powBound {F z : Int} {m : Nat} (hF : 3 ≤ F) (hz : 0 ≤ z) (hm : 0 < m) (h1 : z + (F + 1) * m ≤ 1252) : F ≤ 1251 ∧ z ≤ 1252 := by
  have e2 : (F + 1) * (1 : Int) ≤ (F + 1) * (m : Int) := Int.mul_le_mul_of_nonneg_left (by omega) (by omega)
  omega
theorem pow5_spec {zb n : Nat} (hn : n ≤ 324) : Spec (cx V) 197 #[.pointer (some ⟨zb, 0, none⟩), .int .u64 n] (fn0 zb (64 * 9)) [] (fun _ : FV => .pointer (some ⟨zb, 0, none⟩)) (fh zb (64 * 9)) (fun q => MN q.m ∧ q.m.len ≤ 9 ∧ 0 ≤ q.e ∧ q.e ≤ 2000) := by
  have e27 : 5 ^ 27 = 7450580596923828125 := by decide
  refine Spec.enter Tryz.func197 rfl Tryz.ntmps197 (by simp) [(0, .pointer (some ⟨zb, 0, none⟩)), (1, .int .u64 n)] (by simp) ?_
  intro X hR
  try simp only [apC, apN]
  refine G.seq (G.region (J.assign rfl rfl (J.nil (G.seq (G.seq (G.region (J.move rfl rfl ?_)))))))
  (first | refine J.leN rfl rfl rfl ?_ | refine J.leZ rfl rfl rfl ?_)
  refine J.nil ?_
  by_cases h27 : n ≤ 27
  · have hle := Nat.pow_le_pow_right (show 0 < 5 by decide) h27
    rw [e27] at hle
    refine G.cT rfl (G.seq (G.region (J.move rfl rfl (J.move rfl rfl (J.indexArr rfl rfl rfl (by omega) ?_)))))
    rw [Nat.zero_add, Nat.mul_one]
    refine J.loadG rfl rfl rfl (gs_pow5 (by omega)) (J.eff (E.callP (setU64_spec (fb := zb) (np := 9) (x := 5 ^ n) (by omega) (Nat.ne_of_gt (Nat.pow_pos (by decide))) (by decide) (by decide)) [0] [] rfl rfl rfl rfl rfl) rfl fun q hq => ?_)
    try simp only [apC, apN]
    refine J.assign rfl rfl (J.nil (G.prune [0, 1, 4] rfl (G.ret (hR _) ?_)))
    exact GL.done (q : FV) rfl rfl ⟨hq.1, by rw [hq.2.1]; decide, by rw [hq.2.2]; omega, by rw [hq.2.2]; omega⟩ rfl [0, 1] rfl (by decide) (by simp [fh])
  · skip
    refine G.cF rfl (G.skip (G.seq (G.region (J.move rfl rfl (J.indexArr rfl rfl rfl (by omega) (J.loadG rfl rfl rfl (gs_pow5 (n := 27) (by decide)) (J.eff (E.callP (setU64_spec (fb := zb) (np := 9) (x := 5 ^ 27) (by decide) (by decide) (by decide) (by decide)) [0] [] rfl rfl rfl rfl rfl) rfl fun z hz => ?_)))))))
    try simp only [apC, apN]
    obtain ⟨z1, z2, z3⟩ := hz
    simp only [fh, List.cons_append, List.nil_append]
    refine J.nil (G.prune [0, 1, 4] rfl (G.seq (G.region (J.move rfl rfl (J.subU rfl rfl rfl (by omega) (by omega) (J.assign rfl rfl (J.nil (G.seq ?_))))))))
    refine G.region (J.eff (E.alloc rfl) rfl fun g19 => J.move rfl rfl (J.eff (E.callP (prec_spec (pr := 64 * 9) rfl (by decide)) [] [1] rfl rfl rfl rfl rfl) rfl fun _ _ => ?_))
    try simp only [apC, apN]
    refine J.addU rfl rfl rfl (by omega) (J.eff (E.callP (setPrec_spec (fb := g19) (pr := 64 * 9 + 64) (by decide) (by decide)) [0] [] rfl rfl rfl rfl rfl) rfl fun _ _ => ?_)
    try simp only [apC, apN]
    refine J.eff (E.callP (setU64_spec (fb := g19) (np := 10) (x := 5) (by decide) (by decide) (by decide) (by decide)) [0] [] rfl rfl rfl rfl rfl) rfl fun f hf => ?_
    try simp only [apC, apN]
    obtain ⟨f1, f2, f3⟩ := hf
    have fe : f.e = 3 := by rw [f3]; decide
    simp only [fh, List.cons_append, List.nil_append]
    refine J.assign rfl rfl (J.nil (G.prune [0, 1, 4, 5] rfl (G.seq (G.block ?_))))
    generalize g19 = g
    refine G.loopW (σ := { t : Nat × FV × FV // t.1 ≤ 400 ∧ MN t.2.1.m ∧ MN t.2.2.m ∧ t.2.1.m.len ≤ 9 ∧ t.2.2.m.len ≤ 10 ∧ 0 ≤ t.2.1.e ∧ 3 ≤ t.2.2.e ∧ t.2.2.e ≤ 3000 ∧ t.2.1.e + (t.2.2.e + 1) * (t.1 : Int) ≤ 1252 }) (fun t => [(0, .pointer (some ⟨zb, 0, none⟩)), (1, .int .u64 (t.1.1 : Nat)), (5, .pointer (some ⟨g, 0, none⟩))]) (fun t => fh zb (64 * 9) t.1.2.1 ++ fh g (64 * 10) t.1.2.2) (fun t => t.1.1) ⟨(n - 27, z, f), by simp only; omega, z1, f1, by simp only; omega, by simp only; omega, by simp only; omega, by simp only; omega, by simp only; omega, by simp only; rw [fe, z3]; omega⟩ (by repeat (first | exact SubSlots.nil _ | refine SubSlots.cons rfl ?_)) [2, 3, 0, 1] rfl (by decide) ?_
    clear z1 z2 z3 f1 f2 f3 fe z f
    rintro ⟨⟨m, z, f⟩, hm, hz, hf, hzl, hfl, hze, hfe, hfe2, hb⟩ ih
    simp only at hm hz hf hzl hfl hze hfe hfe2 hb ih ⊢
    simp only [fh, List.cons_append, List.nil_append] at ih ⊢
    refine G.seq (G.seq (G.region (J.move rfl rfl ?_)))
    (first | refine J.gtN rfl rfl rfl ?_ | refine J.gtZ rfl rfl rfl ?_)
    refine J.nil ?_
    by_cases h0 : m = 0
    · subst h0
      have hzz : z.e ≤ 1252 := by simpa using hb
      refine G.cF rfl (G.exit rfl (G.seq (G.region (J.move rfl rfl (J.assign rfl rfl (J.nil (G.ret (hR _) ?_)))))))
      exact GL.done (z : FV) rfl rfl ⟨hz, hzl, hze, by omega⟩ rfl [0, 1] rfl (by decide) (by simp [fh])
    obtain ⟨k1, k2⟩ := powBound hfe hze (by omega) hb
    have e1 : m &&& 1 = m % 2 := Nat.and_one_is_mod m
    refine G.cT rfl (G.skip (G.block (G.seq (G.seq (G.region (J.move rfl rfl (J.andU rfl rfl rfl (by omega) (by omega) ?_)))))))
    (first | refine J.neN rfl rfl rfl ?_ | refine J.neZ rfl rfl rfl ?_)
    refine J.nil ?_
    rw [e1]
    refine G.condP rfl (fun hc => ?_) (fun hc => ?_)
    · refine G.region ?_
      refine J.move rfl rfl (J.move rfl rfl (J.move rfl rfl ?_))
      refine J.eff (E.callP (fmul_spec (zb := zb) (fb := g) (nz := 9) (nf := 10) (t := z) (u := f) hz hf (by omega) (by omega) (by decide) (by decide) ⟨by omega, by omega⟩ ⟨by omega, by omega⟩) [0, 0] [0, 1] rfl rfl rfl rfl rfl) rfl fun z' hz' => ?_
      try simp only [apC, apN]
      obtain ⟨q1, q2, q3, q4⟩ := hz'
      simp only [fh, List.cons_append, List.nil_append]
      refine J.nil (G.prune [0, 1, 4, 5] rfl (G.seq (G.region (J.move rfl rfl (J.move rfl rfl (J.move rfl rfl ?_))))))
      refine J.eff (E.callP (fmulS_spec (zb := g) (nz := 10) (t := f) hf (by omega) (by decide) (by decide) ⟨by omega, by omega⟩) [2, 2] [] rfl rfl rfl rfl rfl) rfl fun f' hf' => ?_
      try simp only [apC, apN]
      obtain ⟨p1, p2, p3, p4⟩ := hf'
      simp only [fh, List.cons_append, List.nil_append]
      refine J.nil (G.prune [0, 1, 4, 5] rfl (G.region (J.move rfl rfl (J.shrU rfl rfl rfl (by omega) (J.assign rfl rfl (J.nil (G.inBlock ?_)))))))
      rw [Nat.pow_one]
      exact G.wk [2, 3, 0, 1] (ih ⟨(m / 2, z', f'), by simp only; omega, q1, p1, q2, p2, by simp only; omega, by simp only; omega, by simp only; omega, powStep (b := 1) (by omega) (by decide) hb (by simp only; omega) (by simp only; omega)⟩ (by simp only; omega))
    · refine G.skip ?_
      refine G.seq (G.region (J.move rfl rfl (J.move rfl rfl (J.move rfl rfl ?_))))
      refine J.eff (E.callP (fmulS_spec (zb := g) (nz := 10) (t := f) hf (by omega) (by decide) (by decide) ⟨by omega, by omega⟩) [2, 2] [] rfl rfl rfl rfl rfl) rfl fun f' hf' => ?_
      try simp only [apC, apN]
      obtain ⟨p1, p2, p3, p4⟩ := hf'
      simp only [fh, List.cons_append, List.nil_append]
      refine J.nil (G.prune [0, 1, 4, 5] rfl (G.region (J.move rfl rfl (J.shrU rfl rfl rfl (by omega) (J.assign rfl rfl (J.nil (G.inBlock ?_)))))))
      rw [Nat.pow_one]
      exact G.wk [2, 3, 0, 1] (ih ⟨(m / 2, z, f'), by simp only; omega, hz, p1, hzl, p2, hze, by simp only; omega, by simp only; omega, powStep (b := 0) (by omega) (by decide) hb (by simp only; omega) (by simp only; omega)⟩ (by simp only; omega))
end
section
set_option maxRecDepth 100000
set_option pp.deepTerms false
variable {V : Addr}
theorem growNilN_spec {n : Nat} (h0 : 0 < n) (hn : n ≤ 1000) : Spec (cx V) 216 #[.slice none 0 0, .int .i64 n] [] [] (fun p : Nat × Nat => .slice (some ⟨p.1, 0, none⟩) 0 (List.replicate (n + p.2) 0).length) (fun p => [⟨p.1, 162, cells .u64 (List.replicate (n + p.2) 0), true⟩]) (fun p => n + p.2 < 9223372036854775808) := by
  refine Spec.enter Tryz.func216 rfl Tryz.ntmps216 (by simp) [(0, .slice none 0 0), (1, .int .i64 n)] (by simp) ?_
  intro X hR
  try simp only [apC, apN]
  refine G.seq (G.region (J.assign rfl rfl (J.nil (G.seq (G.seq (G.region (J.move rfl rfl ?_)))))))
  (first | refine J.ltN rfl rfl rfl ?_ | refine J.ltZ rfl rfl rfl ?_)
  refine J.nil (G.cF rfl (G.skip (G.seq (G.seq (G.region (J.move rfl rfl (J.move rfl rfl (J.capS rfl rfl ?_))))))))
  refine J.move rfl rfl (J.lenS rfl rfl ?_)
  (first | refine J.subI rfl rfl rfl (by omega) (by omega) ?_ | refine J.subZ rfl rfl rfl (by omega) (by omega) ?_)
  (first | refine J.subI rfl rfl rfl (by omega) (by omega) ?_ | refine J.subZ rfl rfl rfl (by omega) (by omega) ?_)
  refine J.assign rfl rfl (J.nil (G.prune [0, 1, 4] rfl (G.seq (G.region (J.move rfl rfl ?_)))))
  (first | refine J.gtN rfl rfl rfl ?_ | refine J.gtZ rfl rfl rfl ?_)
  refine J.nil (G.cT rfl (G.region (J.move rfl rfl (J.move rfl rfl (J.capS rfl rfl (J.slH rfl rfl rfl (by omega) (J.move rfl rfl (J.eff (E.appendZnil (kk := .u64) (n := n) rfl rfl rfl h0 (by omega) (by omega)) rfl fun g c hc => ?_))))))))
  refine J.move rfl rfl (J.lenS rfl rfl (J.slH rfl rfl rfl (by omega) (J.assign rfl rfl (J.nil (G.prune [0, 4] rfl (G.seq (G.region (J.move rfl rfl ?_))))))))
  refine J.assign rfl rfl (J.nil ?_)
  have hl : (List.replicate (n + c) 0).length = n + c := List.length_replicate ..
  refine G.ret (hR _) ?_
  exact GL.done (g, c) rfl rfl hc rfl [0] rfl (by decide) (by simp)
theorem growNilW_spec {n : Nat} (h0 : 0 < n) (hn : n ≤ 1000) : Spec (cx V) 248 #[.slice none 0 0, .int .i64 n] [] [] (fun p : Nat × Nat => .slice (some ⟨p.1, 0, none⟩) 0 (List.replicate (n + p.2) 0).length) (fun p => [⟨p.1, 162, cells .u64 (List.replicate (n + p.2) 0), true⟩]) (fun p => n + p.2 < 9223372036854775808) := by
  refine Spec.enter Tryz.func248 rfl Tryz.ntmps248 (by simp) [(0, .slice none 0 0), (1, .int .i64 n)] (by simp) ?_
  intro X hR
  try simp only [apC, apN]
  refine G.seq (G.region (J.assign rfl rfl (J.nil (G.seq (G.seq (G.region (J.move rfl rfl ?_)))))))
  (first | refine J.ltN rfl rfl rfl ?_ | refine J.ltZ rfl rfl rfl ?_)
  refine J.nil (G.cF rfl (G.skip (G.seq (G.seq (G.region (J.move rfl rfl (J.move rfl rfl (J.capS rfl rfl ?_))))))))
  refine J.move rfl rfl (J.lenS rfl rfl ?_)
  (first | refine J.subI rfl rfl rfl (by omega) (by omega) ?_ | refine J.subZ rfl rfl rfl (by omega) (by omega) ?_)
  (first | refine J.subI rfl rfl rfl (by omega) (by omega) ?_ | refine J.subZ rfl rfl rfl (by omega) (by omega) ?_)
  refine J.assign rfl rfl (J.nil (G.prune [0, 1, 4] rfl (G.seq (G.region (J.move rfl rfl ?_)))))
  (first | refine J.gtN rfl rfl rfl ?_ | refine J.gtZ rfl rfl rfl ?_)
  refine J.nil (G.cT rfl (G.region (J.move rfl rfl (J.move rfl rfl (J.capS rfl rfl (J.slH rfl rfl rfl (by omega) (J.move rfl rfl (J.eff (E.appendZnil (kk := .u64) (n := n) rfl rfl rfl h0 (by omega) (by omega)) rfl fun g c hc => ?_))))))))
  refine J.move rfl rfl (J.lenS rfl rfl (J.slH rfl rfl rfl (by omega) (J.assign rfl rfl (J.nil (G.prune [0, 4] rfl (G.seq (G.region (J.move rfl rfl ?_))))))))
  refine J.assign rfl rfl (J.nil ?_)
  have hl : (List.replicate (n + c) 0).length = n + c := List.length_replicate ..
  refine G.ret (hR _) ?_
  exact GL.done (g, c) rfl rfl hc rfl [0] rfl (by decide) (by simp)
theorem Wd.app {xs : List Nat} (h : Wd xs) (m : Nat) : Wd (xs ++ List.replicate m 0) := fun j => by
  rw [List.getD_eq_getElem?_getD, List.getElem?_append]
  split
  · rw [← List.getD_eq_getElem?_getD]; exact h j
  · rw [← List.getD_eq_getElem?_getD]; exact Wd.rep m _
def gwV (wb L : Nat) (ws : List Nat) : Option (Nat × List Nat) → Value
  | none => .slice (some ⟨wb, 0, none⟩) L ws.length
  | some p => .slice (some ⟨p.1, 0, none⟩) L p.2.length
def gwH : Option (Nat × List Nat) → Hp
  | none => []
  | some p => [⟨p.1, 162, cells .u64 p.2, true⟩]
def gwP (L n : Nat) (ws : List Nat) : Option (Nat × List Nat) → Prop
  | none => L + n ≤ ws.length
  | some p => L + n ≤ p.2.length ∧ p.2.length < 9223372036854775808 ∧ Wd p.2
theorem growSome_spec {wb L n : Nat} {ws : List Nat} (h0 : 0 < n) (hn : n ≤ 1000) (hL : L ≤ 1000) (hL2 : L ≤ ws.length) (hc : ws.length < 9223372036854775808) (hw : Wd ws) :
    Spec (cx V) 248 #[.slice (some ⟨wb, 0, none⟩) L ws.length, .int .i64 n] [] [⟨wb, 162, cells .u64 ws, false⟩] (gwV wb L ws) gwH (gwP L n ws) := by
  by_cases h : L + n ≤ ws.length
  · refine Spec.enter Tryz.func248 rfl Tryz.ntmps248 (by simp) [(0, .slice (some ⟨wb, 0, none⟩) L ws.length), (1, .int .i64 n)] (by simp) ?_
    intro X hR
    try simp only [apC, apN]
    refine G.seq (G.region (J.assign rfl rfl (J.nil (G.seq (G.seq (G.region (J.move rfl rfl ?_)))))))
    (first | refine J.ltN rfl rfl rfl ?_ | refine J.ltZ rfl rfl rfl ?_)
    refine J.nil (G.cF rfl (G.skip (G.seq (G.seq (G.region (J.move rfl rfl (J.move rfl rfl (J.capS rfl rfl ?_))))))))
    refine J.move rfl rfl (J.lenS rfl rfl ?_)
    (first | refine J.subI rfl rfl rfl (by omega) (by omega) ?_ | refine J.subZ rfl rfl rfl (by omega) (by omega) ?_)
    (first | refine J.subI rfl rfl rfl (by omega) (by omega) ?_ | refine J.subZ rfl rfl rfl (by omega) (by omega) ?_)
    refine J.assign rfl rfl (J.nil (G.prune [0, 1, 4] rfl (G.seq (G.region (J.move rfl rfl ?_)))))
    (first | refine J.gtN rfl rfl rfl ?_ | refine J.gtZ rfl rfl rfl ?_)
    refine J.nil (G.cF rfl (G.skip (G.seq (G.region (J.move rfl rfl (J.assign rfl rfl (J.nil (G.ret (hR _) ?_))))))))
    exact GL.done none rfl rfl h rfl [] rfl (by decide) (by simp [gwH])
  · refine Spec.enter Tryz.func248 rfl Tryz.ntmps248 (by simp) [(0, .slice (some ⟨wb, 0, none⟩) L ws.length), (1, .int .i64 n)] (by simp) ?_
    intro X hR
    try simp only [apC, apN]
    refine G.seq (G.region (J.assign rfl rfl (J.nil (G.seq (G.seq (G.region (J.move rfl rfl ?_)))))))
    (first | refine J.ltN rfl rfl rfl ?_ | refine J.ltZ rfl rfl rfl ?_)
    refine J.nil (G.cF rfl (G.skip (G.seq (G.seq (G.region (J.move rfl rfl (J.move rfl rfl (J.capS rfl rfl ?_))))))))
    refine J.move rfl rfl (J.lenS rfl rfl ?_)
    (first | refine J.subI rfl rfl rfl (by omega) (by omega) ?_ | refine J.subZ rfl rfl rfl (by omega) (by omega) ?_)
    (first | refine J.subI rfl rfl rfl (by omega) (by omega) ?_ | refine J.subZ rfl rfl rfl (by omega) (by omega) ?_)
    refine J.assign rfl rfl (J.nil (G.prune [0, 1, 4] rfl (G.seq (G.region (J.move rfl rfl ?_)))))
    (first | refine J.gtN rfl rfl rfl ?_ | refine J.gtZ rfl rfl rfl ?_)
    refine J.nil (G.cT rfl (G.region (J.move rfl rfl (J.move rfl rfl (J.capS rfl rfl (J.slH rfl rfl rfl (by omega) (J.move rfl rfl (J.eff (E.appendZ (xs := ws) (n := n - (ws.length - L)) rfl rfl rfl Mem.h (by omega) (by omega) (by omega)) rfl fun g c hc2 => ?_))))))))
    have hl : (ws ++ List.replicate (n - (ws.length - L) + c) 0).length = ws.length + (n - (ws.length - L)) + c := by simp; omega
    refine J.move rfl rfl (J.lenS rfl rfl (J.slH rfl rfl rfl (by omega) (J.assign rfl rfl (J.nil (G.prune [0, 4] rfl (G.seq (G.region (J.move rfl rfl ?_))))))))
    refine J.assign rfl rfl (J.nil (G.ret (hR _) ?_))
    exact GL.done (some (g, ws ++ List.replicate (n - (ws.length - L) + c) 0)) rfl rfl ⟨by simp only; omega, by simp only; omega, hw.app _⟩ rfl [0] rfl (by decide) (by simp [gwH])
theorem save_nil {sb : Nat} : Spec (cx V) 158 #[.pointer (some ⟨sb, 0, none⟩)] [] [⟨sb, 240, [.pointer none], false⟩] (fun _ : Unit => .int .i64 ((0 : Nat) : Int)) (fun _ => []) (fun _ => True) := by
  refine Spec.enter Tryz.func158 rfl Tryz.ntmps158 (by simp) [(0, .pointer (some ⟨sb, 0, none⟩))] (by simp) ?_
  intro X hR
  try simp only [apC, apN]
  refine G.seq (G.region (J.assign rfl rfl (J.nil (G.seq (G.region (J.move rfl rfl (J.nc rfl rfl rfl (J.fieldAddr rfl rfl ?_))))))))
  refine J.loadI rfl rfl rfl rfl (J.assign rfl rfl (J.nil (G.prune [2, 3] rfl (G.seq (G.seq (G.region (J.move rfl rfl (J.ptrNilE rfl rfl ?_))))))))
  refine J.nil (G.cT rfl (G.seq (G.region (J.assign rfl rfl (J.nil (G.ret (hR _) ?_))))))
  exact GL.done (()) rfl rfl (trivial) rfl [] rfl (by decide) (by simp)
theorem isave_spec {ib l c : Nat} {a : Option Addr} : Spec (cx V) 215 #[.pointer (some ⟨ib, 0, none⟩)] [] [⟨ib, 286, [.slice a l c], false⟩] (fun _ : Unit => .int .i64 (l : Int)) (fun _ => []) (fun _ => True) := by
  refine Spec.enter Tryz.func215 rfl Tryz.ntmps215 (by simp) [(0, .pointer (some ⟨ib, 0, none⟩))] (by simp) ?_
  intro X hR
  try simp only [apC, apN]
  refine G.seq (G.region (J.assign rfl rfl (J.nil (G.seq (G.region (J.move rfl rfl (J.nc rfl rfl rfl (J.fieldAddr rfl rfl ?_))))))))
  refine J.loadI rfl rfl rfl rfl (J.lenS rfl rfl (J.assign rfl rfl (J.nil (G.prune [2] rfl (G.ret (hR _) ?_)))))
  exact GL.done (()) rfl rfl (trivial) rfl [] rfl (by decide) (by simp)
theorem save_some {sb ib l c : Nat} {a : Option Addr} : Spec (cx V) 158 #[.pointer (some ⟨sb, 0, none⟩)] [] [⟨sb, 240, [.pointer (some ⟨ib, 0, none⟩)], false⟩, ⟨ib, 286, [.slice a l c], false⟩] (fun _ : Unit => .int .i64 (l : Int)) (fun _ => []) (fun _ => True) := by
  refine Spec.enter Tryz.func158 rfl Tryz.ntmps158 (by simp) [(0, .pointer (some ⟨sb, 0, none⟩))] (by simp) ?_
  intro X hR
  try simp only [apC, apN]
  refine G.seq (G.region (J.assign rfl rfl (J.nil (G.seq (G.region (J.move rfl rfl (J.nc rfl rfl rfl (J.fieldAddr rfl rfl ?_))))))))
  refine J.loadI rfl rfl rfl rfl (J.assign rfl rfl (J.nil (G.prune [2, 3] rfl (G.seq (G.seq (G.region (J.move rfl rfl (J.ptrNilE rfl rfl ?_))))))))
  refine J.nil (G.cF rfl (G.skip (G.seq (G.region (J.move rfl rfl (J.eff (E.callP (isave_spec (l := l)) [] [1] rfl rfl rfl rfl rfl) rfl fun _ _ => ?_))))))
  try simp only [apC, apN]
  refine J.assign rfl rfl (J.nil (G.ret (hR _) ?_))
  exact GL.done (()) rfl rfl (trivial) rfl [] rfl (by decide) (by simp)
theorem restore_nilD {sb n : Nat} : SpecD (cx V) 157 #[.pointer (some ⟨sb, 0, none⟩), .int .i64 n] [] [⟨sb, 240, [.pointer none], false⟩] (τ := Unit) (fun _ => []) (fun _ => True) := by
  refine SpecD.enter (val := fun _ => .tuple #[]) Tryz.func157 rfl Tryz.ntmps157 (by simp) [(0, .pointer (some ⟨sb, 0, none⟩)), (1, .int .i64 n)] (by simp) ?_
  intro X hR
  try simp only [apC, apN]
  refine G.seq (G.region (J.move rfl rfl (J.nc rfl rfl rfl (J.fieldAddr rfl rfl (J.loadI rfl rfl rfl rfl (J.assign rfl rfl (J.nil (G.prune [1, 4] rfl ?_))))))))
  refine G.seq (G.seq (G.region (J.move rfl rfl (J.ptrNilE rfl rfl (J.nil (G.cT rfl (G.ret (hR) ?_)))))))
  exact GL.done (()) rfl rfl (trivial) rfl [] rfl (by decide) (by simp)
theorem irestore_spec {ib l c n : Nat} {a : Option Addr} (h : n ≤ c) : Spec (cx V) 214 #[.pointer (some ⟨ib, 0, none⟩), .int .i64 n] [⟨ib, 286, [.slice a l c], true⟩] [] (fun _ : Unit => .tuple #[]) (fun _ => [⟨ib, 286, [.slice a n c], true⟩]) (fun _ => True) := by
  refine Spec.enter Tryz.func214 rfl Tryz.ntmps214 (by simp) [(0, .pointer (some ⟨ib, 0, none⟩)), (1, .int .i64 n)] (by simp) ?_
  intro X hR
  try simp only [apC, apN]
  refine G.region (J.move rfl rfl (J.move rfl rfl (J.nc rfl rfl rfl (J.fieldAddr rfl rfl (J.loadI rfl rfl rfl rfl (J.move rfl rfl (J.slH rfl rfl rfl (by omega) (J.nc rfl rfl rfl ?_))))))))
  refine J.fieldAddr rfl rfl (J.eff (E.si rfl rfl rfl rfl) rfl (J.nil (G.prune [] rfl (G.fall (hR _) ?_))))
  exact GL.done (()) rfl rfl (trivial) rfl [0] rfl (by decide) (by simp)
theorem restore_someD {sb ib l c n : Nat} {a : Option Addr} (h : n ≤ c) : SpecD (cx V) 157 #[.pointer (some ⟨sb, 0, none⟩), .int .i64 n] [⟨ib, 286, [.slice a l c], true⟩] [⟨sb, 240, [.pointer (some ⟨ib, 0, none⟩)], false⟩] (τ := Unit) (fun _ => [⟨ib, 286, [.slice a n c], true⟩]) (fun _ => True) := by
  refine SpecD.enter (val := fun _ => .tuple #[]) Tryz.func157 rfl Tryz.ntmps157 (by simp) [(0, .pointer (some ⟨sb, 0, none⟩)), (1, .int .i64 n)] (by simp) ?_
  intro X hR
  try simp only [apC, apN]
  refine G.seq (G.region (J.move rfl rfl (J.nc rfl rfl rfl (J.fieldAddr rfl rfl (J.loadI rfl rfl rfl rfl (J.assign rfl rfl (J.nil (G.prune [1, 4] rfl ?_))))))))
  refine G.seq (G.seq (G.region (J.move rfl rfl (J.ptrNilE rfl rfl (J.nil (G.cF rfl (G.skip (G.region ?_))))))))
  refine J.move rfl rfl (J.move rfl rfl (J.eff (E.callP (irestore_spec (n := n) h) [0] [] rfl rfl rfl rfl rfl) rfl fun _ _ => ?_))
  try simp only [apC, apN]
  refine J.nil (G.fall (hR) ?_)
  exact GL.done (()) rfl rfl (trivial) rfl [0] rfl (by decide) (by simp)
theorem ifree_spec {ib l c : Nat} {a : Option Addr} : Spec (cx V) 147 #[.pointer (some ⟨ib, 0, none⟩)] [⟨ib, 286, [.slice a l c], true⟩] [] (fun _ : Unit => .tuple #[]) (fun _ => [⟨ib, 286, [.slice a 0 c], true⟩]) (fun _ => True) := by
  refine Spec.enter Tryz.func147 rfl Tryz.ntmps147 (by simp) [(0, .pointer (some ⟨ib, 0, none⟩))] (by simp) ?_
  intro X hR
  try simp only [apC, apN]
  refine G.region (J.move rfl rfl (J.move rfl rfl (J.nc rfl rfl rfl (J.fieldAddr rfl rfl (J.loadI rfl rfl rfl rfl (J.slH rfl rfl rfl (by omega) (J.nc rfl rfl rfl (J.fieldAddr rfl rfl ?_))))))))
  refine J.eff (E.si rfl rfl rfl rfl) rfl (J.nil (G.prune [] rfl (G.fall (hR _) ?_)))
  exact GL.done (()) rfl rfl (trivial) rfl [0] rfl (by decide) (by simp)
theorem free_someD {sb ib l c : Nat} {a : Option Addr} : SpecD (cx V) 107 #[.pointer (some ⟨sb, 0, none⟩)] [⟨ib, 286, [.slice a l c], true⟩] [⟨sb, 240, [.pointer (some ⟨ib, 0, none⟩)], false⟩] (τ := Unit) (fun _ => [⟨ib, 286, [.slice a 0 c], true⟩]) (fun _ => True) := by
  refine SpecD.enter (val := fun _ => .tuple #[]) Tryz.func107 rfl Tryz.ntmps107 (by simp) [(0, .pointer (some ⟨sb, 0, none⟩))] (by simp) ?_
  intro X hR
  try simp only [apC, apN]
  refine G.seq (G.region (J.move rfl rfl (J.nc rfl rfl rfl (J.fieldAddr rfl rfl (J.loadI rfl rfl rfl rfl (J.assign rfl rfl (J.nil (G.prune [2] rfl ?_))))))))
  refine G.seq (G.region (J.move rfl rfl (J.ptrNilN rfl rfl (J.nil (G.cT rfl (G.region (J.move rfl rfl (J.eff (E.callP (ifree_spec) [0] [] rfl rfl rfl rfl rfl) rfl fun _ _ => ?_))))))))
  try simp only [apC, apN]
  refine J.nil (G.fall (hR) ?_)
  exact GL.done (()) rfl rfl (trivial) rfl [0] rfl (by decide) (by simp)
def r4 (n : Nat) : Nat := (n + 3) / 4 * 4
theorem r4_le (n : Nat) : n ≤ r4 n := by unfold r4; omega
theorem r4_le2 (n : Nat) : r4 n ≤ n + 3 := by unfold r4; omega
def nw (m c v : Nat) : List Nat := (List.replicate (m + c) 0).set 0 v
theorem nw_len (m c v : Nat) : (nw m c v).length = m + c := by unfold nw; rw [List.length_set, List.length_replicate]
theorem nw_wd {m c v : Nat} (h : v < 18446744073709551616) : Wd (nw m c v) := (Wd.rep _).set h
theorem inat_nil {ib n : Nat} (h0 : 0 < n) (hn : n ≤ 20) : Spec (cx V) 217 #[.pointer (some ⟨ib, 0, none⟩), .int .i64 n] [⟨ib, 286, [.slice none 0 0], true⟩] []
    (fun p : Nat × Nat => .slice (some ⟨p.1, 0, none⟩) n n) (fun p => [⟨ib, 286, [.slice (some ⟨p.1, 0, none⟩) (r4 n) (nw (r4 n) p.2 1043915).length], true⟩, ⟨p.1, 162, cells .u64 (nw (r4 n) p.2 1043915), true⟩]) (fun p => r4 n + p.2 < 9223372036854775808) := by
  have h1 := r4_le n
  have h2 := r4_le2 n
  refine Spec.enter Tryz.func217 rfl Tryz.ntmps217 (by simp) [(0, .pointer (some ⟨ib, 0, none⟩)), (1, .int .i64 n)] (by simp) ?_
  intro X hR
  try simp only [apC, apN]
  refine G.seq (G.region (J.assign rfl rfl (J.nil (G.seq (G.region (J.move rfl rfl ?_))))))
  (first | refine J.addI rfl rfl rfl (by omega) ?_ | refine J.addZ rfl rfl rfl (by omega) (by omega) ?_)
  refine J.andNotI rfl rfl rfl (by omega) (J.assign rfl rfl (J.nil (G.prune [0, 1, 4, 5] rfl (G.seq (G.region (J.move rfl rfl (J.nc rfl rfl rfl (J.fieldAddr rfl rfl ?_))))))))
  refine J.loadI rfl rfl rfl rfl (J.lenS rfl rfl (J.assign rfl rfl (J.nil (G.prune [0, 1, 4, 5, 6] rfl (G.seq (G.region (J.move rfl rfl (J.move rfl rfl ?_))))))))
  refine J.nc rfl rfl rfl (J.fieldAddr rfl rfl (J.loadI rfl rfl rfl rfl (J.move rfl rfl ?_)))
  rw [show (n + 3) / 4 * 4 = r4 n from rfl]
  refine J.eff (E.callP (growNilW_spec (n := r4 n) (by omega) (by omega)) [] [] rfl rfl rfl rfl rfl) rfl fun p hp => ?_
  try simp only [apC, apN]
  obtain ⟨g, c⟩ := p
  simp only at hp ⊢
  have hl : (List.replicate (r4 n + c) 0).length = r4 n + c := List.length_replicate ..
  refine J.nc rfl rfl rfl (J.fieldAddr rfl rfl (J.eff (E.si rfl rfl rfl rfl) rfl (J.nil (G.prune [0, 1, 4, 5, 6] rfl (G.seq (G.region (J.move rfl rfl (J.move rfl rfl ?_))))))))
  refine J.nc rfl rfl rfl (J.fieldAddr rfl rfl (J.loadI rfl rfl rfl rfl (J.move rfl rfl (J.move rfl rfl ?_))))
  (first | refine J.addI rfl rfl rfl (by omega) ?_ | refine J.addZ rfl rfl rfl (by omega) (by omega) ?_)
  refine J.slH rfl rfl rfl (by omega) (J.nc rfl rfl rfl (J.fieldAddr rfl rfl (J.eff (E.si rfl rfl rfl rfl) rfl (J.nil (G.prune [0, 1, 4, 6] rfl (G.seq (G.region (J.move rfl rfl ?_))))))))
  refine J.nc rfl rfl rfl (J.fieldAddr rfl rfl (J.loadI rfl rfl rfl rfl (J.move rfl rfl (J.move rfl rfl (J.move rfl rfl ?_)))))
  (first | refine J.addI rfl rfl rfl (by omega) ?_ | refine J.addZ rfl rfl rfl (by omega) (by omega) ?_)
  refine J.move rfl rfl (J.move rfl rfl ?_)
  (first | refine J.addI rfl rfl rfl (by omega) ?_ | refine J.addZ rfl rfl rfl (by omega) (by omega) ?_)
  refine J.sl3 rfl rfl rfl rfl rfl (by omega) (by omega) (by omega) (by omega) (J.assign rfl rfl (J.nil (G.prune [1, 4, 7] rfl (G.seq (G.seq (G.region (J.move rfl rfl ?_)))))))
  (first | refine J.gtN rfl rfl rfl ?_ | refine J.gtZ rfl rfl rfl ?_)
  refine J.nil (G.cT rfl (G.region (J.move rfl rfl (J.ix rfl rfl rfl (J.eff (E.sc rfl rfl) rfl (J.nil (G.seq (G.region ?_))))))))
  refine J.move rfl rfl (J.assign rfl rfl (J.nil (G.ret (hR _) ?_)))
  rw [Nat.zero_add, Nat.zero_add, Nat.zero_add, Nat.sub_zero, ← List.length_set (i := 0) (a := 1043915)]
  exact GL.done (g, c) rfl rfl hp rfl [1, 0] rfl (by decide) (by simp)
def inV (wb L n : Nat) : Option (Nat × List Nat) → Value
  | none => .slice (some ⟨wb, L, none⟩) n n
  | some p => .slice (some ⟨p.1, L, none⟩) n n
def inH (ib wb L n : Nat) (ws : List Nat) : Option (Nat × List Nat) → Hp
  | none => [⟨ib, 286, [.slice (some ⟨wb, 0, none⟩) (L + r4 n) ws.length], true⟩, ⟨wb, 162, cells .u64 (ws.set L 1043915), true⟩]
  | some p => [⟨ib, 286, [.slice (some ⟨p.1, 0, none⟩) (L + r4 n) p.2.length], true⟩, ⟨wb, 162, cells .u64 ws, true⟩, ⟨p.1, 162, cells .u64 p.2, true⟩]
theorem inat_some {ib wb L n : Nat} {ws : List Nat} (h0 : 0 < n) (hn : n ≤ 20) (hL : L ≤ 1000) (hL2 : L ≤ ws.length) (hc : ws.length < 9223372036854775808) (hw : Wd ws) :
    Spec (cx V) 217 #[.pointer (some ⟨ib, 0, none⟩), .int .i64 n] [⟨ib, 286, [.slice (some ⟨wb, 0, none⟩) L ws.length], true⟩, ⟨wb, 162, cells .u64 ws, true⟩] [] (inV wb L n) (inH ib wb L n ws) (gwP L (r4 n) ws) := by
  have h1 := r4_le n
  have h2 := r4_le2 n
  refine Spec.enter Tryz.func217 rfl Tryz.ntmps217 (by simp) [(0, .pointer (some ⟨ib, 0, none⟩)), (1, .int .i64 n)] (by simp) ?_
  intro X hR
  try simp only [apC, apN]
  refine G.seq (G.region (J.assign rfl rfl (J.nil (G.seq (G.region (J.move rfl rfl ?_))))))
  (first | refine J.addI rfl rfl rfl (by omega) ?_ | refine J.addZ rfl rfl rfl (by omega) (by omega) ?_)
  refine J.andNotI rfl rfl rfl (by omega) (J.assign rfl rfl (J.nil (G.prune [0, 1, 4, 5] rfl (G.seq (G.region (J.move rfl rfl (J.nc rfl rfl rfl (J.fieldAddr rfl rfl ?_))))))))
  refine J.loadI rfl rfl rfl rfl (J.lenS rfl rfl (J.assign rfl rfl (J.nil (G.prune [0, 1, 4, 5, 6] rfl (G.seq (G.region (J.move rfl rfl (J.move rfl rfl ?_))))))))
  refine J.nc rfl rfl rfl (J.fieldAddr rfl rfl (J.loadI rfl rfl rfl rfl (J.move rfl rfl ?_)))
  rw [show (n + 3) / 4 * 4 = r4 n from rfl]
  refine J.eff (E.callP (growSome_spec (n := r4 n) (L := L) (by omega) (by omega) hL hL2 hc hw) [] [1] rfl rfl rfl rfl rfl) rfl fun p hp => ?_
  try simp only [apC, apN]
  rcases p with _ | ⟨g, ws2⟩
  · simp only [gwV, gwH, gwP, List.cons_append, List.nil_append] at hp ⊢
    refine J.nc rfl rfl rfl (J.fieldAddr rfl rfl (J.eff (E.si rfl rfl rfl rfl) rfl (J.nil (G.prune [0, 1, 4, 5, 6] rfl (G.seq (G.region (J.move rfl rfl (J.move rfl rfl ?_))))))))
    refine J.nc rfl rfl rfl (J.fieldAddr rfl rfl (J.loadI rfl rfl rfl rfl (J.move rfl rfl (J.move rfl rfl ?_))))
    (first | refine J.addI rfl rfl rfl (by omega) ?_ | refine J.addZ rfl rfl rfl (by omega) (by omega) ?_)
    refine J.slH rfl rfl rfl (by omega) (J.nc rfl rfl rfl (J.fieldAddr rfl rfl (J.eff (E.si rfl rfl rfl rfl) rfl (J.nil (G.prune [0, 1, 4, 6] rfl (G.seq (G.region (J.move rfl rfl ?_))))))))
    refine J.nc rfl rfl rfl (J.fieldAddr rfl rfl (J.loadI rfl rfl rfl rfl (J.move rfl rfl (J.move rfl rfl (J.move rfl rfl ?_)))))
    (first | refine J.addI rfl rfl rfl (by omega) ?_ | refine J.addZ rfl rfl rfl (by omega) (by omega) ?_)
    refine J.move rfl rfl (J.move rfl rfl ?_)
    (first | refine J.addI rfl rfl rfl (by omega) ?_ | refine J.addZ rfl rfl rfl (by omega) (by omega) ?_)
    refine J.sl3 rfl rfl rfl rfl rfl (by omega) (by omega) (by omega) (by omega) (J.assign rfl rfl (J.nil (G.prune [1, 4, 7] rfl (G.seq (G.seq (G.region (J.move rfl rfl ?_)))))))
    (first | refine J.gtN rfl rfl rfl ?_ | refine J.gtZ rfl rfl rfl ?_)
    refine J.nil ?_
    rw [Nat.zero_add, Nat.add_sub_cancel_left]
    refine G.cT rfl (G.region (J.move rfl rfl (J.ix rfl rfl rfl (J.eff (E.sc rfl rfl) rfl (J.nil (G.seq (G.region (J.move rfl rfl ?_))))))))
    refine J.assign rfl rfl (J.nil (G.ret (hR _) ?_))
    exact GL.done none rfl rfl hp rfl [0, 1] rfl (by decide) (by simp [inH])
  · simp only [gwV, gwH, gwP, List.cons_append, List.nil_append] at hp ⊢
    obtain ⟨p1, p2, p3⟩ := hp
    refine J.nc rfl rfl rfl (J.fieldAddr rfl rfl (J.eff (E.si rfl rfl rfl rfl) rfl (J.nil (G.prune [0, 1, 4, 5, 6] rfl (G.seq (G.region (J.move rfl rfl (J.move rfl rfl ?_))))))))
    refine J.nc rfl rfl rfl (J.fieldAddr rfl rfl (J.loadI rfl rfl rfl rfl (J.move rfl rfl (J.move rfl rfl ?_))))
    (first | refine J.addI rfl rfl rfl (by omega) ?_ | refine J.addZ rfl rfl rfl (by omega) (by omega) ?_)
    refine J.slH rfl rfl rfl (by omega) (J.nc rfl rfl rfl (J.fieldAddr rfl rfl (J.eff (E.si rfl rfl rfl rfl) rfl (J.nil (G.prune [0, 1, 4, 6] rfl (G.seq (G.region (J.move rfl rfl ?_))))))))
    refine J.nc rfl rfl rfl (J.fieldAddr rfl rfl (J.loadI rfl rfl rfl rfl (J.move rfl rfl (J.move rfl rfl (J.move rfl rfl ?_)))))
    (first | refine J.addI rfl rfl rfl (by omega) ?_ | refine J.addZ rfl rfl rfl (by omega) (by omega) ?_)
    refine J.move rfl rfl (J.move rfl rfl ?_)
    (first | refine J.addI rfl rfl rfl (by omega) ?_ | refine J.addZ rfl rfl rfl (by omega) (by omega) ?_)
    refine J.sl3 rfl rfl rfl rfl rfl (by omega) (by omega) (by omega) (by omega) (J.assign rfl rfl (J.nil (G.prune [1, 4, 7] rfl (G.seq (G.seq (G.region (J.move rfl rfl ?_)))))))
    (first | refine J.gtN rfl rfl rfl ?_ | refine J.gtZ rfl rfl rfl ?_)
    refine J.nil ?_
    rw [Nat.zero_add, Nat.add_sub_cancel_left]
    refine G.cT rfl (G.region (J.move rfl rfl (J.ix rfl rfl rfl (J.eff (E.sc rfl rfl) rfl (J.nil (G.seq (G.region (J.move rfl rfl ?_))))))))
    refine J.assign rfl rfl (J.nil (G.ret (hR _) ?_))
    have hl : (ws2.set L 1043915).length = ws2.length := List.length_set ..
    rw [← hl]
    exact GL.done (some (g, ws2.set L 1043915)) rfl rfl ⟨by simp only; omega, by simp only; omega, p3.set (by decide)⟩ rfl [1, 2, 0] rfl (by decide) (by simp [inH])
theorem snat_small {sb n : Nat} (h0 : 0 < n) (hn : n ≤ 4) : Spec (cx V) 159 #[.pointer (some ⟨sb, 0, none⟩), .int .i64 n] [] [⟨sb, 240, [.pointer none], false⟩]
    (fun p : Nat × Nat => .slice (some ⟨p.1, 0, none⟩) n (nw n p.2 11259375).length) (fun p => [⟨p.1, 162, cells .u64 (nw n p.2 11259375), true⟩]) (fun p => n + p.2 < 9223372036854775808) := by
  refine Spec.enter Tryz.func159 rfl Tryz.ntmps159 (by simp) [(0, .pointer (some ⟨sb, 0, none⟩)), (1, .int .i64 n)] (by simp) ?_
  intro X hR
  try simp only [apC, apN]
  refine G.seq (G.region (J.assign rfl rfl (J.nil (G.seq (G.region (J.move rfl rfl (J.nc rfl rfl rfl (J.fieldAddr rfl rfl ?_))))))))
  refine J.loadI rfl rfl rfl rfl (J.assign rfl rfl (J.nil (G.prune [0, 1, 4, 5] rfl (G.seq (G.seq (G.region (J.move rfl rfl (J.ptrNilE rfl rfl ?_))))))))
  refine J.nil (G.cT rfl (G.seq (G.seq (G.region (J.move rfl rfl ?_)))))
  (first | refine J.leN rfl rfl rfl ?_ | refine J.leZ rfl rfl rfl ?_)
  refine J.nil (G.cT rfl (G.seq (G.region (J.move rfl rfl (J.eff (E.callP (growNilN_spec (n := n) (by omega) (by omega)) [] [] rfl rfl rfl rfl rfl) rfl fun p hp => ?_)))))
  try simp only [apC, apN]
  obtain ⟨g, c⟩ := p
  simp only at hp ⊢
  have hl : (List.replicate (n + c) 0).length = n + c := List.length_replicate ..
  refine J.assign rfl rfl (J.nil (G.seq (G.region (J.move rfl rfl (J.move rfl rfl (J.slH rfl rfl rfl (by omega) (J.assign rfl rfl (J.nil ?_))))))))
  refine G.prune [0, 1, 4, 6] rfl (G.seq (G.seq (G.region (J.move rfl rfl ?_))))
  (first | refine J.gtN rfl rfl rfl ?_ | refine J.gtZ rfl rfl rfl ?_)
  refine J.nil (G.cT rfl (G.region (J.move rfl rfl (J.ix rfl rfl rfl (J.eff (E.sc rfl rfl) rfl (J.nil (G.seq (G.region ?_))))))))
  refine J.move rfl rfl (J.assign rfl rfl (J.nil (G.ret (hR _) ?_)))
  rw [Nat.zero_add, ← List.length_set (i := 0) (a := 11259375)]
  exact GL.done (g, c) rfl rfl hp rfl [0] rfl (by decide) (by simp)
theorem snat_new {sb n : Nat} (h0 : 4 < n) (hn : n ≤ 20) : Spec (cx V) 159 #[.pointer (some ⟨sb, 0, none⟩), .int .i64 n] [⟨sb, 240, [.pointer none], true⟩] []
    (fun p : Nat × Nat × Nat => .slice (some ⟨p.2.1, 0, none⟩) n n)
    (fun p => [⟨sb, 240, [.pointer (some ⟨p.1, 0, none⟩)], true⟩, ⟨p.1, 286, [.slice (some ⟨p.2.1, 0, none⟩) (r4 n) (nw (r4 n) p.2.2 1043915).length], true⟩, ⟨p.2.1, 162, cells .u64 (nw (r4 n) p.2.2 1043915), true⟩]) (fun p => r4 n + p.2.2 < 9223372036854775808) := by
  refine Spec.enter Tryz.func159 rfl Tryz.ntmps159 (by simp) [(0, .pointer (some ⟨sb, 0, none⟩)), (1, .int .i64 n)] (by simp) ?_
  intro X hR
  try simp only [apC, apN]
  refine G.seq (G.region (J.assign rfl rfl (J.nil (G.seq (G.region (J.move rfl rfl (J.nc rfl rfl rfl (J.fieldAddr rfl rfl ?_))))))))
  refine J.loadI rfl rfl rfl rfl (J.assign rfl rfl (J.nil (G.prune [0, 1, 4, 5] rfl (G.seq (G.seq (G.region (J.move rfl rfl (J.ptrNilE rfl rfl ?_))))))))
  refine J.nil (G.cT rfl (G.seq (G.seq (G.region (J.move rfl rfl ?_)))))
  (first | refine J.leN rfl rfl rfl ?_ | refine J.leZ rfl rfl rfl ?_)
  refine J.nil (G.cF rfl (G.skip (G.seq (G.region (J.eff (E.alloc rfl) rfl fun g25 => J.assign rfl rfl (J.nil (G.region ?_)))))))
  refine J.move rfl rfl (J.move rfl rfl (J.nc rfl rfl rfl (J.fieldAddr rfl rfl (J.eff (E.si rfl rfl rfl rfl) rfl (J.nil (G.prune [1, 4, 5] rfl (G.seq (G.region ?_))))))))
  refine J.move rfl rfl (J.move rfl rfl (J.eff (E.callP (inat_nil (n := n) (by omega) hn) [0] [] rfl rfl rfl rfl rfl) rfl fun p hp => ?_))
  try simp only [apC, apN]
  obtain ⟨g, c⟩ := p
  simp only at hp ⊢
  refine J.assign rfl rfl (J.nil (G.prune [4] rfl (G.ret (hR _) ?_)))
  exact GL.done (g25, g, c) rfl rfl hp rfl [2, 0, 1] rfl (by decide) (by simp)
theorem snat_some {sb ib wb L n : Nat} {ws : List Nat} (h0 : 0 < n) (hn : n ≤ 20) (hL : L ≤ 1000) (hL2 : L ≤ ws.length) (hc : ws.length < 9223372036854775808) (hw : Wd ws) :
    Spec (cx V) 159 #[.pointer (some ⟨sb, 0, none⟩), .int .i64 n] [⟨ib, 286, [.slice (some ⟨wb, 0, none⟩) L ws.length], true⟩, ⟨wb, 162, cells .u64 ws, true⟩] [⟨sb, 240, [.pointer (some ⟨ib, 0, none⟩)], false⟩] (inV wb L n) (inH ib wb L n ws) (gwP L (r4 n) ws) := by
  refine Spec.enter Tryz.func159 rfl Tryz.ntmps159 (by simp) [(0, .pointer (some ⟨sb, 0, none⟩)), (1, .int .i64 n)] (by simp) ?_
  intro X hR
  try simp only [apC, apN]
  refine G.seq (G.region (J.assign rfl rfl (J.nil (G.seq (G.region (J.move rfl rfl (J.nc rfl rfl rfl (J.fieldAddr rfl rfl ?_))))))))
  refine J.loadI rfl rfl rfl rfl (J.assign rfl rfl (J.nil (G.prune [0, 1, 4, 5] rfl (G.seq (G.seq (G.region (J.move rfl rfl (J.ptrNilE rfl rfl ?_))))))))
  refine J.nil (G.cF rfl (G.skip (G.seq (G.region (J.move rfl rfl (J.move rfl rfl (J.eff (E.callP (inat_some (n := n) (L := L) h0 hn hL hL2 hc hw) [0, 0] [] rfl rfl rfl rfl rfl) rfl fun p hp => ?_)))))))
  try simp only [apC, apN]
  rcases p with _ | ⟨g, ws2⟩
  · simp only [inV, inH, List.cons_append, List.nil_append]
    refine J.assign rfl rfl (J.nil (G.prune [4] rfl (G.ret (hR _) ?_)))
    exact GL.done none rfl rfl hp rfl [0, 1] rfl (by decide) (by simp [inH])
  · simp only [inV, inH, List.cons_append, List.nil_append]
    refine J.assign rfl rfl (J.nil (G.prune [4] rfl (G.ret (hR _) ?_)))
    exact GL.done (some (g, ws2)) rfl rfl hp rfl [0, 1, 2] rfl (by decide) (by simp [inH])
end
section
set_option maxRecDepth 100000
theorem kn_eq (B P q v1 v2 v' : Nat) : q * (v1 * (B * P) + v2 * P + v') = (q * v1) * (B * P) + (q * v2) * P + q * v' := by
  rw [Nat.mul_add, Nat.mul_add, Nat.mul_assoc, Nat.mul_assoc]
theorem kn_U (B P u0 u1 u2 u' : Nat) : u0 * (B * (B * P)) + u1 * (B * P) + u2 * P + u' = (u0 * B + u1) * (B * P) + u2 * P + u' := by
  rw [Nat.add_mul, Nat.mul_assoc]
theorem kn_start {B P v1 v2 v' u0 u1 u2 u' q r : Nat} (hP : 0 < P) (hu' : u' < P) (hu2 : u2 < B) (hq : q * v1 + r = u0 * B + u1) (hr : r < v1) :
    u0 * (B * (B * P)) + u1 * (B * P) + u2 * P + u' < (q + 1) * (v1 * (B * P) + v2 * P + v') := by
  rw [kn_U, kn_eq]
  have e1 : u0 * B + u1 + 1 ≤ (q + 1) * v1 := by rw [Nat.add_mul]; omega
  have e2 := Nat.mul_le_mul_right (B * P) e1
  rw [Nat.add_mul (u0 * B + u1)] at e2
  have e3 : (u2 + 1) * P ≤ B * P := Nat.mul_le_mul_right P hu2
  rw [Nat.add_mul] at e3
  omega
theorem kn_down {B P v1 v2 v' u0 u1 u2 u' q r : Nat} (hu' : u' < P) (hq : (q + 1) * v1 + r = u0 * B + u1) (hg : r * B + u2 < (q + 1) * v2) :
    u0 * (B * (B * P)) + u1 * (B * P) + u2 * P + u' < (q + 1) * (v1 * (B * P) + v2 * P + v') := by
  rw [kn_U, kn_eq, ← hq, Nat.add_mul ((q + 1) * v1)]
  have e2 := Nat.mul_le_mul_right P hg
  rw [Nat.succ_mul, Nat.add_mul, Nat.mul_assoc r] at e2
  omega
theorem kn_end {B P v1 v2 v' u0 u1 u2 u' q r : Nat} (hv' : v' < P) (hqB : q ≤ B) (hv1 : 0 < v1) (hq : q * v1 + r = u0 * B + u1) (hg : q * v2 ≤ r * B + u2) :
    q * (v1 * (B * P) + v2 * P + v') ≤ (u0 * (B * (B * P)) + u1 * (B * P) + u2 * P + u') + (v1 * (B * P) + v2 * P + v') := by
  rw [kn_U, kn_eq, ← hq, Nat.add_mul (q * v1)]
  have e2 := Nat.mul_le_mul_right P hg
  rw [Nat.add_mul, Nat.mul_assoc r] at e2
  have e3 : q * v' ≤ B * P := Nat.mul_le_mul hqB (Nat.le_of_lt hv')
  have e4 : 1 * (B * P) ≤ v1 * (B * P) := Nat.mul_le_mul_right _ hv1
  omega
theorem kn_end' {B P v1 v2 v' u0 u1 u2 u' : Nat} (hB : 0 < B) (hv' : v' < P) (hv2 : v2 < B) (hv1 : B ≤ 2 * v1) (hu : v1 ≤ u0) :
    (B - 1) * (v1 * (B * P) + v2 * P + v') ≤ (u0 * (B * (B * P)) + u1 * (B * P) + u2 * P + u') + (v1 * (B * P) + v2 * P + v') := by
  have a1 : v2 * P + v' ≤ B * P := by
    have := Nat.mul_le_mul_right P (Nat.succ_le_of_lt hv2)
    rw [Nat.succ_mul] at this; omega
  have a2 := Nat.mul_le_mul_left B a1
  have a3 : v1 * (B * (B * P)) ≤ u0 * (B * (B * P)) := Nat.mul_le_mul_right _ hu
  have a4 := Nat.mul_le_mul_right (B * P) hv1
  have a5 : 2 * v1 * (B * P) = v1 * (B * P) + v1 * (B * P) := by rw [Nat.mul_assoc, Nat.two_mul]
  have a6 : B * (v1 * (B * P) + v2 * P + v') = v1 * (B * (B * P)) + B * (v2 * P + v') := by
    rw [Nat.add_assoc, Nat.mul_add, Nat.mul_left_comm]
  rw [Nat.sub_mul, Nat.one_mul, a6]
  omega
theorem kn_sub {U V Q d c W : Nat} (h1 : d + Q = U + c * W) (hc : c ≤ 1) (hd : d < W) (hU : U < W) (hQ : Q ≤ U + V) (q : Nat) (hq : Q = q * V) (hlt : U < (q + 1) * V) :
    (c = 0 → q * V + d = U ∧ d < V) ∧ (c = 1 → 0 < q ∧ (q - 1) * V + (d + V - W) = U ∧ W ≤ d + V ∧ d + V - W < V) := by
  rw [Nat.add_mul] at hlt
  subst hq
  refine ⟨fun h => ?_, fun h => ?_⟩
  · subst h; omega
  · subst h
    rcases Nat.eq_zero_or_pos q with h0 | h0
    · subst h0; omega
    · obtain ⟨p, rfl⟩ : ∃ p, q = p + 1 := ⟨q - 1, by omega⟩
      rw [Nat.add_sub_cancel]
      rw [Nat.add_mul] at *
      omega
theorem rv_top2 (xs : List Nat) (o m : Nat) : rv xs o (m + 2) = xs.getD (o + (m + 1)) 0 * (18446744073709551616 * 18446744073709551616 ^ m) + xs.getD (o + m) 0 * 18446744073709551616 ^ m + rv xs o m := by
  rw [rv_succ, rv_succ, Nat.pow_succ, Nat.mul_comm (18446744073709551616 ^ m) 18446744073709551616]
  omega
theorem rv_top3 (xs : List Nat) (o m : Nat) : rv xs o (m + 3) = xs.getD (o + (m + 2)) 0 * (18446744073709551616 * (18446744073709551616 * 18446744073709551616 ^ m)) + xs.getD (o + (m + 1)) 0 * (18446744073709551616 * 18446744073709551616 ^ m) + xs.getD (o + m) 0 * 18446744073709551616 ^ m + rv xs o m := by
  rw [rv_succ, rv_top2, Nat.pow_succ, Nat.pow_succ, Nat.mul_comm (18446744073709551616 ^ m) 18446744073709551616, Nat.mul_comm (18446744073709551616 * 18446744073709551616 ^ m) 18446744073709551616]
  omega
structure GS (U V q : Nat) : Prop where
  b : q < 18446744073709551616
  lo : U < (q + 1) * V
  hi : q * V ≤ U + V
structure Dvs (vs : List Nat) (m : Nat) : Prop where
  wd : Wd vs
  top : 9223372036854775808 ≤ vs.getD (m + 1) 0
theorem Dvs.pos {vs : List Nat} {m : Nat} (h : Dvs vs m) : 18446744073709551616 ^ (m + 1) ≤ rv vs 0 (m + 2) := by
  rw [rv_top2, Nat.zero_add, Nat.pow_succ, Nat.mul_comm (18446744073709551616 ^ m) 18446744073709551616]
  have := Nat.mul_le_mul_right (18446744073709551616 * 18446744073709551616 ^ m) (Nat.le_trans (show 1 ≤ 9223372036854775808 by decide) h.top)
  omega
structure G2 (ws vs : List Nat) (j m q r x1 x2 : Nat) : Prop where
  ex : x1 * 18446744073709551616 + x2 = q * vs.getD m 0
  lx : x2 < 18446744073709551616
  er : q * vs.getD (m + 1) 0 + r = ws.getD (j + (m + 2)) 0 * 18446744073709551616 + ws.getD (j + (m + 1)) 0
  lr : r < 18446744073709551616
  lq : q < 18446744073709551616
  lo : rv ws j (m + 3) < (q + 1) * rv vs 0 (m + 2)
theorem G2.start {ws vs : List Nat} {j m q r x1 x2 : Nat} (hv : Dvs vs m) (hw : Wd ws) (hlt : ws.getD (j + (m + 2)) 0 < vs.getD (m + 1) 0)
    (hq : q = (ws.getD (j + (m + 2)) 0 * 18446744073709551616 + ws.getD (j + (m + 1)) 0) / vs.getD (m + 1) 0) (hr : r = (ws.getD (j + (m + 2)) 0 * 18446744073709551616 + ws.getD (j + (m + 1)) 0) % vs.getD (m + 1) 0)
    (h1 : x1 = q * vs.getD m 0 / 18446744073709551616) (h2 : x2 = q * vs.getD m 0 % 18446744073709551616) : G2 ws vs j m q r x1 x2 := by
  have hv1 := hv.top
  have hvl : vs.getD (m + 1) 0 < _ := hv.wd (m + 1)
  have w1 : ws.getD (j + (m + 1)) 0 < _ := hw (j + (m + 1))
  have e : q * vs.getD (m + 1) 0 + r = ws.getD (j + (m + 2)) 0 * 18446744073709551616 + ws.getD (j + (m + 1)) 0 := by
    rw [hq, hr, Nat.mul_comm]; exact Nat.div_add_mod _ _
  have hrl : r < vs.getD (m + 1) 0 := by rw [hr]; exact Nat.mod_lt _ (by omega)
  refine ⟨?_, by rw [h2]; exact Nat.mod_lt _ (by decide), e, by omega, ?_, ?_⟩
  · rw [h1, h2, Nat.mul_comm _ 18446744073709551616]; exact Nat.div_add_mod _ _
  · rw [hq]
    refine (Nat.div_lt_iff_lt_mul (by omega)).2 ?_
    have := Nat.mul_le_mul_right 18446744073709551616 (Nat.succ_le_of_lt hlt)
    rw [Nat.succ_mul, Nat.mul_comm (vs.getD (m + 1) 0)] at this
    omega
  · rw [rv_top3, rv_top2, Nat.zero_add, Nat.zero_add]
    exact kn_start (Nat.pow_pos (by decide)) (rv_lt hw j m) (hw _) e hrl
theorem G2.gs {ws vs : List Nat} {j m q r x1 x2 : Nat} (h : G2 ws vs j m q r x1 x2) (hv : Dvs vs m) (hg : q * vs.getD m 0 ≤ r * 18446744073709551616 + ws.getD (j + m) 0) : GS (rv ws j (m + 3)) (rv vs 0 (m + 2)) q := by
  refine ⟨h.lq, h.lo, ?_⟩
  rw [rv_top3, rv_top2, Nat.zero_add, Nat.zero_add]
  exact kn_end (rv_lt hv.wd 0 m) (Nat.le_of_lt h.lq) (by have := hv.top; omega) h.er hg
theorem sub2 {x1 x2 v t : Nat} (h : x1 * 18446744073709551616 + x2 = t + v) (hx : x2 < 18446744073709551616) (hv : v < 18446744073709551616) :
    (if x2 < v then x1 - 1 else x1) * 18446744073709551616 + (if x2 < v then x2 + 18446744073709551616 - v else x2 - v) = t ∧ (if x2 < v then x2 + 18446744073709551616 - v else x2 - v) < 18446744073709551616 := by
  by_cases h1 : x2 < v
  · rw [if_pos h1, if_pos h1]
    obtain ⟨y, rfl⟩ : ∃ y, x1 = y + 1 := ⟨x1 - 1, by omega⟩
    rw [Nat.add_sub_cancel]
    omega
  · rw [if_neg h1, if_neg h1]; omega
theorem G2.down {ws vs : List Nat} {j m q r x1 x2 : Nat} (h : G2 ws vs j m q r x1 x2) (hv : Dvs vs m) (hw : Wd ws) (hg : r * 18446744073709551616 + ws.getD (j + m) 0 < q * vs.getD m 0) :
    0 < q ∧ (18446744073709551616 ≤ r + vs.getD (m + 1) 0 → GS (rv ws j (m + 3)) (rv vs 0 (m + 2)) (q - 1)) ∧
    (r + vs.getD (m + 1) 0 < 18446744073709551616 → G2 ws vs j m (q - 1) (r + vs.getD (m + 1) 0) (if x2 < vs.getD m 0 then x1 - 1 else x1) (if x2 < vs.getD m 0 then x2 + 18446744073709551616 - vs.getD m 0 else x2 - vs.getD m 0)) := by
  have hq0 : 0 < q := by
    rcases Nat.eq_zero_or_pos q with e | e
    · subst e; rw [Nat.zero_mul] at hg; omega
    · exact e
  obtain ⟨p, rfl⟩ : ∃ p, q = p + 1 := ⟨q - 1, by omega⟩
  have e := h.er
  have hx := h.ex
  have hq := h.lq
  have hx2 := h.lx
  have hv2 : vs.getD m 0 < _ := hv.wd m
  have lo : rv ws j (m + 3) < (p + 1) * rv vs 0 (m + 2) := by
    rw [rv_top3, rv_top2, Nat.zero_add, Nat.zero_add]
    exact kn_down (rv_lt hw j m) e hg
  have e' : p * vs.getD (m + 1) 0 + (r + vs.getD (m + 1) 0) = ws.getD (j + (m + 2)) 0 * 18446744073709551616 + ws.getD (j + (m + 1)) 0 := by
    rw [← e, Nat.succ_mul]; omega
  refine ⟨hq0, fun ho => ?_, fun ho => ?_⟩
  · refine ⟨by omega, by rw [Nat.add_sub_cancel]; exact lo, ?_⟩
    rw [Nat.add_sub_cancel, rv_top3, rv_top2, Nat.zero_add, Nat.zero_add]
    refine kn_end (r := r + vs.getD (m + 1) 0) (rv_lt hv.wd 0 m) (by omega) (by have := hv.top; omega) e' ?_
    have h1 : p * vs.getD m 0 ≤ 18446744073709551616 * 18446744073709551616 := Nat.mul_le_mul (by omega) (Nat.le_of_lt hv2)
    have h2 := Nat.mul_le_mul_right 18446744073709551616 ho
    omega
  · rw [Nat.succ_mul] at hx
    obtain ⟨k1, k2⟩ := sub2 hx hx2 hv2
    exact ⟨by rw [Nat.add_sub_cancel]; exact k1, k2, by rw [Nat.add_sub_cancel]; exact e', ho, by omega, by rw [Nat.add_sub_cancel]; exact lo⟩
theorem GS.max {ws vs : List Nat} {j m : Nat} (hv : Dvs vs m) (hw : Wd ws) (h : rv ws (j + 1) (m + 2) < rv vs 0 (m + 2)) (he : ws.getD (j + (m + 2)) 0 = vs.getD (m + 1) 0) : GS (rv ws j (m + 3)) (rv vs 0 (m + 2)) 18446744073709551615 := by
  have hU : rv ws j (m + 3) < rv vs 0 (m + 2) * 18446744073709551616 := by
    rw [rv_head, Nat.mul_comm (rv vs 0 (m + 2))]
    have := hw j
    omega
  refine ⟨by decide, by rw [Nat.mul_comm]; exact hU, ?_⟩
  rw [rv_top3, rv_top2, Nat.zero_add, Nat.zero_add]
  exact kn_end' (by decide) (rv_lt hv.wd 0 m) (hv.wd _) (by have := hv.top; omega) (by omega)
theorem top_le {ws vs : List Nat} {j m : Nat} (hv : Dvs vs m) (h : rv ws (j + 1) (m + 2) < rv vs 0 (m + 2)) : ws.getD (j + (m + 2)) 0 ≤ vs.getD (m + 1) 0 := by
  rw [rv_succ, rv_succ vs, show j + 1 + (m + 1) = j + (m + 2) by omega, Nat.zero_add] at h
  rcases Nat.lt_or_ge (vs.getD (m + 1) 0) (ws.getD (j + (m + 2)) 0) with e | e
  · have h1 := Nat.mul_le_mul_right (18446744073709551616 ^ (m + 1)) (Nat.succ_le_of_lt e)
    have h2 := rv_lt hv.wd 0 (m + 1)
    rw [Nat.succ_mul] at h1
    omega
  · exact e
end
section
set_option maxRecDepth 100000
structure DI (U0 : Nat) (vs ws qs : List Nat) (T m i : Nat) : Prop where
  w : Wd ws
  q : Wd qs
  lt : rv ws i (m + 2) < rv vs 0 (m + 2)
  e : rv qs i (T - i) * rv vs 0 (m + 2) * 18446744073709551616 ^ i + rv ws 0 (i + (m + 2)) = U0
theorem DI.core {U0 : Nat} {vs ws qs ws' : List Nat} {T m k q d : Nat} (h : DI U0 vs ws qs T m (k + 1)) (hk : k + 1 ≤ T) (hd : rv ws' k (m + 2) = d) (he : q * rv vs 0 (m + 2) + d = rv ws k (m + 3)) (hlt : d < rv vs 0 (m + 2))
    (hlow : ∀ j, j < k → ws'.getD j 0 = ws.getD j 0) (hw : Wd ws') (hq : q < 18446744073709551616) (hl : k < qs.length) : DI U0 vs ws' (qs.set k q) T m k := by
  refine ⟨hw, h.q.set hq, by rw [hd]; exact hlt, ?_⟩
  have e := h.e
  have e1 : rv (qs.set k q) k (T - k) = q + 18446744073709551616 * rv qs (k + 1) (T - (k + 1)) := by
    rw [show T - k = (T - (k + 1)) + 1 by omega, rv_head, getD_set_eq hl, rv_set (by omega)]
  have e2 : rv ws' 0 (k + (m + 2)) = rv ws 0 k + 18446744073709551616 ^ k * d := by
    rw [rv_split, Nat.zero_add, hd, rv_congr (xs := ws') (ys := ws) (o := 0) (o' := 0) (n := k) fun j hj => by rw [Nat.zero_add]; exact hlow j hj]
  have e3 : rv ws 0 (k + 1 + (m + 2)) = rv ws 0 k + 18446744073709551616 ^ k * (q * rv vs 0 (m + 2) + d) := by
    rw [show k + 1 + (m + 2) = k + (m + 3) by omega, rv_split, Nat.zero_add, he]
  rw [e3, Nat.pow_succ] at e
  rw [e1, e2, ← e]
  generalize rv qs (k + 1) (T - (k + 1)) = R
  generalize rv vs 0 (m + 2) = V
  generalize 18446744073709551616 ^ k = P
  rw [Nat.add_mul, Nat.add_mul, Nat.mul_add]
  have a1 : 18446744073709551616 * R * V * P = R * V * (P * 18446744073709551616) := by
    simp only [Nat.mul_comm, Nat.mul_left_comm, Nat.mul_assoc]
  have a2 : q * V * P = P * (q * V) := Nat.mul_comm _ _
  omega
theorem DI.sub {U0 : Nat} {vs ws qs ws' hs : List Nat} {T m k q oh : Nat} (h : DI U0 vs ws qs T m (k + 1)) (hk : k + 1 ≤ T) (hv : Dvs vs m) (g : GS (rv ws k (m + 3)) (rv vs 0 (m + 2)) q) (hs' : SV ws hs k oh (m + 3) 0 ws')
    (hq : rv hs oh (m + 3) = q * rv vs 0 (m + 2)) (hl : k < qs.length) : DI U0 vs ws' (qs.set k q) T m k := by
  have e := hs'.e
  rw [hq] at e
  obtain ⟨k1, -⟩ := kn_sub (d := rv ws' k (m + 3)) (c := 0) e (by decide) (rv_lt hs'.w.wd k (m + 3)) (rv_lt h.w k (m + 3)) g.hi q rfl g.lo
  obtain ⟨k2, k3⟩ := k1 rfl
  have ht : rv ws' k (m + 3) = rv ws' k (m + 2) + ws'.getD (k + (m + 2)) 0 * 18446744073709551616 ^ (m + 2) := rv_succ ws' k (m + 2)
  have hV := rv_lt hv.wd 0 (m + 2)
  have h0 : ws'.getD (k + (m + 2)) 0 = 0 := by
    rcases Nat.eq_zero_or_pos (ws'.getD (k + (m + 2)) 0) with e | e
    · exact e
    · exfalso
      have h1 : 1 * 18446744073709551616 ^ (m + 2) ≤ ws'.getD (k + (m + 2)) 0 * 18446744073709551616 ^ (m + 2) := Nat.mul_le_mul_right _ e
      rw [Nat.one_mul] at h1
      omega
  rw [h0, Nat.zero_mul] at ht
  have ht' : rv ws' k (m + 2) = rv ws' k (m + 3) := by omega
  exact h.core hk rfl (by rw [ht']; exact k2) (by rw [ht']; exact k3) (fun j hj => hs'.w.out j (by omega)) hs'.w.wd g.b hl
theorem DI.add {U0 : Nat} {vs ws qs ws' ws2 hs : List Nat} {T m k q oh c2 : Nat} (h : DI U0 vs ws qs T m (k + 1)) (hk : k + 1 ≤ T) (hv : Dvs vs m) (g : GS (rv ws k (m + 3)) (rv vs 0 (m + 2)) q) (hs' : SV ws hs k oh (m + 3) 1 ws')
    (hq : rv hs oh (m + 3) = q * rv vs 0 (m + 2)) (ha : AV ws' vs k 0 (m + 2) c2 ws2) (hl : k < qs.length) (x : Nat) (hx : x < 18446744073709551616) : 0 < q ∧ DI U0 vs (ws2.set (k + (m + 2)) x) (qs.set k (q - 1)) T m k := by
  have e := hs'.e
  rw [hq] at e
  obtain ⟨-, k1⟩ := kn_sub (d := rv ws' k (m + 3)) (c := 1) e (by decide) (rv_lt hs'.w.wd k (m + 3)) (rv_lt h.w k (m + 3)) g.hi q rfl g.lo
  obtain ⟨k2, k3, k4, k5⟩ := k1 rfl
  have ht : rv ws' k (m + 3) = rv ws' k (m + 2) + ws'.getD (k + (m + 2)) 0 * 18446744073709551616 ^ (m + 2) := rv_succ ws' k (m + 2)
  have hV := rv_lt hv.wd 0 (m + 2)
  have ea := ha.e
  have hX := rv_lt ha.w.wd k (m + 2)
  have e3 : rv ws2 k (m + 2) = rv ws' k (m + 3) + rv vs 0 (m + 2) - 18446744073709551616 ^ (m + 3) := by
    have e4 : 18446744073709551616 ^ (m + 3) = 18446744073709551616 * 18446744073709551616 ^ (m + 2) := by rw [Nat.pow_succ, Nat.mul_comm]
    have e5 : rv ws2 k (m + 2) + (c2 + ws'.getD (k + (m + 2)) 0) * 18446744073709551616 ^ (m + 2) = rv ws' k (m + 3) + rv vs 0 (m + 2) := by
      rw [Nat.add_mul, ht]; omega
    rw [e4] at k4 k5 ⊢
    generalize rv ws2 k (m + 2) = X at *
    generalize c2 + ws'.getD (k + (m + 2)) 0 = t at *
    generalize rv ws' k (m + 3) + rv vs 0 (m + 2) = D at *
    generalize 18446744073709551616 ^ (m + 2) = P at *
    have : t = 18446744073709551616 := by
      rcases Nat.lt_trichotomy t 18446744073709551616 with e | e | e
      · have := Nat.mul_le_mul_right P (Nat.succ_le_of_lt e)
        rw [Nat.succ_mul] at this
        omega
      · exact e
      · have := Nat.mul_le_mul_right P (Nat.succ_le_of_lt e)
        rw [Nat.succ_mul] at this
        omega
    subst this
    omega
  refine ⟨k2, h.core hk (by rw [rv_set (by omega), e3]) k3 k5 (fun j hj => ?_) (ha.w.wd.set hx) (by have := g.b; omega) hl⟩
  rw [getD_set_ne (by omega), ha.w.out j (by omega)]
  exact hs'.w.out j (by omega)
theorem DI.fin {U0 : Nat} {vs ws qs : List Nat} {T m : Nat} (h : DI U0 vs ws qs T m 0) : rv qs 0 T * rv vs 0 (m + 2) + rv ws 0 (m + 2) = U0 := by
  have e := h.e
  rw [Nat.sub_zero, Nat.pow_zero, Nat.mul_one, Nat.zero_add] at e
  exact e
end
section
set_option maxRecDepth 100000
set_option pp.deepTerms false
set_option maxHeartbeats 2000000
variable {V : Addr}
theorem gt_spec {x1 x2 y1 y2 : Nat} (h2 : x2 < 18446744073709551616) (h4 : y2 < 18446744073709551616) : Spec (cx V) 253 #[.int .u64 x1, .int .u64 x2, .int .u64 y1, .int .u64 y2] [] []
    (fun _ : Unit => .bool (decide (y1 * 18446744073709551616 + y2 < x1 * 18446744073709551616 + x2))) (fun _ => []) (fun _ => True) := by
  refine Spec.enter Tryz.func253 rfl Tryz.ntmps253 (by simp) [(0, .int .u64 x1), (1, .int .u64 x2), (2, .int .u64 y1), (3, .int .u64 y2)] (by simp) ?_
  intro X hR
  try simp only [apC, apN]
  refine G.seq (G.region (J.assign rfl rfl (J.nil (G.seq (G.region (J.move rfl rfl (J.move rfl rfl ?_)))))))
  (first | refine J.gtN rfl rfl rfl ?_ | refine J.gtZ rfl rfl rfl ?_)
  refine J.move rfl rfl ?_
  by_cases h : y1 < x1
  · skip
    refine J.sk rfl rfl rfl rfl (J.sk rfl rfl rfl rfl (J.sk rfl rfl rfl rfl (J.sk rfl rfl rfl rfl (J.skipU rfl rfl rfl rfl (J.skipU rfl rfl rfl rfl (J.skipU rfl rfl rfl rfl (J.sk rfl rfl rfl rfl (J.pT rfl rfl rfl ?_))))))))
    refine J.assign rfl rfl (J.nil (G.prune [8] rfl (G.ret (hR _) ?_)))
    exact GL.done () rfl rfl trivial (by show Value.bool (decide _) = Value.bool true; rw [decide_eq_true (by omega)]) [] rfl (by decide) (by simp)
  · by_cases h1 : x1 = y1
    · skip
      refine J.wF rfl rfl (J.move rfl rfl (J.wF rfl rfl (J.move rfl rfl (J.wF rfl rfl ?_))))
      (first | refine J.eqN rfl rfl rfl ?_ | refine J.eqZ rfl rfl rfl ?_)
      refine J.wF rfl rfl (J.move rfl rfl (J.wT rfl rfl (J.move rfl rfl (J.wT rfl rfl (J.move rfl rfl (J.wT rfl rfl ?_))))))
      (first | refine J.gtN rfl rfl rfl ?_ | refine J.gtZ rfl rfl rfl ?_)
      refine J.wF rfl rfl (J.pT rfl rfl rfl (J.pF rfl rfl rfl (J.assign rfl rfl (J.nil (G.prune [8] rfl (G.ret (hR _) ?_))))))
      exact GL.done () rfl rfl trivial (by show Value.bool (decide _) = Value.bool (decide (y2 < x2)); congr 1; exact decide_eq_decide.2 (by omega)) [] rfl (by decide) (by simp)
    · skip
      refine J.wF rfl rfl (J.move rfl rfl (J.wF rfl rfl (J.move rfl rfl (J.wF rfl rfl ?_))))
      (first | refine J.eqN rfl rfl rfl ?_ | refine J.eqZ rfl rfl rfl ?_)
      refine J.wF rfl rfl (J.move rfl rfl (J.sk rfl rfl rfl rfl (J.sk rfl rfl rfl rfl (J.sk rfl rfl rfl rfl (J.wF rfl rfl (J.pF rfl rfl rfl (J.pF rfl rfl rfl (J.assign rfl rfl ?_))))))))
      refine J.nil (G.prune [8] rfl (G.ret (hR _) ?_))
      exact GL.done () rfl rfl trivial (by show Value.bool (decide _) = Value.bool false; rw [decide_eq_false (by omega)]) [] rfl (by decide) (by simp)
theorem DI.start {vs us us1 qs hs : List Nat} {T m oh c : Nat} (hv : Dvs vs m) (hw : Wd us) (hq : Wd qs) (h0 : us.getD (T + (m + 1)) 0 = 0) (hs' : SV us hs T oh (m + 2) c us1) (hh : rv hs oh (m + 2) = 0) :
    c = 0 ∧ DI (rv us 0 (T + (m + 2))) vs us1 qs T m T := by
  have e := hs'.e
  have l1 := rv_lt hs'.w.wd T (m + 2)
  have hc := hs'.lt
  have hc0 : c = 0 := by
    rcases Nat.eq_zero_or_pos c with e' | e'
    · exact e'
    · exfalso
      obtain rfl : c = 1 := by omega
      rw [hh] at e
      omega
  subst hc0
  refine ⟨rfl, hs'.w.wd, hq, ?_, ?_⟩
  · have e1 : rv us T (m + 2) = rv us T (m + 1) + us.getD (T + (m + 1)) 0 * 18446744073709551616 ^ (m + 1) := rv_succ us T (m + 1)
    rw [h0, Nat.zero_mul] at e1
    have := rv_lt hw T (m + 1)
    have := hv.pos
    omega
  · rw [Nat.sub_self, rv_split us1 0 T, rv_split us 0 T, rv_congr (xs := us1) (ys := us) (o := 0) (o' := 0) (n := T) fun j hj => hs'.w.out _ (by omega), Nat.zero_add, show rv us1 T (m + 2) = rv us T (m + 2) by rw [hh] at e; omega]
    simp [rv]
theorem MA.hat {hs0 vs hs : List Nat} {oh m q c : Nat} (h : MA hs0 vs oh 0 q 0 (m + 2) c hs) (hl : oh + (m + 3) ≤ hs0.length) : rv (hs.set (oh + (m + 2)) c) oh (m + 3) = q * rv vs 0 (m + 2) := by
  have e := h.e
  have hlen := h.w.len
  rw [show m + 3 = (m + 2) + 1 from rfl, rv_put (by omega), e, Nat.add_zero, Nat.mul_comm]
theorem MA.zero {hs0 vs hs : List Nat} {oh m c : Nat} (h : MA hs0 vs oh 0 0 0 (m + 2) c hs) (hl : oh + (m + 3) ≤ hs0.length) : c = 0 ∧ rv (hs.set (oh + (m + 2)) c) oh (m + 2) = 0 := by
  have e := h.e
  rw [Nat.mul_zero] at e
  have hp : 0 < 18446744073709551616 ^ (m + 2) := Nat.pow_pos (by decide)
  have hc : c = 0 := by
    rcases Nat.eq_zero_or_pos c with e' | e'
    · exact e'
    · exfalso
      have h1 : 1 * 18446744073709551616 ^ (m + 2) ≤ c * 18446744073709551616 ^ (m + 2) := Nat.mul_le_mul_right _ e'
      omega
  exact ⟨hc, by rw [rv_set (by omega)]; omega⟩
theorem MA.conv {zs0 xs0 ys0 zs : List Nat} {oz ox y r i c : Nat} (h : MA zs0 xs0 oz ox y r i c zs) (e : ∀ j, j < i → xs0.getD (ox + j) 0 = ys0.getD (ox + j) 0) : MA zs0 ys0 oz ox y r i c zs :=
  ⟨h.w, h.lt, by rw [h.e, rv_congr e]⟩
theorem AV.conv {zs0 ys0 ys1 zs : List Nat} {oz oy i c : Nat} (h : AV zs0 ys0 oz oy i c zs) (e : ∀ j, j < i → ys0.getD (oy + j) 0 = ys1.getD (oy + j) 0) : AV zs0 ys1 oz oy i c zs :=
  ⟨h.w, h.lt, by rw [h.e, rv_congr e]⟩
theorem divBasicA {qb ub vb sb T m cq cv  : Nat} {us qs vs : List Nat} (hv : Dvs vs m) (hvl : m + 2 ≤ vs.length) (hu : Wd us) (hul : T + (m + 2) ≤ us.length) (huc : us.length < 9223372036854775808) (hq : Wd qs) (hql : T ≤ qs.length) (hT : 0 < T) (hT9 : T ≤ 100) (hm9 : m ≤ 10) (h0 : us.getD (T + (m + 1)) 0 = 0) (hm1 : m ≤ 1) :
    Spec (cx V) 230 #[.slice (some ⟨qb, 0, none⟩) T cq, .pointer (some ⟨sb, 0, none⟩), .slice (some ⟨ub, 0, none⟩) (T + (m + 2)) us.length, .slice (some ⟨vb, 0, none⟩) (m + 2) cv] [⟨qb, 162, cells .u64 qs, true⟩, ⟨ub, 162, cells .u64 us, true⟩] [⟨vb, 162, cells .u64 vs, false⟩, ⟨sb, 240, [.pointer none], false⟩]
      (fun _ : List Nat × List Nat => .tuple #[]) (fun p => [⟨qb, 162, cells .u64 p.1, true⟩, ⟨ub, 162, cells .u64 p.2, true⟩]) (fun p => DI (rv us 0 (T + (m + 2))) vs p.2 p.1 T m 0 ∧ p.1.length = qs.length ∧ p.2.length = us.length) := by
  have hv1 := hv.top
  have hvw := hv.wd (0 + (m + 1))
  have hvw2 := hv.wd (0 + m)
  have hul2 := hul
  refine Spec.enter Tryz.func230 rfl Tryz.ntmps230 (by simp) [(0, .slice (some ⟨qb, 0, none⟩) T cq), (1, .pointer (some ⟨sb, 0, none⟩)), (2, .slice (some ⟨ub, 0, none⟩) (T + (m + 2)) us.length), (3, .slice (some ⟨vb, 0, none⟩) (m + 2) cv)] (by simp) ?_
  intro X hR
  try simp only [apC, apN]
  refine G.seq (G.region (J.move rfl rfl (J.lenS rfl rfl (J.assign rfl rfl (J.nil (G.seq (G.region (J.move rfl rfl ?_))))))))
  refine J.lenS rfl rfl (J.move rfl rfl ?_)
  (first | refine J.subI rfl rfl rfl (by omega) (by omega) ?_ | refine J.subZ rfl rfl rfl (by omega) (by omega) ?_)
  refine J.assign rfl rfl (J.nil (G.prune [0, 1, 2, 3, 8, 9, 15, 16, 17, 18, 19, 20, 21, 22, 23] rfl (G.seq (G.region (J.move rfl rfl (J.move rfl rfl ?_))))))
  rw [Nat.add_sub_cancel]
  refine J.eff (E.callP (save_nil) [] [3] rfl rfl rfl rfl rfl) rfl fun _ _ => ?_
  try simp only [apC, apN]
  refine J.eff (E.defer rfl) rfl (J.nil (G.prune [0, 1, 2, 3, 8, 9, 15, 16, 17, 18, 19, 20, 21, 22, 23] rfl (G.seq (G.region (J.move rfl rfl (J.move rfl rfl ?_))))))
  (first | refine J.addI rfl rfl rfl (by omega) ?_ | refine J.addZ rfl rfl rfl (by omega) (by omega) ?_)
  refine J.eff (E.callP (snat_small (n := m + 2 + 1) (by omega) (by omega)) [] [3] rfl rfl rfl rfl rfl) rfl fun p hp => ?_
  try simp only [apC, apN]
  obtain ⟨hb, c⟩ := p
  simp only at hp ⊢
  have hhl : (nw (m + 2 + 1) c 11259375).length = m + 2 + 1 + c := nw_len ..
  have hhw : Wd (nw (m + 2 + 1) c 11259375) := nw_wd (by decide)
  generalize nw (m + 2 + 1) c 11259375 = hs at *
  have hh1 : 0 + (m + 3) ≤ hs.length := by omega
  have hh2 : hs.length < 9223372036854775808 := by omega
  refine J.assign rfl rfl (J.nil (G.prune [0, 1, 2, 3, 8, 9, 10, 15, 16, 17, 18, 19, 20, 21, 22, 23] rfl (G.seq (G.region (J.move rfl rfl (J.move rfl rfl ?_))))))
  (first | refine J.subI rfl rfl rfl (by omega) (by omega) ?_ | refine J.subZ rfl rfl rfl (by omega) (by omega) ?_)
  refine J.ix rfl rfl rfl (J.lc rfl rfl rfl (J.assign rfl rfl (J.nil (G.prune [0, 1, 2, 3, 8, 9, 10, 11, 15, 16, 17, 18, 19, 20, 21, 22, 23] rfl (G.seq (G.region (J.move rfl rfl ?_)))))))
  rw [show m + 2 - 1 = m + 1 from rfl]
  refine J.eff (E.callP (recip_spec (d := vs.getD (0 + (m + 1)) 0) (by rw [Nat.zero_add]; omega) hvw) [] [] rfl rfl rfl rfl rfl) rfl fun _ _ => ?_
  try simp only [apC, apN]
  refine J.assign rfl rfl (J.nil (G.seq (G.region (J.assign rfl rfl (J.nil (G.seq (G.region (J.move rfl rfl ?_))))))))
  refine J.assign rfl rfl (J.nil (G.block ?_))
  rw [Nat.zero_add] at hvw hvw2 ⊢
  refine G.loop1 (G.seq (G.seq (G.region (J.move rfl rfl ?_))))
  (first | refine J.geN rfl rfl rfl ?_ | refine J.geZ rfl rfl rfl ?_)
  refine J.nil (G.cT rfl (G.skip (G.seq (G.block (G.seq (G.region (J.assign rfl rfl (J.nil ?_))))))))
  refine G.seq (G.seq (G.region (J.move rfl rfl (J.move rfl rfl ?_))))
  (first | refine J.neN rfl rfl rfl ?_ | refine J.neZ rfl rfl rfl ?_)
  refine J.nil (G.cT rfl (G.seq (G.region (J.assign rfl rfl (J.nil (G.seq (G.region (J.move rfl rfl ?_))))))))
  refine J.move rfl rfl (J.move rfl rfl (J.move rfl rfl ?_))
  (first | refine J.addI rfl rfl rfl (by omega) ?_ | refine J.addZ rfl rfl rfl (by omega) (by omega) ?_)
  (first | refine J.subI rfl rfl rfl (by omega) (by omega) ?_ | refine J.subZ rfl rfl rfl (by omega) (by omega) ?_)
  refine J.ix rfl rfl rfl (J.lc rfl rfl rfl (J.move rfl rfl (J.move rfl rfl ?_)))
  rw [show T + (m + 2) - 1 = T + (m + 1) from rfl, Nat.zero_add, h0]
  refine J.eff (E.callP (divWW_spec (x1 := 0) (x0 := 0) (y := vs.getD (m + 1) 0) (m := recip (vs.getD (m + 1) 0)) (by omega) (by decide) hvw rfl) [] [] rfl rfl rfl rfl rfl) rfl fun _ _ => ?_
  try simp only [apC, apN]
  refine J.move rfl rfl (J.extractL rfl rfl rfl (J.extractL rfl rfl rfl (J.assign rfl rfl (J.assign rfl rfl (J.nil (G.prune [0, 1, 2, 3, 8, 9, 10, 11, 12, 13, 14, 15, 16, 21, 22, 23] rfl (G.seq (G.region ?_))))))))
  refine J.move rfl rfl (J.move rfl rfl ?_)
  (first | refine J.subI rfl rfl rfl (by omega) (by omega) ?_ | refine J.subZ rfl rfl rfl (by omega) (by omega) ?_)
  refine J.ix rfl rfl rfl (J.lc rfl rfl rfl (J.assign rfl rfl (J.nil (G.prune [0, 1, 2, 3, 8, 9, 10, 11, 12, 13, 14, 15, 16, 17, 21, 22, 23] rfl (G.seq (G.region (J.move rfl rfl (J.move rfl rfl ?_))))))))
  rw [show 0 * 18446744073709551616 + 0 = 0 from rfl, Nat.zero_div, Nat.zero_mod, show m + 2 - 2 = m from rfl]
  simp only [Nat.zero_add]
  refine J.eff (E.callP (mulWW_spec (x := 0) (y := vs.getD m 0) (by decide) hvw2) [] [] rfl rfl rfl rfl rfl) rfl fun _ _ => ?_
  try simp only [apC, apN]
  refine J.move rfl rfl (J.extractL rfl rfl rfl (J.extractL rfl rfl rfl (J.assign rfl rfl (J.assign rfl rfl (J.nil (G.prune [0, 1, 2, 3, 8, 9, 10, 11, 12, 13, 14, 15, 16, 17, 18, 19, 21, 22, 23] rfl (G.seq (G.region ?_))))))))
  refine J.move rfl rfl (J.move rfl rfl (J.move rfl rfl ?_))
  (first | refine J.addI rfl rfl rfl (by omega) ?_ | refine J.addZ rfl rfl rfl (by omega) (by omega) ?_)
  (first | refine J.subI rfl rfl rfl (by omega) (by omega) ?_ | refine J.subZ rfl rfl rfl (by omega) (by omega) ?_)
  refine J.ix rfl rfl rfl (J.lc rfl rfl rfl (J.assign rfl rfl (J.nil (G.prune [0, 1, 2, 3, 8, 9, 10, 11, 12, 13, 14, 15, 16, 17, 18, 19, 20, 21, 22, 23] rfl (G.block ?_)))))
  rw [show 0 * vs.getD m 0 / 18446744073709551616 = 0 by rw [Nat.zero_mul], show 0 * vs.getD m 0 % 18446744073709551616 = 0 by rw [Nat.zero_mul], show T + (m + 2) - 2 = T + m from rfl]
  refine G.loop1 (G.seq (G.seq (G.region (J.move rfl rfl (J.move rfl rfl (J.move rfl rfl (J.move rfl rfl (J.eff (E.callP (gt_spec (x1 := 0) (x2 := 0) (y1 := 0) (y2 := us.getD (0 + (T + m)) 0) (by decide) (hu _)) [] [] rfl rfl rfl rfl rfl) rfl fun _ _ => ?_))))))))
  try simp only [apC, apN]
  refine J.nil (G.prune [0, 1, 2, 3, 8, 9, 10, 11, 12, 13, 14, 15, 16, 17, 18, 19, 20, 21, 22, 23, 88] rfl (G.cF rfl (G.exit rfl (G.seq (G.region (J.move rfl rfl (J.move rfl rfl (J.move rfl rfl ?_))))))))
  refine J.move rfl rfl (J.slH0 rfl rfl rfl (by omega) rfl (J.move rfl rfl (J.move rfl rfl (J.eff (E.callP (mulAddVWWO_spec (V := V) (zs0 := hs) (xs0 := vs) (oz := 0) (ox := 0) (n := m + 2) (y := 0) (r := 0) (by omega) hhw (by omega) hv.wd (by omega) (by decide) (by decide)) [0] [2] rfl rfl rfl rfl rfl) rfl fun p hp => ?_))))
  try simp only [apC, apN]
  obtain ⟨c1, hs1⟩ := p
  simp only at hp ⊢
  have hm1l := hp.w.len
  obtain ⟨hc0, hz⟩ := hp.zero (by omega)
  subst hc0
  have hw1 : Wd (hs1.set (0 + (m + 2)) 0) := hp.w.wd.set (by decide)
  have hl1 : (hs1.set (0 + (m + 2)) 0).length = hs.length := by rw [List.length_set]; exact hm1l
  refine J.ix rfl rfl rfl (J.eff (E.sc rfl rfl) rfl (J.nil (G.prune [0, 1, 2, 3, 8, 9, 10, 11, 12, 14, 15, 16, 17, 18, 19, 20, 23] rfl (G.seq (G.region (J.move rfl rfl (J.lenS rfl rfl (J.assign rfl rfl ?_))))))))
  refine J.nil (G.seq (G.seq (G.region (J.move rfl rfl (J.move rfl rfl ?_)))))
  (first | refine J.addI rfl rfl rfl (by omega) ?_ | refine J.addZ rfl rfl rfl (by omega) (by omega) ?_)
  refine J.move rfl rfl (J.lenS rfl rfl ?_)
  (first | refine J.gtN rfl rfl rfl ?_ | refine J.gtZ rfl rfl rfl ?_)
  refine J.move rfl rfl ?_
  have he0 : (hs1.set (0 + (m + 2)) 0).getD (0 + (m + 2)) 0 = 0 := getD_set_eq (by omega)
  refine J.wT rfl rfl (J.move rfl rfl (J.wT rfl rfl (J.move rfl rfl (J.wT rfl rfl (J.ix rfl rfl rfl (J.wT rfl rfl (J.lc rfl rfl rfl (J.wT rfl rfl ?_))))))))
  (first | refine J.eqN rfl rfl rfl ?_ | refine J.eqZ rfl rfl rfl ?_)
  refine J.pT rfl rfl rfl (J.nil (G.prune [0, 1, 2, 3, 8, 9, 10, 11, 12, 14, 15, 16, 17, 18, 19, 20, 21, 23, 128] rfl (G.cT rfl (G.region (J.move rfl rfl ?_)))))
  (first | refine J.subI rfl rfl rfl (by omega) (by omega) ?_ | refine J.subZ rfl rfl rfl (by omega) (by omega) ?_)
  refine J.assign rfl rfl (J.nil (G.seq ?_))
  rw [show m + 2 + 1 - 1 = m + 2 from rfl]
  refine G.regionS [0, 1, 2, 3, 4, 5, 6, 7, 8, 9, 10, 11, 12, 13, 14, 15, 16] none none [] (by kernel_rfl) (SubH.of [] rfl) rfl (J.move rfl rfl (J.move rfl rfl (J.move rfl rfl (J.move rfl rfl ?_))))
  (first | refine J.addI rfl rfl rfl (by omega) ?_ | refine J.addZ rfl rfl rfl (by omega) (by omega) ?_)
  (first | refine J.slLH1 rfl rfl rfl rfl (by omega) (by omega) (by omega) ?_ | refine J.slLHnil rfl rfl rfl rfl (by omega) (by omega) ?_)
  refine J.move rfl rfl (J.move rfl rfl (J.move rfl rfl (J.move rfl rfl ?_)))
  (first | refine J.addI rfl rfl rfl (by omega) ?_ | refine J.addZ rfl rfl rfl (by omega) (by omega) ?_)
  (first | refine J.slLH1 rfl rfl rfl rfl (by omega) (by omega) (by omega) ?_ | refine J.slLHnil rfl rfl rfl rfl (by omega) (by omega) ?_)
  refine J.move rfl rfl (J.move rfl rfl (J.slH rfl rfl rfl (by omega) ?_))
  rw [Nat.add_sub_cancel_left, Nat.zero_add]
  refine J.effH (E.callP (subVV_spec (zs0 := us) (ys0 := hs1.set (0 + (m + 2)) 0) (b2 := hb) (oz := T) (oy := 0) (n := m + 2) (by omega) hu (by omega) hw1 (by omega)) [2] [0] rfl rfl rfl rfl rfl) rfl rfl fun p hp2 => ⟨fun _ => SubH.of [] rfl, ?_⟩
  try simp only [apC, apN]
  obtain ⟨c2, us1⟩ := p
  simp only at hp2 ⊢
  obtain ⟨hc2, hdi⟩ := DI.start hv hu hq h0 hp2 hz
  subst hc2
  have hul1 := hp2.w.len
  refine J.assign rfl rfl (J.nil (G.prune [0, 1, 2, 3, 8, 9, 10, 11, 12, 14, 15, 16, 17, 18, 19, 20, 21, 22, 23] rfl (G.seq (G.seq (G.region (J.move rfl rfl ?_))))))
  (first | refine J.neN rfl rfl rfl ?_ | refine J.neZ rfl rfl rfl ?_)
  refine J.nil (G.cF rfl (G.skip (G.seq (G.region (J.move rfl rfl (J.move rfl rfl (J.move rfl rfl ?_)))))))
  (first | refine J.addI rfl rfl rfl (by omega) ?_ | refine J.addZ rfl rfl rfl (by omega) (by omega) ?_)
  (first | refine J.subI rfl rfl rfl (by omega) (by omega) ?_ | refine J.subZ rfl rfl rfl (by omega) (by omega) ?_)
  refine J.ix rfl rfl rfl (J.lc rfl rfl rfl (J.assign rfl rfl (J.nil (G.prune [0, 1, 2, 3, 8, 9, 10, 11, 12, 13, 14, 15, 16, 17, 18, 19, 20, 21, 22, 23] rfl (G.seq (G.seq (G.region (J.move rfl rfl ?_))))))))
  refine J.move rfl rfl ?_
  (first | refine J.eqN rfl rfl rfl ?_ | refine J.eqZ rfl rfl rfl ?_)
  refine J.move rfl rfl ?_
  rw [show T + (m + 2) - 1 = T + (m + 1) from rfl]
  refine J.wT rfl rfl (J.move rfl rfl (J.wT rfl rfl (J.move rfl rfl (J.wT rfl rfl (J.lenS rfl rfl (J.wT rfl rfl ?_))))))
  (first | refine J.eqN rfl rfl rfl ?_ | refine J.eqZ rfl rfl rfl ?_)
  refine J.pT rfl rfl rfl (J.move rfl rfl (J.wT rfl rfl (J.move rfl rfl (J.wT rfl rfl ?_))))
  (first | refine J.eqN rfl rfl rfl ?_ | refine J.eqZ rfl rfl rfl ?_)
  refine J.pT rfl rfl rfl (J.nil (G.prune [0, 1, 2, 3, 8, 9, 10, 11, 12, 13, 14, 15, 16, 17, 18, 19, 20, 21, 22, 23, 196] rfl (G.cT rfl (G.exit rfl (G.region (J.move rfl rfl ?_))))))
  (first | refine J.subI rfl rfl rfl (by omega) (by omega) ?_ | refine J.subZ rfl rfl rfl (by omega) (by omega) ?_)
  refine J.assign rfl rfl (J.nil ?_)
  rw [Nat.zero_add]
  have hTi : ((T - 1 : Nat) : Int) = (T : Int) - 1 := by omega
  simp only [hTi]
  refine G.loopI (σ := { t : Nat × List Nat × List Nat × List Nat // t.1 ≤ T ∧ DI (rv us 0 (T + (m + 2))) vs t.2.1 t.2.2.1 T m t.1 ∧ t.2.1.length = us.length ∧ t.2.2.1.length = qs.length ∧ t.2.2.2.length = hs.length ∧ Wd t.2.2.2 })
    (fun t => [(0, .slice (some ⟨qb, 0, none⟩) T cq), (1, .pointer (some ⟨sb, 0, none⟩)), (2, .slice (some ⟨ub, 0, none⟩) (T + (m + 2)) us.length), (3, .slice (some ⟨vb, 0, none⟩) (m + 2) cv), (8, .int .i64 ((m + 2 : Nat) : Int)), (9, .int .i64 (T : Nat)), (10, .slice (some ⟨hb, 0, none⟩) (m + 2 + 1) hs.length), (11, .int .u64 (vs.getD (m + 1) 0 : Nat)), (12, .int .u64 (recip (vs.getD (m + 1) 0) : Nat)), (13, .int .u64 (t.1.2.1.getD (t.1.1 + (m + 1)) 0 : Nat)), (14, .int .i64 ((t.1.1 : Int) - 1))]) (fun t => [⟨ub, 162, cells .u64 t.1.2.1, true⟩, ⟨hb, 162, cells .u64 t.1.2.2.2, true⟩, ⟨qb, 162, cells .u64 t.1.2.2.1, true⟩, ⟨vb, 162, cells .u64 vs, false⟩, ⟨sb, 240, [.pointer none], false⟩]) (fun t => t.1.1) ⟨(T, us1, qs, hs1.set (0 + (m + 2)) 0), Nat.le_refl T, hdi, hul1, rfl, hl1, hw1⟩ (by repeat (first | exact SubSlots.nil _ | refine SubSlots.cons rfl ?_)) [0, 1, 2, 3, 4] rfl (by decide) ?_
  clear hdi hp2 he0 hz hp hul1 hw1 hl1 hm1l hs1 us1
  rintro ⟨⟨i, ws, qs', hs'⟩, hi, hd, hwl, hql', hhl', hhw'⟩ ih
  simp only at hi hd hwl hql' hhl' hhw' ih ⊢
  rcases Nat.eq_zero_or_pos i with h00 | h00
  · subst h00
    refine G.seq (G.seq (G.region (J.move rfl rfl ?_)))
    (first | refine J.geN rfl rfl rfl ?_ | refine J.geZ rfl rfl rfl ?_)
    refine J.nil (G.cF rfl (G.exit rfl (G.fall (hR _) ?_)))
    refine GL.deferredP (restore_nilD (V := V) (sb := sb) (n := 0)) [] [4] rfl rfl rfl fun _ _ => ?_
    exact GL.done (qs', ws) rfl rfl ⟨hd, hql', hwl⟩ rfl [2, 0] rfl (by decide) (by simp)
  obtain ⟨k, rfl⟩ : ∃ k, i = k + 1 := ⟨i - 1, by omega⟩
  have hki : ((k + 1 : Nat) : Int) - 1 = (k : Int) := by omega
  have hkm : k + 1 + (m + 1) = k + (m + 2) := by omega
  simp only [hki, hkm] at ih ⊢
  have htop := top_le hv hd.lt
  have hw0 := hd.w (k + (m + 2))
  have hw1 := hd.w (k + (m + 1))
  have hw2 := hd.w (k + m)
  refine G.seq (G.seq (G.region (J.move rfl rfl ?_)))
  (first | refine J.geN rfl rfl rfl ?_ | refine J.geZ rfl rfl rfl ?_)
  refine J.nil (G.cT rfl (G.skip (G.seq (G.block (G.seq (G.region (J.assign rfl rfl (J.nil ?_))))))))
  refine G.seq (G.seq (G.region (J.move rfl rfl (J.move rfl rfl ?_))))
  (first | refine J.neN rfl rfl rfl ?_ | refine J.neZ rfl rfl rfl ?_)
  refine J.nil ?_
  refine G.cut (σ := Nat) (fun q => GS (rv ws k (m + 3)) (rv vs 0 (m + 2)) q) (fun q => [(0, .slice (some ⟨qb, 0, none⟩) T cq), (1, .pointer (some ⟨sb, 0, none⟩)), (2, .slice (some ⟨ub, 0, none⟩) (T + (m + 2)) us.length), (3, .slice (some ⟨vb, 0, none⟩) (m + 2) cv), (8, .int .i64 ((m + 2 : Nat) : Int)), (9, .int .i64 (T : Nat)), (10, .slice (some ⟨hb, 0, none⟩) (m + 2 + 1) hs.length), (11, .int .u64 (vs.getD (m + 1) 0 : Nat)), (12, .int .u64 (recip (vs.getD (m + 1) 0) : Nat)), (14, .int .i64 (k : Int)), (15, .int .u64 (q : Nat))]) (fun _ => [⟨ub, 162, cells .u64 ws, true⟩, ⟨hb, 162, cells .u64 hs', true⟩, ⟨qb, 162, cells .u64 qs', true⟩, ⟨vb, 162, cells .u64 vs, false⟩, ⟨sb, 240, [.pointer none], false⟩]) (fun hk => ?_) ?_
  · skip
    by_cases he : ws.getD (k + (m + 2)) 0 = vs.getD (m + 1) 0
    · skip
      refine G.cF rfl (G.skip ?_)
      exact G.wk [0, 1, 2, 3, 4] (hk 18446744073709551615 (GS.max hv hd.w hd.lt he))
    · have hlt : ws.getD (k + (m + 2)) 0 < vs.getD (m + 1) 0 := by omega
      have hg2 := G2.start (q := (ws.getD (k + (m + 2)) 0 * 18446744073709551616 + ws.getD (k + (m + 1)) 0) / vs.getD (m + 1) 0) hv hd.w hlt rfl rfl rfl rfl
      refine G.cT rfl (G.seq (G.region (J.assign rfl rfl (J.nil (G.seq (G.region (J.move rfl rfl (J.move rfl rfl ?_))))))))
      refine J.move rfl rfl (J.move rfl rfl ?_)
      (first | refine J.addI rfl rfl rfl (by omega) ?_ | refine J.addZ rfl rfl rfl (by omega) (by omega) ?_)
      (first | refine J.subI rfl rfl rfl (by omega) (by omega) ?_ | refine J.subZ rfl rfl rfl (by omega) (by omega) ?_)
      refine J.ix rfl rfl rfl (J.lc rfl rfl rfl (J.move rfl rfl (J.move rfl rfl ?_)))
      rw [show k + (m + 2) - 1 = k + (m + 1) from rfl, Nat.zero_add]
      refine J.eff (E.callP (divWW_spec (x1 := ws.getD (k + (m + 2)) 0) (x0 := ws.getD (k + (m + 1)) 0) (y := vs.getD (m + 1) 0) (m := recip (vs.getD (m + 1) 0)) hlt hw1 hvw rfl) [] [] rfl rfl rfl rfl rfl) rfl fun _ _ => ?_
      try simp only [apC, apN]
      refine J.move rfl rfl (J.extractL rfl rfl rfl (J.extractL rfl rfl rfl (J.assign rfl rfl (J.assign rfl rfl (J.nil (G.prune [0, 1, 2, 3, 8, 9, 10, 11, 12, 13, 14, 15, 16, 21, 22, 23] rfl (G.seq (G.region ?_))))))))
      refine J.move rfl rfl (J.move rfl rfl ?_)
      (first | refine J.subI rfl rfl rfl (by omega) (by omega) ?_ | refine J.subZ rfl rfl rfl (by omega) (by omega) ?_)
      refine J.ix rfl rfl rfl (J.lc rfl rfl rfl (J.assign rfl rfl (J.nil (G.prune [0, 1, 2, 3, 8, 9, 10, 11, 12, 13, 14, 15, 16, 17, 21, 22, 23] rfl (G.seq (G.region (J.move rfl rfl (J.move rfl rfl ?_))))))))
      rw [show m + 2 - 2 = m from rfl]
      rw [Nat.zero_add m]
      generalize (ws.getD (k + (m + 2)) 0 * 18446744073709551616 + ws.getD (k + (m + 1)) 0) / vs.getD (m + 1) 0 = q0 at hg2 ⊢
      generalize (ws.getD (k + (m + 2)) 0 * 18446744073709551616 + ws.getD (k + (m + 1)) 0) % vs.getD (m + 1) 0 = r0 at hg2 ⊢
      refine J.eff (E.callP (mulWW_spec (x := q0) (y := vs.getD m 0) hg2.lq hvw2) [] [] rfl rfl rfl rfl rfl) rfl fun _ _ => ?_
      try simp only [apC, apN]
      refine J.move rfl rfl (J.extractL rfl rfl rfl (J.extractL rfl rfl rfl (J.assign rfl rfl (J.assign rfl rfl (J.nil (G.prune [0, 1, 2, 3, 8, 9, 10, 11, 12, 13, 14, 15, 16, 17, 18, 19, 21, 22, 23] rfl (G.seq (G.region ?_))))))))
      refine J.move rfl rfl (J.move rfl rfl (J.move rfl rfl ?_))
      (first | refine J.addI rfl rfl rfl (by omega) ?_ | refine J.addZ rfl rfl rfl (by omega) (by omega) ?_)
      (first | refine J.subI rfl rfl rfl (by omega) (by omega) ?_ | refine J.subZ rfl rfl rfl (by omega) (by omega) ?_)
      refine J.ix rfl rfl rfl (J.lc rfl rfl rfl (J.assign rfl rfl (J.nil (G.prune [0, 1, 2, 3, 8, 9, 10, 11, 12, 13, 14, 15, 16, 17, 18, 19, 20, 21, 22, 23] rfl (G.block ?_)))))
      simp only [show k + (m + 2) - 2 = k + m from rfl, Nat.zero_add]
      refine G.loopW (σ := { t : Nat × Nat × Nat × Nat // G2 ws vs k m t.1 t.2.1 t.2.2.1 t.2.2.2 }) (fun t => [(0, .slice (some ⟨qb, 0, none⟩) T cq), (1, .pointer (some ⟨sb, 0, none⟩)), (2, .slice (some ⟨ub, 0, none⟩) (T + (m + 2)) us.length), (3, .slice (some ⟨vb, 0, none⟩) (m + 2) cv), (8, .int .i64 ((m + 2 : Nat) : Int)), (9, .int .i64 (T : Nat)), (10, .slice (some ⟨hb, 0, none⟩) (m + 2 + 1) hs.length), (11, .int .u64 (vs.getD (m + 1) 0 : Nat)), (12, .int .u64 (recip (vs.getD (m + 1) 0) : Nat)), (14, .int .i64 (k : Int)), (15, .int .u64 (t.1.1 : Nat)), (16, .int .u64 (t.1.2.1 : Nat)), (17, .int .u64 (vs.getD m 0 : Nat)), (18, .int .u64 (t.1.2.2.1 : Nat)), (19, .int .u64 (t.1.2.2.2 : Nat)), (20, .int .u64 (ws.getD (k + m) 0 : Nat))]) (fun _ => [⟨ub, 162, cells .u64 ws, true⟩, ⟨hb, 162, cells .u64 hs', true⟩, ⟨qb, 162, cells .u64 qs', true⟩, ⟨vb, 162, cells .u64 vs, false⟩, ⟨sb, 240, [.pointer none], false⟩]) (fun t => t.1.1) ⟨(q0, r0, _, _), hg2⟩ (by repeat (first | exact SubSlots.nil _ | refine SubSlots.cons rfl ?_)) [0, 1, 2, 3, 4] rfl (by decide) ?_
      clear hg2 q0 r0
      rintro ⟨⟨q, r, x1, x2⟩, hg⟩ ihh
      simp only at hg ihh ⊢
      have hx2 := hg.lx
      have hrl := hg.lr
      have hql := hg.lq
      have hex := hg.ex
      refine G.seq (G.seq (G.region (J.move rfl rfl (J.move rfl rfl (J.move rfl rfl (J.move rfl rfl (J.eff (E.callP (gt_spec (x1 := x1) (x2 := x2) (y1 := r) (y2 := ws.getD (k + m) 0) hx2 hw2) [] [] rfl rfl rfl rfl rfl) rfl fun _ _ => ?_)))))))
      try simp only [apC, apN]
      refine J.nil (G.prune [0, 1, 2, 3, 8, 9, 10, 11, 12, 13, 14, 15, 16, 17, 18, 19, 20, 21, 22, 23, 88] rfl ?_)
      by_cases hgt : r * 18446744073709551616 + ws.getD (k + m) 0 < x1 * 18446744073709551616 + x2
      · obtain ⟨hq0, hdo, hdn⟩ := hg.down hv hd.w (by rw [← hex]; exact hgt)
        refine G.cT rfl (G.skip (G.block (G.seq (G.region (J.move rfl rfl (J.subA rfl rfl rfl (by first | assumption | decide | omega) fun v90 h90 b90 => J.assign rfl rfl (J.nil ?_)))))))
        refine G.seq (G.region (J.move rfl rfl (J.move rfl rfl (J.addA rfl rfl rfl  fun v93 h93 b93 => J.assign rfl rfl (J.nil (G.prune [0, 1, 2, 3, 8, 9, 10, 11, 12, 13, 14, 15, 16, 17, 18, 19, 20, 21, 22, 23] rfl (G.seq ?_)))))))
        refine G.seq (G.region (J.move rfl rfl (J.move rfl rfl ?_)))
        (first | refine J.ltN rfl rfl rfl ?_ | refine J.ltZ rfl rfl rfl ?_)
        refine J.nil ?_
        obtain rfl : v90 = q - 1 := by omega
        by_cases ho : 18446744073709551616 ≤ r + vs.getD (m + 1) 0
        · have e93 : v93 < vs.getD (m + 1) 0 := by omega
          refine G.cT rfl (G.exit rfl ?_)
          exact G.wk [0, 1, 2, 3, 4] (hk (q - 1) (hdo ho))
        · obtain rfl : v93 = r + vs.getD (m + 1) 0 := by omega
          have hdn' := hdn (by omega)
          refine G.cF rfl (G.skip (G.seq (G.seq (G.region (J.move rfl rfl (J.move rfl rfl ?_))))))
          (first | refine J.gtN rfl rfl rfl ?_ | refine J.gtZ rfl rfl rfl ?_)
          refine J.nil ?_
          by_cases hx : x2 < vs.getD m 0
          · rw [if_pos hx, if_pos hx] at hdn'
            have hx1 : 0 < x1 := by
              have h1 : 1 * vs.getD m 0 ≤ q * vs.getD m 0 := Nat.mul_le_mul_right _ hq0
              omega
            have hx1W : x1 < 18446744073709551616 := by
              have h1 : q * vs.getD m 0 ≤ 18446744073709551615 * 18446744073709551615 := Nat.mul_le_mul (by omega) (by omega)
              omega
            refine G.cT rfl (G.region (J.move rfl rfl (J.subA rfl rfl rfl (by first | assumption | decide | omega) fun v101 h101 b101 => J.assign rfl rfl (J.nil (G.region (J.move rfl rfl (J.move rfl rfl ?_)))))))
            refine J.subA rfl rfl rfl (by first | assumption | decide | omega) fun v104 h104 b104 => J.assign rfl rfl (J.nil (G.prune [0, 1, 2, 3, 8, 9, 10, 11, 12, 13, 14, 15, 16, 17, 18, 19, 20, 21, 22, 23] rfl (G.inBlock ?_)))
            obtain rfl : v101 = x1 - 1 := by omega
            obtain rfl : v104 = x2 + 18446744073709551616 - vs.getD m 0 := by omega
            exact G.wk [0, 1, 2, 3, 4] (ihh ⟨(q - 1, r + vs.getD (m + 1) 0, x1 - 1, x2 + 18446744073709551616 - vs.getD m 0), hdn'⟩ (by simp only; omega))
          · rw [if_neg hx, if_neg hx] at hdn'
            refine G.cF rfl (G.skip (G.region (J.move rfl rfl (J.move rfl rfl (J.subA rfl rfl rfl (by first | assumption | decide | omega) fun v104 h104 b104 => J.assign rfl rfl (J.nil (G.prune [0, 1, 2, 3, 8, 9, 10, 11, 12, 13, 14, 15, 16, 17, 18, 19, 20, 21, 22, 23] rfl ?_)))))))
            refine G.inBlock ?_
            obtain rfl : v104 = x2 - vs.getD m 0 := by omega
            exact G.wk [0, 1, 2, 3, 4] (ihh ⟨(q - 1, r + vs.getD (m + 1) 0, x1, x2 - vs.getD m 0), hdn'⟩ (by simp only; omega))
      · skip
        refine G.cF rfl (G.exit rfl ?_)
        exact G.wk [0, 1, 2, 3, 4] (hk q (hg.gs hv (by rw [← hex]; omega)))
  rintro q hg
  have hql := hg.b
  refine G.seq (G.region (J.move rfl rfl (J.move rfl rfl (J.move rfl rfl (J.move rfl rfl (J.slH0 rfl rfl rfl (by omega) rfl (J.move rfl rfl (J.move rfl rfl ?_))))))))
  refine J.eff (E.callP (mulAddVWWO_spec (V := V) (zs0 := hs') (xs0 := vs) (oz := 0) (ox := 0) (n := m + 2) (y := q) (r := 0) (by omega) hhw' (by omega) hv.wd (by omega) hql (by decide)) [1] [2] rfl rfl rfl rfl rfl) rfl fun p hp => ?_
  try simp only [apC, apN]
  obtain ⟨c1, hs1⟩ := p
  simp only at hp ⊢
  have hl1a := hp.w.len
  have hat := hp.hat (by omega)
  have hw1' : Wd (hs1.set (0 + (m + 2)) c1) := hp.w.wd.set hp.lt
  have hl1 : (hs1.set (0 + (m + 2)) c1).length = hs.length := by rw [List.length_set, hp.w.len]; exact hhl'
  refine J.ix rfl rfl rfl (J.eff (E.sc rfl rfl) rfl (J.nil (G.prune [0, 1, 2, 3, 8, 9, 10, 11, 12, 14, 15, 16, 17, 18, 19, 20, 23] rfl (G.seq (G.region (J.move rfl rfl (J.lenS rfl rfl (J.assign rfl rfl ?_))))))))
  refine J.nil (G.seq (G.seq (G.region (J.move rfl rfl (J.move rfl rfl ?_)))))
  (first | refine J.addI rfl rfl rfl (by omega) ?_ | refine J.addZ rfl rfl rfl (by omega) (by omega) ?_)
  refine J.move rfl rfl (J.lenS rfl rfl ?_)
  (first | refine J.gtN rfl rfl rfl ?_ | refine J.gtZ rfl rfl rfl ?_)
  refine J.move rfl rfl (J.sk rfl rfl rfl rfl (J.sk rfl rfl rfl rfl (J.sk rfl rfl rfl rfl (J.sk rfl rfl rfl rfl (J.sk rfl rfl rfl rfl (J.pF rfl rfl rfl (J.nil (G.prune [0, 1, 2, 3, 8, 9, 10, 11, 12, 14, 15, 16, 17, 18, 19, 20, 21, 23, 128] rfl ?_))))))))
  refine G.cF rfl (G.skip (G.seq (G.regionS [0, 1, 2, 3, 4, 5, 6, 7, 8, 9, 10, 11, 12, 13, 14, 15, 16] none none [] (by kernel_rfl) (SubH.of [] rfl) rfl (J.move rfl rfl (J.move rfl rfl (J.move rfl rfl (J.move rfl rfl ?_)))))))
  (first | refine J.addI rfl rfl rfl (by omega) ?_ | refine J.addZ rfl rfl rfl (by omega) (by omega) ?_)
  (first | refine J.slLH1 rfl rfl rfl rfl (by omega) (by omega) (by omega) ?_ | refine J.slLHnil rfl rfl rfl rfl (by omega) (by omega) ?_)
  refine J.move rfl rfl (J.move rfl rfl (J.move rfl rfl (J.move rfl rfl ?_)))
  (first | refine J.addI rfl rfl rfl (by omega) ?_ | refine J.addZ rfl rfl rfl (by omega) (by omega) ?_)
  (first | refine J.slLH1 rfl rfl rfl rfl (by omega) (by omega) (by omega) ?_ | refine J.slLHnil rfl rfl rfl rfl (by omega) (by omega) ?_)
  refine J.move rfl rfl (J.move rfl rfl (J.slH rfl rfl rfl (by omega) ?_))
  rw [Nat.add_sub_cancel_left, Nat.zero_add]
  refine J.effH (E.callP (subVV_spec (zs0 := ws) (ys0 := hs1.set (0 + (m + 2)) c1) (b2 := hb) (oz := k) (oy := 0) (n := m + 2 + 1) (by omega) hd.w (by omega) hw1' (by omega)) [1] [0] rfl rfl rfl rfl rfl) rfl rfl fun p hp2 => ⟨fun _ => SubH.of [] rfl, ?_⟩
  try simp only [apC, apN]
  obtain ⟨c2, ws1⟩ := p
  simp only at hp2 ⊢
  have hl2 := hp2.w.len
  have hc2 := hp2.lt
  refine J.assign rfl rfl (J.nil (G.prune [0, 1, 2, 3, 8, 9, 10, 11, 12, 14, 15, 16, 17, 18, 19, 20, 21, 22, 23] rfl (G.seq (G.seq (G.region (J.move rfl rfl ?_))))))
  (first | refine J.neN rfl rfl rfl ?_ | refine J.neZ rfl rfl rfl ?_)
  refine J.nil ?_
  refine G.cut (σ := List Nat × Nat) (fun t => DI (rv us 0 (T + (m + 2))) vs t.1 (qs'.set k t.2) T m k ∧ t.1.length = us.length) (fun t => [(0, .slice (some ⟨qb, 0, none⟩) T cq), (1, .pointer (some ⟨sb, 0, none⟩)), (2, .slice (some ⟨ub, 0, none⟩) (T + (m + 2)) us.length), (3, .slice (some ⟨vb, 0, none⟩) (m + 2) cv), (8, .int .i64 ((m + 2 : Nat) : Int)), (9, .int .i64 (T : Nat)), (10, .slice (some ⟨hb, 0, none⟩) (m + 2 + 1) hs.length), (11, .int .u64 (vs.getD (m + 1) 0 : Nat)), (12, .int .u64 (recip (vs.getD (m + 1) 0) : Nat)), (14, .int .i64 (k : Int)), (15, .int .u64 (t.2 : Nat))]) (fun t => [⟨ub, 162, cells .u64 t.1, true⟩, ⟨hb, 162, cells .u64 (hs1.set (0 + (m + 2)) c1), true⟩, ⟨qb, 162, cells .u64 qs', true⟩, ⟨vb, 162, cells .u64 vs, false⟩, ⟨sb, 240, [.pointer none], false⟩]) (fun hk2 => ?_) ?_
  · skip
    by_cases hc0 : c2 = 0
    · subst hc0
      have hdi := hd.sub (by omega) hv hg hp2 hat (by omega)
      refine G.cF rfl (G.skip ?_)
      exact G.wk [0, 1, 2, 3, 4] (hk2 (ws1, q) ⟨hdi, by simp only; omega⟩)
    · obtain rfl : c2 = 1 := by omega
      refine G.cT rfl (G.seq (G.regionS [0, 1, 2, 3, 4, 5, 6, 7, 8, 9, 10, 11, 12, 13, 14] none none [] (by kernel_rfl) (SubH.of [] rfl) rfl (J.move rfl rfl (J.move rfl rfl (J.move rfl rfl (J.move rfl rfl ?_))))))
      (first | refine J.addI rfl rfl rfl (by omega) ?_ | refine J.addZ rfl rfl rfl (by omega) (by omega) ?_)
      (first | refine J.slLH1 rfl rfl rfl rfl (by omega) (by omega) (by omega) ?_ | refine J.slLHnil rfl rfl rfl rfl (by omega) (by omega) ?_)
      refine J.move rfl rfl (J.move rfl rfl (J.move rfl rfl (J.move rfl rfl ?_)))
      (first | refine J.addI rfl rfl rfl (by omega) ?_ | refine J.addZ rfl rfl rfl (by omega) (by omega) ?_)
      (first | refine J.slLH1 rfl rfl rfl rfl (by omega) (by omega) (by omega) ?_ | refine J.slLHnil rfl rfl rfl rfl (by omega) (by omega) ?_)
      refine J.move rfl rfl ?_
      rw [Nat.add_sub_cancel_left, Nat.zero_add]
      refine J.effH (E.callP (addVV_spec (zs0 := ws1) (ys0 := vs) (b2 := vb) (oz := k) (oy := 0) (n := m + 2) (by omega) hp2.w.wd (by omega) hv.wd (by omega)) [0] [2] rfl rfl rfl rfl rfl) rfl rfl fun p hp3 => ⟨fun _ => SubH.of [] rfl, ?_⟩
      try simp only [apC, apN]
      obtain ⟨c3, ws2⟩ := p
      simp only at hp3 ⊢
      have hl3 := hp3.w.len
      refine J.assign rfl rfl (J.nil (G.prune [0, 1, 2, 3, 8, 9, 10, 11, 12, 14, 15, 16, 17, 18, 19, 20, 21, 22, 23] rfl (G.seq (G.seq (G.region (J.move rfl rfl (J.move rfl rfl ?_)))))))
      (first | refine J.ltN rfl rfl rfl ?_ | refine J.ltZ rfl rfl rfl ?_)
      refine J.nil (G.cT rfl (G.region (J.move rfl rfl (J.move rfl rfl (J.move rfl rfl ?_)))))
      (first | refine J.addI rfl rfl rfl (by omega) ?_ | refine J.addZ rfl rfl rfl (by omega) (by omega) ?_)
      refine J.ix rfl rfl rfl (J.lc rfl rfl rfl (J.move rfl rfl (J.addA rfl rfl rfl  fun v173 h173 b173 => J.ix rfl rfl rfl (J.eff (E.sc rfl rfl) rfl (J.nil (G.prune [0, 1, 2, 3, 8, 9, 10, 11, 12, 14, 15, 16, 17, 18, 19, 20, 21, 22, 23] rfl (G.region ?_)))))))
      refine J.move rfl rfl (J.subA rfl rfl rfl (by first | assumption | decide | omega) fun v176 h176 b176 => J.assign rfl rfl (J.nil ?_))
      simp only [Nat.zero_add (k + (m + 2))]
      obtain ⟨hq0, hdi⟩ := hd.add (by omega) hv hg hp2 hat hp3 (by omega) v173 b173
      obtain rfl : v176 = q - 1 := by omega
      exact G.wk [0, 1, 2, 3, 4] (hk2 (ws2.set (k + (m + 2)) v173, q - 1) ⟨hdi, by simp only [List.length_set]; omega⟩)
  rintro ⟨ws2, qd⟩ ⟨hdi, hl4⟩
  simp only at hdi hl4 ⊢
  refine G.seq (G.region (J.move rfl rfl (J.move rfl rfl (J.move rfl rfl ?_))))
  (first | refine J.addI rfl rfl rfl (by omega) ?_ | refine J.addZ rfl rfl rfl (by omega) (by omega) ?_)
  (first | refine J.subI rfl rfl rfl (by omega) (by omega) ?_ | refine J.subZ rfl rfl rfl (by omega) (by omega) ?_)
  refine J.ix rfl rfl rfl (J.lc rfl rfl rfl (J.assign rfl rfl (J.nil (G.prune [0, 1, 2, 3, 8, 9, 10, 11, 12, 13, 14, 15, 16, 17, 18, 19, 20, 21, 22, 23] rfl (G.seq (G.seq (G.region (J.move rfl rfl ?_))))))))
  refine J.move rfl rfl ?_
  (first | refine J.eqN rfl rfl rfl ?_ | refine J.eqZ rfl rfl rfl ?_)
  refine J.move rfl rfl ?_
  rw [show k + (m + 2) - 1 = k + (m + 1) from rfl, Nat.zero_add (k + (m + 1))]
  refine J.sk rfl rfl rfl rfl (J.sk rfl rfl rfl rfl (J.sk rfl rfl rfl rfl (J.sk rfl rfl rfl rfl (J.pF rfl rfl rfl (J.move rfl rfl (J.sk rfl rfl rfl rfl (J.sk rfl rfl rfl rfl (J.pF rfl rfl rfl ?_))))))))
  refine J.nil (G.prune [0, 1, 2, 3, 8, 9, 10, 11, 12, 13, 14, 15, 16, 17, 18, 19, 20, 21, 22, 23, 196] rfl (G.cF rfl (G.skip (G.region (J.move rfl rfl (J.move rfl rfl (J.move rfl rfl (J.ix rfl rfl rfl ?_))))))))
  refine J.eff (E.sc rfl rfl) rfl (J.nil (G.prune [0, 1, 2, 3, 8, 9, 10, 11, 12, 13, 14, 15, 16, 17, 18, 19, 20, 21, 22, 23] rfl (G.inBlock (G.region (J.move rfl rfl ?_)))))
  (first | refine J.subI rfl rfl rfl (by omega) (by omega) ?_ | refine J.subZ rfl rfl rfl (by omega) (by omega) ?_)
  refine J.assign rfl rfl (J.nil ?_)
  simp only [Nat.zero_add k]
  exact G.wk [0, 1, 2, 3, 4] (ih ⟨(k, ws2, qs'.set k qd, hs1.set (0 + (m + 2)) c1), by simp only; omega, hdi, hl4, by simp only [List.length_set]; omega, hl1, hw1'⟩ (by simp only; omega))
theorem divBasicB {qb ub vb sb T m cq cv  : Nat} {us qs vs : List Nat} (hv : Dvs vs m) (hvl : m + 2 ≤ vs.length) (hu : Wd us) (hul : T + (m + 2) ≤ us.length) (huc : us.length < 9223372036854775808) (hq : Wd qs) (hql : T ≤ qs.length) (hT : 0 < T) (hT9 : T ≤ 100) (hm9 : m ≤ 10) (h0 : us.getD (T + (m + 1)) 0 = 0) (hm2 : 2 ≤ m) :
    Spec (cx V) 230 #[.slice (some ⟨qb, 0, none⟩) T cq, .pointer (some ⟨sb, 0, none⟩), .slice (some ⟨ub, 0, none⟩) (T + (m + 2)) us.length, .slice (some ⟨vb, 0, none⟩) (m + 2) cv] [⟨qb, 162, cells .u64 qs, true⟩, ⟨ub, 162, cells .u64 us, true⟩, ⟨sb, 240, [.pointer none], true⟩] [⟨vb, 162, cells .u64 vs, false⟩]
      (fun _ : List Nat × List Nat × Nat × Nat × Nat => .tuple #[]) (fun p => [⟨qb, 162, cells .u64 p.1, true⟩, ⟨ub, 162, cells .u64 p.2.1, true⟩, ⟨sb, 240, [.pointer (some ⟨p.2.2.1, 0, none⟩)], true⟩, ⟨p.2.2.1, 286, [.slice (some ⟨p.2.2.2.1, 0, none⟩) 0 p.2.2.2.2], true⟩]) (fun p => DI (rv us 0 (T + (m + 2))) vs p.2.1 p.1 T m 0 ∧ p.1.length = qs.length ∧ p.2.1.length = us.length) := by
  have hv1 := hv.top
  have hvw := hv.wd (0 + (m + 1))
  have hvw2 := hv.wd (0 + m)
  have hul2 := hul
  refine Spec.enter Tryz.func230 rfl Tryz.ntmps230 (by simp) [(0, .slice (some ⟨qb, 0, none⟩) T cq), (1, .pointer (some ⟨sb, 0, none⟩)), (2, .slice (some ⟨ub, 0, none⟩) (T + (m + 2)) us.length), (3, .slice (some ⟨vb, 0, none⟩) (m + 2) cv)] (by simp) ?_
  intro X hR
  try simp only [apC, apN]
  refine G.seq (G.region (J.move rfl rfl (J.lenS rfl rfl (J.assign rfl rfl (J.nil (G.seq (G.region (J.move rfl rfl ?_))))))))
  refine J.lenS rfl rfl (J.move rfl rfl ?_)
  (first | refine J.subI rfl rfl rfl (by omega) (by omega) ?_ | refine J.subZ rfl rfl rfl (by omega) (by omega) ?_)
  refine J.assign rfl rfl (J.nil (G.prune [0, 1, 2, 3, 8, 9, 15, 16, 17, 18, 19, 20, 21, 22, 23] rfl (G.seq (G.region (J.move rfl rfl (J.move rfl rfl ?_))))))
  rw [Nat.add_sub_cancel]
  refine J.eff (E.callP (save_nil) [] [2] rfl rfl rfl rfl rfl) rfl fun _ _ => ?_
  try simp only [apC, apN]
  refine J.eff (E.defer rfl) rfl (J.nil (G.prune [0, 1, 2, 3, 8, 9, 15, 16, 17, 18, 19, 20, 21, 22, 23] rfl (G.seq (G.region (J.move rfl rfl (J.move rfl rfl ?_))))))
  (first | refine J.addI rfl rfl rfl (by omega) ?_ | refine J.addZ rfl rfl rfl (by omega) (by omega) ?_)
  refine J.eff (E.callP (snat_new (n := m + 2 + 1) (by omega) (by omega)) [2] [] rfl rfl rfl rfl rfl) rfl fun p hp => ?_
  try simp only [apC, apN]
  obtain ⟨ib, hb, c⟩ := p
  simp only at hp ⊢
  have hhl : (nw (r4 (m + 2 + 1)) c 1043915).length = r4 (m + 2 + 1) + c := nw_len ..
  have hhw : Wd (nw (r4 (m + 2 + 1)) c 1043915) := nw_wd (by decide)
  have hr4 := r4_le (m + 2 + 1)
  generalize nw (r4 (m + 2 + 1)) c 1043915 = hs at *
  have hh1 : 0 + (m + 3) ≤ hs.length := by omega
  have hh2 : hs.length < 9223372036854775808 := by omega
  refine J.ord [2, 3, 4, 5, 0, 1] rfl (by decide) ?_
  refine J.assign rfl rfl (J.nil (G.prune [0, 1, 2, 3, 8, 9, 10, 15, 16, 17, 18, 19, 20, 21, 22, 23] rfl (G.seq (G.region (J.move rfl rfl (J.move rfl rfl ?_))))))
  (first | refine J.subI rfl rfl rfl (by omega) (by omega) ?_ | refine J.subZ rfl rfl rfl (by omega) (by omega) ?_)
  refine J.ix rfl rfl rfl (J.lc rfl rfl rfl (J.assign rfl rfl (J.nil (G.prune [0, 1, 2, 3, 8, 9, 10, 11, 15, 16, 17, 18, 19, 20, 21, 22, 23] rfl (G.seq (G.region (J.move rfl rfl ?_)))))))
  rw [show m + 2 - 1 = m + 1 from rfl]
  refine J.eff (E.callP (recip_spec (d := vs.getD (0 + (m + 1)) 0) (by rw [Nat.zero_add]; omega) hvw) [] [] rfl rfl rfl rfl rfl) rfl fun _ _ => ?_
  try simp only [apC, apN]
  refine J.assign rfl rfl (J.nil (G.seq (G.region (J.assign rfl rfl (J.nil (G.seq (G.region (J.move rfl rfl ?_))))))))
  refine J.assign rfl rfl (J.nil (G.block ?_))
  rw [Nat.zero_add] at hvw hvw2 ⊢
  refine G.loop1 (G.seq (G.seq (G.region (J.move rfl rfl ?_))))
  (first | refine J.geN rfl rfl rfl ?_ | refine J.geZ rfl rfl rfl ?_)
  refine J.nil (G.cT rfl (G.skip (G.seq (G.block (G.seq (G.region (J.assign rfl rfl (J.nil ?_))))))))
  refine G.seq (G.seq (G.region (J.move rfl rfl (J.move rfl rfl ?_))))
  (first | refine J.neN rfl rfl rfl ?_ | refine J.neZ rfl rfl rfl ?_)
  refine J.nil (G.cT rfl (G.seq (G.region (J.assign rfl rfl (J.nil (G.seq (G.region (J.move rfl rfl ?_))))))))
  refine J.move rfl rfl (J.move rfl rfl (J.move rfl rfl ?_))
  (first | refine J.addI rfl rfl rfl (by omega) ?_ | refine J.addZ rfl rfl rfl (by omega) (by omega) ?_)
  (first | refine J.subI rfl rfl rfl (by omega) (by omega) ?_ | refine J.subZ rfl rfl rfl (by omega) (by omega) ?_)
  refine J.ix rfl rfl rfl (J.lc rfl rfl rfl (J.move rfl rfl (J.move rfl rfl ?_)))
  rw [show T + (m + 2) - 1 = T + (m + 1) from rfl, Nat.zero_add, h0]
  refine J.eff (E.callP (divWW_spec (x1 := 0) (x0 := 0) (y := vs.getD (m + 1) 0) (m := recip (vs.getD (m + 1) 0)) (by omega) (by decide) hvw rfl) [] [] rfl rfl rfl rfl rfl) rfl fun _ _ => ?_
  try simp only [apC, apN]
  refine J.move rfl rfl (J.extractL rfl rfl rfl (J.extractL rfl rfl rfl (J.assign rfl rfl (J.assign rfl rfl (J.nil (G.prune [0, 1, 2, 3, 8, 9, 10, 11, 12, 13, 14, 15, 16, 21, 22, 23] rfl (G.seq (G.region ?_))))))))
  refine J.move rfl rfl (J.move rfl rfl ?_)
  (first | refine J.subI rfl rfl rfl (by omega) (by omega) ?_ | refine J.subZ rfl rfl rfl (by omega) (by omega) ?_)
  refine J.ix rfl rfl rfl (J.lc rfl rfl rfl (J.assign rfl rfl (J.nil (G.prune [0, 1, 2, 3, 8, 9, 10, 11, 12, 13, 14, 15, 16, 17, 21, 22, 23] rfl (G.seq (G.region (J.move rfl rfl (J.move rfl rfl ?_))))))))
  rw [show 0 * 18446744073709551616 + 0 = 0 from rfl, Nat.zero_div, Nat.zero_mod, show m + 2 - 2 = m from rfl]
  simp only [Nat.zero_add]
  refine J.eff (E.callP (mulWW_spec (x := 0) (y := vs.getD m 0) (by decide) hvw2) [] [] rfl rfl rfl rfl rfl) rfl fun _ _ => ?_
  try simp only [apC, apN]
  refine J.move rfl rfl (J.extractL rfl rfl rfl (J.extractL rfl rfl rfl (J.assign rfl rfl (J.assign rfl rfl (J.nil (G.prune [0, 1, 2, 3, 8, 9, 10, 11, 12, 13, 14, 15, 16, 17, 18, 19, 21, 22, 23] rfl (G.seq (G.region ?_))))))))
  refine J.move rfl rfl (J.move rfl rfl (J.move rfl rfl ?_))
  (first | refine J.addI rfl rfl rfl (by omega) ?_ | refine J.addZ rfl rfl rfl (by omega) (by omega) ?_)
  (first | refine J.subI rfl rfl rfl (by omega) (by omega) ?_ | refine J.subZ rfl rfl rfl (by omega) (by omega) ?_)
  refine J.ix rfl rfl rfl (J.lc rfl rfl rfl (J.assign rfl rfl (J.nil (G.prune [0, 1, 2, 3, 8, 9, 10, 11, 12, 13, 14, 15, 16, 17, 18, 19, 20, 21, 22, 23] rfl (G.block ?_)))))
  rw [show 0 * vs.getD m 0 / 18446744073709551616 = 0 by rw [Nat.zero_mul], show 0 * vs.getD m 0 % 18446744073709551616 = 0 by rw [Nat.zero_mul], show T + (m + 2) - 2 = T + m from rfl]
  refine G.loop1 (G.seq (G.seq (G.region (J.move rfl rfl (J.move rfl rfl (J.move rfl rfl (J.move rfl rfl (J.eff (E.callP (gt_spec (x1 := 0) (x2 := 0) (y1 := 0) (y2 := us.getD (0 + (T + m)) 0) (by decide) (hu _)) [] [] rfl rfl rfl rfl rfl) rfl fun _ _ => ?_))))))))
  try simp only [apC, apN]
  refine J.nil (G.prune [0, 1, 2, 3, 8, 9, 10, 11, 12, 13, 14, 15, 16, 17, 18, 19, 20, 21, 22, 23, 88] rfl (G.cF rfl (G.exit rfl (G.seq (G.region (J.move rfl rfl (J.move rfl rfl (J.move rfl rfl ?_))))))))
  refine J.move rfl rfl (J.slH0 rfl rfl rfl (by omega) rfl (J.move rfl rfl (J.move rfl rfl (J.eff (E.callP (mulAddVWWO_spec (V := V) (zs0 := hs) (xs0 := vs) (oz := 0) (ox := 0) (n := m + 2) (y := 0) (r := 0) (by omega) hhw (by omega) hv.wd (by omega) (by decide) (by decide)) [0] [2] rfl rfl rfl rfl rfl) rfl fun p hp => ?_))))
  try simp only [apC, apN]
  obtain ⟨c1, hs1⟩ := p
  simp only at hp ⊢
  have hm1l := hp.w.len
  obtain ⟨hc0, hz⟩ := hp.zero (by omega)
  subst hc0
  have hw1 : Wd (hs1.set (0 + (m + 2)) 0) := hp.w.wd.set (by decide)
  have hl1 : (hs1.set (0 + (m + 2)) 0).length = hs.length := by rw [List.length_set]; exact hm1l
  refine J.ix rfl rfl rfl (J.eff (E.sc rfl rfl) rfl (J.nil (G.prune [0, 1, 2, 3, 8, 9, 10, 11, 12, 14, 15, 16, 17, 18, 19, 20, 23] rfl (G.seq (G.region (J.move rfl rfl (J.lenS rfl rfl (J.assign rfl rfl ?_))))))))
  refine J.nil (G.seq (G.seq (G.region (J.move rfl rfl (J.move rfl rfl ?_)))))
  (first | refine J.addI rfl rfl rfl (by omega) ?_ | refine J.addZ rfl rfl rfl (by omega) (by omega) ?_)
  refine J.move rfl rfl (J.lenS rfl rfl ?_)
  (first | refine J.gtN rfl rfl rfl ?_ | refine J.gtZ rfl rfl rfl ?_)
  refine J.move rfl rfl ?_
  have he0 : (hs1.set (0 + (m + 2)) 0).getD (0 + (m + 2)) 0 = 0 := getD_set_eq (by omega)
  refine J.wT rfl rfl (J.move rfl rfl (J.wT rfl rfl (J.move rfl rfl (J.wT rfl rfl (J.ix rfl rfl rfl (J.wT rfl rfl (J.lc rfl rfl rfl (J.wT rfl rfl ?_))))))))
  (first | refine J.eqN rfl rfl rfl ?_ | refine J.eqZ rfl rfl rfl ?_)
  refine J.pT rfl rfl rfl (J.nil (G.prune [0, 1, 2, 3, 8, 9, 10, 11, 12, 14, 15, 16, 17, 18, 19, 20, 21, 23, 128] rfl (G.cT rfl (G.region (J.move rfl rfl ?_)))))
  (first | refine J.subI rfl rfl rfl (by omega) (by omega) ?_ | refine J.subZ rfl rfl rfl (by omega) (by omega) ?_)
  refine J.assign rfl rfl (J.nil (G.seq ?_))
  rw [show m + 2 + 1 - 1 = m + 2 from rfl]
  refine G.regionS [0, 1, 2, 3, 4, 5, 6, 7, 8, 9, 10, 11, 12, 13, 14, 15, 16] none none [] (by kernel_rfl) (SubH.of [] rfl) rfl (J.move rfl rfl (J.move rfl rfl (J.move rfl rfl (J.move rfl rfl ?_))))
  (first | refine J.addI rfl rfl rfl (by omega) ?_ | refine J.addZ rfl rfl rfl (by omega) (by omega) ?_)
  (first | refine J.slLH1 rfl rfl rfl rfl (by omega) (by omega) (by omega) ?_ | refine J.slLHnil rfl rfl rfl rfl (by omega) (by omega) ?_)
  refine J.move rfl rfl (J.move rfl rfl (J.move rfl rfl (J.move rfl rfl ?_)))
  (first | refine J.addI rfl rfl rfl (by omega) ?_ | refine J.addZ rfl rfl rfl (by omega) (by omega) ?_)
  (first | refine J.slLH1 rfl rfl rfl rfl (by omega) (by omega) (by omega) ?_ | refine J.slLHnil rfl rfl rfl rfl (by omega) (by omega) ?_)
  refine J.move rfl rfl (J.move rfl rfl (J.slH rfl rfl rfl (by omega) ?_))
  rw [Nat.add_sub_cancel_left, Nat.zero_add]
  refine J.effH (E.callP (subVV_spec (zs0 := us) (ys0 := hs1.set (0 + (m + 2)) 0) (b2 := hb) (oz := T) (oy := 0) (n := m + 2) (by omega) hu (by omega) hw1 (by omega)) [2] [0] rfl rfl rfl rfl rfl) rfl rfl fun p hp2 => ⟨fun _ => SubH.of [] rfl, ?_⟩
  try simp only [apC, apN]
  obtain ⟨c2, us1⟩ := p
  simp only at hp2 ⊢
  obtain ⟨hc2, hdi⟩ := DI.start hv hu hq h0 hp2 hz
  subst hc2
  have hul1 := hp2.w.len
  refine J.assign rfl rfl (J.nil (G.prune [0, 1, 2, 3, 8, 9, 10, 11, 12, 14, 15, 16, 17, 18, 19, 20, 21, 22, 23] rfl (G.seq (G.seq (G.region (J.move rfl rfl ?_))))))
  (first | refine J.neN rfl rfl rfl ?_ | refine J.neZ rfl rfl rfl ?_)
  refine J.nil (G.cF rfl (G.skip (G.seq (G.region (J.move rfl rfl (J.move rfl rfl (J.move rfl rfl ?_)))))))
  (first | refine J.addI rfl rfl rfl (by omega) ?_ | refine J.addZ rfl rfl rfl (by omega) (by omega) ?_)
  (first | refine J.subI rfl rfl rfl (by omega) (by omega) ?_ | refine J.subZ rfl rfl rfl (by omega) (by omega) ?_)
  refine J.ix rfl rfl rfl (J.lc rfl rfl rfl (J.assign rfl rfl (J.nil (G.prune [0, 1, 2, 3, 8, 9, 10, 11, 12, 13, 14, 15, 16, 17, 18, 19, 20, 21, 22, 23] rfl (G.seq (G.seq (G.region (J.move rfl rfl ?_))))))))
  refine J.move rfl rfl ?_
  (first | refine J.eqN rfl rfl rfl ?_ | refine J.eqZ rfl rfl rfl ?_)
  refine J.move rfl rfl ?_
  rw [show T + (m + 2) - 1 = T + (m + 1) from rfl]
  refine J.wT rfl rfl (J.move rfl rfl (J.wT rfl rfl (J.move rfl rfl (J.wT rfl rfl (J.lenS rfl rfl (J.wT rfl rfl ?_))))))
  (first | refine J.eqN rfl rfl rfl ?_ | refine J.eqZ rfl rfl rfl ?_)
  refine J.pT rfl rfl rfl (J.move rfl rfl (J.wT rfl rfl (J.move rfl rfl (J.wT rfl rfl ?_))))
  (first | refine J.eqN rfl rfl rfl ?_ | refine J.eqZ rfl rfl rfl ?_)
  refine J.pT rfl rfl rfl (J.nil (G.prune [0, 1, 2, 3, 8, 9, 10, 11, 12, 13, 14, 15, 16, 17, 18, 19, 20, 21, 22, 23, 196] rfl (G.cT rfl (G.exit rfl (G.region (J.move rfl rfl ?_))))))
  (first | refine J.subI rfl rfl rfl (by omega) (by omega) ?_ | refine J.subZ rfl rfl rfl (by omega) (by omega) ?_)
  refine J.assign rfl rfl (J.nil ?_)
  rw [Nat.zero_add]
  have hTi : ((T - 1 : Nat) : Int) = (T : Int) - 1 := by omega
  simp only [hTi]
  refine G.loopI (σ := { t : Nat × List Nat × List Nat × List Nat // t.1 ≤ T ∧ DI (rv us 0 (T + (m + 2))) vs t.2.1 t.2.2.1 T m t.1 ∧ t.2.1.length = us.length ∧ t.2.2.1.length = qs.length ∧ t.2.2.2.length = hs.length ∧ Wd t.2.2.2 })
    (fun t => [(0, .slice (some ⟨qb, 0, none⟩) T cq), (1, .pointer (some ⟨sb, 0, none⟩)), (2, .slice (some ⟨ub, 0, none⟩) (T + (m + 2)) us.length), (3, .slice (some ⟨vb, 0, none⟩) (m + 2) cv), (8, .int .i64 ((m + 2 : Nat) : Int)), (9, .int .i64 (T : Nat)), (10, .slice (some ⟨hb, 0, none⟩) (m + 2 + 1) (m + 2 + 1)), (11, .int .u64 (vs.getD (m + 1) 0 : Nat)), (12, .int .u64 (recip (vs.getD (m + 1) 0) : Nat)), (13, .int .u64 (t.1.2.1.getD (t.1.1 + (m + 1)) 0 : Nat)), (14, .int .i64 ((t.1.1 : Int) - 1))]) (fun t => [⟨ub, 162, cells .u64 t.1.2.1, true⟩, ⟨hb, 162, cells .u64 t.1.2.2.2, true⟩, ⟨qb, 162, cells .u64 t.1.2.2.1, true⟩, ⟨vb, 162, cells .u64 vs, false⟩, ⟨sb, 240, [.pointer (some ⟨ib, 0, none⟩)], true⟩, ⟨ib, 286, [.slice (some ⟨hb, 0, none⟩) (r4 (m + 2 + 1)) hs.length], true⟩]) (fun t => t.1.1) ⟨(T, us1, qs, hs1.set (0 + (m + 2)) 0), Nat.le_refl T, hdi, hul1, rfl, hl1, hw1⟩ (by repeat (first | exact SubSlots.nil _ | refine SubSlots.cons rfl ?_)) [0, 1, 2, 3, 4, 5] rfl (by decide) ?_
  clear hdi hp2 he0 hz hp hul1 hw1 hl1 hm1l hs1 us1
  rintro ⟨⟨i, ws, qs', hs'⟩, hi, hd, hwl, hql', hhl', hhw'⟩ ih
  simp only at hi hd hwl hql' hhl' hhw' ih ⊢
  rcases Nat.eq_zero_or_pos i with h00 | h00
  · subst h00
    refine G.seq (G.seq (G.region (J.move rfl rfl ?_)))
    (first | refine J.geN rfl rfl rfl ?_ | refine J.geZ rfl rfl rfl ?_)
    refine J.nil (G.cF rfl (G.exit rfl (G.fall (hR _) ?_)))
    refine GL.deferredP (restore_someD (V := V) (sb := sb) (ib := ib) (n := 0) (Nat.zero_le _)) [5] [4] rfl rfl rfl fun _ _ => ?_
    exact GL.done (qs', ws, ib, hb, hs.length) rfl rfl ⟨hd, hql', hwl⟩ rfl [3, 1, 5, 0] rfl (by decide) (by simp)
  obtain ⟨k, rfl⟩ : ∃ k, i = k + 1 := ⟨i - 1, by omega⟩
  have hki : ((k + 1 : Nat) : Int) - 1 = (k : Int) := by omega
  have hkm : k + 1 + (m + 1) = k + (m + 2) := by omega
  simp only [hki, hkm] at ih ⊢
  have htop := top_le hv hd.lt
  have hw0 := hd.w (k + (m + 2))
  have hw1 := hd.w (k + (m + 1))
  have hw2 := hd.w (k + m)
  refine G.seq (G.seq (G.region (J.move rfl rfl ?_)))
  (first | refine J.geN rfl rfl rfl ?_ | refine J.geZ rfl rfl rfl ?_)
  refine J.nil (G.cT rfl (G.skip (G.seq (G.block (G.seq (G.region (J.assign rfl rfl (J.nil ?_))))))))
  refine G.seq (G.seq (G.region (J.move rfl rfl (J.move rfl rfl ?_))))
  (first | refine J.neN rfl rfl rfl ?_ | refine J.neZ rfl rfl rfl ?_)
  refine J.nil ?_
  refine G.cut (σ := Nat) (fun q => GS (rv ws k (m + 3)) (rv vs 0 (m + 2)) q) (fun q => [(0, .slice (some ⟨qb, 0, none⟩) T cq), (1, .pointer (some ⟨sb, 0, none⟩)), (2, .slice (some ⟨ub, 0, none⟩) (T + (m + 2)) us.length), (3, .slice (some ⟨vb, 0, none⟩) (m + 2) cv), (8, .int .i64 ((m + 2 : Nat) : Int)), (9, .int .i64 (T : Nat)), (10, .slice (some ⟨hb, 0, none⟩) (m + 2 + 1) (m + 2 + 1)), (11, .int .u64 (vs.getD (m + 1) 0 : Nat)), (12, .int .u64 (recip (vs.getD (m + 1) 0) : Nat)), (14, .int .i64 (k : Int)), (15, .int .u64 (q : Nat))]) (fun _ => [⟨ub, 162, cells .u64 ws, true⟩, ⟨hb, 162, cells .u64 hs', true⟩, ⟨qb, 162, cells .u64 qs', true⟩, ⟨vb, 162, cells .u64 vs, false⟩, ⟨sb, 240, [.pointer (some ⟨ib, 0, none⟩)], true⟩, ⟨ib, 286, [.slice (some ⟨hb, 0, none⟩) (r4 (m + 2 + 1)) hs.length], true⟩]) (fun hk => ?_) ?_
  · skip
    by_cases he : ws.getD (k + (m + 2)) 0 = vs.getD (m + 1) 0
    · skip
      refine G.cF rfl (G.skip ?_)
      exact G.wk [0, 1, 2, 3, 4, 5] (hk 18446744073709551615 (GS.max hv hd.w hd.lt he))
    · have hlt : ws.getD (k + (m + 2)) 0 < vs.getD (m + 1) 0 := by omega
      have hg2 := G2.start (q := (ws.getD (k + (m + 2)) 0 * 18446744073709551616 + ws.getD (k + (m + 1)) 0) / vs.getD (m + 1) 0) hv hd.w hlt rfl rfl rfl rfl
      refine G.cT rfl (G.seq (G.region (J.assign rfl rfl (J.nil (G.seq (G.region (J.move rfl rfl (J.move rfl rfl ?_))))))))
      refine J.move rfl rfl (J.move rfl rfl ?_)
      (first | refine J.addI rfl rfl rfl (by omega) ?_ | refine J.addZ rfl rfl rfl (by omega) (by omega) ?_)
      (first | refine J.subI rfl rfl rfl (by omega) (by omega) ?_ | refine J.subZ rfl rfl rfl (by omega) (by omega) ?_)
      refine J.ix rfl rfl rfl (J.lc rfl rfl rfl (J.move rfl rfl (J.move rfl rfl ?_)))
      rw [show k + (m + 2) - 1 = k + (m + 1) from rfl, Nat.zero_add]
      refine J.eff (E.callP (divWW_spec (x1 := ws.getD (k + (m + 2)) 0) (x0 := ws.getD (k + (m + 1)) 0) (y := vs.getD (m + 1) 0) (m := recip (vs.getD (m + 1) 0)) hlt hw1 hvw rfl) [] [] rfl rfl rfl rfl rfl) rfl fun _ _ => ?_
      try simp only [apC, apN]
      refine J.move rfl rfl (J.extractL rfl rfl rfl (J.extractL rfl rfl rfl (J.assign rfl rfl (J.assign rfl rfl (J.nil (G.prune [0, 1, 2, 3, 8, 9, 10, 11, 12, 13, 14, 15, 16, 21, 22, 23] rfl (G.seq (G.region ?_))))))))
      refine J.move rfl rfl (J.move rfl rfl ?_)
      (first | refine J.subI rfl rfl rfl (by omega) (by omega) ?_ | refine J.subZ rfl rfl rfl (by omega) (by omega) ?_)
      refine J.ix rfl rfl rfl (J.lc rfl rfl rfl (J.assign rfl rfl (J.nil (G.prune [0, 1, 2, 3, 8, 9, 10, 11, 12, 13, 14, 15, 16, 17, 21, 22, 23] rfl (G.seq (G.region (J.move rfl rfl (J.move rfl rfl ?_))))))))
      rw [show m + 2 - 2 = m from rfl]
      rw [Nat.zero_add m]
      generalize (ws.getD (k + (m + 2)) 0 * 18446744073709551616 + ws.getD (k + (m + 1)) 0) / vs.getD (m + 1) 0 = q0 at hg2 ⊢
      generalize (ws.getD (k + (m + 2)) 0 * 18446744073709551616 + ws.getD (k + (m + 1)) 0) % vs.getD (m + 1) 0 = r0 at hg2 ⊢
      refine J.eff (E.callP (mulWW_spec (x := q0) (y := vs.getD m 0) hg2.lq hvw2) [] [] rfl rfl rfl rfl rfl) rfl fun _ _ => ?_
      try simp only [apC, apN]
      refine J.move rfl rfl (J.extractL rfl rfl rfl (J.extractL rfl rfl rfl (J.assign rfl rfl (J.assign rfl rfl (J.nil (G.prune [0, 1, 2, 3, 8, 9, 10, 11, 12, 13, 14, 15, 16, 17, 18, 19, 21, 22, 23] rfl (G.seq (G.region ?_))))))))
      refine J.move rfl rfl (J.move rfl rfl (J.move rfl rfl ?_))
      (first | refine J.addI rfl rfl rfl (by omega) ?_ | refine J.addZ rfl rfl rfl (by omega) (by omega) ?_)
      (first | refine J.subI rfl rfl rfl (by omega) (by omega) ?_ | refine J.subZ rfl rfl rfl (by omega) (by omega) ?_)
      refine J.ix rfl rfl rfl (J.lc rfl rfl rfl (J.assign rfl rfl (J.nil (G.prune [0, 1, 2, 3, 8, 9, 10, 11, 12, 13, 14, 15, 16, 17, 18, 19, 20, 21, 22, 23] rfl (G.block ?_)))))
      simp only [show k + (m + 2) - 2 = k + m from rfl, Nat.zero_add]
      refine G.loopW (σ := { t : Nat × Nat × Nat × Nat // G2 ws vs k m t.1 t.2.1 t.2.2.1 t.2.2.2 }) (fun t => [(0, .slice (some ⟨qb, 0, none⟩) T cq), (1, .pointer (some ⟨sb, 0, none⟩)), (2, .slice (some ⟨ub, 0, none⟩) (T + (m + 2)) us.length), (3, .slice (some ⟨vb, 0, none⟩) (m + 2) cv), (8, .int .i64 ((m + 2 : Nat) : Int)), (9, .int .i64 (T : Nat)), (10, .slice (some ⟨hb, 0, none⟩) (m + 2 + 1) (m + 2 + 1)), (11, .int .u64 (vs.getD (m + 1) 0 : Nat)), (12, .int .u64 (recip (vs.getD (m + 1) 0) : Nat)), (14, .int .i64 (k : Int)), (15, .int .u64 (t.1.1 : Nat)), (16, .int .u64 (t.1.2.1 : Nat)), (17, .int .u64 (vs.getD m 0 : Nat)), (18, .int .u64 (t.1.2.2.1 : Nat)), (19, .int .u64 (t.1.2.2.2 : Nat)), (20, .int .u64 (ws.getD (k + m) 0 : Nat))]) (fun _ => [⟨ub, 162, cells .u64 ws, true⟩, ⟨hb, 162, cells .u64 hs', true⟩, ⟨qb, 162, cells .u64 qs', true⟩, ⟨vb, 162, cells .u64 vs, false⟩, ⟨sb, 240, [.pointer (some ⟨ib, 0, none⟩)], true⟩, ⟨ib, 286, [.slice (some ⟨hb, 0, none⟩) (r4 (m + 2 + 1)) hs.length], true⟩]) (fun t => t.1.1) ⟨(q0, r0, _, _), hg2⟩ (by repeat (first | exact SubSlots.nil _ | refine SubSlots.cons rfl ?_)) [0, 1, 2, 3, 4, 5] rfl (by decide) ?_
      clear hg2 q0 r0
      rintro ⟨⟨q, r, x1, x2⟩, hg⟩ ihh
      simp only at hg ihh ⊢
      have hx2 := hg.lx
      have hrl := hg.lr
      have hql := hg.lq
      have hex := hg.ex
      refine G.seq (G.seq (G.region (J.move rfl rfl (J.move rfl rfl (J.move rfl rfl (J.move rfl rfl (J.eff (E.callP (gt_spec (x1 := x1) (x2 := x2) (y1 := r) (y2 := ws.getD (k + m) 0) hx2 hw2) [] [] rfl rfl rfl rfl rfl) rfl fun _ _ => ?_)))))))
      try simp only [apC, apN]
      refine J.nil (G.prune [0, 1, 2, 3, 8, 9, 10, 11, 12, 13, 14, 15, 16, 17, 18, 19, 20, 21, 22, 23, 88] rfl ?_)
      by_cases hgt : r * 18446744073709551616 + ws.getD (k + m) 0 < x1 * 18446744073709551616 + x2
      · obtain ⟨hq0, hdo, hdn⟩ := hg.down hv hd.w (by rw [← hex]; exact hgt)
        refine G.cT rfl (G.skip (G.block (G.seq (G.region (J.move rfl rfl (J.subA rfl rfl rfl (by first | assumption | decide | omega) fun v90 h90 b90 => J.assign rfl rfl (J.nil ?_)))))))
        refine G.seq (G.region (J.move rfl rfl (J.move rfl rfl (J.addA rfl rfl rfl  fun v93 h93 b93 => J.assign rfl rfl (J.nil (G.prune [0, 1, 2, 3, 8, 9, 10, 11, 12, 13, 14, 15, 16, 17, 18, 19, 20, 21, 22, 23] rfl (G.seq ?_)))))))
        refine G.seq (G.region (J.move rfl rfl (J.move rfl rfl ?_)))
        (first | refine J.ltN rfl rfl rfl ?_ | refine J.ltZ rfl rfl rfl ?_)
        refine J.nil ?_
        obtain rfl : v90 = q - 1 := by omega
        by_cases ho : 18446744073709551616 ≤ r + vs.getD (m + 1) 0
        · have e93 : v93 < vs.getD (m + 1) 0 := by omega
          refine G.cT rfl (G.exit rfl ?_)
          exact G.wk [0, 1, 2, 3, 4, 5] (hk (q - 1) (hdo ho))
        · obtain rfl : v93 = r + vs.getD (m + 1) 0 := by omega
          have hdn' := hdn (by omega)
          refine G.cF rfl (G.skip (G.seq (G.seq (G.region (J.move rfl rfl (J.move rfl rfl ?_))))))
          (first | refine J.gtN rfl rfl rfl ?_ | refine J.gtZ rfl rfl rfl ?_)
          refine J.nil ?_
          by_cases hx : x2 < vs.getD m 0
          · rw [if_pos hx, if_pos hx] at hdn'
            have hx1 : 0 < x1 := by
              have h1 : 1 * vs.getD m 0 ≤ q * vs.getD m 0 := Nat.mul_le_mul_right _ hq0
              omega
            have hx1W : x1 < 18446744073709551616 := by
              have h1 : q * vs.getD m 0 ≤ 18446744073709551615 * 18446744073709551615 := Nat.mul_le_mul (by omega) (by omega)
              omega
            refine G.cT rfl (G.region (J.move rfl rfl (J.subA rfl rfl rfl (by first | assumption | decide | omega) fun v101 h101 b101 => J.assign rfl rfl (J.nil (G.region (J.move rfl rfl (J.move rfl rfl ?_)))))))
            refine J.subA rfl rfl rfl (by first | assumption | decide | omega) fun v104 h104 b104 => J.assign rfl rfl (J.nil (G.prune [0, 1, 2, 3, 8, 9, 10, 11, 12, 13, 14, 15, 16, 17, 18, 19, 20, 21, 22, 23] rfl (G.inBlock ?_)))
            obtain rfl : v101 = x1 - 1 := by omega
            obtain rfl : v104 = x2 + 18446744073709551616 - vs.getD m 0 := by omega
            exact G.wk [0, 1, 2, 3, 4, 5] (ihh ⟨(q - 1, r + vs.getD (m + 1) 0, x1 - 1, x2 + 18446744073709551616 - vs.getD m 0), hdn'⟩ (by simp only; omega))
          · rw [if_neg hx, if_neg hx] at hdn'
            refine G.cF rfl (G.skip (G.region (J.move rfl rfl (J.move rfl rfl (J.subA rfl rfl rfl (by first | assumption | decide | omega) fun v104 h104 b104 => J.assign rfl rfl (J.nil (G.prune [0, 1, 2, 3, 8, 9, 10, 11, 12, 13, 14, 15, 16, 17, 18, 19, 20, 21, 22, 23] rfl ?_)))))))
            refine G.inBlock ?_
            obtain rfl : v104 = x2 - vs.getD m 0 := by omega
            exact G.wk [0, 1, 2, 3, 4, 5] (ihh ⟨(q - 1, r + vs.getD (m + 1) 0, x1, x2 - vs.getD m 0), hdn'⟩ (by simp only; omega))
      · skip
        refine G.cF rfl (G.exit rfl ?_)
        exact G.wk [0, 1, 2, 3, 4, 5] (hk q (hg.gs hv (by rw [← hex]; omega)))
  rintro q hg
  have hql := hg.b
  refine G.seq (G.region (J.move rfl rfl (J.move rfl rfl (J.move rfl rfl (J.move rfl rfl (J.slH0 rfl rfl rfl (by omega) rfl (J.move rfl rfl (J.move rfl rfl ?_))))))))
  refine J.eff (E.callP (mulAddVWWO_spec (V := V) (zs0 := hs') (xs0 := vs) (oz := 0) (ox := 0) (n := m + 2) (y := q) (r := 0) (by omega) hhw' (by omega) hv.wd (by omega) hql (by decide)) [1] [2] rfl rfl rfl rfl rfl) rfl fun p hp => ?_
  try simp only [apC, apN]
  obtain ⟨c1, hs1⟩ := p
  simp only at hp ⊢
  have hl1a := hp.w.len
  have hat := hp.hat (by omega)
  have hw1' : Wd (hs1.set (0 + (m + 2)) c1) := hp.w.wd.set hp.lt
  have hl1 : (hs1.set (0 + (m + 2)) c1).length = hs.length := by rw [List.length_set, hp.w.len]; exact hhl'
  refine J.ix rfl rfl rfl (J.eff (E.sc rfl rfl) rfl (J.nil (G.prune [0, 1, 2, 3, 8, 9, 10, 11, 12, 14, 15, 16, 17, 18, 19, 20, 23] rfl (G.seq (G.region (J.move rfl rfl (J.lenS rfl rfl (J.assign rfl rfl ?_))))))))
  refine J.nil (G.seq (G.seq (G.region (J.move rfl rfl (J.move rfl rfl ?_)))))
  (first | refine J.addI rfl rfl rfl (by omega) ?_ | refine J.addZ rfl rfl rfl (by omega) (by omega) ?_)
  refine J.move rfl rfl (J.lenS rfl rfl ?_)
  (first | refine J.gtN rfl rfl rfl ?_ | refine J.gtZ rfl rfl rfl ?_)
  refine J.move rfl rfl (J.sk rfl rfl rfl rfl (J.sk rfl rfl rfl rfl (J.sk rfl rfl rfl rfl (J.sk rfl rfl rfl rfl (J.sk rfl rfl rfl rfl (J.pF rfl rfl rfl (J.nil (G.prune [0, 1, 2, 3, 8, 9, 10, 11, 12, 14, 15, 16, 17, 18, 19, 20, 21, 23, 128] rfl ?_))))))))
  refine G.cF rfl (G.skip (G.seq (G.regionS [0, 1, 2, 3, 4, 5, 6, 7, 8, 9, 10, 11, 12, 13, 14, 15, 16] none none [] (by kernel_rfl) (SubH.of [] rfl) rfl (J.move rfl rfl (J.move rfl rfl (J.move rfl rfl (J.move rfl rfl ?_)))))))
  (first | refine J.addI rfl rfl rfl (by omega) ?_ | refine J.addZ rfl rfl rfl (by omega) (by omega) ?_)
  (first | refine J.slLH1 rfl rfl rfl rfl (by omega) (by omega) (by omega) ?_ | refine J.slLHnil rfl rfl rfl rfl (by omega) (by omega) ?_)
  refine J.move rfl rfl (J.move rfl rfl (J.move rfl rfl (J.move rfl rfl ?_)))
  (first | refine J.addI rfl rfl rfl (by omega) ?_ | refine J.addZ rfl rfl rfl (by omega) (by omega) ?_)
  (first | refine J.slLH1 rfl rfl rfl rfl (by omega) (by omega) (by omega) ?_ | refine J.slLHnil rfl rfl rfl rfl (by omega) (by omega) ?_)
  refine J.move rfl rfl (J.move rfl rfl (J.slH rfl rfl rfl (by omega) ?_))
  rw [Nat.add_sub_cancel_left, Nat.zero_add]
  refine J.effH (E.callP (subVV_spec (zs0 := ws) (ys0 := hs1.set (0 + (m + 2)) c1) (b2 := hb) (oz := k) (oy := 0) (n := m + 2 + 1) (by omega) hd.w (by omega) hw1' (by omega)) [1] [0] rfl rfl rfl rfl rfl) rfl rfl fun p hp2 => ⟨fun _ => SubH.of [] rfl, ?_⟩
  try simp only [apC, apN]
  obtain ⟨c2, ws1⟩ := p
  simp only at hp2 ⊢
  have hl2 := hp2.w.len
  have hc2 := hp2.lt
  refine J.assign rfl rfl (J.nil (G.prune [0, 1, 2, 3, 8, 9, 10, 11, 12, 14, 15, 16, 17, 18, 19, 20, 21, 22, 23] rfl (G.seq (G.seq (G.region (J.move rfl rfl ?_))))))
  (first | refine J.neN rfl rfl rfl ?_ | refine J.neZ rfl rfl rfl ?_)
  refine J.nil ?_
  refine G.cut (σ := List Nat × Nat) (fun t => DI (rv us 0 (T + (m + 2))) vs t.1 (qs'.set k t.2) T m k ∧ t.1.length = us.length) (fun t => [(0, .slice (some ⟨qb, 0, none⟩) T cq), (1, .pointer (some ⟨sb, 0, none⟩)), (2, .slice (some ⟨ub, 0, none⟩) (T + (m + 2)) us.length), (3, .slice (some ⟨vb, 0, none⟩) (m + 2) cv), (8, .int .i64 ((m + 2 : Nat) : Int)), (9, .int .i64 (T : Nat)), (10, .slice (some ⟨hb, 0, none⟩) (m + 2 + 1) (m + 2 + 1)), (11, .int .u64 (vs.getD (m + 1) 0 : Nat)), (12, .int .u64 (recip (vs.getD (m + 1) 0) : Nat)), (14, .int .i64 (k : Int)), (15, .int .u64 (t.2 : Nat))]) (fun t => [⟨ub, 162, cells .u64 t.1, true⟩, ⟨hb, 162, cells .u64 (hs1.set (0 + (m + 2)) c1), true⟩, ⟨qb, 162, cells .u64 qs', true⟩, ⟨vb, 162, cells .u64 vs, false⟩, ⟨sb, 240, [.pointer (some ⟨ib, 0, none⟩)], true⟩, ⟨ib, 286, [.slice (some ⟨hb, 0, none⟩) (r4 (m + 2 + 1)) hs.length], true⟩]) (fun hk2 => ?_) ?_
  · skip
    by_cases hc0 : c2 = 0
    · subst hc0
      have hdi := hd.sub (by omega) hv hg hp2 hat (by omega)
      refine G.cF rfl (G.skip ?_)
      exact G.wk [0, 1, 2, 3, 4, 5] (hk2 (ws1, q) ⟨hdi, by simp only; omega⟩)
    · obtain rfl : c2 = 1 := by omega
      refine G.cT rfl (G.seq (G.regionS [0, 1, 2, 3, 4, 5, 6, 7, 8, 9, 10, 11, 12, 13, 14] none none [] (by kernel_rfl) (SubH.of [] rfl) rfl (J.move rfl rfl (J.move rfl rfl (J.move rfl rfl (J.move rfl rfl ?_))))))
      (first | refine J.addI rfl rfl rfl (by omega) ?_ | refine J.addZ rfl rfl rfl (by omega) (by omega) ?_)
      (first | refine J.slLH1 rfl rfl rfl rfl (by omega) (by omega) (by omega) ?_ | refine J.slLHnil rfl rfl rfl rfl (by omega) (by omega) ?_)
      refine J.move rfl rfl (J.move rfl rfl (J.move rfl rfl (J.move rfl rfl ?_)))
      (first | refine J.addI rfl rfl rfl (by omega) ?_ | refine J.addZ rfl rfl rfl (by omega) (by omega) ?_)
      (first | refine J.slLH1 rfl rfl rfl rfl (by omega) (by omega) (by omega) ?_ | refine J.slLHnil rfl rfl rfl rfl (by omega) (by omega) ?_)
      refine J.move rfl rfl ?_
      rw [Nat.add_sub_cancel_left, Nat.zero_add]
      refine J.effH (E.callP (addVV_spec (zs0 := ws1) (ys0 := vs) (b2 := vb) (oz := k) (oy := 0) (n := m + 2) (by omega) hp2.w.wd (by omega) hv.wd (by omega)) [0] [2] rfl rfl rfl rfl rfl) rfl rfl fun p hp3 => ⟨fun _ => SubH.of [] rfl, ?_⟩
      try simp only [apC, apN]
      obtain ⟨c3, ws2⟩ := p
      simp only at hp3 ⊢
      have hl3 := hp3.w.len
      refine J.assign rfl rfl (J.nil (G.prune [0, 1, 2, 3, 8, 9, 10, 11, 12, 14, 15, 16, 17, 18, 19, 20, 21, 22, 23] rfl (G.seq (G.seq (G.region (J.move rfl rfl (J.move rfl rfl ?_)))))))
      (first | refine J.ltN rfl rfl rfl ?_ | refine J.ltZ rfl rfl rfl ?_)
      refine J.nil (G.cT rfl (G.region (J.move rfl rfl (J.move rfl rfl (J.move rfl rfl ?_)))))
      (first | refine J.addI rfl rfl rfl (by omega) ?_ | refine J.addZ rfl rfl rfl (by omega) (by omega) ?_)
      refine J.ix rfl rfl rfl (J.lc rfl rfl rfl (J.move rfl rfl (J.addA rfl rfl rfl  fun v173 h173 b173 => J.ix rfl rfl rfl (J.eff (E.sc rfl rfl) rfl (J.nil (G.prune [0, 1, 2, 3, 8, 9, 10, 11, 12, 14, 15, 16, 17, 18, 19, 20, 21, 22, 23] rfl (G.region ?_)))))))
      refine J.move rfl rfl (J.subA rfl rfl rfl (by first | assumption | decide | omega) fun v176 h176 b176 => J.assign rfl rfl (J.nil ?_))
      simp only [Nat.zero_add (k + (m + 2))]
      obtain ⟨hq0, hdi⟩ := hd.add (by omega) hv hg hp2 hat hp3 (by omega) v173 b173
      obtain rfl : v176 = q - 1 := by omega
      exact G.wk [0, 1, 2, 3, 4, 5] (hk2 (ws2.set (k + (m + 2)) v173, q - 1) ⟨hdi, by simp only [List.length_set]; omega⟩)
  rintro ⟨ws2, qd⟩ ⟨hdi, hl4⟩
  simp only at hdi hl4 ⊢
  refine G.seq (G.region (J.move rfl rfl (J.move rfl rfl (J.move rfl rfl ?_))))
  (first | refine J.addI rfl rfl rfl (by omega) ?_ | refine J.addZ rfl rfl rfl (by omega) (by omega) ?_)
  (first | refine J.subI rfl rfl rfl (by omega) (by omega) ?_ | refine J.subZ rfl rfl rfl (by omega) (by omega) ?_)
  refine J.ix rfl rfl rfl (J.lc rfl rfl rfl (J.assign rfl rfl (J.nil (G.prune [0, 1, 2, 3, 8, 9, 10, 11, 12, 13, 14, 15, 16, 17, 18, 19, 20, 21, 22, 23] rfl (G.seq (G.seq (G.region (J.move rfl rfl ?_))))))))
  refine J.move rfl rfl ?_
  (first | refine J.eqN rfl rfl rfl ?_ | refine J.eqZ rfl rfl rfl ?_)
  refine J.move rfl rfl ?_
  rw [show k + (m + 2) - 1 = k + (m + 1) from rfl, Nat.zero_add (k + (m + 1))]
  refine J.sk rfl rfl rfl rfl (J.sk rfl rfl rfl rfl (J.sk rfl rfl rfl rfl (J.sk rfl rfl rfl rfl (J.pF rfl rfl rfl (J.move rfl rfl (J.sk rfl rfl rfl rfl (J.sk rfl rfl rfl rfl (J.pF rfl rfl rfl ?_))))))))
  refine J.nil (G.prune [0, 1, 2, 3, 8, 9, 10, 11, 12, 13, 14, 15, 16, 17, 18, 19, 20, 21, 22, 23, 196] rfl (G.cF rfl (G.skip (G.region (J.move rfl rfl (J.move rfl rfl (J.move rfl rfl (J.ix rfl rfl rfl ?_))))))))
  refine J.eff (E.sc rfl rfl) rfl (J.nil (G.prune [0, 1, 2, 3, 8, 9, 10, 11, 12, 13, 14, 15, 16, 17, 18, 19, 20, 21, 22, 23] rfl (G.inBlock (G.region (J.move rfl rfl ?_)))))
  (first | refine J.subI rfl rfl rfl (by omega) (by omega) ?_ | refine J.subZ rfl rfl rfl (by omega) (by omega) ?_)
  refine J.assign rfl rfl (J.nil ?_)
  simp only [Nat.zero_add k]
  exact G.wk [0, 1, 2, 3, 4, 5] (ih ⟨(k, ws2, qs'.set k qd, hs1.set (0 + (m + 2)) c1), by simp only; omega, hdi, hl4, by simp only [List.length_set]; omega, hl1, hw1'⟩ (by simp only; omega))
theorem divBasicC {qb ub vb sb T m cq cv ib L : Nat} {us qs vs : List Nat} (hv : Dvs vs m) (hvl : m + 2 ≤ vs.length) (hu : Wd us) (hul : T + (m + 2) ≤ us.length) (huc : us.length < 9223372036854775808) (hq : Wd qs) (hql : T ≤ qs.length) (hT : 0 < T) (hT9 : T ≤ 100) (hm9 : m ≤ 10) (h0 : us.getD (T + (m + 1)) 0 = 0) (hL : m + 2 ≤ L) (hL9 : L ≤ 100) (hLl : L ≤ vs.length) (hvc : vs.length < 9223372036854775808) :
    Spec (cx V) 230 #[.slice (some ⟨qb, 0, none⟩) T cq, .pointer (some ⟨sb, 0, none⟩), .slice (some ⟨ub, 0, none⟩) (T + (m + 2)) us.length, .slice (some ⟨vb, 0, none⟩) (m + 2) cv] [⟨qb, 162, cells .u64 qs, true⟩, ⟨ub, 162, cells .u64 us, true⟩, ⟨ib, 286, [.slice (some ⟨vb, 0, none⟩) L vs.length], true⟩, ⟨vb, 162, cells .u64 vs, true⟩] [⟨sb, 240, [.pointer (some ⟨ib, 0, none⟩)], false⟩]
      (fun _ : List Nat × List Nat × Nat × Nat => .tuple #[]) (fun p => [⟨qb, 162, cells .u64 p.1, true⟩, ⟨ub, 162, cells .u64 p.2.1, true⟩, ⟨ib, 286, [.slice (some ⟨p.2.2.1, 0, none⟩) L p.2.2.2], true⟩]) (fun p => DI (rv us 0 (T + (m + 2))) vs p.2.1 p.1 T m 0 ∧ p.1.length = qs.length ∧ p.2.1.length = us.length) := by
  have hv1 := hv.top
  have hvw := hv.wd (0 + (m + 1))
  have hvw2 := hv.wd (0 + m)
  have hul2 := hul
  refine Spec.enter Tryz.func230 rfl Tryz.ntmps230 (by simp) [(0, .slice (some ⟨qb, 0, none⟩) T cq), (1, .pointer (some ⟨sb, 0, none⟩)), (2, .slice (some ⟨ub, 0, none⟩) (T + (m + 2)) us.length), (3, .slice (some ⟨vb, 0, none⟩) (m + 2) cv)] (by simp) ?_
  intro X hR
  try simp only [apC, apN]
  refine G.seq (G.region (J.move rfl rfl (J.lenS rfl rfl (J.assign rfl rfl (J.nil (G.seq (G.region (J.move rfl rfl ?_))))))))
  refine J.lenS rfl rfl (J.move rfl rfl ?_)
  (first | refine J.subI rfl rfl rfl (by omega) (by omega) ?_ | refine J.subZ rfl rfl rfl (by omega) (by omega) ?_)
  refine J.assign rfl rfl (J.nil (G.prune [0, 1, 2, 3, 8, 9, 15, 16, 17, 18, 19, 20, 21, 22, 23] rfl (G.seq (G.region (J.move rfl rfl (J.move rfl rfl ?_))))))
  rw [Nat.add_sub_cancel]
  refine J.eff (E.callP (save_some (ib := ib) (l := L)) [] [4, 2] rfl rfl rfl rfl rfl) rfl fun _ _ => ?_
  try simp only [apC, apN]
  refine J.eff (E.defer rfl) rfl (J.nil (G.prune [0, 1, 2, 3, 8, 9, 15, 16, 17, 18, 19, 20, 21, 22, 23] rfl (G.seq (G.region (J.move rfl rfl (J.move rfl rfl ?_))))))
  (first | refine J.addI rfl rfl rfl (by omega) ?_ | refine J.addZ rfl rfl rfl (by omega) (by omega) ?_)
  refine J.eff (E.callP (snat_some (n := m + 2 + 1) (L := L) (by omega) (by omega) (by omega) hLl hvc hv.wd) [2, 2] [2] rfl rfl rfl rfl rfl) rfl fun p hp => ?_
  try simp only [apC, apN]
  have hr4 := r4_le (m + 2 + 1)
  rcases p with _ | ⟨hb, hs⟩
  · simp only [inV, inH, gwP, List.cons_append, List.nil_append] at hp ⊢
    have hag : ∀ j, j < m + 2 → (vs.set L 1043915).getD (0 + j) 0 = vs.getD (0 + j) 0 := fun j hj => getD_set_ne (by omega)
    have hhw : Wd (vs.set L 1043915) := hv.wd.set (by decide)
    have hsl : (vs.set L 1043915).length = vs.length := List.length_set ..
    generalize vs.set L 1043915 = hs at hag hhw hsl ⊢
    have hh1 : L + (m + 3) ≤ hs.length := by omega
    have hh2 : hs.length < 9223372036854775808 := by omega
    refine J.ord [1, 2, 3, 0, 4] rfl (by decide) ?_
    refine J.assign rfl rfl (J.nil (G.prune [0, 1, 2, 3, 8, 9, 10, 15, 16, 17, 18, 19, 20, 21, 22, 23] rfl (G.seq (G.region (J.move rfl rfl (J.move rfl rfl ?_))))))
    (first | refine J.subI rfl rfl rfl (by omega) (by omega) ?_ | refine J.subZ rfl rfl rfl (by omega) (by omega) ?_)
    refine J.ix rfl rfl rfl (J.lc rfl rfl rfl (J.assign rfl rfl (J.nil (G.prune [0, 1, 2, 3, 8, 9, 10, 11, 15, 16, 17, 18, 19, 20, 21, 22, 23] rfl (G.seq (G.region (J.move rfl rfl ?_)))))))
    rw [show m + 2 - 1 = m + 1 from rfl]
    rw [hag (m + 1) (by omega)]
    refine J.eff (E.callP (recip_spec (d := vs.getD (0 + (m + 1)) 0) (by rw [Nat.zero_add]; omega) hvw) [] [] rfl rfl rfl rfl rfl) rfl fun _ _ => ?_
    try simp only [apC, apN]
    refine J.assign rfl rfl (J.nil (G.seq (G.region (J.assign rfl rfl (J.nil (G.seq (G.region (J.move rfl rfl ?_))))))))
    refine J.assign rfl rfl (J.nil (G.block ?_))
    rw [Nat.zero_add] at hvw hvw2 ⊢
    refine G.loop1 (G.seq (G.seq (G.region (J.move rfl rfl ?_))))
    (first | refine J.geN rfl rfl rfl ?_ | refine J.geZ rfl rfl rfl ?_)
    refine J.nil (G.cT rfl (G.skip (G.seq (G.block (G.seq (G.region (J.assign rfl rfl (J.nil ?_))))))))
    refine G.seq (G.seq (G.region (J.move rfl rfl (J.move rfl rfl ?_))))
    (first | refine J.neN rfl rfl rfl ?_ | refine J.neZ rfl rfl rfl ?_)
    refine J.nil (G.cT rfl (G.seq (G.region (J.assign rfl rfl (J.nil (G.seq (G.region (J.move rfl rfl ?_))))))))
    refine J.move rfl rfl (J.move rfl rfl (J.move rfl rfl ?_))
    (first | refine J.addI rfl rfl rfl (by omega) ?_ | refine J.addZ rfl rfl rfl (by omega) (by omega) ?_)
    (first | refine J.subI rfl rfl rfl (by omega) (by omega) ?_ | refine J.subZ rfl rfl rfl (by omega) (by omega) ?_)
    refine J.ix rfl rfl rfl (J.lc rfl rfl rfl (J.move rfl rfl (J.move rfl rfl ?_)))
    rw [show T + (m + 2) - 1 = T + (m + 1) from rfl, Nat.zero_add, h0]
    refine J.eff (E.callP (divWW_spec (x1 := 0) (x0 := 0) (y := vs.getD (m + 1) 0) (m := recip (vs.getD (m + 1) 0)) (by omega) (by decide) hvw rfl) [] [] rfl rfl rfl rfl rfl) rfl fun _ _ => ?_
    try simp only [apC, apN]
    refine J.move rfl rfl (J.extractL rfl rfl rfl (J.extractL rfl rfl rfl (J.assign rfl rfl (J.assign rfl rfl (J.nil (G.prune [0, 1, 2, 3, 8, 9, 10, 11, 12, 13, 14, 15, 16, 21, 22, 23] rfl (G.seq (G.region ?_))))))))
    refine J.move rfl rfl (J.move rfl rfl ?_)
    (first | refine J.subI rfl rfl rfl (by omega) (by omega) ?_ | refine J.subZ rfl rfl rfl (by omega) (by omega) ?_)
    refine J.ix rfl rfl rfl (J.lc rfl rfl rfl (J.assign rfl rfl (J.nil (G.prune [0, 1, 2, 3, 8, 9, 10, 11, 12, 13, 14, 15, 16, 17, 21, 22, 23] rfl (G.seq (G.region (J.move rfl rfl (J.move rfl rfl ?_))))))))
    rw [show 0 * 18446744073709551616 + 0 = 0 from rfl, Nat.zero_div, Nat.zero_mod, show m + 2 - 2 = m from rfl]
    rw [hag m (by omega)]
    simp only [Nat.zero_add]
    refine J.eff (E.callP (mulWW_spec (x := 0) (y := vs.getD m 0) (by decide) hvw2) [] [] rfl rfl rfl rfl rfl) rfl fun _ _ => ?_
    try simp only [apC, apN]
    refine J.move rfl rfl (J.extractL rfl rfl rfl (J.extractL rfl rfl rfl (J.assign rfl rfl (J.assign rfl rfl (J.nil (G.prune [0, 1, 2, 3, 8, 9, 10, 11, 12, 13, 14, 15, 16, 17, 18, 19, 21, 22, 23] rfl (G.seq (G.region ?_))))))))
    refine J.move rfl rfl (J.move rfl rfl (J.move rfl rfl ?_))
    (first | refine J.addI rfl rfl rfl (by omega) ?_ | refine J.addZ rfl rfl rfl (by omega) (by omega) ?_)
    (first | refine J.subI rfl rfl rfl (by omega) (by omega) ?_ | refine J.subZ rfl rfl rfl (by omega) (by omega) ?_)
    refine J.ix rfl rfl rfl (J.lc rfl rfl rfl (J.assign rfl rfl (J.nil (G.prune [0, 1, 2, 3, 8, 9, 10, 11, 12, 13, 14, 15, 16, 17, 18, 19, 20, 21, 22, 23] rfl (G.block ?_)))))
    rw [show 0 * vs.getD m 0 / 18446744073709551616 = 0 by rw [Nat.zero_mul], show 0 * vs.getD m 0 % 18446744073709551616 = 0 by rw [Nat.zero_mul], show T + (m + 2) - 2 = T + m from rfl]
    refine G.loop1 (G.seq (G.seq (G.region (J.move rfl rfl (J.move rfl rfl (J.move rfl rfl (J.move rfl rfl (J.eff (E.callP (gt_spec (x1 := 0) (x2 := 0) (y1 := 0) (y2 := us.getD (0 + (T + m)) 0) (by decide) (hu _)) [] [] rfl rfl rfl rfl rfl) rfl fun _ _ => ?_))))))))
    try simp only [apC, apN]
    refine J.nil (G.prune [0, 1, 2, 3, 8, 9, 10, 11, 12, 13, 14, 15, 16, 17, 18, 19, 20, 21, 22, 23, 88] rfl (G.cF rfl (G.exit rfl (G.seq (G.region (J.move rfl rfl (J.move rfl rfl (J.move rfl rfl ?_))))))))
    refine J.move rfl rfl (J.slH0 rfl rfl rfl (by omega) rfl (J.move rfl rfl (J.move rfl rfl (J.eff (E.callP (mulAddVWWS_spec (V := V) (zs0 := hs) (oz := L) (ox := 0) (n := m + 2) (y := 0) (r := 0) (by omega) hhw (by omega) (.inr (by omega)) (by omega) (by decide) (by decide)) [0] [] rfl rfl rfl rfl rfl) rfl fun p hp => ?_))))
    try simp only [apC, apN]
    obtain ⟨c1, hs1⟩ := p
    simp only at hp ⊢
    replace hp := hp.conv (ys0 := vs) hag
    have hm1l := hp.w.len
    obtain ⟨hc0, hz⟩ := hp.zero (by omega)
    subst hc0
    have hag1 : ∀ j, j < m + 2 → (hs1.set (L + (m + 2)) 0).getD (0 + j) 0 = vs.getD (0 + j) 0 := fun j hj => by rw [getD_set_ne (by omega), hp.w.out _ (by omega)]; exact hag j hj
    have hw1 : Wd (hs1.set (L + (m + 2)) 0) := hp.w.wd.set (by decide)
    have hl1 : (hs1.set (L + (m + 2)) 0).length = hs.length := by rw [List.length_set]; exact hm1l
    refine J.ix rfl rfl rfl (J.eff (E.sc rfl rfl) rfl (J.nil (G.prune [0, 1, 2, 3, 8, 9, 10, 11, 12, 14, 15, 16, 17, 18, 19, 20, 23] rfl (G.seq (G.region (J.move rfl rfl (J.lenS rfl rfl (J.assign rfl rfl ?_))))))))
    refine J.nil (G.seq (G.seq (G.region (J.move rfl rfl (J.move rfl rfl ?_)))))
    (first | refine J.addI rfl rfl rfl (by omega) ?_ | refine J.addZ rfl rfl rfl (by omega) (by omega) ?_)
    refine J.move rfl rfl (J.lenS rfl rfl ?_)
    (first | refine J.gtN rfl rfl rfl ?_ | refine J.gtZ rfl rfl rfl ?_)
    refine J.move rfl rfl ?_
    have he0 : (hs1.set (L + (m + 2)) 0).getD (L + (m + 2)) 0 = 0 := getD_set_eq (by omega)
    refine J.wT rfl rfl (J.move rfl rfl (J.wT rfl rfl (J.move rfl rfl (J.wT rfl rfl (J.ix rfl rfl rfl (J.wT rfl rfl (J.lc rfl rfl rfl (J.wT rfl rfl ?_))))))))
    (first | refine J.eqN rfl rfl rfl ?_ | refine J.eqZ rfl rfl rfl ?_)
    refine J.pT rfl rfl rfl (J.nil (G.prune [0, 1, 2, 3, 8, 9, 10, 11, 12, 14, 15, 16, 17, 18, 19, 20, 21, 23, 128] rfl (G.cT rfl (G.region (J.move rfl rfl ?_)))))
    (first | refine J.subI rfl rfl rfl (by omega) (by omega) ?_ | refine J.subZ rfl rfl rfl (by omega) (by omega) ?_)
    refine J.assign rfl rfl (J.nil (G.seq ?_))
    rw [show m + 2 + 1 - 1 = m + 2 from rfl]
    refine G.regionS [0, 1, 2, 3, 4, 5, 6, 7, 8, 9, 10, 11, 12, 13, 14, 15, 16] none none [] (by kernel_rfl) (SubH.of [] rfl) rfl (J.move rfl rfl (J.move rfl rfl (J.move rfl rfl (J.move rfl rfl ?_))))
    (first | refine J.addI rfl rfl rfl (by omega) ?_ | refine J.addZ rfl rfl rfl (by omega) (by omega) ?_)
    (first | refine J.slLH1 rfl rfl rfl rfl (by omega) (by omega) (by omega) ?_ | refine J.slLHnil rfl rfl rfl rfl (by omega) (by omega) ?_)
    refine J.move rfl rfl (J.move rfl rfl (J.move rfl rfl (J.move rfl rfl ?_)))
    (first | refine J.addI rfl rfl rfl (by omega) ?_ | refine J.addZ rfl rfl rfl (by omega) (by omega) ?_)
    (first | refine J.slLH1 rfl rfl rfl rfl (by omega) (by omega) (by omega) ?_ | refine J.slLHnil rfl rfl rfl rfl (by omega) (by omega) ?_)
    refine J.move rfl rfl (J.move rfl rfl (J.slH rfl rfl rfl (by omega) ?_))
    rw [Nat.add_sub_cancel_left, Nat.zero_add]
    refine J.effH (E.callP (subVV_spec (zs0 := us) (ys0 := hs1.set (L + (m + 2)) 0) (b2 := vb) (oz := T) (oy := L) (n := m + 2) (by omega) hu (by omega) hw1 (by omega)) [2] [0] rfl rfl rfl rfl rfl) rfl rfl fun p hp2 => ⟨fun _ => SubH.of [] rfl, ?_⟩
    try simp only [apC, apN]
    obtain ⟨c2, us1⟩ := p
    simp only at hp2 ⊢
    obtain ⟨hc2, hdi⟩ := DI.start hv hu hq h0 hp2 hz
    subst hc2
    have hul1 := hp2.w.len
    refine J.assign rfl rfl (J.nil (G.prune [0, 1, 2, 3, 8, 9, 10, 11, 12, 14, 15, 16, 17, 18, 19, 20, 21, 22, 23] rfl (G.seq (G.seq (G.region (J.move rfl rfl ?_))))))
    (first | refine J.neN rfl rfl rfl ?_ | refine J.neZ rfl rfl rfl ?_)
    refine J.nil (G.cF rfl (G.skip (G.seq (G.region (J.move rfl rfl (J.move rfl rfl (J.move rfl rfl ?_)))))))
    (first | refine J.addI rfl rfl rfl (by omega) ?_ | refine J.addZ rfl rfl rfl (by omega) (by omega) ?_)
    (first | refine J.subI rfl rfl rfl (by omega) (by omega) ?_ | refine J.subZ rfl rfl rfl (by omega) (by omega) ?_)
    refine J.ix rfl rfl rfl (J.lc rfl rfl rfl (J.assign rfl rfl (J.nil (G.prune [0, 1, 2, 3, 8, 9, 10, 11, 12, 13, 14, 15, 16, 17, 18, 19, 20, 21, 22, 23] rfl (G.seq (G.seq (G.region (J.move rfl rfl ?_))))))))
    refine J.move rfl rfl ?_
    (first | refine J.eqN rfl rfl rfl ?_ | refine J.eqZ rfl rfl rfl ?_)
    refine J.move rfl rfl ?_
    rw [show T + (m + 2) - 1 = T + (m + 1) from rfl]
    refine J.wT rfl rfl (J.move rfl rfl (J.wT rfl rfl (J.move rfl rfl (J.wT rfl rfl (J.lenS rfl rfl (J.wT rfl rfl ?_))))))
    (first | refine J.eqN rfl rfl rfl ?_ | refine J.eqZ rfl rfl rfl ?_)
    refine J.pT rfl rfl rfl (J.move rfl rfl (J.wT rfl rfl (J.move rfl rfl (J.wT rfl rfl ?_))))
    (first | refine J.eqN rfl rfl rfl ?_ | refine J.eqZ rfl rfl rfl ?_)
    refine J.pT rfl rfl rfl (J.nil (G.prune [0, 1, 2, 3, 8, 9, 10, 11, 12, 13, 14, 15, 16, 17, 18, 19, 20, 21, 22, 23, 196] rfl (G.cT rfl (G.exit rfl (G.region (J.move rfl rfl ?_))))))
    (first | refine J.subI rfl rfl rfl (by omega) (by omega) ?_ | refine J.subZ rfl rfl rfl (by omega) (by omega) ?_)
    refine J.assign rfl rfl (J.nil ?_)
    rw [Nat.zero_add]
    have hTi : ((T - 1 : Nat) : Int) = (T : Int) - 1 := by omega
    simp only [hTi]
    refine G.loopI (σ := { t : Nat × List Nat × List Nat × List Nat // t.1 ≤ T ∧ DI (rv us 0 (T + (m + 2))) vs t.2.1 t.2.2.1 T m t.1 ∧ t.2.1.length = us.length ∧ t.2.2.1.length = qs.length ∧ t.2.2.2.length = hs.length ∧ Wd t.2.2.2 ∧ ∀ j, j < m + 2 → t.2.2.2.getD (0 + j) 0 = vs.getD (0 + j) 0})
      (fun t => [(0, .slice (some ⟨qb, 0, none⟩) T cq), (1, .pointer (some ⟨sb, 0, none⟩)), (2, .slice (some ⟨ub, 0, none⟩) (T + (m + 2)) us.length), (3, .slice (some ⟨vb, 0, none⟩) (m + 2) cv), (8, .int .i64 ((m + 2 : Nat) : Int)), (9, .int .i64 (T : Nat)), (10, .slice (some ⟨vb, L, none⟩) (m + 2 + 1) (m + 2 + 1)), (11, .int .u64 (vs.getD (m + 1) 0 : Nat)), (12, .int .u64 (recip (vs.getD (m + 1) 0) : Nat)), (13, .int .u64 (t.1.2.1.getD (t.1.1 + (m + 1)) 0 : Nat)), (14, .int .i64 ((t.1.1 : Int) - 1))]) (fun t => [⟨ub, 162, cells .u64 t.1.2.1, true⟩, ⟨vb, 162, cells .u64 t.1.2.2.2, true⟩, ⟨qb, 162, cells .u64 t.1.2.2.1, true⟩, ⟨ib, 286, [.slice (some ⟨vb, 0, none⟩) (L + r4 (m + 2 + 1)) vs.length], true⟩, ⟨sb, 240, [.pointer (some ⟨ib, 0, none⟩)], false⟩]) (fun t => t.1.1) ⟨(T, us1, qs, hs1.set (L + (m + 2)) 0), Nat.le_refl T, hdi, hul1, rfl, hl1, hw1, hag1⟩ (by repeat (first | exact SubSlots.nil _ | refine SubSlots.cons rfl ?_)) [0, 1, 2, 3, 4] rfl (by decide) ?_
    clear hag1 hdi hp2 he0 hz hp hul1 hw1 hl1 hm1l hs1 us1
    rintro ⟨⟨i, ws, qs', hs'⟩, hi, hd, hwl, hql', hhl', hhw', hag'⟩ ih
    simp only at hi hd hwl hql' hhl' hhw' ih ⊢
    rcases Nat.eq_zero_or_pos i with h00 | h00
    · subst h00
      refine G.seq (G.seq (G.region (J.move rfl rfl ?_)))
      (first | refine J.geN rfl rfl rfl ?_ | refine J.geZ rfl rfl rfl ?_)
      refine J.nil (G.cF rfl (G.exit rfl (G.fall (hR _) ?_)))
      refine GL.deferredP (restore_someD (V := V) (sb := sb) (ib := ib) (n := L) (by omega)) [3] [3] rfl rfl rfl fun _ _ => ?_
      exact GL.done (qs', ws, vb, vs.length) rfl rfl ⟨hd, hql', hwl⟩ rfl [3, 1, 0] rfl (by decide) (by simp)
    obtain ⟨k, rfl⟩ : ∃ k, i = k + 1 := ⟨i - 1, by omega⟩
    have hki : ((k + 1 : Nat) : Int) - 1 = (k : Int) := by omega
    have hkm : k + 1 + (m + 1) = k + (m + 2) := by omega
    simp only [hki, hkm] at ih ⊢
    have htop := top_le hv hd.lt
    have hw0 := hd.w (k + (m + 2))
    have hw1 := hd.w (k + (m + 1))
    have hw2 := hd.w (k + m)
    refine G.seq (G.seq (G.region (J.move rfl rfl ?_)))
    (first | refine J.geN rfl rfl rfl ?_ | refine J.geZ rfl rfl rfl ?_)
    refine J.nil (G.cT rfl (G.skip (G.seq (G.block (G.seq (G.region (J.assign rfl rfl (J.nil ?_))))))))
    refine G.seq (G.seq (G.region (J.move rfl rfl (J.move rfl rfl ?_))))
    (first | refine J.neN rfl rfl rfl ?_ | refine J.neZ rfl rfl rfl ?_)
    refine J.nil ?_
    refine G.cut (σ := Nat) (fun q => GS (rv ws k (m + 3)) (rv vs 0 (m + 2)) q) (fun q => [(0, .slice (some ⟨qb, 0, none⟩) T cq), (1, .pointer (some ⟨sb, 0, none⟩)), (2, .slice (some ⟨ub, 0, none⟩) (T + (m + 2)) us.length), (3, .slice (some ⟨vb, 0, none⟩) (m + 2) cv), (8, .int .i64 ((m + 2 : Nat) : Int)), (9, .int .i64 (T : Nat)), (10, .slice (some ⟨vb, L, none⟩) (m + 2 + 1) (m + 2 + 1)), (11, .int .u64 (vs.getD (m + 1) 0 : Nat)), (12, .int .u64 (recip (vs.getD (m + 1) 0) : Nat)), (14, .int .i64 (k : Int)), (15, .int .u64 (q : Nat))]) (fun _ => [⟨ub, 162, cells .u64 ws, true⟩, ⟨vb, 162, cells .u64 hs', true⟩, ⟨qb, 162, cells .u64 qs', true⟩, ⟨ib, 286, [.slice (some ⟨vb, 0, none⟩) (L + r4 (m + 2 + 1)) vs.length], true⟩, ⟨sb, 240, [.pointer (some ⟨ib, 0, none⟩)], false⟩]) (fun hk => ?_) ?_
    · skip
      by_cases he : ws.getD (k + (m + 2)) 0 = vs.getD (m + 1) 0
      · skip
        refine G.cF rfl (G.skip ?_)
        exact G.wk [0, 1, 2, 3, 4] (hk 18446744073709551615 (GS.max hv hd.w hd.lt he))
      · have hlt : ws.getD (k + (m + 2)) 0 < vs.getD (m + 1) 0 := by omega
        have hg2 := G2.start (q := (ws.getD (k + (m + 2)) 0 * 18446744073709551616 + ws.getD (k + (m + 1)) 0) / vs.getD (m + 1) 0) hv hd.w hlt rfl rfl rfl rfl
        refine G.cT rfl (G.seq (G.region (J.assign rfl rfl (J.nil (G.seq (G.region (J.move rfl rfl (J.move rfl rfl ?_))))))))
        refine J.move rfl rfl (J.move rfl rfl ?_)
        (first | refine J.addI rfl rfl rfl (by omega) ?_ | refine J.addZ rfl rfl rfl (by omega) (by omega) ?_)
        (first | refine J.subI rfl rfl rfl (by omega) (by omega) ?_ | refine J.subZ rfl rfl rfl (by omega) (by omega) ?_)
        refine J.ix rfl rfl rfl (J.lc rfl rfl rfl (J.move rfl rfl (J.move rfl rfl ?_)))
        rw [show k + (m + 2) - 1 = k + (m + 1) from rfl, Nat.zero_add]
        refine J.eff (E.callP (divWW_spec (x1 := ws.getD (k + (m + 2)) 0) (x0 := ws.getD (k + (m + 1)) 0) (y := vs.getD (m + 1) 0) (m := recip (vs.getD (m + 1) 0)) hlt hw1 hvw rfl) [] [] rfl rfl rfl rfl rfl) rfl fun _ _ => ?_
        try simp only [apC, apN]
        refine J.move rfl rfl (J.extractL rfl rfl rfl (J.extractL rfl rfl rfl (J.assign rfl rfl (J.assign rfl rfl (J.nil (G.prune [0, 1, 2, 3, 8, 9, 10, 11, 12, 13, 14, 15, 16, 21, 22, 23] rfl (G.seq (G.region ?_))))))))
        refine J.move rfl rfl (J.move rfl rfl ?_)
        (first | refine J.subI rfl rfl rfl (by omega) (by omega) ?_ | refine J.subZ rfl rfl rfl (by omega) (by omega) ?_)
        refine J.ix rfl rfl rfl (J.lc rfl rfl rfl (J.assign rfl rfl (J.nil (G.prune [0, 1, 2, 3, 8, 9, 10, 11, 12, 13, 14, 15, 16, 17, 21, 22, 23] rfl (G.seq (G.region (J.move rfl rfl (J.move rfl rfl ?_))))))))
        rw [show m + 2 - 2 = m from rfl]
        rw [hag' m (by omega)]
        rw [Nat.zero_add m]
        generalize (ws.getD (k + (m + 2)) 0 * 18446744073709551616 + ws.getD (k + (m + 1)) 0) / vs.getD (m + 1) 0 = q0 at hg2 ⊢
        generalize (ws.getD (k + (m + 2)) 0 * 18446744073709551616 + ws.getD (k + (m + 1)) 0) % vs.getD (m + 1) 0 = r0 at hg2 ⊢
        refine J.eff (E.callP (mulWW_spec (x := q0) (y := vs.getD m 0) hg2.lq hvw2) [] [] rfl rfl rfl rfl rfl) rfl fun _ _ => ?_
        try simp only [apC, apN]
        refine J.move rfl rfl (J.extractL rfl rfl rfl (J.extractL rfl rfl rfl (J.assign rfl rfl (J.assign rfl rfl (J.nil (G.prune [0, 1, 2, 3, 8, 9, 10, 11, 12, 13, 14, 15, 16, 17, 18, 19, 21, 22, 23] rfl (G.seq (G.region ?_))))))))
        refine J.move rfl rfl (J.move rfl rfl (J.move rfl rfl ?_))
        (first | refine J.addI rfl rfl rfl (by omega) ?_ | refine J.addZ rfl rfl rfl (by omega) (by omega) ?_)
        (first | refine J.subI rfl rfl rfl (by omega) (by omega) ?_ | refine J.subZ rfl rfl rfl (by omega) (by omega) ?_)
        refine J.ix rfl rfl rfl (J.lc rfl rfl rfl (J.assign rfl rfl (J.nil (G.prune [0, 1, 2, 3, 8, 9, 10, 11, 12, 13, 14, 15, 16, 17, 18, 19, 20, 21, 22, 23] rfl (G.block ?_)))))
        simp only [show k + (m + 2) - 2 = k + m from rfl, Nat.zero_add]
        refine G.loopW (σ := { t : Nat × Nat × Nat × Nat // G2 ws vs k m t.1 t.2.1 t.2.2.1 t.2.2.2 }) (fun t => [(0, .slice (some ⟨qb, 0, none⟩) T cq), (1, .pointer (some ⟨sb, 0, none⟩)), (2, .slice (some ⟨ub, 0, none⟩) (T + (m + 2)) us.length), (3, .slice (some ⟨vb, 0, none⟩) (m + 2) cv), (8, .int .i64 ((m + 2 : Nat) : Int)), (9, .int .i64 (T : Nat)), (10, .slice (some ⟨vb, L, none⟩) (m + 2 + 1) (m + 2 + 1)), (11, .int .u64 (vs.getD (m + 1) 0 : Nat)), (12, .int .u64 (recip (vs.getD (m + 1) 0) : Nat)), (14, .int .i64 (k : Int)), (15, .int .u64 (t.1.1 : Nat)), (16, .int .u64 (t.1.2.1 : Nat)), (17, .int .u64 (vs.getD m 0 : Nat)), (18, .int .u64 (t.1.2.2.1 : Nat)), (19, .int .u64 (t.1.2.2.2 : Nat)), (20, .int .u64 (ws.getD (k + m) 0 : Nat))]) (fun _ => [⟨ub, 162, cells .u64 ws, true⟩, ⟨vb, 162, cells .u64 hs', true⟩, ⟨qb, 162, cells .u64 qs', true⟩, ⟨ib, 286, [.slice (some ⟨vb, 0, none⟩) (L + r4 (m + 2 + 1)) vs.length], true⟩, ⟨sb, 240, [.pointer (some ⟨ib, 0, none⟩)], false⟩]) (fun t => t.1.1) ⟨(q0, r0, _, _), hg2⟩ (by repeat (first | exact SubSlots.nil _ | refine SubSlots.cons rfl ?_)) [0, 1, 2, 3, 4] rfl (by decide) ?_
        clear hg2 q0 r0
        rintro ⟨⟨q, r, x1, x2⟩, hg⟩ ihh
        simp only at hg ihh ⊢
        have hx2 := hg.lx
        have hrl := hg.lr
        have hql := hg.lq
        have hex := hg.ex
        refine G.seq (G.seq (G.region (J.move rfl rfl (J.move rfl rfl (J.move rfl rfl (J.move rfl rfl (J.eff (E.callP (gt_spec (x1 := x1) (x2 := x2) (y1 := r) (y2 := ws.getD (k + m) 0) hx2 hw2) [] [] rfl rfl rfl rfl rfl) rfl fun _ _ => ?_)))))))
        try simp only [apC, apN]
        refine J.nil (G.prune [0, 1, 2, 3, 8, 9, 10, 11, 12, 13, 14, 15, 16, 17, 18, 19, 20, 21, 22, 23, 88] rfl ?_)
        by_cases hgt : r * 18446744073709551616 + ws.getD (k + m) 0 < x1 * 18446744073709551616 + x2
        · obtain ⟨hq0, hdo, hdn⟩ := hg.down hv hd.w (by rw [← hex]; exact hgt)
          refine G.cT rfl (G.skip (G.block (G.seq (G.region (J.move rfl rfl (J.subA rfl rfl rfl (by first | assumption | decide | omega) fun v90 h90 b90 => J.assign rfl rfl (J.nil ?_)))))))
          refine G.seq (G.region (J.move rfl rfl (J.move rfl rfl (J.addA rfl rfl rfl  fun v93 h93 b93 => J.assign rfl rfl (J.nil (G.prune [0, 1, 2, 3, 8, 9, 10, 11, 12, 13, 14, 15, 16, 17, 18, 19, 20, 21, 22, 23] rfl (G.seq ?_)))))))
          refine G.seq (G.region (J.move rfl rfl (J.move rfl rfl ?_)))
          (first | refine J.ltN rfl rfl rfl ?_ | refine J.ltZ rfl rfl rfl ?_)
          refine J.nil ?_
          obtain rfl : v90 = q - 1 := by omega
          by_cases ho : 18446744073709551616 ≤ r + vs.getD (m + 1) 0
          · have e93 : v93 < vs.getD (m + 1) 0 := by omega
            refine G.cT rfl (G.exit rfl ?_)
            exact G.wk [0, 1, 2, 3, 4] (hk (q - 1) (hdo ho))
          · obtain rfl : v93 = r + vs.getD (m + 1) 0 := by omega
            have hdn' := hdn (by omega)
            refine G.cF rfl (G.skip (G.seq (G.seq (G.region (J.move rfl rfl (J.move rfl rfl ?_))))))
            (first | refine J.gtN rfl rfl rfl ?_ | refine J.gtZ rfl rfl rfl ?_)
            refine J.nil ?_
            by_cases hx : x2 < vs.getD m 0
            · rw [if_pos hx, if_pos hx] at hdn'
              have hx1 : 0 < x1 := by
                have h1 : 1 * vs.getD m 0 ≤ q * vs.getD m 0 := Nat.mul_le_mul_right _ hq0
                omega
              have hx1W : x1 < 18446744073709551616 := by
                have h1 : q * vs.getD m 0 ≤ 18446744073709551615 * 18446744073709551615 := Nat.mul_le_mul (by omega) (by omega)
                omega
              refine G.cT rfl (G.region (J.move rfl rfl (J.subA rfl rfl rfl (by first | assumption | decide | omega) fun v101 h101 b101 => J.assign rfl rfl (J.nil (G.region (J.move rfl rfl (J.move rfl rfl ?_)))))))
              refine J.subA rfl rfl rfl (by first | assumption | decide | omega) fun v104 h104 b104 => J.assign rfl rfl (J.nil (G.prune [0, 1, 2, 3, 8, 9, 10, 11, 12, 13, 14, 15, 16, 17, 18, 19, 20, 21, 22, 23] rfl (G.inBlock ?_)))
              obtain rfl : v101 = x1 - 1 := by omega
              obtain rfl : v104 = x2 + 18446744073709551616 - vs.getD m 0 := by omega
              exact G.wk [0, 1, 2, 3, 4] (ihh ⟨(q - 1, r + vs.getD (m + 1) 0, x1 - 1, x2 + 18446744073709551616 - vs.getD m 0), hdn'⟩ (by simp only; omega))
            · rw [if_neg hx, if_neg hx] at hdn'
              refine G.cF rfl (G.skip (G.region (J.move rfl rfl (J.move rfl rfl (J.subA rfl rfl rfl (by first | assumption | decide | omega) fun v104 h104 b104 => J.assign rfl rfl (J.nil (G.prune [0, 1, 2, 3, 8, 9, 10, 11, 12, 13, 14, 15, 16, 17, 18, 19, 20, 21, 22, 23] rfl ?_)))))))
              refine G.inBlock ?_
              obtain rfl : v104 = x2 - vs.getD m 0 := by omega
              exact G.wk [0, 1, 2, 3, 4] (ihh ⟨(q - 1, r + vs.getD (m + 1) 0, x1, x2 - vs.getD m 0), hdn'⟩ (by simp only; omega))
        · skip
          refine G.cF rfl (G.exit rfl ?_)
          exact G.wk [0, 1, 2, 3, 4] (hk q (hg.gs hv (by rw [← hex]; omega)))
    rintro q hg
    have hql := hg.b
    refine G.seq (G.region (J.move rfl rfl (J.move rfl rfl (J.move rfl rfl (J.move rfl rfl (J.slH0 rfl rfl rfl (by omega) rfl (J.move rfl rfl (J.move rfl rfl ?_))))))))
    refine J.eff (E.callP (mulAddVWWS_spec (V := V) (zs0 := hs') (oz := L) (ox := 0) (n := m + 2) (y := q) (r := 0) (by omega) hhw' (by omega) (.inr (by omega)) (by omega) hql (by decide)) [1] [] rfl rfl rfl rfl rfl) rfl fun p hp => ?_
    try simp only [apC, apN]
    obtain ⟨c1, hs1⟩ := p
    simp only at hp ⊢
    replace hp := hp.conv (ys0 := vs) hag'
    have hl1a := hp.w.len
    have hagq : ∀ j, j < m + 2 → (hs1.set (L + (m + 2)) c1).getD (0 + j) 0 = vs.getD (0 + j) 0 := fun j hj => by rw [getD_set_ne (by omega), hp.w.out _ (by omega)]; exact hag' j hj
    have hat := hp.hat (by omega)
    have hw1' : Wd (hs1.set (L + (m + 2)) c1) := hp.w.wd.set hp.lt
    have hl1 : (hs1.set (L + (m + 2)) c1).length = hs.length := by rw [List.length_set, hp.w.len]; exact hhl'
    refine J.ix rfl rfl rfl (J.eff (E.sc rfl rfl) rfl (J.nil (G.prune [0, 1, 2, 3, 8, 9, 10, 11, 12, 14, 15, 16, 17, 18, 19, 20, 23] rfl (G.seq (G.region (J.move rfl rfl (J.lenS rfl rfl (J.assign rfl rfl ?_))))))))
    refine J.nil (G.seq (G.seq (G.region (J.move rfl rfl (J.move rfl rfl ?_)))))
    (first | refine J.addI rfl rfl rfl (by omega) ?_ | refine J.addZ rfl rfl rfl (by omega) (by omega) ?_)
    refine J.move rfl rfl (J.lenS rfl rfl ?_)
    (first | refine J.gtN rfl rfl rfl ?_ | refine J.gtZ rfl rfl rfl ?_)
    refine J.move rfl rfl (J.sk rfl rfl rfl rfl (J.sk rfl rfl rfl rfl (J.sk rfl rfl rfl rfl (J.sk rfl rfl rfl rfl (J.sk rfl rfl rfl rfl (J.pF rfl rfl rfl (J.nil (G.prune [0, 1, 2, 3, 8, 9, 10, 11, 12, 14, 15, 16, 17, 18, 19, 20, 21, 23, 128] rfl ?_))))))))
    refine G.cF rfl (G.skip (G.seq (G.regionS [0, 1, 2, 3, 4, 5, 6, 7, 8, 9, 10, 11, 12, 13, 14, 15, 16] none none [] (by kernel_rfl) (SubH.of [] rfl) rfl (J.move rfl rfl (J.move rfl rfl (J.move rfl rfl (J.move rfl rfl ?_)))))))
    (first | refine J.addI rfl rfl rfl (by omega) ?_ | refine J.addZ rfl rfl rfl (by omega) (by omega) ?_)
    (first | refine J.slLH1 rfl rfl rfl rfl (by omega) (by omega) (by omega) ?_ | refine J.slLHnil rfl rfl rfl rfl (by omega) (by omega) ?_)
    refine J.move rfl rfl (J.move rfl rfl (J.move rfl rfl (J.move rfl rfl ?_)))
    (first | refine J.addI rfl rfl rfl (by omega) ?_ | refine J.addZ rfl rfl rfl (by omega) (by omega) ?_)
    (first | refine J.slLH1 rfl rfl rfl rfl (by omega) (by omega) (by omega) ?_ | refine J.slLHnil rfl rfl rfl rfl (by omega) (by omega) ?_)
    refine J.move rfl rfl (J.move rfl rfl (J.slH rfl rfl rfl (by omega) ?_))
    rw [Nat.add_sub_cancel_left, Nat.zero_add]
    refine J.effH (E.callP (subVV_spec (zs0 := ws) (ys0 := hs1.set (L + (m + 2)) c1) (b2 := vb) (oz := k) (oy := L) (n := m + 2 + 1) (by omega) hd.w (by omega) hw1' (by omega)) [1] [0] rfl rfl rfl rfl rfl) rfl rfl fun p hp2 => ⟨fun _ => SubH.of [] rfl, ?_⟩
    try simp only [apC, apN]
    obtain ⟨c2, ws1⟩ := p
    simp only at hp2 ⊢
    have hl2 := hp2.w.len
    have hc2 := hp2.lt
    refine J.assign rfl rfl (J.nil (G.prune [0, 1, 2, 3, 8, 9, 10, 11, 12, 14, 15, 16, 17, 18, 19, 20, 21, 22, 23] rfl (G.seq (G.seq (G.region (J.move rfl rfl ?_))))))
    (first | refine J.neN rfl rfl rfl ?_ | refine J.neZ rfl rfl rfl ?_)
    refine J.nil ?_
    refine G.cut (σ := List Nat × Nat) (fun t => DI (rv us 0 (T + (m + 2))) vs t.1 (qs'.set k t.2) T m k ∧ t.1.length = us.length) (fun t => [(0, .slice (some ⟨qb, 0, none⟩) T cq), (1, .pointer (some ⟨sb, 0, none⟩)), (2, .slice (some ⟨ub, 0, none⟩) (T + (m + 2)) us.length), (3, .slice (some ⟨vb, 0, none⟩) (m + 2) cv), (8, .int .i64 ((m + 2 : Nat) : Int)), (9, .int .i64 (T : Nat)), (10, .slice (some ⟨vb, L, none⟩) (m + 2 + 1) (m + 2 + 1)), (11, .int .u64 (vs.getD (m + 1) 0 : Nat)), (12, .int .u64 (recip (vs.getD (m + 1) 0) : Nat)), (14, .int .i64 (k : Int)), (15, .int .u64 (t.2 : Nat))]) (fun t => [⟨ub, 162, cells .u64 t.1, true⟩, ⟨vb, 162, cells .u64 (hs1.set (L + (m + 2)) c1), true⟩, ⟨qb, 162, cells .u64 qs', true⟩, ⟨ib, 286, [.slice (some ⟨vb, 0, none⟩) (L + r4 (m + 2 + 1)) vs.length], true⟩, ⟨sb, 240, [.pointer (some ⟨ib, 0, none⟩)], false⟩]) (fun hk2 => ?_) ?_
    · skip
      by_cases hc0 : c2 = 0
      · subst hc0
        have hdi := hd.sub (by omega) hv hg hp2 hat (by omega)
        refine G.cF rfl (G.skip ?_)
        exact G.wk [0, 1, 2, 3, 4] (hk2 (ws1, q) ⟨hdi, by simp only; omega⟩)
      · obtain rfl : c2 = 1 := by omega
        refine G.cT rfl (G.seq (G.regionS [0, 1, 2, 3, 4, 5, 6, 7, 8, 9, 10, 11, 12, 13, 14] none none [] (by kernel_rfl) (SubH.of [] rfl) rfl (J.move rfl rfl (J.move rfl rfl (J.move rfl rfl (J.move rfl rfl ?_))))))
        (first | refine J.addI rfl rfl rfl (by omega) ?_ | refine J.addZ rfl rfl rfl (by omega) (by omega) ?_)
        (first | refine J.slLH1 rfl rfl rfl rfl (by omega) (by omega) (by omega) ?_ | refine J.slLHnil rfl rfl rfl rfl (by omega) (by omega) ?_)
        refine J.move rfl rfl (J.move rfl rfl (J.move rfl rfl (J.move rfl rfl ?_)))
        (first | refine J.addI rfl rfl rfl (by omega) ?_ | refine J.addZ rfl rfl rfl (by omega) (by omega) ?_)
        (first | refine J.slLH1 rfl rfl rfl rfl (by omega) (by omega) (by omega) ?_ | refine J.slLHnil rfl rfl rfl rfl (by omega) (by omega) ?_)
        refine J.move rfl rfl ?_
        rw [Nat.add_sub_cancel_left, Nat.zero_add]
        refine J.effH (E.callP (addVV_spec (zs0 := ws1) (ys0 := (hs1.set (L + (m + 2)) c1)) (b2 := vb) (oz := k) (oy := 0) (n := m + 2) (by omega) hp2.w.wd (by omega) hw1' (by omega)) [0] [0] rfl rfl rfl rfl rfl) rfl rfl fun p hp3 => ⟨fun _ => SubH.of [] rfl, ?_⟩
        try simp only [apC, apN]
        obtain ⟨c3, ws2⟩ := p
        simp only at hp3 ⊢
        replace hp3 := hp3.conv (ys1 := vs) hagq
        have hl3 := hp3.w.len
        refine J.assign rfl rfl (J.nil (G.prune [0, 1, 2, 3, 8, 9, 10, 11, 12, 14, 15, 16, 17, 18, 19, 20, 21, 22, 23] rfl (G.seq (G.seq (G.region (J.move rfl rfl (J.move rfl rfl ?_)))))))
        (first | refine J.ltN rfl rfl rfl ?_ | refine J.ltZ rfl rfl rfl ?_)
        refine J.nil (G.cT rfl (G.region (J.move rfl rfl (J.move rfl rfl (J.move rfl rfl ?_)))))
        (first | refine J.addI rfl rfl rfl (by omega) ?_ | refine J.addZ rfl rfl rfl (by omega) (by omega) ?_)
        refine J.ix rfl rfl rfl (J.lc rfl rfl rfl (J.move rfl rfl (J.addA rfl rfl rfl  fun v173 h173 b173 => J.ix rfl rfl rfl (J.eff (E.sc rfl rfl) rfl (J.nil (G.prune [0, 1, 2, 3, 8, 9, 10, 11, 12, 14, 15, 16, 17, 18, 19, 20, 21, 22, 23] rfl (G.region ?_)))))))
        refine J.move rfl rfl (J.subA rfl rfl rfl (by first | assumption | decide | omega) fun v176 h176 b176 => J.assign rfl rfl (J.nil ?_))
        simp only [Nat.zero_add (k + (m + 2))]
        obtain ⟨hq0, hdi⟩ := hd.add (by omega) hv hg hp2 hat hp3 (by omega) v173 b173
        obtain rfl : v176 = q - 1 := by omega
        exact G.wk [0, 1, 2, 3, 4] (hk2 (ws2.set (k + (m + 2)) v173, q - 1) ⟨hdi, by simp only [List.length_set]; omega⟩)
    rintro ⟨ws2, qd⟩ ⟨hdi, hl4⟩
    simp only at hdi hl4 ⊢
    refine G.seq (G.region (J.move rfl rfl (J.move rfl rfl (J.move rfl rfl ?_))))
    (first | refine J.addI rfl rfl rfl (by omega) ?_ | refine J.addZ rfl rfl rfl (by omega) (by omega) ?_)
    (first | refine J.subI rfl rfl rfl (by omega) (by omega) ?_ | refine J.subZ rfl rfl rfl (by omega) (by omega) ?_)
    refine J.ix rfl rfl rfl (J.lc rfl rfl rfl (J.assign rfl rfl (J.nil (G.prune [0, 1, 2, 3, 8, 9, 10, 11, 12, 13, 14, 15, 16, 17, 18, 19, 20, 21, 22, 23] rfl (G.seq (G.seq (G.region (J.move rfl rfl ?_))))))))
    refine J.move rfl rfl ?_
    (first | refine J.eqN rfl rfl rfl ?_ | refine J.eqZ rfl rfl rfl ?_)
    refine J.move rfl rfl ?_
    rw [show k + (m + 2) - 1 = k + (m + 1) from rfl, Nat.zero_add (k + (m + 1))]
    refine J.sk rfl rfl rfl rfl (J.sk rfl rfl rfl rfl (J.sk rfl rfl rfl rfl (J.sk rfl rfl rfl rfl (J.pF rfl rfl rfl (J.move rfl rfl (J.sk rfl rfl rfl rfl (J.sk rfl rfl rfl rfl (J.pF rfl rfl rfl ?_))))))))
    refine J.nil (G.prune [0, 1, 2, 3, 8, 9, 10, 11, 12, 13, 14, 15, 16, 17, 18, 19, 20, 21, 22, 23, 196] rfl (G.cF rfl (G.skip (G.region (J.move rfl rfl (J.move rfl rfl (J.move rfl rfl (J.ix rfl rfl rfl ?_))))))))
    refine J.eff (E.sc rfl rfl) rfl (J.nil (G.prune [0, 1, 2, 3, 8, 9, 10, 11, 12, 13, 14, 15, 16, 17, 18, 19, 20, 21, 22, 23] rfl (G.inBlock (G.region (J.move rfl rfl ?_)))))
    (first | refine J.subI rfl rfl rfl (by omega) (by omega) ?_ | refine J.subZ rfl rfl rfl (by omega) (by omega) ?_)
    refine J.assign rfl rfl (J.nil ?_)
    simp only [Nat.zero_add k]
    exact G.wk [0, 1, 2, 3, 4] (ih ⟨(k, ws2, qs'.set k qd, hs1.set (L + (m + 2)) c1), by simp only; omega, hdi, hl4, by simp only [List.length_set]; omega, hl1, hw1', hagq⟩ (by simp only; omega))
  · simp only [inV, inH, gwP, List.cons_append, List.nil_append] at hp ⊢
    obtain ⟨p1, p2, hhw⟩ := hp
    have hh1 : L + (m + 3) ≤ hs.length := by omega
    refine J.ord [2, 3, 4, 1, 0, 5] rfl (by decide) ?_
    refine J.assign rfl rfl (J.nil (G.prune [0, 1, 2, 3, 8, 9, 10, 15, 16, 17, 18, 19, 20, 21, 22, 23] rfl (G.seq (G.region (J.move rfl rfl (J.move rfl rfl ?_))))))
    (first | refine J.subI rfl rfl rfl (by omega) (by omega) ?_ | refine J.subZ rfl rfl rfl (by omega) (by omega) ?_)
    refine J.ix rfl rfl rfl (J.lc rfl rfl rfl (J.assign rfl rfl (J.nil (G.prune [0, 1, 2, 3, 8, 9, 10, 11, 15, 16, 17, 18, 19, 20, 21, 22, 23] rfl (G.seq (G.region (J.move rfl rfl ?_)))))))
    rw [show m + 2 - 1 = m + 1 from rfl]
    refine J.eff (E.callP (recip_spec (d := vs.getD (0 + (m + 1)) 0) (by rw [Nat.zero_add]; omega) hvw) [] [] rfl rfl rfl rfl rfl) rfl fun _ _ => ?_
    try simp only [apC, apN]
    refine J.assign rfl rfl (J.nil (G.seq (G.region (J.assign rfl rfl (J.nil (G.seq (G.region (J.move rfl rfl ?_))))))))
    refine J.assign rfl rfl (J.nil (G.block ?_))
    rw [Nat.zero_add] at hvw hvw2 ⊢
    refine G.loop1 (G.seq (G.seq (G.region (J.move rfl rfl ?_))))
    (first | refine J.geN rfl rfl rfl ?_ | refine J.geZ rfl rfl rfl ?_)
    refine J.nil (G.cT rfl (G.skip (G.seq (G.block (G.seq (G.region (J.assign rfl rfl (J.nil ?_))))))))
    refine G.seq (G.seq (G.region (J.move rfl rfl (J.move rfl rfl ?_))))
    (first | refine J.neN rfl rfl rfl ?_ | refine J.neZ rfl rfl rfl ?_)
    refine J.nil (G.cT rfl (G.seq (G.region (J.assign rfl rfl (J.nil (G.seq (G.region (J.move rfl rfl ?_))))))))
    refine J.move rfl rfl (J.move rfl rfl (J.move rfl rfl ?_))
    (first | refine J.addI rfl rfl rfl (by omega) ?_ | refine J.addZ rfl rfl rfl (by omega) (by omega) ?_)
    (first | refine J.subI rfl rfl rfl (by omega) (by omega) ?_ | refine J.subZ rfl rfl rfl (by omega) (by omega) ?_)
    refine J.ix rfl rfl rfl (J.lc rfl rfl rfl (J.move rfl rfl (J.move rfl rfl ?_)))
    rw [show T + (m + 2) - 1 = T + (m + 1) from rfl, Nat.zero_add, h0]
    refine J.eff (E.callP (divWW_spec (x1 := 0) (x0 := 0) (y := vs.getD (m + 1) 0) (m := recip (vs.getD (m + 1) 0)) (by omega) (by decide) hvw rfl) [] [] rfl rfl rfl rfl rfl) rfl fun _ _ => ?_
    try simp only [apC, apN]
    refine J.move rfl rfl (J.extractL rfl rfl rfl (J.extractL rfl rfl rfl (J.assign rfl rfl (J.assign rfl rfl (J.nil (G.prune [0, 1, 2, 3, 8, 9, 10, 11, 12, 13, 14, 15, 16, 21, 22, 23] rfl (G.seq (G.region ?_))))))))
    refine J.move rfl rfl (J.move rfl rfl ?_)
    (first | refine J.subI rfl rfl rfl (by omega) (by omega) ?_ | refine J.subZ rfl rfl rfl (by omega) (by omega) ?_)
    refine J.ix rfl rfl rfl (J.lc rfl rfl rfl (J.assign rfl rfl (J.nil (G.prune [0, 1, 2, 3, 8, 9, 10, 11, 12, 13, 14, 15, 16, 17, 21, 22, 23] rfl (G.seq (G.region (J.move rfl rfl (J.move rfl rfl ?_))))))))
    rw [show 0 * 18446744073709551616 + 0 = 0 from rfl, Nat.zero_div, Nat.zero_mod, show m + 2 - 2 = m from rfl]
    simp only [Nat.zero_add]
    refine J.eff (E.callP (mulWW_spec (x := 0) (y := vs.getD m 0) (by decide) hvw2) [] [] rfl rfl rfl rfl rfl) rfl fun _ _ => ?_
    try simp only [apC, apN]
    refine J.move rfl rfl (J.extractL rfl rfl rfl (J.extractL rfl rfl rfl (J.assign rfl rfl (J.assign rfl rfl (J.nil (G.prune [0, 1, 2, 3, 8, 9, 10, 11, 12, 13, 14, 15, 16, 17, 18, 19, 21, 22, 23] rfl (G.seq (G.region ?_))))))))
    refine J.move rfl rfl (J.move rfl rfl (J.move rfl rfl ?_))
    (first | refine J.addI rfl rfl rfl (by omega) ?_ | refine J.addZ rfl rfl rfl (by omega) (by omega) ?_)
    (first | refine J.subI rfl rfl rfl (by omega) (by omega) ?_ | refine J.subZ rfl rfl rfl (by omega) (by omega) ?_)
    refine J.ix rfl rfl rfl (J.lc rfl rfl rfl (J.assign rfl rfl (J.nil (G.prune [0, 1, 2, 3, 8, 9, 10, 11, 12, 13, 14, 15, 16, 17, 18, 19, 20, 21, 22, 23] rfl (G.block ?_)))))
    rw [show 0 * vs.getD m 0 / 18446744073709551616 = 0 by rw [Nat.zero_mul], show 0 * vs.getD m 0 % 18446744073709551616 = 0 by rw [Nat.zero_mul], show T + (m + 2) - 2 = T + m from rfl]
    refine G.loop1 (G.seq (G.seq (G.region (J.move rfl rfl (J.move rfl rfl (J.move rfl rfl (J.move rfl rfl (J.eff (E.callP (gt_spec (x1 := 0) (x2 := 0) (y1 := 0) (y2 := us.getD (0 + (T + m)) 0) (by decide) (hu _)) [] [] rfl rfl rfl rfl rfl) rfl fun _ _ => ?_))))))))
    try simp only [apC, apN]
    refine J.nil (G.prune [0, 1, 2, 3, 8, 9, 10, 11, 12, 13, 14, 15, 16, 17, 18, 19, 20, 21, 22, 23, 88] rfl (G.cF rfl (G.exit rfl (G.seq (G.region (J.move rfl rfl (J.move rfl rfl (J.move rfl rfl ?_))))))))
    refine J.move rfl rfl (J.slH0 rfl rfl rfl (by omega) rfl (J.move rfl rfl (J.move rfl rfl (J.eff (E.callP (mulAddVWWO_spec (V := V) (zs0 := hs) (xs0 := vs) (oz := L) (ox := 0) (n := m + 2) (y := 0) (r := 0) (by omega) hhw (by omega) hv.wd (by omega) (by decide) (by decide)) [0] [2] rfl rfl rfl rfl rfl) rfl fun p hp => ?_))))
    try simp only [apC, apN]
    obtain ⟨c1, hs1⟩ := p
    simp only at hp ⊢
    have hm1l := hp.w.len
    obtain ⟨hc0, hz⟩ := hp.zero (by omega)
    subst hc0
    have hw1 : Wd (hs1.set (L + (m + 2)) 0) := hp.w.wd.set (by decide)
    have hl1 : (hs1.set (L + (m + 2)) 0).length = hs.length := by rw [List.length_set]; exact hm1l
    refine J.ix rfl rfl rfl (J.eff (E.sc rfl rfl) rfl (J.nil (G.prune [0, 1, 2, 3, 8, 9, 10, 11, 12, 14, 15, 16, 17, 18, 19, 20, 23] rfl (G.seq (G.region (J.move rfl rfl (J.lenS rfl rfl (J.assign rfl rfl ?_))))))))
    refine J.nil (G.seq (G.seq (G.region (J.move rfl rfl (J.move rfl rfl ?_)))))
    (first | refine J.addI rfl rfl rfl (by omega) ?_ | refine J.addZ rfl rfl rfl (by omega) (by omega) ?_)
    refine J.move rfl rfl (J.lenS rfl rfl ?_)
    (first | refine J.gtN rfl rfl rfl ?_ | refine J.gtZ rfl rfl rfl ?_)
    refine J.move rfl rfl ?_
    have he0 : (hs1.set (L + (m + 2)) 0).getD (L + (m + 2)) 0 = 0 := getD_set_eq (by omega)
    refine J.wT rfl rfl (J.move rfl rfl (J.wT rfl rfl (J.move rfl rfl (J.wT rfl rfl (J.ix rfl rfl rfl (J.wT rfl rfl (J.lc rfl rfl rfl (J.wT rfl rfl ?_))))))))
    (first | refine J.eqN rfl rfl rfl ?_ | refine J.eqZ rfl rfl rfl ?_)
    refine J.pT rfl rfl rfl (J.nil (G.prune [0, 1, 2, 3, 8, 9, 10, 11, 12, 14, 15, 16, 17, 18, 19, 20, 21, 23, 128] rfl (G.cT rfl (G.region (J.move rfl rfl ?_)))))
    (first | refine J.subI rfl rfl rfl (by omega) (by omega) ?_ | refine J.subZ rfl rfl rfl (by omega) (by omega) ?_)
    refine J.assign rfl rfl (J.nil (G.seq ?_))
    rw [show m + 2 + 1 - 1 = m + 2 from rfl]
    refine G.regionS [0, 1, 2, 3, 4, 5, 6, 7, 8, 9, 10, 11, 12, 13, 14, 15, 16] none none [] (by kernel_rfl) (SubH.of [] rfl) rfl (J.move rfl rfl (J.move rfl rfl (J.move rfl rfl (J.move rfl rfl ?_))))
    (first | refine J.addI rfl rfl rfl (by omega) ?_ | refine J.addZ rfl rfl rfl (by omega) (by omega) ?_)
    (first | refine J.slLH1 rfl rfl rfl rfl (by omega) (by omega) (by omega) ?_ | refine J.slLHnil rfl rfl rfl rfl (by omega) (by omega) ?_)
    refine J.move rfl rfl (J.move rfl rfl (J.move rfl rfl (J.move rfl rfl ?_)))
    (first | refine J.addI rfl rfl rfl (by omega) ?_ | refine J.addZ rfl rfl rfl (by omega) (by omega) ?_)
    (first | refine J.slLH1 rfl rfl rfl rfl (by omega) (by omega) (by omega) ?_ | refine J.slLHnil rfl rfl rfl rfl (by omega) (by omega) ?_)
    refine J.move rfl rfl (J.move rfl rfl (J.slH rfl rfl rfl (by omega) ?_))
    rw [Nat.add_sub_cancel_left, Nat.zero_add]
    refine J.effH (E.callP (subVV_spec (zs0 := us) (ys0 := hs1.set (L + (m + 2)) 0) (b2 := hb) (oz := T) (oy := L) (n := m + 2) (by omega) hu (by omega) hw1 (by omega)) [2] [0] rfl rfl rfl rfl rfl) rfl rfl fun p hp2 => ⟨fun _ => SubH.of [] rfl, ?_⟩
    try simp only [apC, apN]
    obtain ⟨c2, us1⟩ := p
    simp only at hp2 ⊢
    obtain ⟨hc2, hdi⟩ := DI.start hv hu hq h0 hp2 hz
    subst hc2
    have hul1 := hp2.w.len
    refine J.assign rfl rfl (J.nil (G.prune [0, 1, 2, 3, 8, 9, 10, 11, 12, 14, 15, 16, 17, 18, 19, 20, 21, 22, 23] rfl (G.seq (G.seq (G.region (J.move rfl rfl ?_))))))
    (first | refine J.neN rfl rfl rfl ?_ | refine J.neZ rfl rfl rfl ?_)
    refine J.nil (G.cF rfl (G.skip (G.seq (G.region (J.move rfl rfl (J.move rfl rfl (J.move rfl rfl ?_)))))))
    (first | refine J.addI rfl rfl rfl (by omega) ?_ | refine J.addZ rfl rfl rfl (by omega) (by omega) ?_)
    (first | refine J.subI rfl rfl rfl (by omega) (by omega) ?_ | refine J.subZ rfl rfl rfl (by omega) (by omega) ?_)
    refine J.ix rfl rfl rfl (J.lc rfl rfl rfl (J.assign rfl rfl (J.nil (G.prune [0, 1, 2, 3, 8, 9, 10, 11, 12, 13, 14, 15, 16, 17, 18, 19, 20, 21, 22, 23] rfl (G.seq (G.seq (G.region (J.move rfl rfl ?_))))))))
    refine J.move rfl rfl ?_
    (first | refine J.eqN rfl rfl rfl ?_ | refine J.eqZ rfl rfl rfl ?_)
    refine J.move rfl rfl ?_
    rw [show T + (m + 2) - 1 = T + (m + 1) from rfl]
    refine J.wT rfl rfl (J.move rfl rfl (J.wT rfl rfl (J.move rfl rfl (J.wT rfl rfl (J.lenS rfl rfl (J.wT rfl rfl ?_))))))
    (first | refine J.eqN rfl rfl rfl ?_ | refine J.eqZ rfl rfl rfl ?_)
    refine J.pT rfl rfl rfl (J.move rfl rfl (J.wT rfl rfl (J.move rfl rfl (J.wT rfl rfl ?_))))
    (first | refine J.eqN rfl rfl rfl ?_ | refine J.eqZ rfl rfl rfl ?_)
    refine J.pT rfl rfl rfl (J.nil (G.prune [0, 1, 2, 3, 8, 9, 10, 11, 12, 13, 14, 15, 16, 17, 18, 19, 20, 21, 22, 23, 196] rfl (G.cT rfl (G.exit rfl (G.region (J.move rfl rfl ?_))))))
    (first | refine J.subI rfl rfl rfl (by omega) (by omega) ?_ | refine J.subZ rfl rfl rfl (by omega) (by omega) ?_)
    refine J.assign rfl rfl (J.nil ?_)
    rw [Nat.zero_add]
    have hTi : ((T - 1 : Nat) : Int) = (T : Int) - 1 := by omega
    simp only [hTi]
    refine G.loopI (σ := { t : Nat × List Nat × List Nat × List Nat // t.1 ≤ T ∧ DI (rv us 0 (T + (m + 2))) vs t.2.1 t.2.2.1 T m t.1 ∧ t.2.1.length = us.length ∧ t.2.2.1.length = qs.length ∧ t.2.2.2.length = hs.length ∧ Wd t.2.2.2 })
      (fun t => [(0, .slice (some ⟨qb, 0, none⟩) T cq), (1, .pointer (some ⟨sb, 0, none⟩)), (2, .slice (some ⟨ub, 0, none⟩) (T + (m + 2)) us.length), (3, .slice (some ⟨vb, 0, none⟩) (m + 2) cv), (8, .int .i64 ((m + 2 : Nat) : Int)), (9, .int .i64 (T : Nat)), (10, .slice (some ⟨hb, L, none⟩) (m + 2 + 1) (m + 2 + 1)), (11, .int .u64 (vs.getD (m + 1) 0 : Nat)), (12, .int .u64 (recip (vs.getD (m + 1) 0) : Nat)), (13, .int .u64 (t.1.2.1.getD (t.1.1 + (m + 1)) 0 : Nat)), (14, .int .i64 ((t.1.1 : Int) - 1))]) (fun t => [⟨ub, 162, cells .u64 t.1.2.1, true⟩, ⟨hb, 162, cells .u64 t.1.2.2.2, true⟩, ⟨qb, 162, cells .u64 t.1.2.2.1, true⟩, ⟨vb, 162, cells .u64 vs, true⟩, ⟨ib, 286, [.slice (some ⟨hb, 0, none⟩) (L + r4 (m + 2 + 1)) hs.length], true⟩, ⟨sb, 240, [.pointer (some ⟨ib, 0, none⟩)], false⟩]) (fun t => t.1.1) ⟨(T, us1, qs, hs1.set (L + (m + 2)) 0), Nat.le_refl T, hdi, hul1, rfl, hl1, hw1⟩ (by repeat (first | exact SubSlots.nil _ | refine SubSlots.cons rfl ?_)) [0, 1, 2, 3, 4, 5] rfl (by decide) ?_
    clear hdi hp2 he0 hz hp hul1 hw1 hl1 hm1l hs1 us1
    rintro ⟨⟨i, ws, qs', hs'⟩, hi, hd, hwl, hql', hhl', hhw'⟩ ih
    simp only at hi hd hwl hql' hhl' hhw' ih ⊢
    rcases Nat.eq_zero_or_pos i with h00 | h00
    · subst h00
      refine G.seq (G.seq (G.region (J.move rfl rfl ?_)))
      (first | refine J.geN rfl rfl rfl ?_ | refine J.geZ rfl rfl rfl ?_)
      refine J.nil (G.cF rfl (G.exit rfl (G.fall (hR _) ?_)))
      refine GL.deferredP (restore_someD (V := V) (sb := sb) (ib := ib) (n := L) (by omega)) [4] [4] rfl rfl rfl fun _ _ => ?_
      exact GL.done (qs', ws, hb, hs.length) rfl rfl ⟨hd, hql', hwl⟩ rfl [3, 1, 0] rfl (by decide) (by simp)
    obtain ⟨k, rfl⟩ : ∃ k, i = k + 1 := ⟨i - 1, by omega⟩
    have hki : ((k + 1 : Nat) : Int) - 1 = (k : Int) := by omega
    have hkm : k + 1 + (m + 1) = k + (m + 2) := by omega
    simp only [hki, hkm] at ih ⊢
    have htop := top_le hv hd.lt
    have hw0 := hd.w (k + (m + 2))
    have hw1 := hd.w (k + (m + 1))
    have hw2 := hd.w (k + m)
    refine G.seq (G.seq (G.region (J.move rfl rfl ?_)))
    (first | refine J.geN rfl rfl rfl ?_ | refine J.geZ rfl rfl rfl ?_)
    refine J.nil (G.cT rfl (G.skip (G.seq (G.block (G.seq (G.region (J.assign rfl rfl (J.nil ?_))))))))
    refine G.seq (G.seq (G.region (J.move rfl rfl (J.move rfl rfl ?_))))
    (first | refine J.neN rfl rfl rfl ?_ | refine J.neZ rfl rfl rfl ?_)
    refine J.nil ?_
    refine G.cut (σ := Nat) (fun q => GS (rv ws k (m + 3)) (rv vs 0 (m + 2)) q) (fun q => [(0, .slice (some ⟨qb, 0, none⟩) T cq), (1, .pointer (some ⟨sb, 0, none⟩)), (2, .slice (some ⟨ub, 0, none⟩) (T + (m + 2)) us.length), (3, .slice (some ⟨vb, 0, none⟩) (m + 2) cv), (8, .int .i64 ((m + 2 : Nat) : Int)), (9, .int .i64 (T : Nat)), (10, .slice (some ⟨hb, L, none⟩) (m + 2 + 1) (m + 2 + 1)), (11, .int .u64 (vs.getD (m + 1) 0 : Nat)), (12, .int .u64 (recip (vs.getD (m + 1) 0) : Nat)), (14, .int .i64 (k : Int)), (15, .int .u64 (q : Nat))]) (fun _ => [⟨ub, 162, cells .u64 ws, true⟩, ⟨hb, 162, cells .u64 hs', true⟩, ⟨qb, 162, cells .u64 qs', true⟩, ⟨vb, 162, cells .u64 vs, true⟩, ⟨ib, 286, [.slice (some ⟨hb, 0, none⟩) (L + r4 (m + 2 + 1)) hs.length], true⟩, ⟨sb, 240, [.pointer (some ⟨ib, 0, none⟩)], false⟩]) (fun hk => ?_) ?_
    · skip
      by_cases he : ws.getD (k + (m + 2)) 0 = vs.getD (m + 1) 0
      · skip
        refine G.cF rfl (G.skip ?_)
        exact G.wk [0, 1, 2, 3, 4, 5] (hk 18446744073709551615 (GS.max hv hd.w hd.lt he))
      · have hlt : ws.getD (k + (m + 2)) 0 < vs.getD (m + 1) 0 := by omega
        have hg2 := G2.start (q := (ws.getD (k + (m + 2)) 0 * 18446744073709551616 + ws.getD (k + (m + 1)) 0) / vs.getD (m + 1) 0) hv hd.w hlt rfl rfl rfl rfl
        refine G.cT rfl (G.seq (G.region (J.assign rfl rfl (J.nil (G.seq (G.region (J.move rfl rfl (J.move rfl rfl ?_))))))))
        refine J.move rfl rfl (J.move rfl rfl ?_)
        (first | refine J.addI rfl rfl rfl (by omega) ?_ | refine J.addZ rfl rfl rfl (by omega) (by omega) ?_)
        (first | refine J.subI rfl rfl rfl (by omega) (by omega) ?_ | refine J.subZ rfl rfl rfl (by omega) (by omega) ?_)
        refine J.ix rfl rfl rfl (J.lc rfl rfl rfl (J.move rfl rfl (J.move rfl rfl ?_)))
        rw [show k + (m + 2) - 1 = k + (m + 1) from rfl, Nat.zero_add]
        refine J.eff (E.callP (divWW_spec (x1 := ws.getD (k + (m + 2)) 0) (x0 := ws.getD (k + (m + 1)) 0) (y := vs.getD (m + 1) 0) (m := recip (vs.getD (m + 1) 0)) hlt hw1 hvw rfl) [] [] rfl rfl rfl rfl rfl) rfl fun _ _ => ?_
        try simp only [apC, apN]
        refine J.move rfl rfl (J.extractL rfl rfl rfl (J.extractL rfl rfl rfl (J.assign rfl rfl (J.assign rfl rfl (J.nil (G.prune [0, 1, 2, 3, 8, 9, 10, 11, 12, 13, 14, 15, 16, 21, 22, 23] rfl (G.seq (G.region ?_))))))))
        refine J.move rfl rfl (J.move rfl rfl ?_)
        (first | refine J.subI rfl rfl rfl (by omega) (by omega) ?_ | refine J.subZ rfl rfl rfl (by omega) (by omega) ?_)
        refine J.ix rfl rfl rfl (J.lc rfl rfl rfl (J.assign rfl rfl (J.nil (G.prune [0, 1, 2, 3, 8, 9, 10, 11, 12, 13, 14, 15, 16, 17, 21, 22, 23] rfl (G.seq (G.region (J.move rfl rfl (J.move rfl rfl ?_))))))))
        rw [show m + 2 - 2 = m from rfl]
        rw [Nat.zero_add m]
        generalize (ws.getD (k + (m + 2)) 0 * 18446744073709551616 + ws.getD (k + (m + 1)) 0) / vs.getD (m + 1) 0 = q0 at hg2 ⊢
        generalize (ws.getD (k + (m + 2)) 0 * 18446744073709551616 + ws.getD (k + (m + 1)) 0) % vs.getD (m + 1) 0 = r0 at hg2 ⊢
        refine J.eff (E.callP (mulWW_spec (x := q0) (y := vs.getD m 0) hg2.lq hvw2) [] [] rfl rfl rfl rfl rfl) rfl fun _ _ => ?_
        try simp only [apC, apN]
        refine J.move rfl rfl (J.extractL rfl rfl rfl (J.extractL rfl rfl rfl (J.assign rfl rfl (J.assign rfl rfl (J.nil (G.prune [0, 1, 2, 3, 8, 9, 10, 11, 12, 13, 14, 15, 16, 17, 18, 19, 21, 22, 23] rfl (G.seq (G.region ?_))))))))
        refine J.move rfl rfl (J.move rfl rfl (J.move rfl rfl ?_))
        (first | refine J.addI rfl rfl rfl (by omega) ?_ | refine J.addZ rfl rfl rfl (by omega) (by omega) ?_)
        (first | refine J.subI rfl rfl rfl (by omega) (by omega) ?_ | refine J.subZ rfl rfl rfl (by omega) (by omega) ?_)
        refine J.ix rfl rfl rfl (J.lc rfl rfl rfl (J.assign rfl rfl (J.nil (G.prune [0, 1, 2, 3, 8, 9, 10, 11, 12, 13, 14, 15, 16, 17, 18, 19, 20, 21, 22, 23] rfl (G.block ?_)))))
        simp only [show k + (m + 2) - 2 = k + m from rfl, Nat.zero_add]
        refine G.loopW (σ := { t : Nat × Nat × Nat × Nat // G2 ws vs k m t.1 t.2.1 t.2.2.1 t.2.2.2 }) (fun t => [(0, .slice (some ⟨qb, 0, none⟩) T cq), (1, .pointer (some ⟨sb, 0, none⟩)), (2, .slice (some ⟨ub, 0, none⟩) (T + (m + 2)) us.length), (3, .slice (some ⟨vb, 0, none⟩) (m + 2) cv), (8, .int .i64 ((m + 2 : Nat) : Int)), (9, .int .i64 (T : Nat)), (10, .slice (some ⟨hb, L, none⟩) (m + 2 + 1) (m + 2 + 1)), (11, .int .u64 (vs.getD (m + 1) 0 : Nat)), (12, .int .u64 (recip (vs.getD (m + 1) 0) : Nat)), (14, .int .i64 (k : Int)), (15, .int .u64 (t.1.1 : Nat)), (16, .int .u64 (t.1.2.1 : Nat)), (17, .int .u64 (vs.getD m 0 : Nat)), (18, .int .u64 (t.1.2.2.1 : Nat)), (19, .int .u64 (t.1.2.2.2 : Nat)), (20, .int .u64 (ws.getD (k + m) 0 : Nat))]) (fun _ => [⟨ub, 162, cells .u64 ws, true⟩, ⟨hb, 162, cells .u64 hs', true⟩, ⟨qb, 162, cells .u64 qs', true⟩, ⟨vb, 162, cells .u64 vs, true⟩, ⟨ib, 286, [.slice (some ⟨hb, 0, none⟩) (L + r4 (m + 2 + 1)) hs.length], true⟩, ⟨sb, 240, [.pointer (some ⟨ib, 0, none⟩)], false⟩]) (fun t => t.1.1) ⟨(q0, r0, _, _), hg2⟩ (by repeat (first | exact SubSlots.nil _ | refine SubSlots.cons rfl ?_)) [0, 1, 2, 3, 4, 5] rfl (by decide) ?_
        clear hg2 q0 r0
        rintro ⟨⟨q, r, x1, x2⟩, hg⟩ ihh
        simp only at hg ihh ⊢
        have hx2 := hg.lx
        have hrl := hg.lr
        have hql := hg.lq
        have hex := hg.ex
        refine G.seq (G.seq (G.region (J.move rfl rfl (J.move rfl rfl (J.move rfl rfl (J.move rfl rfl (J.eff (E.callP (gt_spec (x1 := x1) (x2 := x2) (y1 := r) (y2 := ws.getD (k + m) 0) hx2 hw2) [] [] rfl rfl rfl rfl rfl) rfl fun _ _ => ?_)))))))
        try simp only [apC, apN]
        refine J.nil (G.prune [0, 1, 2, 3, 8, 9, 10, 11, 12, 13, 14, 15, 16, 17, 18, 19, 20, 21, 22, 23, 88] rfl ?_)
        by_cases hgt : r * 18446744073709551616 + ws.getD (k + m) 0 < x1 * 18446744073709551616 + x2
        · obtain ⟨hq0, hdo, hdn⟩ := hg.down hv hd.w (by rw [← hex]; exact hgt)
          refine G.cT rfl (G.skip (G.block (G.seq (G.region (J.move rfl rfl (J.subA rfl rfl rfl (by first | assumption | decide | omega) fun v90 h90 b90 => J.assign rfl rfl (J.nil ?_)))))))
          refine G.seq (G.region (J.move rfl rfl (J.move rfl rfl (J.addA rfl rfl rfl  fun v93 h93 b93 => J.assign rfl rfl (J.nil (G.prune [0, 1, 2, 3, 8, 9, 10, 11, 12, 13, 14, 15, 16, 17, 18, 19, 20, 21, 22, 23] rfl (G.seq ?_)))))))
          refine G.seq (G.region (J.move rfl rfl (J.move rfl rfl ?_)))
          (first | refine J.ltN rfl rfl rfl ?_ | refine J.ltZ rfl rfl rfl ?_)
          refine J.nil ?_
          obtain rfl : v90 = q - 1 := by omega
          by_cases ho : 18446744073709551616 ≤ r + vs.getD (m + 1) 0
          · have e93 : v93 < vs.getD (m + 1) 0 := by omega
            refine G.cT rfl (G.exit rfl ?_)
            exact G.wk [0, 1, 2, 3, 4, 5] (hk (q - 1) (hdo ho))
          · obtain rfl : v93 = r + vs.getD (m + 1) 0 := by omega
            have hdn' := hdn (by omega)
            refine G.cF rfl (G.skip (G.seq (G.seq (G.region (J.move rfl rfl (J.move rfl rfl ?_))))))
            (first | refine J.gtN rfl rfl rfl ?_ | refine J.gtZ rfl rfl rfl ?_)
            refine J.nil ?_
            by_cases hx : x2 < vs.getD m 0
            · rw [if_pos hx, if_pos hx] at hdn'
              have hx1 : 0 < x1 := by
                have h1 : 1 * vs.getD m 0 ≤ q * vs.getD m 0 := Nat.mul_le_mul_right _ hq0
                omega
              have hx1W : x1 < 18446744073709551616 := by
                have h1 : q * vs.getD m 0 ≤ 18446744073709551615 * 18446744073709551615 := Nat.mul_le_mul (by omega) (by omega)
                omega
              refine G.cT rfl (G.region (J.move rfl rfl (J.subA rfl rfl rfl (by first | assumption | decide | omega) fun v101 h101 b101 => J.assign rfl rfl (J.nil (G.region (J.move rfl rfl (J.move rfl rfl ?_)))))))
              refine J.subA rfl rfl rfl (by first | assumption | decide | omega) fun v104 h104 b104 => J.assign rfl rfl (J.nil (G.prune [0, 1, 2, 3, 8, 9, 10, 11, 12, 13, 14, 15, 16, 17, 18, 19, 20, 21, 22, 23] rfl (G.inBlock ?_)))
              obtain rfl : v101 = x1 - 1 := by omega
              obtain rfl : v104 = x2 + 18446744073709551616 - vs.getD m 0 := by omega
              exact G.wk [0, 1, 2, 3, 4, 5] (ihh ⟨(q - 1, r + vs.getD (m + 1) 0, x1 - 1, x2 + 18446744073709551616 - vs.getD m 0), hdn'⟩ (by simp only; omega))
            · rw [if_neg hx, if_neg hx] at hdn'
              refine G.cF rfl (G.skip (G.region (J.move rfl rfl (J.move rfl rfl (J.subA rfl rfl rfl (by first | assumption | decide | omega) fun v104 h104 b104 => J.assign rfl rfl (J.nil (G.prune [0, 1, 2, 3, 8, 9, 10, 11, 12, 13, 14, 15, 16, 17, 18, 19, 20, 21, 22, 23] rfl ?_)))))))
              refine G.inBlock ?_
              obtain rfl : v104 = x2 - vs.getD m 0 := by omega
              exact G.wk [0, 1, 2, 3, 4, 5] (ihh ⟨(q - 1, r + vs.getD (m + 1) 0, x1, x2 - vs.getD m 0), hdn'⟩ (by simp only; omega))
        · skip
          refine G.cF rfl (G.exit rfl ?_)
          exact G.wk [0, 1, 2, 3, 4, 5] (hk q (hg.gs hv (by rw [← hex]; omega)))
    rintro q hg
    have hql := hg.b
    refine G.seq (G.region (J.move rfl rfl (J.move rfl rfl (J.move rfl rfl (J.move rfl rfl (J.slH0 rfl rfl rfl (by omega) rfl (J.move rfl rfl (J.move rfl rfl ?_))))))))
    refine J.eff (E.callP (mulAddVWWO_spec (V := V) (zs0 := hs') (xs0 := vs) (oz := L) (ox := 0) (n := m + 2) (y := q) (r := 0) (by omega) hhw' (by omega) hv.wd (by omega) hql (by decide)) [1] [2] rfl rfl rfl rfl rfl) rfl fun p hp => ?_
    try simp only [apC, apN]
    obtain ⟨c1, hs1⟩ := p
    simp only at hp ⊢
    have hl1a := hp.w.len
    have hat := hp.hat (by omega)
    have hw1' : Wd (hs1.set (L + (m + 2)) c1) := hp.w.wd.set hp.lt
    have hl1 : (hs1.set (L + (m + 2)) c1).length = hs.length := by rw [List.length_set, hp.w.len]; exact hhl'
    refine J.ix rfl rfl rfl (J.eff (E.sc rfl rfl) rfl (J.nil (G.prune [0, 1, 2, 3, 8, 9, 10, 11, 12, 14, 15, 16, 17, 18, 19, 20, 23] rfl (G.seq (G.region (J.move rfl rfl (J.lenS rfl rfl (J.assign rfl rfl ?_))))))))
    refine J.nil (G.seq (G.seq (G.region (J.move rfl rfl (J.move rfl rfl ?_)))))
    (first | refine J.addI rfl rfl rfl (by omega) ?_ | refine J.addZ rfl rfl rfl (by omega) (by omega) ?_)
    refine J.move rfl rfl (J.lenS rfl rfl ?_)
    (first | refine J.gtN rfl rfl rfl ?_ | refine J.gtZ rfl rfl rfl ?_)
    refine J.move rfl rfl (J.sk rfl rfl rfl rfl (J.sk rfl rfl rfl rfl (J.sk rfl rfl rfl rfl (J.sk rfl rfl rfl rfl (J.sk rfl rfl rfl rfl (J.pF rfl rfl rfl (J.nil (G.prune [0, 1, 2, 3, 8, 9, 10, 11, 12, 14, 15, 16, 17, 18, 19, 20, 21, 23, 128] rfl ?_))))))))
    refine G.cF rfl (G.skip (G.seq (G.regionS [0, 1, 2, 3, 4, 5, 6, 7, 8, 9, 10, 11, 12, 13, 14, 15, 16] none none [] (by kernel_rfl) (SubH.of [] rfl) rfl (J.move rfl rfl (J.move rfl rfl (J.move rfl rfl (J.move rfl rfl ?_)))))))
    (first | refine J.addI rfl rfl rfl (by omega) ?_ | refine J.addZ rfl rfl rfl (by omega) (by omega) ?_)
    (first | refine J.slLH1 rfl rfl rfl rfl (by omega) (by omega) (by omega) ?_ | refine J.slLHnil rfl rfl rfl rfl (by omega) (by omega) ?_)
    refine J.move rfl rfl (J.move rfl rfl (J.move rfl rfl (J.move rfl rfl ?_)))
    (first | refine J.addI rfl rfl rfl (by omega) ?_ | refine J.addZ rfl rfl rfl (by omega) (by omega) ?_)
    (first | refine J.slLH1 rfl rfl rfl rfl (by omega) (by omega) (by omega) ?_ | refine J.slLHnil rfl rfl rfl rfl (by omega) (by omega) ?_)
    refine J.move rfl rfl (J.move rfl rfl (J.slH rfl rfl rfl (by omega) ?_))
    rw [Nat.add_sub_cancel_left, Nat.zero_add]
    refine J.effH (E.callP (subVV_spec (zs0 := ws) (ys0 := hs1.set (L + (m + 2)) c1) (b2 := hb) (oz := k) (oy := L) (n := m + 2 + 1) (by omega) hd.w (by omega) hw1' (by omega)) [1] [0] rfl rfl rfl rfl rfl) rfl rfl fun p hp2 => ⟨fun _ => SubH.of [] rfl, ?_⟩
    try simp only [apC, apN]
    obtain ⟨c2, ws1⟩ := p
    simp only at hp2 ⊢
    have hl2 := hp2.w.len
    have hc2 := hp2.lt
    refine J.assign rfl rfl (J.nil (G.prune [0, 1, 2, 3, 8, 9, 10, 11, 12, 14, 15, 16, 17, 18, 19, 20, 21, 22, 23] rfl (G.seq (G.seq (G.region (J.move rfl rfl ?_))))))
    (first | refine J.neN rfl rfl rfl ?_ | refine J.neZ rfl rfl rfl ?_)
    refine J.nil ?_
    refine G.cut (σ := List Nat × Nat) (fun t => DI (rv us 0 (T + (m + 2))) vs t.1 (qs'.set k t.2) T m k ∧ t.1.length = us.length) (fun t => [(0, .slice (some ⟨qb, 0, none⟩) T cq), (1, .pointer (some ⟨sb, 0, none⟩)), (2, .slice (some ⟨ub, 0, none⟩) (T + (m + 2)) us.length), (3, .slice (some ⟨vb, 0, none⟩) (m + 2) cv), (8, .int .i64 ((m + 2 : Nat) : Int)), (9, .int .i64 (T : Nat)), (10, .slice (some ⟨hb, L, none⟩) (m + 2 + 1) (m + 2 + 1)), (11, .int .u64 (vs.getD (m + 1) 0 : Nat)), (12, .int .u64 (recip (vs.getD (m + 1) 0) : Nat)), (14, .int .i64 (k : Int)), (15, .int .u64 (t.2 : Nat))]) (fun t => [⟨ub, 162, cells .u64 t.1, true⟩, ⟨hb, 162, cells .u64 (hs1.set (L + (m + 2)) c1), true⟩, ⟨qb, 162, cells .u64 qs', true⟩, ⟨vb, 162, cells .u64 vs, true⟩, ⟨ib, 286, [.slice (some ⟨hb, 0, none⟩) (L + r4 (m + 2 + 1)) hs.length], true⟩, ⟨sb, 240, [.pointer (some ⟨ib, 0, none⟩)], false⟩]) (fun hk2 => ?_) ?_
    · skip
      by_cases hc0 : c2 = 0
      · subst hc0
        have hdi := hd.sub (by omega) hv hg hp2 hat (by omega)
        refine G.cF rfl (G.skip ?_)
        exact G.wk [0, 1, 2, 3, 4, 5] (hk2 (ws1, q) ⟨hdi, by simp only; omega⟩)
      · obtain rfl : c2 = 1 := by omega
        refine G.cT rfl (G.seq (G.regionS [0, 1, 2, 3, 4, 5, 6, 7, 8, 9, 10, 11, 12, 13, 14] none none [] (by kernel_rfl) (SubH.of [] rfl) rfl (J.move rfl rfl (J.move rfl rfl (J.move rfl rfl (J.move rfl rfl ?_))))))
        (first | refine J.addI rfl rfl rfl (by omega) ?_ | refine J.addZ rfl rfl rfl (by omega) (by omega) ?_)
        (first | refine J.slLH1 rfl rfl rfl rfl (by omega) (by omega) (by omega) ?_ | refine J.slLHnil rfl rfl rfl rfl (by omega) (by omega) ?_)
        refine J.move rfl rfl (J.move rfl rfl (J.move rfl rfl (J.move rfl rfl ?_)))
        (first | refine J.addI rfl rfl rfl (by omega) ?_ | refine J.addZ rfl rfl rfl (by omega) (by omega) ?_)
        (first | refine J.slLH1 rfl rfl rfl rfl (by omega) (by omega) (by omega) ?_ | refine J.slLHnil rfl rfl rfl rfl (by omega) (by omega) ?_)
        refine J.move rfl rfl ?_
        rw [Nat.add_sub_cancel_left, Nat.zero_add]
        refine J.effH (E.callP (addVV_spec (zs0 := ws1) (ys0 := vs) (b2 := vb) (oz := k) (oy := 0) (n := m + 2) (by omega) hp2.w.wd (by omega) hv.wd (by omega)) [0] [2] rfl rfl rfl rfl rfl) rfl rfl fun p hp3 => ⟨fun _ => SubH.of [] rfl, ?_⟩
        try simp only [apC, apN]
        obtain ⟨c3, ws2⟩ := p
        simp only at hp3 ⊢
        have hl3 := hp3.w.len
        refine J.assign rfl rfl (J.nil (G.prune [0, 1, 2, 3, 8, 9, 10, 11, 12, 14, 15, 16, 17, 18, 19, 20, 21, 22, 23] rfl (G.seq (G.seq (G.region (J.move rfl rfl (J.move rfl rfl ?_)))))))
        (first | refine J.ltN rfl rfl rfl ?_ | refine J.ltZ rfl rfl rfl ?_)
        refine J.nil (G.cT rfl (G.region (J.move rfl rfl (J.move rfl rfl (J.move rfl rfl ?_)))))
        (first | refine J.addI rfl rfl rfl (by omega) ?_ | refine J.addZ rfl rfl rfl (by omega) (by omega) ?_)
        refine J.ix rfl rfl rfl (J.lc rfl rfl rfl (J.move rfl rfl (J.addA rfl rfl rfl  fun v173 h173 b173 => J.ix rfl rfl rfl (J.eff (E.sc rfl rfl) rfl (J.nil (G.prune [0, 1, 2, 3, 8, 9, 10, 11, 12, 14, 15, 16, 17, 18, 19, 20, 21, 22, 23] rfl (G.region ?_)))))))
        refine J.move rfl rfl (J.subA rfl rfl rfl (by first | assumption | decide | omega) fun v176 h176 b176 => J.assign rfl rfl (J.nil ?_))
        simp only [Nat.zero_add (k + (m + 2))]
        obtain ⟨hq0, hdi⟩ := hd.add (by omega) hv hg hp2 hat hp3 (by omega) v173 b173
        obtain rfl : v176 = q - 1 := by omega
        exact G.wk [0, 1, 2, 3, 4, 5] (hk2 (ws2.set (k + (m + 2)) v173, q - 1) ⟨hdi, by simp only [List.length_set]; omega⟩)
    rintro ⟨ws2, qd⟩ ⟨hdi, hl4⟩
    simp only at hdi hl4 ⊢
    refine G.seq (G.region (J.move rfl rfl (J.move rfl rfl (J.move rfl rfl ?_))))
    (first | refine J.addI rfl rfl rfl (by omega) ?_ | refine J.addZ rfl rfl rfl (by omega) (by omega) ?_)
    (first | refine J.subI rfl rfl rfl (by omega) (by omega) ?_ | refine J.subZ rfl rfl rfl (by omega) (by omega) ?_)
    refine J.ix rfl rfl rfl (J.lc rfl rfl rfl (J.assign rfl rfl (J.nil (G.prune [0, 1, 2, 3, 8, 9, 10, 11, 12, 13, 14, 15, 16, 17, 18, 19, 20, 21, 22, 23] rfl (G.seq (G.seq (G.region (J.move rfl rfl ?_))))))))
    refine J.move rfl rfl ?_
    (first | refine J.eqN rfl rfl rfl ?_ | refine J.eqZ rfl rfl rfl ?_)
    refine J.move rfl rfl ?_
    rw [show k + (m + 2) - 1 = k + (m + 1) from rfl, Nat.zero_add (k + (m + 1))]
    refine J.sk rfl rfl rfl rfl (J.sk rfl rfl rfl rfl (J.sk rfl rfl rfl rfl (J.sk rfl rfl rfl rfl (J.pF rfl rfl rfl (J.move rfl rfl (J.sk rfl rfl rfl rfl (J.sk rfl rfl rfl rfl (J.pF rfl rfl rfl ?_))))))))
    refine J.nil (G.prune [0, 1, 2, 3, 8, 9, 10, 11, 12, 13, 14, 15, 16, 17, 18, 19, 20, 21, 22, 23, 196] rfl (G.cF rfl (G.skip (G.region (J.move rfl rfl (J.move rfl rfl (J.move rfl rfl (J.ix rfl rfl rfl ?_))))))))
    refine J.eff (E.sc rfl rfl) rfl (J.nil (G.prune [0, 1, 2, 3, 8, 9, 10, 11, 12, 13, 14, 15, 16, 17, 18, 19, 20, 21, 22, 23] rfl (G.inBlock (G.region (J.move rfl rfl ?_)))))
    (first | refine J.subI rfl rfl rfl (by omega) (by omega) ?_ | refine J.subZ rfl rfl rfl (by omega) (by omega) ?_)
    refine J.assign rfl rfl (J.nil ?_)
    simp only [Nat.zero_add k]
    exact G.wk [0, 1, 2, 3, 4, 5] (ih ⟨(k, ws2, qs'.set k qd, hs1.set (L + (m + 2)) c1), by simp only; omega, hdi, hl4, by simp only [List.length_set]; omega, hl1, hw1'⟩ (by simp only; omega))
end
section
set_option maxRecDepth 100000
set_option pp.deepTerms false
set_option maxHeartbeats 2000000
variable {V : Addr}
theorem DV.copy {vs ys : List Nat} {m : Nat} (hv : m + 2 ≤ vs.length) (hy : m + 2 ≤ ys.length) (hw : Wd vs) (h : Dvs ys m) :
    Dvs (splice vs 0 ((ys.drop 0).take (m + 2))) m ∧ rv (splice vs 0 ((ys.drop 0).take (m + 2))) 0 (m + 2) = rv ys 0 (m + 2) ∧ (splice vs 0 ((ys.drop 0).take (m + 2))).length = vs.length := by
  have hl : ((ys.drop 0).take (m + 2)).length = m + 2 := drop_take_len (by omega)
  have hg : ∀ j, j < m + 2 → (splice vs 0 ((ys.drop 0).take (m + 2))).getD j 0 = ys.getD j 0 := fun j hj => by
    rw [getD_splice (by omega), if_pos (by omega), Nat.sub_zero, getD_drop_take hj, Nat.zero_add]
  exact ⟨⟨hw.splice (h.wd.sub _ _) (by omega), by rw [hg _ (by omega)]; exact h.top⟩, rv_congr fun j hj => by rw [Nat.zero_add]; exact hg j hj, splice_len _ _ _ (by omega)⟩
structure UZ (xs us : List Nat) (l : Nat) : Prop where
  w : Wd us
  e : rv us 0 (l + 1) = rv xs 0 l
  z : us.getD l 0 = 0
  l : us.length = mcap (l + 1)
theorem UZ.mk' {xs : List Nat} {l : Nat} (hl : l ≤ xs.length) (hw : Wd xs) : UZ xs ((splice (List.replicate (mcap (l + 1)) 0) 0 ((xs.drop 0).take l)).set (0 + l) 0) l := by
  have hc := mcap_ge (l + 1)
  have h1 : ((xs.drop 0).take l).length = l := drop_take_len (by omega)
  have h2 : (List.replicate (mcap (l + 1)) 0).length = mcap (l + 1) := List.length_replicate ..
  have h3 : (splice (List.replicate (mcap (l + 1)) 0) 0 ((xs.drop 0).take l)).length = mcap (l + 1) := by rw [splice_len _ _ _ (by omega), h2]
  have hz : ((splice (List.replicate (mcap (l + 1)) 0) 0 ((xs.drop 0).take l)).set (0 + l) 0).getD l 0 = 0 := by rw [Nat.zero_add]; exact getD_set_eq (by omega)
  refine ⟨((Wd.rep _).splice (hw.sub _ _) (by omega)).set (by decide), ?_, hz, by rw [List.length_set, h3]⟩
  have hz' := hz
  rw [Nat.zero_add l] at hz'
  rw [rv_succ, Nat.zero_add l, hz', Nat.zero_mul, Nat.add_zero, rv_set (by omega)]
  exact rv_congr fun j hj => by rw [Nat.zero_add, getD_splice (by omega), if_pos (by omega), Nat.sub_zero, getD_drop_take hj, Nat.zero_add]
def skR (sb : Nat) : Option (Nat × Nat × Nat × Nat) → Hp
  | none => [⟨sb, 240, [.pointer none], true⟩]
  | some p => [⟨sb, 240, [.pointer (some ⟨p.1, 0, none⟩)], true⟩, ⟨p.1, 286, [.slice (some ⟨p.2.1, 0, none⟩) p.2.2.1 p.2.2.2], true⟩]
def qrH (sb : Nat) (t : RS × RS × Option (Nat × Nat × Nat × Nat)) : Hp := ⟨t.1.b, 162, cells .u64 t.1.xs, true⟩ :: ⟨t.2.1.b, 162, cells .u64 t.2.1.xs, true⟩ :: skR sb t.2.2
theorem divQ {Q V R X : Nat} (h : Q * V + R = X) (h1 : R < V) (h2 : V ≤ X) : Q ≠ 0 := by
  rintro rfl
  rw [Nat.zero_mul] at h
  omega
theorem divLarge_spec {sb T m : Nat} {z x y : RS} (hz : zok (some z)) (hx : zok (some x)) (hxl : x.len = T + (m + 1)) (hT : 0 < T) (hT9 : T ≤ 60) (hm9 : m ≤ 8) (hyl : y.len = m + 2) (hyk : y.len ≤ y.xs.length) (hy : Dvs y.xs m) (hXY : rv y.xs 0 (m + 2) ≤ rv x.xs 0 (T + (m + 1))) :
    Spec (cx V) 188 #[zv (some z), .pointer (some ⟨sb, 0, none⟩), .slice none 0 0, zv (some x), zv (some y)] (⟨z.b, 162, cells .u64 z.xs, true⟩ :: [⟨sb, 240, [.pointer none], true⟩]) [⟨x.b, 162, cells .u64 x.xs, false⟩, ⟨y.b, 162, cells .u64 y.xs, false⟩]
      (fun t : RS × RS × Option (Nat × Nat × Nat × Nat) => .tuple #[zv (some t.1), zv (some t.2.1)]) (qrH sb) (fun t => (∃ Q, Res (some t.1) Q ∧ Q ≠ 0) ∧ t.1.len ≤ T ∧ t.2.1.len ≤ t.2.1.xs.length) := by
  obtain ⟨zb, lz, zs⟩ := z
  obtain ⟨xb, lx, xs⟩ := x
  obtain ⟨yb, ly, ys⟩ := y
  obtain ⟨z1, z2, z3⟩ := hz
  obtain ⟨x1, x2, x3⟩ := hx
  simp only [zv] at *
  subst hxl
  subst hyl
  have hvt := hy.wd (0 + (m + 1))
  have hb64 : blen (ys.getD (m + 1) 0) = 64 := by
    have h1 := blen_lt (n := 64) (hy.wd (m + 1))
    have h2 := blen_le (x := ys.getD (m + 1) 0)
    have h3 := hy.top
    rcases Nat.lt_or_ge (blen (ys.getD (m + 1) 0)) 64 with e | e
    · exfalso
      have : 2 ^ blen (ys.getD (m + 1) 0) ≤ 2 ^ 63 := Nat.pow_le_pow_right (by decide) (by omega)
      have e63 : 2 ^ 63 = 9223372036854775808 := by decide
      omega
    · omega
  have hmc1 := mcap_ge (T + (m + 1) + 1)
  have hmc2 := mcap_le (T + (m + 1) + 1)
  have hmq1 := mcap_ge T
  have hmq2 := mcap_le T
  have hrl : (List.replicate (mcap (T + (m + 1) + 1)) 0).length = mcap (T + (m + 1) + 1) := List.length_replicate ..
  have hrq : (List.replicate (mcap T) 0).length = mcap T := List.length_replicate ..
  refine Spec.enter Tryz.func188 rfl Tryz.ntmps188 (by simp) [(0, .slice (some ⟨zb, 0, none⟩) lz zs.length), (1, .pointer (some ⟨sb, 0, none⟩)), (2, .slice none 0 0), (3, .slice (some ⟨xb, 0, none⟩) (T + (m + 1)) xs.length), (4, .slice (some ⟨yb, 0, none⟩) (m + 2) ys.length)] (by simp) ?_
  intro X hR
  try simp only [apC, apN]
  refine G.seq (G.region (J.assign rfl rfl (J.assign rfl rfl (J.nil (G.seq (G.region (J.move rfl rfl (J.lenS rfl rfl ?_))))))))
  refine J.assign rfl rfl (J.nil (G.seq (G.region (J.move rfl rfl (J.lenS rfl rfl (J.move rfl rfl ?_))))))
  (first | refine J.subI rfl rfl rfl (by omega) (by omega) ?_ | refine J.subZ rfl rfl rfl (by omega) (by omega) ?_)
  refine J.assign rfl rfl (J.nil (G.prune [0, 1, 2, 3, 4, 10, 11, 12, 13] rfl (G.seq (G.region (J.move rfl rfl (J.move rfl rfl (J.eff (E.callP (save_nil) [] [1] rfl rfl rfl rfl rfl) rfl fun _ _ => ?_)))))))
  try simp only [apC, apN]
  refine J.eff (E.defer rfl) rfl (J.nil (G.prune [0, 1, 2, 3, 4, 10, 11, 12, 13] rfl (G.seq (G.region (J.move rfl rfl (J.move rfl rfl ?_))))))
  (first | refine J.subI rfl rfl rfl (by omega) (by omega) ?_ | refine J.subZ rfl rfl rfl (by omega) (by omega) ?_)
  refine J.ix rfl rfl rfl (J.lc rfl rfl rfl ?_)
  rw [show m + 2 - 1 = m + 1 from rfl]
  refine J.eff (E.callP (nlz_spec hvt) [] [] rfl rfl rfl rfl rfl) rfl fun _ _ => ?_
  try simp only [apC, apN]
  refine J.assign rfl rfl (J.nil (G.prune [0, 1, 2, 3, 4, 10, 11, 12, 13, 14] rfl (G.seq (G.region (J.move rfl rfl (J.move rfl rfl ?_))))))
  rw [Nat.zero_add, hb64]
  by_cases h4 : m ≤ 2
  · skip
    refine J.eff (E.callP (snat_small (n := m + 2) (by omega) (by omega)) [] [1] rfl rfl rfl rfl rfl) rfl fun p hp => ?_
    try simp only [apC, apN]
    obtain ⟨vb, c⟩ := p
    simp only at hp ⊢
    have hvl0 : (nw (m + 2) c 11259375).length = m + 2 + c := nw_len ..
    have hvw0 : Wd (nw (m + 2) c 11259375) := nw_wd (by decide)
    generalize nw (m + 2) c 11259375 = vs0 at *
    refine J.ord [0, 1, 3, 4, 2] rfl (by decide) ?_
    refine J.assign rfl rfl (J.nil (G.prune [0, 1, 2, 3, 4, 10, 11, 12, 13, 14, 15] rfl (G.seq (G.region (J.move rfl rfl (J.move rfl rfl (J.lenS rfl rfl ?_)))))))
    (first | refine J.addI rfl rfl rfl (by omega) ?_ | refine J.addZ rfl rfl rfl (by omega) (by omega) ?_)
    refine J.eff (E.callP (make_new (n := T + (m + 1) + 1) (by omega) (by omega)) [] [] rfl rfl rfl rfl rfl) rfl fun ub _ => ?_
    try simp only [apC, apN]
    refine J.assign rfl rfl (J.nil (G.prune [0, 1, 2, 3, 4, 10, 11, 12, 13, 14, 15] rfl (G.seq (G.seq (G.region (J.move rfl rfl ?_))))))
    (first | refine J.eqN rfl rfl rfl ?_ | refine J.eqZ rfl rfl rfl ?_)
    refine J.nil (G.cT rfl (G.seq (G.region (J.move rfl rfl (J.move rfl rfl (J.eff (E.copy (xs := vs0) (ys := ys) (o := 0) (o2 := 0) (q := m + 2) rfl rfl rfl (Mem.t (Mem.t (Mem.t (Mem.t Mem.h)))) (Nat.min_self _) (by omega) (by omega) (Upd1.t Upd1.h)) rfl (J.nil (G.seq ?_))))))))
    refine G.region (J.move rfl rfl (J.move rfl rfl (J.lenS rfl rfl (J.slH rfl rfl rfl (by omega) (J.move rfl rfl (J.eff (E.copy (xs := List.replicate (mcap (T + (m + 1) + 1)) 0) (ys := xs) (o := 0) (o2 := 0) (q := T + (m + 1)) rfl rfl rfl (Mem.t (Mem.t (Mem.t Mem.h))) (Nat.min_self _) (by omega) (by omega) Upd1.h) rfl ?_))))))
    have hsl : (splice (List.replicate (mcap (T + (m + 1) + 1)) 0) 0 ((xs.drop 0).take (T + (m + 1)))).length = mcap (T + (m + 1) + 1) := by rw [splice_len _ _ _ (by rw [drop_take_len (by omega)]; omega), hrl]
    refine J.nil (G.prune [0, 1, 2, 3, 10, 11, 12, 13, 14, 15] rfl (G.region (J.move rfl rfl (J.move rfl rfl (J.lenS rfl rfl (J.ix rfl rfl rfl (J.eff (E.sc rfl rfl) rfl (J.nil ?_))))))))
    refine G.prune [0, 1, 2, 10, 11, 12, 13, 14, 15] rfl (G.seq (G.seq (G.region (J.move rfl rfl (J.move rfl rfl ?_)))))
    obtain ⟨hv, hve, hvl⟩ := DV.copy (vs := vs0) (by omega) hyk hvw0 hy
    have huz := UZ.mk' (l := T + (m + 1)) x1 x3
    generalize splice vs0 0 ((ys.drop 0).take (m + 2)) = vs at hv hve hvl ⊢
    generalize (splice (List.replicate (mcap (T + (m + 1) + 1)) 0) 0 ((xs.drop 0).take (T + (m + 1)))).set (0 + (T + (m + 1))) 0 = us at huz ⊢
    have hul := huz.l
    rw [← hul]
    refine J.sep 2 0 rfl rfl (by decide) (.inl rfl) fun hne => ?_
    simp only at hne
    refine J.eff (E.callP (alias_other (cs := cells .u64 zs) (cs2 := cells .u64 us) hne (by omega) (by omega)) [] [2, 0] rfl rfl rfl rfl rfl) rfl fun _ _ => ?_
    try simp only [apC, apN]
    refine J.nil (G.cF rfl ?_)
    apply G.join (σ := Nat × List Nat) (fun t => T ≤ t.2.length ∧ t.2.length < 9223372036854775808 ∧ Wd t.2) (fun t => [(1, .pointer (some ⟨sb, 0, none⟩)), (2, .slice (some ⟨ub, 0, none⟩) (T + (m + 2)) us.length), (10, .slice (some ⟨t.1, 0, none⟩) T t.2.length), (12, .int .i64 ((m + 2 : Nat) : Int)), (14, .int .u64 ((64 - 64 : Nat) : Int)), (15, .slice (some ⟨vb, 0, none⟩) (m + 2) vs0.length)]) (fun t => [⟨t.1, 162, cells .u64 t.2, true⟩, ⟨ub, 162, cells .u64 us, true⟩, ⟨vb, 162, cells .u64 vs, true⟩, ⟨sb, 240, [.pointer none], true⟩])
    · intro hk
      refine G.skip (G.seq (G.region (J.move rfl rfl (J.move rfl rfl ?_))))
      (first | refine J.addI rfl rfl rfl (by omega) ?_ | refine J.addZ rfl rfl rfl (by omega) (by omega) ?_)
      rw [show T + (m + 1) - (m + 2) + 1 = T by omega]
      by_cases hf : T ≤ zs.length
      · skip
        refine J.eff (E.callP (make_fit hf) [] [] rfl rfl rfl rfl rfl) rfl fun _ _ => ?_
        try simp only [apC, apN]
        refine J.assign rfl rfl (J.nil (G.prune [1, 2, 10, 11, 12, 14, 15] rfl (G.seq (G.seq ?_))))
        exact G.wk [2, 0, 1, 5] (hk (zb, zs) ⟨hf, by simp only; omega, z3⟩)
      · skip
        refine J.eff (E.callP (make_new (n := T) (by omega) (by omega)) [] [] rfl rfl rfl rfl rfl) rfl fun qg _ => ?_
        try simp only [apC, apN]
        refine J.assign rfl rfl (J.nil (G.prune [1, 2, 10, 11, 12, 14, 15] rfl (G.seq (G.seq ?_))))
        have hk' := hk (qg, List.replicate (mcap T) 0) ⟨by simp only; omega, by simp only; omega, Wd.rep _⟩
        simp only [hrq] at hk'
        exact G.wk [0, 1, 2, 6] hk'
    rintro ⟨qb, qs⟩ ⟨hq1, hq2, hq3⟩
    simp only at hq1 hq2 hq3 ⊢
    refine G.region (J.move rfl rfl (J.loadGi 4 rfl rfl rfl rfl ?_))
    (first | refine J.ltN rfl rfl rfl ?_ | refine J.ltZ rfl rfl rfl ?_)
    refine J.nil (G.cT rfl (G.region (J.move rfl rfl (J.move rfl rfl (J.move rfl rfl (J.move rfl rfl ?_))))))
    have hU : rv us 0 (T + (m + 2)) = rv xs 0 (T + (m + 1)) := huz.e
    by_cases hm1 : m ≤ 1
    · skip
      refine J.eff (E.callP (divBasicA (cq := qs.length) (cv := vs0.length) hv (by omega) huz.w (by omega) (by omega) hq3 hq1 hT (by omega) (by omega) huz.z hm1) [0, 0] [0, 1] rfl rfl rfl rfl rfl) rfl fun p hp => ?_
      try simp only [apC, apN]
      obtain ⟨qs', us'⟩ := p
      obtain ⟨hd, hl1, hl2⟩ := hp
      simp only at hd hl1 hl2 ⊢
      have hfin := hd.fin
      rw [hU, hve] at hfin
      have hQ0 := divQ hfin (by have := hd.lt; rw [hve] at this; exact this) hXY
      refine J.nil (G.prune [2, 10, 11, 14] rfl (G.seq (G.region (J.move rfl rfl (J.eff (E.callP (norm_spec (o := 0) (len := T) (xs := qs') (by omega) (by omega) (by omega)) [] [0] rfl rfl rfl rfl rfl) rfl fun _ _ => ?_)))))
      try simp only [apC, apN]
      refine J.assign rfl rfl (J.nil (G.seq (G.seq (G.region (J.move rfl rfl ?_)))))
      (first | refine J.neN rfl rfl rfl ?_ | refine J.neZ rfl rfl rfl ?_)
      refine J.nil (G.cF rfl (G.skip (G.seq (G.region (J.move rfl rfl (J.eff (E.callP (norm_spec (o := 0) (len := T + (m + 2)) (xs := us') (by omega) (by omega) (by omega)) [] [1] rfl rfl rfl rfl rfl) rfl fun _ _ => ?_))))))
      try simp only [apC, apN]
      refine J.assign rfl rfl (J.nil (G.seq (G.region (J.move rfl rfl (J.move rfl rfl (J.assign rfl rfl (J.assign rfl rfl (J.nil ?_))))))))
      refine G.prune [10, 11] rfl (G.ret (hR _) ?_)
      rw [← hl1, ← hl2]
      refine GL.deferredP (restore_nilD (V := V) (sb := sb) (n := 0)) [] [3] rfl rfl rfl fun _ _ => ?_
      exact GL.done (⟨qb, nl qs' 0 T, qs'⟩, ⟨ub, nl us' 0 (T + (m + 2)), us'⟩, none) rfl rfl ⟨⟨_, Res.norm (by omega) (by omega) hd.q rfl, hQ0⟩, nl_le _ _ _, show nl us' 0 (T + (m + 2)) ≤ us'.length from Nat.le_trans (nl_le _ _ _) (by omega)⟩ rfl [0, 1, 3] rfl (by decide) (by simp [qrH, skR])
    · skip
      refine J.eff (E.callP (divBasicB (cq := qs.length) (cv := vs0.length) hv (by omega) huz.w (by omega) (by omega) hq3 hq1 hT (by omega) (by omega) huz.z (by omega)) [0, 0, 1] [0] rfl rfl rfl rfl rfl) rfl fun p hp => ?_
      try simp only [apC, apN]
      obtain ⟨qs', us', ib, ba, bc⟩ := p
      obtain ⟨hd, hl1, hl2⟩ := hp
      simp only at hd hl1 hl2 ⊢
      have hfin := hd.fin
      rw [hU, hve] at hfin
      have hQ0 := divQ hfin (by have := hd.lt; rw [hve] at this; exact this) hXY
      refine J.nil (G.prune [2, 10, 11, 14] rfl (G.seq (G.region (J.move rfl rfl (J.eff (E.callP (norm_spec (o := 0) (len := T) (xs := qs') (by omega) (by omega) (by omega)) [] [0] rfl rfl rfl rfl rfl) rfl fun _ _ => ?_)))))
      try simp only [apC, apN]
      refine J.assign rfl rfl (J.nil (G.seq (G.seq (G.region (J.move rfl rfl ?_)))))
      (first | refine J.neN rfl rfl rfl ?_ | refine J.neZ rfl rfl rfl ?_)
      refine J.nil (G.cF rfl (G.skip (G.seq (G.region (J.move rfl rfl (J.eff (E.callP (norm_spec (o := 0) (len := T + (m + 2)) (xs := us') (by omega) (by omega) (by omega)) [] [1] rfl rfl rfl rfl rfl) rfl fun _ _ => ?_))))))
      try simp only [apC, apN]
      refine J.assign rfl rfl (J.nil (G.seq (G.region (J.move rfl rfl (J.move rfl rfl (J.assign rfl rfl (J.assign rfl rfl (J.nil ?_))))))))
      refine G.prune [10, 11] rfl (G.ret (hR _) ?_)
      rw [← hl1, ← hl2]
      refine GL.deferredP (restore_someD (V := V) (sb := sb) (ib := ib) (n := 0) (Nat.zero_le _)) [3] [2] rfl rfl rfl fun _ _ => ?_
      exact GL.done (⟨qb, nl qs' 0 T, qs'⟩, ⟨ub, nl us' 0 (T + (m + 2)), us'⟩, some (ib, ba, 0, bc)) rfl rfl ⟨⟨_, Res.norm (by omega) (by omega) hd.q rfl, hQ0⟩, nl_le _ _ _, show nl us' 0 (T + (m + 2)) ≤ us'.length from Nat.le_trans (nl_le _ _ _) (by omega)⟩ rfl [1, 2, 3, 0] rfl (by decide) (by simp [qrH, skR])
  · have hr4 := r4_le (m + 2)
    have hr42 := r4_le2 (m + 2)
    refine J.eff (E.callP (snat_new (n := m + 2) (by omega) (by omega)) [1] [] rfl rfl rfl rfl rfl) rfl fun p hp => ?_
    try simp only [apC, apN]
    obtain ⟨ib, vb, c⟩ := p
    simp only at hp ⊢
    have hvl0 : (nw (r4 (m + 2)) c 1043915).length = r4 (m + 2) + c := nw_len ..
    have hvw0 : Wd (nw (r4 (m + 2)) c 1043915) := nw_wd (by decide)
    generalize nw (r4 (m + 2)) c 1043915 = vs0 at *
    refine J.ord [2, 3, 4, 5, 0, 1] rfl (by decide) ?_
    refine J.assign rfl rfl (J.nil (G.prune [0, 1, 2, 3, 4, 10, 11, 12, 13, 14, 15] rfl (G.seq (G.region (J.move rfl rfl (J.move rfl rfl (J.lenS rfl rfl ?_)))))))
    (first | refine J.addI rfl rfl rfl (by omega) ?_ | refine J.addZ rfl rfl rfl (by omega) (by omega) ?_)
    refine J.eff (E.callP (make_new (n := T + (m + 1) + 1) (by omega) (by omega)) [] [] rfl rfl rfl rfl rfl) rfl fun ub _ => ?_
    try simp only [apC, apN]
    refine J.assign rfl rfl (J.nil (G.prune [0, 1, 2, 3, 4, 10, 11, 12, 13, 14, 15] rfl (G.seq (G.seq (G.region (J.move rfl rfl ?_))))))
    (first | refine J.eqN rfl rfl rfl ?_ | refine J.eqZ rfl rfl rfl ?_)
    refine J.nil (G.cT rfl (G.seq (G.region (J.move rfl rfl (J.move rfl rfl (J.eff (E.copy (xs := vs0) (ys := ys) (o := 0) (o2 := 0) (q := m + 2) rfl rfl rfl (Mem.t (Mem.t (Mem.t (Mem.t Mem.h)))) (Nat.min_self _) (by omega) (by omega) (Upd1.t Upd1.h)) rfl (J.nil (G.seq ?_))))))))
    refine G.region (J.move rfl rfl (J.move rfl rfl (J.lenS rfl rfl (J.slH rfl rfl rfl (by omega) (J.move rfl rfl (J.eff (E.copy (xs := List.replicate (mcap (T + (m + 1) + 1)) 0) (ys := xs) (o := 0) (o2 := 0) (q := T + (m + 1)) rfl rfl rfl (Mem.t (Mem.t (Mem.t Mem.h))) (Nat.min_self _) (by omega) (by omega) Upd1.h) rfl ?_))))))
    have hsl : (splice (List.replicate (mcap (T + (m + 1) + 1)) 0) 0 ((xs.drop 0).take (T + (m + 1)))).length = mcap (T + (m + 1) + 1) := by rw [splice_len _ _ _ (by rw [drop_take_len (by omega)]; omega), hrl]
    refine J.nil (G.prune [0, 1, 2, 3, 10, 11, 12, 13, 14, 15] rfl (G.region (J.move rfl rfl (J.move rfl rfl (J.lenS rfl rfl (J.ix rfl rfl rfl (J.eff (E.sc rfl rfl) rfl (J.nil ?_))))))))
    refine G.prune [0, 1, 2, 10, 11, 12, 13, 14, 15] rfl (G.seq (G.seq (G.region (J.move rfl rfl (J.move rfl rfl ?_)))))
    obtain ⟨hv, hve, hvl⟩ := DV.copy (vs := vs0) (by omega) hyk hvw0 hy
    have huz := UZ.mk' (l := T + (m + 1)) x1 x3
    generalize splice vs0 0 ((ys.drop 0).take (m + 2)) = vs at hv hve hvl ⊢
    generalize (splice (List.replicate (mcap (T + (m + 1) + 1)) 0) 0 ((xs.drop 0).take (T + (m + 1)))).set (0 + (T + (m + 1))) 0 = us at huz ⊢
    have hul := huz.l
    rw [← hul]
    refine J.sep 2 0 rfl rfl (by decide) (.inl rfl) fun hne => ?_
    simp only at hne
    refine J.eff (E.callP (alias_other (cs := cells .u64 zs) (cs2 := cells .u64 us) hne (by omega) (by omega)) [] [2, 0] rfl rfl rfl rfl rfl) rfl fun _ _ => ?_
    try simp only [apC, apN]
    refine J.nil (G.cF rfl ?_)
    apply G.join (σ := Nat × List Nat) (fun t => T ≤ t.2.length ∧ t.2.length < 9223372036854775808 ∧ Wd t.2) (fun t => [(1, .pointer (some ⟨sb, 0, none⟩)), (2, .slice (some ⟨ub, 0, none⟩) (T + (m + 2)) us.length), (10, .slice (some ⟨t.1, 0, none⟩) T t.2.length), (12, .int .i64 ((m + 2 : Nat) : Int)), (14, .int .u64 ((64 - 64 : Nat) : Int)), (15, .slice (some ⟨vb, 0, none⟩) (m + 2) (m + 2))]) (fun t => [⟨t.1, 162, cells .u64 t.2, true⟩, ⟨ub, 162, cells .u64 us, true⟩, ⟨vb, 162, cells .u64 vs, true⟩, ⟨sb, 240, [.pointer (some ⟨ib, 0, none⟩)], true⟩, ⟨ib, 286, [.slice (some ⟨vb, 0, none⟩) (r4 (m + 2)) vs0.length], true⟩])
    · intro hk
      refine G.skip (G.seq (G.region (J.move rfl rfl (J.move rfl rfl ?_))))
      (first | refine J.addI rfl rfl rfl (by omega) ?_ | refine J.addZ rfl rfl rfl (by omega) (by omega) ?_)
      rw [show T + (m + 1) - (m + 2) + 1 = T by omega]
      by_cases hf : T ≤ zs.length
      · skip
        refine J.eff (E.callP (make_fit hf) [] [] rfl rfl rfl rfl rfl) rfl fun _ _ => ?_
        try simp only [apC, apN]
        refine J.assign rfl rfl (J.nil (G.prune [1, 2, 10, 11, 12, 14, 15] rfl (G.seq (G.seq ?_))))
        exact G.wk [2, 0, 1, 5, 6] (hk (zb, zs) ⟨hf, by simp only; omega, z3⟩)
      · skip
        refine J.eff (E.callP (make_new (n := T) (by omega) (by omega)) [] [] rfl rfl rfl rfl rfl) rfl fun qg _ => ?_
        try simp only [apC, apN]
        refine J.assign rfl rfl (J.nil (G.prune [1, 2, 10, 11, 12, 14, 15] rfl (G.seq (G.seq ?_))))
        have hk' := hk (qg, List.replicate (mcap T) 0) ⟨by simp only; omega, by simp only; omega, Wd.rep _⟩
        simp only [hrq] at hk'
        exact G.wk [0, 1, 2, 6, 7] hk'
    rintro ⟨qb, qs⟩ ⟨hq1, hq2, hq3⟩
    simp only at hq1 hq2 hq3 ⊢
    refine G.region (J.move rfl rfl (J.loadGi 4 rfl rfl rfl rfl ?_))
    (first | refine J.ltN rfl rfl rfl ?_ | refine J.ltZ rfl rfl rfl ?_)
    refine J.nil (G.cT rfl (G.region (J.move rfl rfl (J.move rfl rfl (J.move rfl rfl (J.move rfl rfl ?_))))))
    have hU : rv us 0 (T + (m + 2)) = rv xs 0 (T + (m + 1)) := huz.e
    rw [← hvl]
    refine J.eff (E.callP (divBasicC (ib := ib) (L := r4 (m + 2)) (cq := qs.length) (cv := m + 2) hv (by omega) huz.w (by omega) (by omega) hq3 hq1 hT (by omega) (by omega) huz.z hr4 (by omega) (by omega) (by omega)) [0, 0, 2, 0] [0] rfl rfl rfl rfl rfl) rfl fun p hp => ?_
    try simp only [apC, apN]
    obtain ⟨qs', us', ba, bc⟩ := p
    obtain ⟨hd, hl1, hl2⟩ := hp
    simp only at hd hl1 hl2 ⊢
    have hfin := hd.fin
    rw [hU, hve] at hfin
    have hQ0 := divQ hfin (by have := hd.lt; rw [hve] at this; exact this) hXY
    refine J.nil (G.prune [2, 10, 11, 14] rfl (G.seq (G.region (J.move rfl rfl (J.eff (E.callP (norm_spec (o := 0) (len := T) (xs := qs') (by omega) (by omega) (by omega)) [] [0] rfl rfl rfl rfl rfl) rfl fun _ _ => ?_)))))
    try simp only [apC, apN]
    refine J.assign rfl rfl (J.nil (G.seq (G.seq (G.region (J.move rfl rfl ?_)))))
    (first | refine J.neN rfl rfl rfl ?_ | refine J.neZ rfl rfl rfl ?_)
    refine J.nil (G.cF rfl (G.skip (G.seq (G.region (J.move rfl rfl (J.eff (E.callP (norm_spec (o := 0) (len := T + (m + 2)) (xs := us') (by omega) (by omega) (by omega)) [] [1] rfl rfl rfl rfl rfl) rfl fun _ _ => ?_))))))
    try simp only [apC, apN]
    refine J.assign rfl rfl (J.nil (G.seq (G.region (J.move rfl rfl (J.move rfl rfl (J.assign rfl rfl (J.assign rfl rfl (J.nil ?_))))))))
    refine G.prune [10, 11] rfl (G.ret (hR _) ?_)
    rw [← hl1, ← hl2]
    refine GL.deferredP (restore_someD (V := V) (sb := sb) (ib := ib) (n := 0) (Nat.zero_le _)) [2] [2] rfl rfl rfl fun _ _ => ?_
    exact GL.done (⟨qb, nl qs' 0 T, qs'⟩, ⟨ub, nl us' 0 (T + (m + 2)), us'⟩, some (ib, ba, 0, bc)) rfl rfl ⟨⟨_, Res.norm (by omega) (by omega) hd.q rfl, hQ0⟩, nl_le _ _ _, show nl us' 0 (T + (m + 2)) ≤ us'.length from Nat.le_trans (nl_le _ _ _) (by omega)⟩ rfl [1, 2, 3, 0] rfl (by decide) (by simp [qrH, skR])
end
section
set_option maxRecDepth 100000
set_option pp.deepTerms false
variable {V : Addr}
theorem divW_other {z x : RS} {v y : Nat} (hz : zok (some z)) (hx : Res (some x) v) (h0 : 0 < x.len) (h9 : x.len ≤ 1000) (hy : 2 ≤ y) (hyW : y < 18446744073709551616) :
    Spec (cx V) 187 #[zv (some z), zv (some x), .int .u64 y] [⟨z.b, 162, cells .u64 z.xs, true⟩] [⟨x.b, 162, cells .u64 x.xs, false⟩] zwv (fun t => zh true t.1) (fun t => Res t.1 (v / y) ∧ t.2 = v % y ∧ zlen t.1 ≤ x.len) := by
  obtain ⟨b2, lz, zs⟩ := z
  obtain ⟨b, l, xs⟩ := x
  obtain ⟨z1, z2, z3⟩ := hx.ok
  obtain ⟨w1, w2, w3⟩ := hz
  have hzn := hx.n
  simp only [zv, zh, zn] at *
  have hc1 := mcap_ge l
  have hc2 := mcap_le l
  have hl2 : (List.replicate (mcap l) 0).length = mcap l := List.length_replicate ..
  refine Spec.enter Tryz.func187 rfl Tryz.ntmps187 (by simp) [(0, .slice (some ⟨b2, 0, none⟩) lz zs.length), (1, .slice (some ⟨b, 0, none⟩) l xs.length), (2, .int .u64 y)] (by simp) ?_
  intro X hR
  try simp only [apC, apN]
  refine G.seq (G.region (J.assign rfl rfl (J.assign rfl rfl (J.nil (G.seq (G.region (J.move rfl rfl (J.lenS rfl rfl ?_))))))))
  refine J.assign rfl rfl (J.nil (G.seq (G.block (G.seq (G.region (J.move rfl rfl ?_))))))
  (first | refine J.eqN rfl rfl rfl ?_ | refine J.eqZ rfl rfl rfl ?_)
  refine J.assign rfl rfl (J.nil (G.cF rfl (G.seq (G.region (J.move rfl rfl ?_)))))
  (first | refine J.eqN rfl rfl rfl ?_ | refine J.eqZ rfl rfl rfl ?_)
  refine J.assign rfl rfl (J.nil (G.cF rfl (G.seq (G.region (J.move rfl rfl ?_)))))
  (first | refine J.eqN rfl rfl rfl ?_ | refine J.eqZ rfl rfl rfl ?_)
  refine J.assign rfl rfl (J.nil (G.cF rfl (G.skip (G.inBlock (G.seq (G.region (J.move rfl rfl (J.move rfl rfl ?_))))))))
  by_cases hf : l ≤ zs.length
  · skip
    refine J.eff (E.callP (make_fit hf) [] [] rfl rfl rfl rfl rfl) rfl fun _ _ => ?_
    try simp only [apC, apN]
    refine J.assign rfl rfl (J.nil (G.prune [0, 1, 2, 6, 7] rfl (G.seq (G.region (J.move rfl rfl (J.move rfl rfl (J.move rfl rfl (J.eff (E.callP (divWVWO_spec (V := V) (n := l) (oz := 0) (ox := 0) (zs0 := zs) (xs0 := xs) (by omega) w3 (by omega) z3 (by omega) h0 (by omega) hyW) [0] [0] rfl rfl rfl rfl rfl) rfl fun p hp => ?_))))))))
    try simp only [apC, apN]
    have hlen := hp.w.len
    obtain ⟨q1, q2⟩ := dv_law hp (by omega) hzn
    refine J.assign rfl rfl (J.nil (G.prune [0, 6, 7] rfl (G.seq (G.region (J.move rfl rfl (J.eff (E.callP (norm_spec (o := 0) (len := l) (xs := p.2) (by omega) (by omega) (by omega)) [] [0] rfl rfl rfl rfl rfl) rfl fun _ _ => ?_))))))
    try simp only [apC, apN]
    refine J.assign rfl rfl (J.nil (G.ret (hR _) ?_))
    exact GL.done (some ⟨b2, nl p.2 0 l, p.2⟩, p.1) rfl rfl ⟨Res.norm (by omega) (by omega) hp.w.wd q1, q2, nl_le _ _ _⟩ (by simp only [zwv, zv, hlen]; rfl) [0] rfl (by decide) (by simp [zh])
  · skip
    refine J.eff (E.callP (make_new (n := l) (by omega) (by omega)) [] [] rfl rfl rfl rfl rfl) rfl fun g _ => ?_
    try simp only [apC, apN]
    refine J.assign rfl rfl (J.nil (G.prune [0, 1, 2, 6, 7] rfl (G.seq (G.region (J.move rfl rfl (J.move rfl rfl (J.move rfl rfl (J.eff (E.callP (divWVWO_spec (V := V) (n := l) (oz := 0) (ox := 0) (zs0 := List.replicate (mcap l) 0) (xs0 := xs) (by omega) (Wd.rep _) (by omega) z3 (by omega) h0 (by omega) hyW) [0] [1] rfl rfl rfl rfl rfl) rfl fun p hp => ?_))))))))
    try simp only [apC, apN]
    have hlen := hp.w.len
    obtain ⟨q1, q2⟩ := dv_law hp (by omega) hzn
    refine J.assign rfl rfl (J.nil (G.prune [0, 6, 7] rfl (G.seq (G.region (J.move rfl rfl (J.eff (E.callP (norm_spec (o := 0) (len := l) (xs := p.2) (by omega) (by omega) (by omega)) [] [0] rfl rfl rfl rfl rfl) rfl fun _ _ => ?_))))))
    try simp only [apC, apN]
    refine J.assign rfl rfl (J.nil (G.ret (hR _) ?_))
    exact GL.done (some ⟨g, nl p.2 0 l, p.2⟩, p.1) rfl rfl ⟨Res.norm (by omega) (by omega) hp.w.wd q1, q2, nl_le _ _ _⟩ (by simp only [zwv, zv, hlen, hl2]; rfl) [0] rfl (by decide) (by simp [zh])
theorem MN.res {m : RS} (h : MN m) : Res (some m) (zn (some m)) := by
  refine ⟨h.ok, .inr ?_, rfl⟩
  obtain ⟨b, l, xs⟩ := m
  have ht := h.top
  have h0 := h.l0
  obtain ⟨h1, h2, h3⟩ := h.ok
  simp only at *
  obtain ⟨k, rfl⟩ : ∃ k, l = k + 1 := ⟨l - 1, by omega⟩
  simp only [Nat.add_sub_cancel] at *
  intro e
  rw [rv_succ, Nat.zero_add, e, Nat.zero_mul, Nat.add_zero] at ht
  have h4 := rv_lt h3 0 k
  have h5 : 1 * 18446744073709551616 ^ k ≤ 9223372036854775808 * 18446744073709551616 ^ k := Nat.mul_le_mul_right _ (by decide)
  omega
theorem MN.tw {m : RS} (h : MN m) : 9223372036854775808 ≤ m.xs.getD (m.len - 1) 0 := by
  obtain ⟨b, l, xs⟩ := m
  have ht := h.top
  have h0 := h.l0
  obtain ⟨h1, h2, h3⟩ := h.ok
  simp only at *
  obtain ⟨k, rfl⟩ : ∃ k, l = k + 1 := ⟨l - 1, by omega⟩
  simp only [Nat.add_sub_cancel] at *
  rw [rv_succ, Nat.zero_add] at ht
  have h4 := rv_lt h3 0 k
  rcases Nat.lt_or_ge (xs.getD k 0) 9223372036854775808 with e | e
  · exfalso
    have := Nat.mul_le_mul_right (18446744073709551616 ^ k) (Nat.succ_le_of_lt e)
    rw [Nat.succ_mul] at this
    omega
  · exact e
theorem fdiv_spec {sb : Nat} {z x y : RS} {v : Nat} (hz : zok (some z)) (hx : Res (some x) v) (hxl : x.len = 9 + y.len) (hy : MN y) (hy9 : y.len ≤ 9) (hXY : zn (some y) * 18446744073709551616 ≤ v) :
    Spec (cx V) 132 #[zv (some z), .pointer (some ⟨sb, 0, none⟩), .slice none 0 0, zv (some x), zv (some y)] [⟨z.b, 162, cells .u64 z.xs, true⟩, ⟨sb, 240, [.pointer none], true⟩] [⟨x.b, 162, cells .u64 x.xs, false⟩, ⟨y.b, 162, cells .u64 y.xs, false⟩]
      (fun t : RS × (Option Addr × Nat × Nat) × Option (Nat × Nat × Nat × Nat) => .tuple #[zv (some t.1), .slice t.2.1.1 t.2.1.2.1 t.2.1.2.2]) (fun t => ⟨t.1.b, 162, cells .u64 t.1.xs, true⟩ :: skR sb t.2.2) (fun t => (∃ Q, Res (some t.1) Q ∧ Q ≠ 0) ∧ t.1.len ≤ 10 ∧ t.2.1.2.1 ≤ t.2.1.2.2) := by
  obtain ⟨zb, lz, zs⟩ := z
  obtain ⟨xb, lx, xs⟩ := x
  obtain ⟨yb, ly, ys⟩ := y
  have hyr := hy.res
  have hy0 := hy.l0
  have hyt := hy.tw
  obtain ⟨y1, y2, y3⟩ := hy.ok
  have hyW := y3 (ly - 1)
  simp only [zv] at *
  subst hxl
  refine Spec.enter Tryz.func132 rfl Tryz.ntmps132 (by simp) [(0, .slice (some ⟨zb, 0, none⟩) lz zs.length), (1, .pointer (some ⟨sb, 0, none⟩)), (2, .slice none 0 0), (3, .slice (some ⟨xb, 0, none⟩) (9 + ly) xs.length), (4, .slice (some ⟨yb, 0, none⟩) ly ys.length)] (by simp) ?_
  intro X hR
  try simp only [apC, apN]
  refine G.seq (G.region (J.assign rfl rfl (J.assign rfl rfl (J.nil (G.seq (G.seq (G.region (J.move rfl rfl ?_))))))))
  refine J.lenS rfl rfl ?_
  (first | refine J.eqN rfl rfl rfl ?_ | refine J.eqZ rfl rfl rfl ?_)
  refine J.nil (G.cF rfl (G.skip (G.seq (G.seq (G.region (J.move rfl rfl (J.lenS rfl rfl ?_)))))))
  (first | refine J.eqN rfl rfl rfl ?_ | refine J.eqZ rfl rfl rfl ?_)
  refine J.nil ?_
  by_cases h1 : ly = 1
  · subst h1
    simp only [Nat.sub_self] at hyt hyW
    have hyv : zn (some ⟨yb, 1, ys⟩) = ys.getD 0 0 := by simp [zn, rv]
    rw [hyv] at hXY
    refine G.cT rfl (G.seq (G.region (J.assign rfl rfl (J.nil (G.seq (G.region (J.move rfl rfl (J.move rfl rfl ?_))))))))
    refine J.move rfl rfl (J.ix rfl rfl rfl (J.lc rfl rfl rfl ?_))
    simp only [Nat.zero_add]
    refine J.eff (E.callP (divW_other (z := ⟨zb, lz, zs⟩) (x := ⟨xb, 9 + 1, xs⟩) hz hx (by simp) (by simp) (by omega) hyW) [0] [1] rfl rfl rfl rfl rfl) rfl fun t ht => ?_
    try simp only [apC, apN]
    obtain ⟨q, r⟩ := t
    obtain ⟨hq, hr, hql⟩ := ht
    obtain ⟨⟨bq, lq, xq⟩, rfl, hq0⟩ := Res.some hq (Nat.ne_of_gt (Nat.div_pos (by omega) (by omega)))
    simp only [zwv, zlen] at hql hr ⊢
    simp only [zh, zv, List.cons_append, List.nil_append]
    subst hr
    refine J.move rfl rfl (J.extractL rfl rfl rfl (J.extractL rfl rfl rfl (J.assign rfl rfl (J.assign rfl rfl (J.nil (G.prune [0, 1, 2, 3, 4, 10, 11, 12] rfl (G.seq (G.region ?_))))))))
    refine J.move rfl rfl (J.move rfl rfl (J.eff (E.callP (setWord_spec (z := none) trivial (Nat.lt_trans (Nat.mod_lt v (by omega)) hyW)) [] [] rfl rfl rfl rfl rfl) rfl fun r hr => ?_))
    try simp only [apC, apN]
    refine J.dropL ?_
    obtain ⟨ao, l, c, hrz, hlc⟩ : ∃ ao l c, zv r = .slice ao l c ∧ l ≤ c := by
      rcases r with _ | ⟨rb, rl, rs⟩
      · exact ⟨none, 0, 0, rfl, Nat.le_refl 0⟩
      · exact ⟨_, _, _, rfl, hr.ok.1⟩
    rw [hrz]
    refine J.assign rfl rfl (J.nil (G.prune [0, 1, 2, 3, 4, 10, 11] rfl (G.ret (hR _) ?_)))
    exact GL.done (⟨bq, lq, xq⟩, (ao, l, c), none) rfl rfl ⟨⟨_, hq, Nat.ne_of_gt (Nat.div_pos (by omega) (by omega))⟩, hql, hlc⟩ rfl [0, 1] rfl (by decide) (by simp [skR])
  · obtain ⟨m, rfl⟩ : ∃ m, ly = m + 2 := ⟨ly - 2, by omega⟩
    have hyv : zn (some ⟨yb, m + 2, ys⟩) ≤ v := by omega
    have hcmp : ¬ cmpZ v (zn (some ⟨yb, m + 2, ys⟩)) < 0 := by
      unfold cmpZ
      rw [if_neg (by omega)]
      split <;> decide
    refine G.cF rfl (G.skip (G.seq (G.seq (G.region (J.move rfl rfl (J.move rfl rfl ?_))))))
    refine J.eff (E.callP (cmp_spec (x := ⟨xb, 9 + (m + 2), xs⟩) (y := ⟨yb, m + 2, ys⟩) hx hyr (by simp only; omega)) [] [2, 3] rfl rfl rfl rfl rfl) rfl fun _ _ => ?_
    try simp only [apC, apN]
    (first | refine J.ltN rfl rfl rfl ?_ | refine J.ltZ rfl rfl rfl ?_)
    refine J.nil (G.prune [0, 1, 2, 3, 4, 10, 11, 35] rfl (G.condF rfl (decide_eq_false hcmp) (G.skip (G.seq (G.seq (G.region (J.move rfl rfl (J.ptrNilE rfl rfl ?_))))))))
    refine J.nil (G.cF rfl (G.skip (G.seq (G.region (J.move rfl rfl (J.move rfl rfl (J.move rfl rfl (J.move rfl rfl ?_))))))))
    refine J.move rfl rfl ?_
    refine J.eff (E.callP (divLarge_spec (T := 10) (m := m) (z := ⟨zb, lz, zs⟩) (x := ⟨xb, 9 + (m + 2), xs⟩) (y := ⟨yb, m + 2, ys⟩) hz hx.ok (by simp only; omega) (by decide) (by decide) (by omega) rfl y1 ⟨y3, hyt⟩ (by have h := hx.n; simp only [zn] at h hyv ⊢; rw [show 10 + (m + 1) = 9 + (m + 2) by omega, h]; exact hyv)) [0, 0] [0, 1] rfl rfl rfl rfl rfl) rfl fun t ht => ?_
    try simp only [apC, apN]
    obtain ⟨q, r, k⟩ := t
    simp only [qrH, List.cons_append, List.nil_append] at ht ⊢
    refine J.move rfl rfl (J.extractL rfl rfl rfl (J.extractL rfl rfl rfl (J.assign rfl rfl (J.assign rfl rfl (J.nil (G.prune [10, 11] rfl (G.ret (hR _) ?_)))))))
    obtain ⟨⟨Q, hQ, hQ0⟩, h1, h2⟩ := ht
    rcases k with _ | k
    · exact GL.done (q, (some ⟨r.b, 0, none⟩, r.len, r.xs.length), none) rfl rfl ⟨⟨Q, hQ, hQ0⟩, h1, h2⟩ rfl [0, 2] rfl (by decide) (by simp [skR])
    · exact GL.done (q, (some ⟨r.b, 0, none⟩, r.len, r.xs.length), some k) rfl rfl ⟨⟨Q, hQ, hQ0⟩, h1, h2⟩ rfl [0, 2, 3] rfl (by decide) (by simp [skR])
end
section
set_option maxRecDepth 100000
set_option pp.deepTerms false
set_option maxHeartbeats 1000000
variable {V : Addr}
theorem MN.adj {b b' l n d : Nat} {xs : List Nat} (h : MN ⟨b, l, xs⟩) (hn : n = l + d) (hn9 : n ≤ 1000) :
    MN ⟨b', n, splice (List.replicate n 0) (0 + d) ((xs.drop 0).take l)⟩ ∧ (splice (List.replicate n 0) (0 + d) ((xs.drop 0).take l)).length = n := by
  obtain ⟨h1, h2, h3⟩ := h.ok
  have ht := h.top
  have h0 := h.l0
  simp only at h1 h2 h3 ht h0
  subst hn
  have hl : ((xs.drop 0).take l).length = l := drop_take_len (by omega)
  have hr : (List.replicate (l + d) 0).length = l + d := List.length_replicate ..
  have hs := splice_len (List.replicate (l + d) 0) (0 + d) ((xs.drop 0).take l) (by omega)
  have hw : Wd (splice (List.replicate (l + d) 0) (0 + d) ((xs.drop 0).take l)) := (Wd.rep _).splice (h3.sub _ _) (by omega)
  have hg1 : ∀ j, j < d → (splice (List.replicate (l + d) 0) (0 + d) ((xs.drop 0).take l)).getD (0 + j) 0 = 0 := fun j hj => by
    rw [getD_splice (by omega), if_neg (by omega), List.getD_eq_getElem?_getD, List.getElem?_replicate]
    split <;> rfl
  have hg2 : ∀ j, j < l → (splice (List.replicate (l + d) 0) (0 + d) ((xs.drop 0).take l)).getD (0 + d + j) 0 = xs.getD (0 + j) 0 := fun j hj => by
    rw [getD_splice (by omega), if_pos (by omega), Nat.add_sub_cancel_left, getD_drop_take hj]
  rw [hr] at hs
  generalize splice (List.replicate (l + d) 0) (0 + d) ((xs.drop 0).take l) = Y at *
  have e1 := rv_split Y 0 d l
  rw [rv_zero hg1, Nat.zero_add, rv_congr hg2, Nat.add_comm d l] at e1
  refine ⟨⟨⟨by simp only; omega, by simp only; omega, hw⟩, by simp only; omega, ?_⟩, hs⟩
  simp only
  rw [e1, show l + d - 1 = d + (l - 1) by omega, Nat.pow_add, Nat.mul_left_comm]
  exact Nat.mul_le_mul_left _ ht
theorem uquo_spec {zb fb : Nat} {t u : FV} (ht : MN t.m) (hu : MN u.m) (hl : t.m.len ≤ 8) (hl2 : u.m.len ≤ 9) (he : -1000 ≤ t.e ∧ t.e ≤ 1000) (he2 : 0 ≤ u.e ∧ u.e ≤ 2000) :
    Spec (cx V) 235 #[.pointer (some ⟨zb, 0, none⟩), .pointer (some ⟨zb, 0, none⟩), .pointer (some ⟨fb, 0, none⟩)] (fh zb (64 * 8) t) [⟨fb, 166, fc (64 * 9) u, false⟩, ⟨u.m.b, 162, cells .u64 u.m.xs, false⟩] (fun _ : FV => .tuple #[]) (fh zb (64 * 8))
      (fun q => MN q.m ∧ q.m.len ≤ 8 ∧ t.e - u.e - 600 ≤ q.e ∧ q.e ≤ t.e - u.e + 100) := by
  obtain ⟨a0, e, ⟨mb, l, xs⟩⟩ := t
  obtain ⟨a1, e1, ⟨mb1, l1, ys⟩⟩ := u
  have hl0 := ht.l0
  have hu0 := hu.l0
  simp only [fh, fc] at *
  refine Spec.enter Tryz.func235 rfl Tryz.ntmps235 (by simp) [(0, .pointer (some ⟨zb, 0, none⟩)), (1, .pointer (some ⟨zb, 0, none⟩)), (2, .pointer (some ⟨fb, 0, none⟩))] (by simp) ?_
  intro X hR
  try simp only [apC, apN]
  refine G.seq (G.region (J.move rfl rfl (J.nc rfl rfl rfl (J.fieldAddr rfl rfl (J.loadI rfl rfl rfl rfl (J.quoF rfl rfl rfl (by omega) (by show _ < _; omega) ?_))))))
  rw [show 64 * 8 / 64 = 8 from rfl]
  refine J.convN rfl rfl (by show _ < _; decide) ?_
  (first | refine J.addI rfl rfl rfl (by omega) ?_ | refine J.addZ rfl rfl rfl (by omega) (by omega) ?_)
  refine J.assign rfl rfl (J.nil (G.prune [0, 1, 2, 6] rfl (G.seq (G.region (J.move rfl rfl (J.nc rfl rfl rfl (J.fieldAddr rfl rfl (J.loadI rfl rfl rfl rfl ?_))))))))
  refine J.assign rfl rfl (J.nil (G.prune [0, 1, 2, 6, 7] rfl (G.seq (G.seq ?_))))
  rw [show 8 + 1 = 9 from rfl]
  refine G.regionS [0, 1, 2, 3, 4, 5, 6, 7, 8, 9, 10, 11, 12, 13] none none [⟨zb, 166, [.int .u32 ((64 * 8 : Nat) : Int), .int .u8 0, .int .i8 a0, .int .u8 1, .bool false, .slice (some ⟨mb, 0, none⟩) l xs.length, .int .i32 e], true⟩, ⟨fb, 166, [.int .u32 ((64 * 9 : Nat) : Int), .int .u8 0, .int .i8 a1, .int .u8 1, .bool false, .slice (some ⟨mb1, 0, none⟩) l1 ys.length, .int .i32 e1], false⟩] (by kernel_rfl) (SubH.of [0, 2] rfl) rfl (J.move rfl rfl (J.move rfl rfl (J.nc rfl rfl rfl (J.fieldAddr rfl rfl (J.ld rfl rfl rfl rfl rfl (J.lenS rfl rfl ?_))))))
  (first | refine J.subI rfl rfl rfl (by omega) (by omega) ?_ | refine J.subZ rfl rfl rfl (by omega) (by omega) ?_)
  refine J.move rfl rfl (J.nc rfl rfl rfl (J.fieldAddr rfl rfl (J.ld rfl rfl rfl rfl rfl (J.lenS rfl rfl ?_))))
  (first | refine J.addI rfl rfl rfl (by omega) ?_ | refine J.addZ rfl rfl rfl (by omega) (by omega) ?_)
  refine J.assign rfl rfl (J.nil (G.prune [0, 1, 2, 7, 8] rfl (G.seq (G.region (J.move rfl rfl ?_)))))
  (first | refine J.gtN rfl rfl rfl ?_ | refine J.gtZ rfl rfl rfl ?_)
  refine J.nil (G.cT rfl (G.seq (G.region (J.move rfl rfl (J.nc rfl rfl rfl (J.fieldAddr rfl rfl (J.loadI rfl rfl rfl rfl (J.lenS rfl rfl ?_))))))))
  refine J.move rfl rfl ?_
  (first | refine J.addI rfl rfl rfl (by omega) ?_ | refine J.addZ rfl rfl rfl (by omega) (by omega) ?_)
  refine J.eff (E.make rfl rfl rfl (by omega) (by omega) (by omega)) rfl fun g47 => J.assign rfl rfl (J.nil (G.prune [0, 1, 2, 7, 8] rfl (G.regionS [0, 1, 2, 3, 4, 5, 6, 7] (some 7) (some 0) [⟨zb, 166, [.int .u32 ((64 * 8 : Nat) : Int), .int .u8 0, .int .i8 a0, .int .u8 1, .bool false, .slice (some ⟨mb, 0, none⟩) l xs.length, .int .i32 e], true⟩] (by kernel_rfl) (SubH.of [1] rfl) rfl (J.move rfl rfl (J.move rfl rfl (J.slL1 rfl rfl rfl (by omega) (by omega) (J.move rfl rfl ?_)))))))
  refine J.nc rfl rfl rfl (J.fieldAddr rfl rfl (J.ld rfl rfl rfl rfl rfl ?_))
  refine J.effH (E.copy (xs := List.replicate (l + (9 - l + l1)) 0) (ys := xs) (o := 0 + (9 - l + l1)) (o2 := 0) (q := l) rfl rfl rfl (Mem.t (Mem.t Mem.h)) (show Nat.min l (l + (9 - l + l1) - (9 - l + l1)) = l by rw [Nat.add_sub_cancel]; exact Nat.min_self l) (by have := ht.ok.1; simp only at this; omega) (by rw [List.length_replicate]; omega) Upd1.h) rfl rfl ⟨fun h => Bool.noConfusion h, ?_⟩
  obtain ⟨hxa, hxl⟩ := ht.adj (b' := g47) (n := l + (9 - l + l1)) (d := 9 - l + l1) rfl (by omega)
  have hn9 : l + (9 - l + l1) = 9 + l1 := by omega
  generalize splice (List.replicate (l + (9 - l + l1)) 0) (0 + (9 - l + l1)) ((xs.drop 0).take l) = xa at hxa hxl ⊢
  rw [hn9] at hxa hxl ⊢
  refine J.nil (G.prune [0, 1, 2, 7] rfl (G.seq (G.region (J.move rfl rfl (J.lenS rfl rfl (J.move rfl rfl (J.nc rfl rfl rfl (J.fieldAddr rfl rfl ?_))))))))
  refine J.loadI rfl rfl rfl rfl (J.lenS rfl rfl ?_)
  (first | refine J.subI rfl rfl rfl (by omega) (by omega) ?_ | refine J.subZ rfl rfl rfl (by omega) (by omega) ?_)
  refine J.assign rfl rfl (J.nil (G.prune [0, 1, 2, 7, 9] rfl (G.seq (G.region ?_))))
  rw [Nat.add_sub_cancel]
  refine J.eff (E.callP (getStack_spec) [] [] rfl rfl rfl rfl rfl) rfl fun sb _ => ?_
  try simp only [apC, apN]
  refine J.assign rfl rfl (J.nil (G.seq (G.region (J.move rfl rfl (J.eff (E.defer rfl) rfl (J.nil (G.seq (G.region ?_))))))))
  refine J.assign rfl rfl (J.nil (G.seq ?_))
  have hXY : zn (some ⟨mb1, l1, ys⟩) * 18446744073709551616 ≤ zn (some ⟨g47, 9 + l1, xa⟩) := by
    have h1 := hxa.top
    have h2 := rv_lt hu.ok.2.2 0 l1
    simp only [zn] at h1 h2 ⊢
    have h3 := Nat.mul_lt_mul_of_pos_right h2 (show 0 < 18446744073709551616 by decide)
    rw [← Nat.pow_succ] at h3
    have h4 : 18446744073709551616 ^ (l1 + 1) ≤ 18446744073709551616 ^ (9 + l1 - 1) := Nat.pow_le_pow_right (by decide) (by omega)
    have h5 : 1 * 18446744073709551616 ^ (9 + l1 - 1) ≤ 9223372036854775808 * 18446744073709551616 ^ (9 + l1 - 1) := Nat.mul_le_mul_right _ (by decide)
    omega
  rw [show Value.slice (some ⟨g47, 0, none⟩) (9 + l1) (9 + l1) = Value.slice (some ⟨g47, 0, none⟩) (9 + l1) xa.length by rw [hxl]]
  refine G.regionS [0, 1, 2, 3, 4, 5, 6, 7, 8, 9, 10, 11, 12, 13, 14, 15, 16, 17, 18] (some 17) (some 1) [⟨zb, 166, [.int .u32 ((64 * 8 : Nat) : Int), .int .u8 0, .int .i8 a0, .int .u8 1, .bool false, .slice (some ⟨mb, 0, none⟩) l xs.length, .int .i32 e], true⟩, ⟨fb, 166, [.int .u32 ((64 * 9 : Nat) : Int), .int .u8 0, .int .i8 a1, .int .u8 1, .bool false, .slice (some ⟨mb1, 0, none⟩) l1 ys.length, .int .i32 e1], false⟩] (by kernel_rfl) (SubH.of [2, 4] rfl) rfl (J.move rfl rfl (J.move rfl rfl (J.nc rfl rfl rfl (J.fieldAddr rfl rfl (J.ld rfl rfl rfl rfl rfl (J.move rfl rfl (J.move rfl rfl (J.move rfl rfl ?_))))))))
  refine J.nc rfl rfl rfl (J.fieldAddr rfl rfl (J.ld rfl rfl rfl rfl rfl ?_))
  refine J.effH (E.callP (fdiv_spec (z := ⟨mb, l, xs⟩) (x := ⟨g47, 9 + l1, xa⟩) (y := ⟨mb1, l1, ys⟩) ht.zok hxa.res rfl hu hl2 hXY) [3, 0] [0, 3] rfl rfl rfl rfl rfl) rfl rfl fun t ht => ⟨fun _ => SubH.app (SubH.of [1, 2] rfl), ?_⟩
  try simp only [apC, apN]
  obtain ⟨⟨qb, lq, qs⟩, ⟨ra, rl, rc⟩, k⟩ := t
  obtain ⟨⟨Q, hq, hQ0⟩, hq9, hrc⟩ := ht
  simp only at hq9 hrc
  have hlq : 0 < lq := by
    rcases Nat.eq_zero_or_pos lq with rfl | h
    · exact absurd hq.n.symm hQ0
    · exact h
  refine J.move rfl rfl (J.extractL rfl rfl rfl (J.extractL rfl rfl rfl (J.nc rfl rfl rfl (J.fieldAddr rfl rfl ?_))))
  rcases k with _ | ⟨ib, ba, bl, bc⟩
  · simp only [skR, List.cons_append, List.nil_append]
    refine J.effH (E.si rfl rfl rfl rfl) rfl rfl ⟨fun h => Bool.noConfusion h, ?_⟩
    refine J.assign rfl rfl (J.nil (G.prune [0, 1, 2, 9, 11] rfl (G.seq (G.regionS [0, 1, 2, 3, 4, 5, 6, 7, 8, 9, 10, 11, 12, 13, 14, 15, 16, 17, 18, 19, 20] none none [⟨zb, 166, [.int .u32 ((64 * 8 : Nat) : Int), .int .u8 0, .int .i8 a0, .int .u8 1, .bool false, .slice (some ⟨qb, 0, none⟩) lq qs.length, .int .i32 e], true⟩, ⟨fb, 166, [.int .u32 ((64 * 9 : Nat) : Int), .int .u8 0, .int .i8 a1, .int .u8 1, .bool false, .slice (some ⟨mb1, 0, none⟩) l1 ys.length, .int .i32 e1], false⟩] (by kernel_rfl) (SubH.of [3, 4] rfl) rfl (J.move rfl rfl (J.nc rfl rfl rfl (J.fieldAddr rfl rfl (J.ld rfl rfl rfl rfl rfl ?_))))))))
    refine J.conv64 rfl rfl (by omega) (by omega) (J.move rfl rfl (J.nc rfl rfl rfl (J.fieldAddr rfl rfl (J.ld rfl rfl rfl rfl rfl (J.conv64 rfl rfl (by omega) (by omega) ?_)))))
    (first | refine J.subI rfl rfl rfl (by omega) (by omega) ?_ | refine J.subZ rfl rfl rfl (by omega) (by omega) ?_)
    refine J.move rfl rfl (J.move rfl rfl (J.nc rfl rfl rfl (J.fieldAddr rfl rfl (J.ld rfl rfl rfl rfl rfl (J.lenS rfl rfl ?_)))))
    (first | refine J.subI rfl rfl rfl (by omega) (by omega) ?_ | refine J.subZ rfl rfl rfl (by omega) (by omega) ?_)
    (first | refine J.mulI rfl rfl rfl (by omega) ?_ | refine J.mulZ rfl rfl rfl (by omega) (by omega) ?_)
    (first | refine J.subI rfl rfl rfl (by omega) (by omega) ?_ | refine J.subZ rfl rfl rfl (by omega) (by omega) ?_)
    refine J.assign rfl rfl (J.nil (G.prune [0, 11, 12] rfl (G.seq (G.region (J.assign rfl rfl (J.nil (G.seq (G.seq ?_))))))))
    refine G.region (J.move rfl rfl (J.lenS rfl rfl ?_))
    (first | refine J.gtN rfl rfl rfl ?_ | refine J.gtZ rfl rfl rfl ?_)
    refine J.nil ?_
    rcases Nat.eq_zero_or_pos rl with hr | hr
    · skip
      refine G.cF rfl (G.skip (G.region (J.move rfl rfl (J.move rfl rfl (J.move rfl rfl (J.nc rfl rfl rfl (J.fieldAddr rfl rfl (J.loadI rfl rfl rfl rfl ?_))))))))
      refine J.eff (E.callP (fnorm_spec hq hlq (by omega)) [0] [] rfl rfl rfl rfl rfl) rfl fun p hp3 => ?_
      try simp only [apC, apN]
      obtain ⟨s, zs⟩ := p
      obtain ⟨hs, hmn, hlen⟩ := hp3
      simp only [zv] at hs hmn hlen ⊢
      rw [← hlen]
      (first | refine J.subI rfl rfl rfl (by omega) (by omega) ?_ | refine J.subZ rfl rfl rfl (by omega) (by omega) ?_)
      refine J.move rfl rfl ?_
      refine J.eff (E.callP (setExp_spec (fb := zb) (np := 8) (t := ⟨a0, e, ⟨qb, lq, zs⟩⟩) hmn (by simp only; omega) (by decide) (by decide) (by omega) (by omega) (by decide)) [3, 0] [] rfl rfl rfl rfl rfl) rfl fun q hq' => ?_
      try simp only [apC, apN]
      refine J.nil (G.prune [] rfl (G.fall (hR _) ?_))
      refine GL.deferredP (free_nilD (V := V) (sb := sb)) [] [2] rfl rfl rfl fun _ _ => ?_
      exact GL.done (q : FV) rfl rfl ⟨hq'.1, hq'.2.1, by have := hq'.2.2; omega, by have := hq'.2.2; omega⟩ rfl [0, 1] rfl (by decide) (by simp [fh])
    · skip
      refine G.cT rfl (G.region (J.assign rfl rfl (J.nil (G.region (J.move rfl rfl (J.move rfl rfl (J.move rfl rfl (J.nc rfl rfl rfl ?_))))))))
      refine J.fieldAddr rfl rfl (J.loadI rfl rfl rfl rfl (J.eff (E.callP (fnorm_spec hq hlq (by omega)) [0] [] rfl rfl rfl rfl rfl) rfl fun p hp3 => ?_))
      try simp only [apC, apN]
      obtain ⟨s, zs⟩ := p
      obtain ⟨hs, hmn, hlen⟩ := hp3
      simp only [zv] at hs hmn hlen ⊢
      rw [← hlen]
      (first | refine J.subI rfl rfl rfl (by omega) (by omega) ?_ | refine J.subZ rfl rfl rfl (by omega) (by omega) ?_)
      refine J.move rfl rfl ?_
      refine J.eff (E.callP (setExp_spec (fb := zb) (np := 8) (t := ⟨a0, e, ⟨qb, lq, zs⟩⟩) hmn (by simp only; omega) (by decide) (by decide) (by omega) (by omega) (by decide)) [3, 0] [] rfl rfl rfl rfl rfl) rfl fun q hq' => ?_
      try simp only [apC, apN]
      refine J.nil (G.prune [] rfl (G.fall (hR _) ?_))
      refine GL.deferredP (free_nilD (V := V) (sb := sb)) [] [2] rfl rfl rfl fun _ _ => ?_
      exact GL.done (q : FV) rfl rfl ⟨hq'.1, hq'.2.1, by have := hq'.2.2; omega, by have := hq'.2.2; omega⟩ rfl [0, 1] rfl (by decide) (by simp [fh])
  · simp only [skR, List.cons_append, List.nil_append]
    refine J.effH (E.si rfl rfl rfl rfl) rfl rfl ⟨fun h => Bool.noConfusion h, ?_⟩
    refine J.assign rfl rfl (J.nil (G.prune [0, 1, 2, 9, 11] rfl (G.seq (G.regionS [0, 1, 2, 3, 4, 5, 6, 7, 8, 9, 10, 11, 12, 13, 14, 15, 16, 17, 18, 19, 20] none none [⟨zb, 166, [.int .u32 ((64 * 8 : Nat) : Int), .int .u8 0, .int .i8 a0, .int .u8 1, .bool false, .slice (some ⟨qb, 0, none⟩) lq qs.length, .int .i32 e], true⟩, ⟨fb, 166, [.int .u32 ((64 * 9 : Nat) : Int), .int .u8 0, .int .i8 a1, .int .u8 1, .bool false, .slice (some ⟨mb1, 0, none⟩) l1 ys.length, .int .i32 e1], false⟩] (by kernel_rfl) (SubH.of [4, 5] rfl) rfl (J.move rfl rfl (J.nc rfl rfl rfl (J.fieldAddr rfl rfl (J.ld rfl rfl rfl rfl rfl ?_))))))))
    refine J.conv64 rfl rfl (by omega) (by omega) (J.move rfl rfl (J.nc rfl rfl rfl (J.fieldAddr rfl rfl (J.ld rfl rfl rfl rfl rfl (J.conv64 rfl rfl (by omega) (by omega) ?_)))))
    (first | refine J.subI rfl rfl rfl (by omega) (by omega) ?_ | refine J.subZ rfl rfl rfl (by omega) (by omega) ?_)
    refine J.move rfl rfl (J.move rfl rfl (J.nc rfl rfl rfl (J.fieldAddr rfl rfl (J.ld rfl rfl rfl rfl rfl (J.lenS rfl rfl ?_)))))
    (first | refine J.subI rfl rfl rfl (by omega) (by omega) ?_ | refine J.subZ rfl rfl rfl (by omega) (by omega) ?_)
    (first | refine J.mulI rfl rfl rfl (by omega) ?_ | refine J.mulZ rfl rfl rfl (by omega) (by omega) ?_)
    (first | refine J.subI rfl rfl rfl (by omega) (by omega) ?_ | refine J.subZ rfl rfl rfl (by omega) (by omega) ?_)
    refine J.assign rfl rfl (J.nil (G.prune [0, 11, 12] rfl (G.seq (G.region (J.assign rfl rfl (J.nil (G.seq (G.seq ?_))))))))
    refine G.region (J.move rfl rfl (J.lenS rfl rfl ?_))
    (first | refine J.gtN rfl rfl rfl ?_ | refine J.gtZ rfl rfl rfl ?_)
    refine J.nil ?_
    rcases Nat.eq_zero_or_pos rl with hr | hr
    · skip
      refine G.cF rfl (G.skip (G.region (J.move rfl rfl (J.move rfl rfl (J.move rfl rfl (J.nc rfl rfl rfl (J.fieldAddr rfl rfl (J.loadI rfl rfl rfl rfl ?_))))))))
      refine J.eff (E.callP (fnorm_spec hq hlq (by omega)) [0] [] rfl rfl rfl rfl rfl) rfl fun p hp3 => ?_
      try simp only [apC, apN]
      obtain ⟨s, zs⟩ := p
      obtain ⟨hs, hmn, hlen⟩ := hp3
      simp only [zv] at hs hmn hlen ⊢
      rw [← hlen]
      (first | refine J.subI rfl rfl rfl (by omega) (by omega) ?_ | refine J.subZ rfl rfl rfl (by omega) (by omega) ?_)
      refine J.move rfl rfl ?_
      refine J.eff (E.callP (setExp_spec (fb := zb) (np := 8) (t := ⟨a0, e, ⟨qb, lq, zs⟩⟩) hmn (by simp only; omega) (by decide) (by decide) (by omega) (by omega) (by decide)) [4, 0] [] rfl rfl rfl rfl rfl) rfl fun q hq' => ?_
      try simp only [apC, apN]
      refine J.nil (G.prune [] rfl (G.fall (hR _) ?_))
      refine GL.deferredP (free_someD (V := V) (sb := sb) (ib := ib)) [3] [2] rfl rfl rfl fun _ _ => ?_
      exact GL.done (q : FV) rfl rfl ⟨hq'.1, hq'.2.1, by have := hq'.2.2; omega, by have := hq'.2.2; omega⟩ rfl [1, 2] rfl (by decide) (by simp [fh])
    · skip
      refine G.cT rfl (G.region (J.assign rfl rfl (J.nil (G.region (J.move rfl rfl (J.move rfl rfl (J.move rfl rfl (J.nc rfl rfl rfl ?_))))))))
      refine J.fieldAddr rfl rfl (J.loadI rfl rfl rfl rfl (J.eff (E.callP (fnorm_spec hq hlq (by omega)) [0] [] rfl rfl rfl rfl rfl) rfl fun p hp3 => ?_))
      try simp only [apC, apN]
      obtain ⟨s, zs⟩ := p
      obtain ⟨hs, hmn, hlen⟩ := hp3
      simp only [zv] at hs hmn hlen ⊢
      rw [← hlen]
      (first | refine J.subI rfl rfl rfl (by omega) (by omega) ?_ | refine J.subZ rfl rfl rfl (by omega) (by omega) ?_)
      refine J.move rfl rfl ?_
      refine J.eff (E.callP (setExp_spec (fb := zb) (np := 8) (t := ⟨a0, e, ⟨qb, lq, zs⟩⟩) hmn (by simp only; omega) (by decide) (by decide) (by omega) (by omega) (by decide)) [4, 0] [] rfl rfl rfl rfl rfl) rfl fun q hq' => ?_
      try simp only [apC, apN]
      refine J.nil (G.prune [] rfl (G.fall (hR _) ?_))
      refine GL.deferredP (free_someD (V := V) (sb := sb) (ib := ib)) [3] [2] rfl rfl rfl fun _ _ => ?_
      exact GL.done (q : FV) rfl rfl ⟨hq'.1, hq'.2.1, by have := hq'.2.2; omega, by have := hq'.2.2; omega⟩ rfl [1, 2] rfl (by decide) (by simp [fh])
theorem fquo_spec {zb fb : Nat} {t u : FV} (ht : MN t.m) (hu : MN u.m) (hl : t.m.len ≤ 8) (hl2 : u.m.len ≤ 9) (he : -1000 ≤ t.e ∧ t.e ≤ 1000) (he2 : 0 ≤ u.e ∧ u.e ≤ 2000) :
    Spec (cx V) 196 #[.pointer (some ⟨zb, 0, none⟩), .pointer (some ⟨zb, 0, none⟩), .pointer (some ⟨fb, 0, none⟩)] (fh zb (64 * 8) t) [⟨fb, 166, fc (64 * 9) u, false⟩, ⟨u.m.b, 162, cells .u64 u.m.xs, false⟩] (fun _ : FV => .pointer (some ⟨zb, 0, none⟩)) (fh zb (64 * 8))
      (fun q => MN q.m ∧ q.m.len ≤ 8 ∧ t.e - u.e - 600 ≤ q.e ∧ q.e ≤ t.e - u.e + 100) := by
  obtain ⟨a0, e, ⟨mb, l, xs⟩⟩ := t
  obtain ⟨a1, e1, ⟨mb1, l1, ys⟩⟩ := u
  simp only [fh, fc] at *
  refine Spec.enter Tryz.func196 rfl Tryz.ntmps196 (by simp) [(0, .pointer (some ⟨zb, 0, none⟩)), (1, .pointer (some ⟨zb, 0, none⟩)), (2, .pointer (some ⟨fb, 0, none⟩))] (by simp) ?_
  intro X hR
  try simp only [apC, apN]
  refine G.seq (G.region (J.assign rfl rfl (J.nil (G.seq (G.seq (G.region (J.move rfl rfl (J.nc rfl rfl rfl ?_))))))))
  refine J.fieldAddr rfl rfl (J.loadI rfl rfl rfl rfl ?_)
  (first | refine J.eqN rfl rfl rfl ?_ | refine J.eqZ rfl rfl rfl ?_)
  refine J.nil (G.prune [0, 1, 2, 6, 11] rfl (G.cF rfl (G.skip (G.seq (G.regionS [0, 1, 2, 3, 4, 5, 6, 7, 8, 9, 10, 11, 12] (some 12) (some 0) [⟨zb, 166, [.int .u32 ((64 * 8 : Nat) : Int), .int .u8 0, .int .i8 a0, .int .u8 1, .bool false, .slice (some ⟨mb, 0, none⟩) l xs.length, .int .i32 e], true⟩, ⟨fb, 166, [.int .u32 ((64 * 9 : Nat) : Int), .int .u8 0, .int .i8 a1, .int .u8 1, .bool false, .slice (some ⟨mb1, 0, none⟩) l1 ys.length, .int .i32 e1], false⟩] (by kernel_rfl) (SubH.of [0, 2] rfl) rfl (J.move rfl rfl (J.move rfl rfl (J.nc rfl rfl rfl ?_))))))))
  refine J.fieldAddr rfl rfl (J.ld rfl rfl rfl rfl rfl (J.move rfl rfl (J.nc rfl rfl rfl (J.fieldAddr rfl rfl (J.ld rfl rfl rfl rfl rfl (J.neB rfl rfl rfl (J.nc rfl rfl rfl (J.fieldAddr rfl rfl ?_))))))))
  refine J.effH (E.si rfl rfl rfl rfl) rfl rfl ⟨fun h => Bool.noConfusion h, ?_⟩
  refine J.nil (G.prune [0, 1, 2, 6] rfl (G.seq (G.seq (G.region (J.move rfl rfl (J.nc rfl rfl rfl (J.fieldAddr rfl rfl (J.loadI rfl rfl rfl rfl ?_))))))))
  (first | refine J.eqN rfl rfl rfl ?_ | refine J.eqZ rfl rfl rfl ?_)
  refine J.move rfl rfl (J.wT rfl rfl (J.move rfl rfl (J.wT rfl rfl (J.nc rfl rfl rfl (J.wT rfl rfl (J.fieldAddr rfl rfl (J.wT rfl rfl (J.loadI rfl rfl rfl rfl ?_))))))))
  refine J.wT rfl rfl ?_
  (first | refine J.eqN rfl rfl rfl ?_ | refine J.eqZ rfl rfl rfl ?_)
  refine J.pT rfl rfl rfl (J.nil (G.prune [0, 1, 2, 6, 47] rfl (G.cT rfl (G.seq (G.region (J.move rfl rfl (J.move rfl rfl (J.move rfl rfl ?_))))))))
  refine J.eff (E.callP (uquo_spec (zb := zb) (fb := fb) (t := ⟨a0, e, ⟨mb, l, xs⟩⟩) (u := ⟨a1, e1, ⟨mb1, l1, ys⟩⟩) ht hu hl hl2 he he2) [0, 0] [0, 1] rfl rfl rfl rfl rfl) rfl fun q hq => ?_
  try simp only [apC, apN]
  refine J.nil (G.prune [0, 1, 2, 6] rfl (G.seq (G.region (J.move rfl rfl (J.assign rfl rfl (J.nil (G.ret (hR _) ?_)))))))
  exact GL.done (q : FV) rfl rfl hq rfl [0, 1] rfl (by decide) (by simp [fh])
end
section
set_option maxRecDepth 100000
set_option pp.deepTerms false
set_option maxHeartbeats 1000000
variable {V : Addr}
theorem fscan_spec {zb gr m : Nat} {ee : Int} {s : ByteArray} (T : Lit V s m ee) (hm : m ≠ 0) (hE1 : -324 ≤ ee) (hE2 : ee ≤ 324) :
    Spec (cx V) 140 #[.pointer (some ⟨zb, 0, none⟩), .iface 127 (.pointer (some ⟨gr, 0, none⟩)), .int .i64 0] (fn0 zb (64 * 8) ++ rd gr s 0) []
      (fun q : FV × Nat => .tuple #[.pointer (some ⟨zb, 0, none⟩), .int .i64 (q.2 : Int), .nilIface]) (fun q => fh zb (64 * 8) q.1 ++ rd gr s s.size)
      (fun q => MN q.1.m ∧ q.1.m.len ≤ 8 ∧ -4000 ≤ q.1.e ∧ q.1.e ≤ 4000) := by
  obtain ⟨p, base, fq, x, f1, f2, x1, x2, hb, hsc, hex⟩ := T.sc
  obtain ⟨c, hc0, hc1, hc2, -, -⟩ := T.c0
  have hsz := T.sz
  have hsz0 := T.sz0
  simp only [fn0, fh, fc, rd, List.cons_append, List.nil_append]
  refine Spec.enter Tryz.func140 rfl Tryz.ntmps140 (by simp) [(0, .pointer (some ⟨zb, 0, none⟩)), (1, .iface 127 (.pointer (some ⟨gr, 0, none⟩))), (2, .int .i64 0)] (by simp) ?_
  intro X hR
  try simp only [apC, apN]
  refine G.seq (G.region (J.assign rfl rfl (J.assign rfl rfl (J.assign rfl rfl (J.nil (G.seq (G.region (J.move rfl rfl ?_))))))))
  refine J.nc rfl rfl rfl (J.fieldAddr rfl rfl (J.loadI rfl rfl rfl rfl (J.assign rfl rfl (J.nil (G.prune [0, 1, 2, 6, 7, 8, 9, 15, 16, 95, 117] rfl (G.seq (G.seq (G.region ?_))))))))
  refine J.move rfl rfl ?_
  (first | refine J.eqN rfl rfl rfl ?_ | refine J.eqZ rfl rfl rfl ?_)
  refine J.nil (G.cF rfl (G.skip (G.seq (G.region (J.move rfl rfl (J.nc rfl rfl rfl (J.fieldAddr rfl rfl (J.eff (E.si rfl rfl rfl rfl) rfl ?_))))))))
  refine J.nil (G.prune [0, 1, 2, 6, 7, 8, 9, 15, 16, 95, 117] rfl (G.seq (G.region (J.move rfl rfl (J.move rfl rfl (J.eff (E.callP (scanSign_spec hc0 (by omega) hc1 hc2) [1] [] rfl rfl rfl rfl rfl) rfl fun _ _ => ?_))))))
  try simp only [apC, apN]
  simp only [rd, List.cons_append, List.nil_append]
  refine J.move rfl rfl (J.extractL rfl rfl rfl (J.extractL rfl rfl rfl (J.nc rfl rfl rfl (J.fieldAddr rfl rfl (J.eff (E.si rfl rfl rfl rfl) rfl (J.assign rfl rfl (J.nil (G.prune [0, 1, 2, 6, 7, 8, 9, 15, 16, 95, 117] rfl ?_))))))))
  refine G.seq (G.seq (G.region (J.move rfl rfl ?_)))
  (first | refine J.nilNilN rfl rfl ?_ | refine J.ifNilN rfl rfl ?_)
  refine J.nil (G.cF rfl (G.skip (G.seq (G.region (J.assign rfl rfl (J.nil (G.seq (G.region ?_))))))))
  refine J.move rfl rfl (J.move rfl rfl (J.nc rfl rfl rfl (J.fieldAddr rfl rfl (J.loadI rfl rfl rfl rfl (J.move rfl rfl (J.move rfl rfl (J.eff (E.callP (hsc gr) [0] [] rfl rfl rfl rfl rfl) rfl fun q hq => ?_)))))))
  try simp only [apC, apN]
  obtain ⟨⟨ba, la, xa⟩, rfl, ha0⟩ := Res.some hq hm
  have hla : la ≤ 1 := hq.len_le (k := 1) (by simpa using T.mW)
  simp only [zh, zv, rd, List.cons_append, List.nil_append] at ha0 ⊢
  refine J.move rfl rfl (J.extractL rfl rfl rfl (J.extractL rfl rfl rfl (J.extractL rfl rfl rfl (J.extractL rfl rfl rfl (J.nc rfl rfl rfl (J.fieldAddr rfl rfl (J.eff (E.si rfl rfl rfl rfl) rfl (J.assign rfl rfl ?_))))))))
  refine J.assign rfl rfl (J.assign rfl rfl (J.nil (G.prune [0, 1, 2, 6, 7, 8, 9, 10, 15, 16, 95, 117] rfl (G.seq (G.seq (G.region (J.move rfl rfl ?_)))))))
  (first | refine J.nilNilN rfl rfl ?_ | refine J.ifNilN rfl rfl ?_)
  refine J.nil (G.cF rfl (G.skip (G.seq (G.region (J.assign rfl rfl (J.nil (G.seq (G.region ?_))))))))
  refine J.assign rfl rfl (J.nil (G.seq (G.region (J.move rfl rfl (J.move rfl rfl ?_)))))
  (first | refine J.eqN rfl rfl rfl ?_ | refine J.eqZ rfl rfl rfl ?_)
  refine J.eff (E.callP (hex gr true true) [1] [] rfl rfl rfl rfl rfl) rfl fun _ _ => ?_
  try simp only [apC, apN]
  simp only [rd, List.cons_append, List.nil_append]
  refine J.move rfl rfl (J.extractL rfl rfl rfl (J.extractL rfl rfl rfl (J.extractL rfl rfl rfl (J.assign rfl rfl (J.assign rfl rfl (J.assign rfl rfl (J.nil (G.prune [0, 1, 2, 6, 7, 8, 9, 10, 11, 12, 15, 16, 95, 117] rfl ?_))))))))
  refine G.seq (G.seq (G.region (J.move rfl rfl ?_)))
  (first | refine J.nilNilN rfl rfl ?_ | refine J.ifNilN rfl rfl ?_)
  refine J.nil (G.cF rfl (G.skip (G.seq (G.seq (G.region (J.move rfl rfl (J.nc rfl rfl rfl (J.fieldAddr rfl rfl ?_))))))))
  refine J.loadI rfl rfl rfl rfl (J.lenS rfl rfl ?_)
  (first | refine J.eqN rfl rfl rfl ?_ | refine J.eqZ rfl rfl rfl ?_)
  refine J.nil (G.prune [0, 1, 2, 6, 7, 8, 9, 10, 11, 12, 15, 16, 68, 95, 117] rfl (G.cF rfl (G.skip (G.seq (G.regionS [0, 1, 2, 3, 4, 5, 6, 7, 8, 9, 10, 11, 12] none none [⟨zb, 166, [.int .u32 ((64 * 8 : Nat) : Int), .int .u8 0, .int .i8 0, .int .u8 0, .bool false, .slice (some ⟨ba, 0, none⟩) la xa.length, .int .i32 0], true⟩] (by kernel_rfl) (SubH.of [2] rfl) rfl (J.move rfl rfl (J.nc rfl rfl rfl (J.fieldAddr rfl rfl ?_))))))))
  refine J.ld rfl rfl rfl rfl rfl (J.lenS rfl rfl ?_)
  (first | refine J.mulI rfl rfl rfl (by omega) ?_ | refine J.mulZ rfl rfl rfl (by omega) (by omega) ?_)
  refine J.move rfl rfl (J.nc rfl rfl rfl (J.fieldAddr rfl rfl (J.ld rfl rfl rfl rfl rfl ?_)))
  refine J.effH (E.callP (fnorm_spec hq ha0 (by omega)) [1] [] rfl rfl rfl rfl rfl) rfl rfl fun p hp3 => ⟨fun _ => SubH.of [2] rfl, ?_⟩
  try simp only [apC, apN]
  obtain ⟨sh, zs⟩ := p
  obtain ⟨hs, hmn, hlen⟩ := hp3
  simp only at hs hmn hlen ⊢
  rw [← hlen]
  (first | refine J.subI rfl rfl rfl (by omega) (by omega) ?_ | refine J.subZ rfl rfl rfl (by omega) (by omega) ?_)
  refine J.assign rfl rfl (J.nil (G.prune [0, 1, 2, 6, 7, 8, 9, 10, 11, 12, 13, 15, 16, 95, 117] rfl (G.seq (G.region (J.assign rfl rfl (J.nil (G.seq (G.seq ?_))))))))
  refine G.region (J.move rfl rfl ?_)
  (first | refine J.ltN rfl rfl rfl ?_ | refine J.ltZ rfl rfl rfl ?_)
  refine J.nil ?_
  clear hsc hex
  refine G.cut (σ := Int × Int) (fun d => d.1 + x = ee ∧ -1000 ≤ d.1 ∧ d.1 ≤ 1000 ∧ -400 ≤ d.2 + x ∧ d.2 + x ≤ 400)
    (fun d => [(0, .pointer (some ⟨zb, 0, none⟩)), (6, .pointer none), (7, .int .i64 base), (8, .nilIface), (9, .int .u32 ((64 * 8 : Nat) : Int)), (11, .int .i64 x), (12, .int .i64 10), (13, .int .i64 d.2), (14, .int .i64 d.1)])
    (fun d => [⟨ba, 162, cells .u64 zs, true⟩, ⟨gr, 184, [.string s, .int .i64 s.size, .int .i64 (-1)], true⟩, ⟨zb, 166, [.int .u32 ((64 * 8 : Nat) : Int), .int .u8 0, .int .i8 0, .int .u8 0, .bool false, .slice (some ⟨ba, 0, none⟩) la zs.length, .int .i32 0], true⟩]) (fun hk => ?_) ?_
  · skip
    rcases hb with ⟨rfl, he⟩ | ⟨rfl, hf0, he, hx0⟩
    · by_cases hf : fq < 0
      · rw [if_pos hf] at he
        refine G.cT rfl (G.seq (G.region (J.move rfl rfl (J.assign rfl rfl (J.nil (G.seq (G.region (J.move rfl rfl ?_))))))))
        refine J.nil (G.block (G.seq (G.block (G.seq (G.block (G.seq (G.block (G.seq ?_))))))))
        refine G.block (G.seq (G.block (G.seq (G.seq (G.seq (G.region ?_))))))
        (first | refine J.eqN rfl rfl rfl ?_ | refine J.eqZ rfl rfl rfl ?_)
        refine J.assign rfl rfl (J.nil (G.cT rfl (G.exit rfl (G.region (J.move rfl rfl (J.assign rfl rfl (J.nil (G.inBlock ?_))))))))
        refine G.seq (G.region (J.move rfl rfl (J.move rfl rfl ?_)))
        (first | refine J.addI rfl rfl rfl (by omega) ?_ | refine J.addZ rfl rfl rfl (by omega) (by omega) ?_)
        refine J.assign rfl rfl (J.nil (G.prune [0, 1, 2, 6, 7, 8, 9, 10, 11, 12, 13, 14, 15, 16, 95, 117] rfl (G.exit rfl ?_)))
        exact G.wk [0, 1, 2] (hk (fq, ((la * 64 - sh : Nat) : Int) + fq) ⟨he.symm, f1, f2, by simp only; omega, by simp only; omega⟩)
      · rw [if_neg hf] at he
        refine G.cF rfl (G.skip ?_)
        exact G.wk [0, 1, 2] (hk (0, ((la * 64 - sh : Nat) : Int)) ⟨he.symm, by simp only; omega, by simp only; omega, by simp only; omega, by simp only; omega⟩)
    · skip
      refine G.cF rfl (G.skip ?_)
      exact G.wk [0, 1, 2] (hk (0, ((la * 64 - sh : Nat) : Int)) ⟨by simp only; omega, by simp only; omega, by simp only; omega, by simp only; omega, by simp only; omega⟩)
  rintro ⟨d, d2⟩ ⟨hd, h1, h2, h3, h4⟩
  simp only at hd h1 h2 h3 h4 ⊢
  have hsh : sh ≤ 64 := by omega
  refine G.seq (G.seq (G.region (J.move rfl rfl (J.nil (G.block (G.seq (G.block (G.seq ?_))))))))
  refine G.block (G.seq (G.block (G.seq (G.seq (G.seq (G.region ?_))))))
  (first | refine J.eqN rfl rfl rfl ?_ | refine J.eqZ rfl rfl rfl ?_)
  refine J.assign rfl rfl (J.nil (G.cT rfl (G.exit rfl (G.region (J.move rfl rfl (J.move rfl rfl ?_))))))
  (first | refine J.addI rfl rfl rfl (by omega) ?_ | refine J.addZ rfl rfl rfl (by omega) (by omega) ?_)
  refine J.assign rfl rfl (J.nil (G.prune [0, 1, 2, 6, 7, 8, 9, 10, 11, 12, 13, 14, 15, 16, 95, 117] rfl (G.inBlock (G.seq (G.region (J.move rfl rfl (J.move rfl rfl ?_)))))))
  (first | refine J.addI rfl rfl rfl (by omega) ?_ | refine J.addZ rfl rfl rfl (by omega) (by omega) ?_)
  refine J.assign rfl rfl (J.nil (G.prune [0, 1, 2, 6, 7, 8, 9, 10, 11, 12, 13, 14, 15, 16, 95, 117] rfl (G.exit rfl (G.seq (G.seq (G.region (J.move rfl rfl ?_)))))))
  (first | refine J.leN rfl rfl rfl ?_ | refine J.leZ rfl rfl rfl ?_)
  refine J.move rfl rfl ?_
  rw [hd]
  refine J.wT rfl rfl (J.move rfl rfl (J.wT rfl rfl ?_))
  (first | refine J.leN rfl rfl rfl ?_ | refine J.leZ rfl rfl rfl ?_)
  refine J.pT rfl rfl rfl (J.nil (G.prune [0, 6, 7, 8, 9, 13, 14, 134] rfl (G.cT rfl (G.seq (G.region (J.move rfl rfl (J.move rfl rfl (J.nc rfl rfl rfl ?_))))))))
  refine J.fieldAddr rfl rfl (J.eff (E.si rfl rfl rfl rfl) rfl (J.nil (G.prune [0, 6, 7, 8, 13, 14] rfl (G.seq (G.region (J.move rfl rfl (J.nc rfl rfl rfl (J.fieldAddr rfl rfl ?_))))))))
  refine J.eff (E.si rfl rfl rfl rfl) rfl (J.nil (G.prune [0, 6, 7, 8, 13, 14] rfl (G.seq (G.region (J.move rfl rfl (J.move rfl rfl (J.conv32 rfl rfl (by omega) (by omega) (J.nc rfl rfl rfl ?_))))))))
  refine J.fieldAddr rfl rfl (J.eff (E.si rfl rfl rfl rfl) rfl (J.nil (G.prune [0, 6, 7, 8, 14] rfl (G.region (J.move rfl rfl (J.assign rfl rfl (J.nil (G.seq ?_))))))))
  refine G.seq (G.region (J.move rfl rfl ?_))
  (first | refine J.eqN rfl rfl rfl ?_ | refine J.eqZ rfl rfl rfl ?_)
  refine J.nil ?_
  by_cases he0 : ee = 0
  · skip
    refine G.cT rfl (G.seq (G.region (J.move rfl rfl ?_)))
    refine J.eff (E.callP (round_spec (fb := zb) (np := 8) (t := ⟨0, d2 + x, ⟨ba, la, zs⟩⟩) hmn (by simp only; omega) (by decide) (by decide) (by simp only; omega) (by simp only; omega) (by decide)) [2, 0] [] rfl rfl rfl rfl rfl) rfl fun q hq' => ?_
    try simp only [apC, apN]
    refine J.nil (G.ret (hR _) ?_)
    exact GL.done ((q, base) : FV × Nat) rfl rfl ⟨hq'.1, hq'.2.1, by have := hq'.2.2; simp only at this ⊢; omega, by have := hq'.2.2; simp only at this ⊢; omega⟩ rfl [0, 1, 2] rfl (by decide) (by simp [fh, fc])
  · skip
    refine G.cF rfl (G.skip (G.seq (G.region (J.eff (E.alloc rfl) rfl fun g153 => J.move rfl rfl (J.eff (E.callP (prec_spec (pr := 64 * 8) rfl (by decide)) [] [3] rfl rfl rfl rfl rfl) rfl fun _ _ => ?_)))))
    try simp only [apC, apN]
    refine J.addU rfl rfl rfl (by omega) (J.eff (E.callP (setPrec_spec (fb := g153) (pr := 64 * 8 + 64) (by decide) (by decide)) [0] [] rfl rfl rfl rfl rfl) rfl fun _ _ => ?_)
    try simp only [apC, apN]
    refine J.assign rfl rfl (J.nil (G.prune [0, 6, 7, 8, 14, 16] rfl (G.seq (G.seq (G.region (J.move rfl rfl ?_))))))
    (first | refine J.ltN rfl rfl rfl ?_ | refine J.ltZ rfl rfl rfl ?_)
    refine J.nil ?_
    rcases Int.lt_trichotomy ee 0 with hE | hE | hE
    · obtain ⟨k, rfl⟩ : ∃ k : Nat, ee = -(k : Int) := ⟨ee.natAbs, by omega⟩
      refine G.cT rfl (G.region (J.move rfl rfl (J.move rfl rfl (J.move rfl rfl (J.move rfl rfl (J.negZ rfl rfl (by omega) (by omega) ?_))))))
      simp only [Int.neg_neg]
      refine J.convN rfl rfl (by show _ < _; omega) (J.eff (E.callP (pow5_spec (zb := g153) (n := k) (by omega)) [0] [] rfl rfl rfl rfl rfl) rfl fun u hu => ?_)
      try simp only [apC, apN]
      obtain ⟨u1, u2, u3, u4⟩ := hu
      simp only [fh, fc, List.cons_append, List.nil_append]
      refine J.eff (E.callP (fquo_spec (zb := zb) (fb := g153) (t := ⟨0, d2 + x, ⟨ba, la, zs⟩⟩) (u := u) hmn u1 (by simp only; omega) u2 (by simp only; omega) ⟨u3, u4⟩) [4, 2] [0, 1] rfl rfl rfl rfl rfl) rfl fun q hq' => ?_
      try simp only [apC, apN]
      refine J.nil (G.prune [6, 7, 8] rfl (G.ret (hR _) ?_))
      exact GL.done ((q, base) : FV × Nat) rfl rfl ⟨hq'.1, hq'.2.1, by have := hq'.2.2; simp only at this ⊢; omega, by have := hq'.2.2; simp only at this ⊢; omega⟩ rfl [0, 1, 4] rfl (by decide) (by simp [fh, fc])
    · exact absurd hE he0
    · obtain ⟨k, rfl⟩ : ∃ k : Nat, ee = (k : Int) := ⟨ee.natAbs, by omega⟩
      refine G.cF rfl (G.region (J.move rfl rfl (J.move rfl rfl (J.move rfl rfl (J.move rfl rfl (J.convN rfl rfl (by show _ < _; omega) (J.eff (E.callP (pow5_spec (zb := g153) (n := k) (by omega)) [0] [] rfl rfl rfl rfl rfl) rfl fun u hu => ?_)))))))
      try simp only [apC, apN]
      obtain ⟨u1, u2, u3, u4⟩ := hu
      simp only [fh, fc, List.cons_append, List.nil_append]
      refine J.eff (E.callP (fmul_spec (zb := zb) (fb := g153) (nz := 8) (nf := 9) (t := ⟨0, d2 + x, ⟨ba, la, zs⟩⟩) (u := u) hmn u1 (by simp only; omega) (by omega) (by decide) (by decide) (by simp only; omega) (by omega)) [4, 2] [0, 1] rfl rfl rfl rfl rfl) rfl fun q hq' => ?_
      try simp only [apC, apN]
      refine J.nil (G.prune [6, 7, 8] rfl (G.ret (hR _) ?_))
      exact GL.done ((q, base) : FV × Nat) rfl rfl ⟨hq'.1, hq'.2.1, by have := hq'.2.2; simp only at this ⊢; omega, by have := hq'.2.2; simp only at this ⊢; omega⟩ rfl [0, 1, 4] rfl (by decide) (by simp [fh, fc])
theorem fscan0_spec {zb gr : Nat} {ee : Int} {s : ByteArray} (T : Lit V s 0 ee) :
    Spec (cx V) 140 #[.pointer (some ⟨zb, 0, none⟩), .iface 127 (.pointer (some ⟨gr, 0, none⟩)), .int .i64 0] (fn0 zb (64 * 8) ++ rd gr s 0) []
      (fun q : Option RS × Nat => .tuple #[.pointer (some ⟨zb, 0, none⟩), .int .i64 (q.2 : Int), .nilIface]) (fun q => ⟨zb, 166, [.int .u32 ((64 * 8 : Nat) : Int), .int .u8 0, .int .i8 0, .int .u8 0, .bool false, zv q.1, .int .i32 0], true⟩ :: (rd gr s s.size ++ zh true q.1))
      (fun q => True) := by
  obtain ⟨p, base, fq, x, f1, f2, x1, x2, hb, hsc, hex⟩ := T.sc
  obtain ⟨c, hc0, hc1, hc2, -, -⟩ := T.c0
  have hsz := T.sz
  have hsz0 := T.sz0
  simp only [fn0, rd, List.cons_append, List.nil_append]
  refine Spec.enter Tryz.func140 rfl Tryz.ntmps140 (by simp) [(0, .pointer (some ⟨zb, 0, none⟩)), (1, .iface 127 (.pointer (some ⟨gr, 0, none⟩))), (2, .int .i64 0)] (by simp) ?_
  intro X hR
  try simp only [apC, apN]
  refine G.seq (G.region (J.assign rfl rfl (J.assign rfl rfl (J.assign rfl rfl (J.nil (G.seq (G.region (J.move rfl rfl ?_))))))))
  refine J.nc rfl rfl rfl (J.fieldAddr rfl rfl (J.loadI rfl rfl rfl rfl (J.assign rfl rfl (J.nil (G.prune [0, 1, 2, 6, 7, 8, 9, 15, 16, 95, 117] rfl (G.seq (G.seq (G.region ?_))))))))
  refine J.move rfl rfl ?_
  (first | refine J.eqN rfl rfl rfl ?_ | refine J.eqZ rfl rfl rfl ?_)
  refine J.nil (G.cF rfl (G.skip (G.seq (G.region (J.move rfl rfl (J.nc rfl rfl rfl (J.fieldAddr rfl rfl (J.eff (E.si rfl rfl rfl rfl) rfl ?_))))))))
  refine J.nil (G.prune [0, 1, 2, 6, 7, 8, 9, 15, 16, 95, 117] rfl (G.seq (G.region (J.move rfl rfl (J.move rfl rfl (J.eff (E.callP (scanSign_spec hc0 (by omega) hc1 hc2) [1] [] rfl rfl rfl rfl rfl) rfl fun _ _ => ?_))))))
  try simp only [apC, apN]
  simp only [rd, List.cons_append, List.nil_append]
  refine J.move rfl rfl (J.extractL rfl rfl rfl (J.extractL rfl rfl rfl (J.nc rfl rfl rfl (J.fieldAddr rfl rfl (J.eff (E.si rfl rfl rfl rfl) rfl (J.assign rfl rfl (J.nil (G.prune [0, 1, 2, 6, 7, 8, 9, 15, 16, 95, 117] rfl ?_))))))))
  refine G.seq (G.seq (G.region (J.move rfl rfl ?_)))
  (first | refine J.nilNilN rfl rfl ?_ | refine J.ifNilN rfl rfl ?_)
  refine J.nil (G.cF rfl (G.skip (G.seq (G.region (J.assign rfl rfl (J.nil (G.seq (G.region ?_))))))))
  refine J.move rfl rfl (J.move rfl rfl (J.nc rfl rfl rfl (J.fieldAddr rfl rfl (J.loadI rfl rfl rfl rfl (J.move rfl rfl (J.move rfl rfl (J.eff (E.callP (hsc gr) [0] [] rfl rfl rfl rfl rfl) rfl fun q hq => ?_)))))))
  try simp only [apC, apN]
  rcases q with _ | ⟨ba, la, xa⟩
  · simp only [zh, zv, rd, List.cons_append, List.nil_append]
    refine J.move rfl rfl (J.extractL rfl rfl rfl (J.extractL rfl rfl rfl (J.extractL rfl rfl rfl (J.extractL rfl rfl rfl (J.nc rfl rfl rfl (J.fieldAddr rfl rfl (J.eff (E.si rfl rfl rfl rfl) rfl (J.assign rfl rfl ?_))))))))
    refine J.assign rfl rfl (J.assign rfl rfl (J.nil (G.prune [0, 1, 2, 6, 7, 8, 9, 10, 15, 16, 95, 117] rfl (G.seq (G.seq (G.region (J.move rfl rfl ?_)))))))
    (first | refine J.nilNilN rfl rfl ?_ | refine J.ifNilN rfl rfl ?_)
    refine J.nil (G.cF rfl (G.skip (G.seq (G.region (J.assign rfl rfl (J.nil (G.seq (G.region ?_))))))))
    refine J.assign rfl rfl (J.nil (G.seq (G.region (J.move rfl rfl (J.move rfl rfl ?_)))))
    (first | refine J.eqN rfl rfl rfl ?_ | refine J.eqZ rfl rfl rfl ?_)
    refine J.eff (E.callP (hex gr true true) [0] [] rfl rfl rfl rfl rfl) rfl fun _ _ => ?_
    try simp only [apC, apN]
    simp only [rd, List.cons_append, List.nil_append]
    refine J.move rfl rfl (J.extractL rfl rfl rfl (J.extractL rfl rfl rfl (J.extractL rfl rfl rfl (J.assign rfl rfl (J.assign rfl rfl (J.assign rfl rfl (J.nil (G.prune [0, 1, 2, 6, 7, 8, 9, 10, 11, 12, 15, 16, 95, 117] rfl ?_))))))))
    refine G.seq (G.seq (G.region (J.move rfl rfl ?_)))
    (first | refine J.nilNilN rfl rfl ?_ | refine J.ifNilN rfl rfl ?_)
    refine J.nil (G.cF rfl (G.skip (G.seq (G.seq (G.region (J.move rfl rfl (J.nc rfl rfl rfl (J.fieldAddr rfl rfl ?_))))))))
    refine J.loadI rfl rfl rfl rfl (J.lenS rfl rfl ?_)
    (first | refine J.eqN rfl rfl rfl ?_ | refine J.eqZ rfl rfl rfl ?_)
    refine J.nil (G.prune [0, 1, 2, 6, 7, 8, 9, 10, 11, 12, 15, 16, 68, 95, 117] rfl (G.cT rfl (G.seq (G.region (J.move rfl rfl (J.move rfl rfl (J.nc rfl rfl rfl (J.fieldAddr rfl rfl ?_))))))))
    refine J.eff (E.si rfl rfl rfl rfl) rfl (J.nil (G.prune [0, 1, 2, 6, 7, 8, 9, 10, 11, 12, 15, 16, 95, 117] rfl (G.seq (G.region (J.move rfl rfl (J.nc rfl rfl rfl (J.fieldAddr rfl rfl (J.eff (E.si rfl rfl rfl rfl) rfl ?_))))))))
    refine J.nil (G.prune [0, 1, 2, 6, 7, 8, 9, 10, 11, 12, 15, 16, 95, 117] rfl (G.seq (G.region (J.move rfl rfl (J.nc rfl rfl rfl (J.fieldAddr rfl rfl (J.eff (E.si rfl rfl rfl rfl) rfl (J.nil ?_))))))))
    refine G.prune [0, 1, 2, 6, 7, 8, 9, 10, 11, 12, 15, 16, 95, 117] rfl (G.seq (G.region (J.move rfl rfl (J.assign rfl rfl (J.nil (G.ret (hR _) ?_))))))
    exact GL.done ((none, base) : Option RS × Nat) rfl rfl trivial rfl [1, 0] rfl (by decide) (by simp [zh, zv])
  · have hl : la = 0 := by
      have := hq.len_le (k := 0) (by decide)
      simpa [zlen] using this
    subst hl
    simp only [zh, zv, rd, List.cons_append, List.nil_append]
    refine J.move rfl rfl (J.extractL rfl rfl rfl (J.extractL rfl rfl rfl (J.extractL rfl rfl rfl (J.extractL rfl rfl rfl (J.nc rfl rfl rfl (J.fieldAddr rfl rfl (J.eff (E.si rfl rfl rfl rfl) rfl (J.assign rfl rfl ?_))))))))
    refine J.assign rfl rfl (J.assign rfl rfl (J.nil (G.prune [0, 1, 2, 6, 7, 8, 9, 10, 15, 16, 95, 117] rfl (G.seq (G.seq (G.region (J.move rfl rfl ?_)))))))
    (first | refine J.nilNilN rfl rfl ?_ | refine J.ifNilN rfl rfl ?_)
    refine J.nil (G.cF rfl (G.skip (G.seq (G.region (J.assign rfl rfl (J.nil (G.seq (G.region ?_))))))))
    refine J.assign rfl rfl (J.nil (G.seq (G.region (J.move rfl rfl (J.move rfl rfl ?_)))))
    (first | refine J.eqN rfl rfl rfl ?_ | refine J.eqZ rfl rfl rfl ?_)
    refine J.eff (E.callP (hex gr true true) [1] [] rfl rfl rfl rfl rfl) rfl fun _ _ => ?_
    try simp only [apC, apN]
    simp only [rd, List.cons_append, List.nil_append]
    refine J.move rfl rfl (J.extractL rfl rfl rfl (J.extractL rfl rfl rfl (J.extractL rfl rfl rfl (J.assign rfl rfl (J.assign rfl rfl (J.assign rfl rfl (J.nil (G.prune [0, 1, 2, 6, 7, 8, 9, 10, 11, 12, 15, 16, 95, 117] rfl ?_))))))))
    refine G.seq (G.seq (G.region (J.move rfl rfl ?_)))
    (first | refine J.nilNilN rfl rfl ?_ | refine J.ifNilN rfl rfl ?_)
    refine J.nil (G.cF rfl (G.skip (G.seq (G.seq (G.region (J.move rfl rfl (J.nc rfl rfl rfl (J.fieldAddr rfl rfl ?_))))))))
    refine J.loadI rfl rfl rfl rfl (J.lenS rfl rfl ?_)
    (first | refine J.eqN rfl rfl rfl ?_ | refine J.eqZ rfl rfl rfl ?_)
    refine J.nil (G.prune [0, 1, 2, 6, 7, 8, 9, 10, 11, 12, 15, 16, 68, 95, 117] rfl (G.cT rfl (G.seq (G.region (J.move rfl rfl (J.move rfl rfl (J.nc rfl rfl rfl (J.fieldAddr rfl rfl ?_))))))))
    refine J.eff (E.si rfl rfl rfl rfl) rfl (J.nil (G.prune [0, 1, 2, 6, 7, 8, 9, 10, 11, 12, 15, 16, 95, 117] rfl (G.seq (G.region (J.move rfl rfl (J.nc rfl rfl rfl (J.fieldAddr rfl rfl (J.eff (E.si rfl rfl rfl rfl) rfl ?_))))))))
    refine J.nil (G.prune [0, 1, 2, 6, 7, 8, 9, 10, 11, 12, 15, 16, 95, 117] rfl (G.seq (G.region (J.move rfl rfl (J.nc rfl rfl rfl (J.fieldAddr rfl rfl (J.eff (E.si rfl rfl rfl rfl) rfl (J.nil ?_))))))))
    refine G.prune [0, 1, 2, 6, 7, 8, 9, 10, 11, 12, 15, 16, 95, 117] rfl (G.seq (G.region (J.move rfl rfl (J.assign rfl rfl (J.nil (G.ret (hR _) ?_))))))
    exact GL.done ((some ⟨ba, 0, xa⟩, base) : Option RS × Nat) rfl rfl trivial rfl [2, 0, 1] rfl (by decide) (by simp [zh, zv])
end
end Go.Proofs.YtfbbkngonohlkaaGreatDoor
