/- The way to the laws, part 4 of 6 (the engine of the walks; contracts of the functions that the laws reach), joined by a program of ours out of: F2 F3 F4 F5 F6 K1 K2 F7 F8 -/
import Derived.Test.YtfbbkngonohlkaaGreatDoorZ03
namespace Go.Proofs.YtfbbkngonohlkaaGreatDoor
open Go
set_option linter.unusedVariables false
set_option linter.unusedSimpArgs false
set_option exponentiation.threshold 20000
section
set_option maxRecDepth 100000
set_option pp.deepTerms false
variable {V : Addr}
structure MN (m : RS) : Prop where
  ok : m.len ≤ m.xs.length ∧ m.xs.length ≤ 9223372036854775807 ∧ Wd m.xs
  l0 : 0 < m.len
  top : 9223372036854775808 * 18446744073709551616 ^ (m.len - 1) ≤ rv m.xs 0 m.len
structure FV where
  acc : Int
  e : Int
  m : RS
def fc (pr : Nat) (t : FV) : List Value := [.int .u32 (pr : Int), .int .u8 0, .int .i8 t.acc, .int .u8 1, .bool false, .slice (some ⟨t.m.b, 0, none⟩) t.m.len t.m.xs.length, .int .i32 t.e]
def fh (fb pr : Nat) (t : FV) : Hp := [⟨fb, 166, fc pr t, true⟩, ⟨t.m.b, 162, cells .u64 t.m.xs, true⟩]
theorem MN.cut {b l n : Nat} {xs : List Nat} (h : MN ⟨b, l, xs⟩) (hn : 0 < n) (hl : n ≤ l) : MN ⟨b, n, splice xs 0 ((xs.drop (l - n)).take n)⟩ := by
  obtain ⟨h1, h2, h3⟩ := h.ok
  have ht := h.top
  simp only at h1 h2 h3 ht
  have hlen : ((xs.drop (l - n)).take n).length = n := drop_take_len (by omega)
  have hr : rv (splice xs 0 ((xs.drop (l - n)).take n)) 0 n = rv xs (l - n) n := rv_congr fun j hj => by
    rw [getD_splice (by omega), if_pos (by omega), Nat.sub_zero, Nat.zero_add, getD_drop_take hj]
  refine ⟨⟨by simp only; rw [splice_len _ _ _ (by omega)]; omega, by simp only; rw [splice_len _ _ _ (by omega)]; omega, h3.splice (h3.sub _ _) (by omega)⟩, hn, ?_⟩
  simp only
  rw [hr]
  have e1 : rv xs 0 l = rv xs 0 (l - n) + 18446744073709551616 ^ (l - n) * rv xs (0 + (l - n)) n := by
    have := rv_split xs 0 (l - n) n
    rwa [show l - n + n = l by omega] at this
  rw [Nat.zero_add] at e1
  have e2 := rv_lt h3 0 (l - n)
  have e3 : 18446744073709551616 ^ (l - 1) = 18446744073709551616 ^ (n - 1) * 18446744073709551616 ^ (l - n) := by rw [← Nat.pow_add]; congr 1; omega
  rw [e3, ← Nat.mul_assoc, e1] at ht
  generalize 9223372036854775808 * 18446744073709551616 ^ (n - 1) = T at ht ⊢
  generalize 18446744073709551616 ^ (l - n) = P at ht e2
  generalize rv xs (l - n) n = r at ht ⊢
  rw [Nat.mul_comm P r] at ht
  rcases Nat.lt_or_ge r T with h4 | h4
  · have h5 := Nat.mul_le_mul_right P (Nat.succ_le_of_lt h4)
    rw [Nat.succ_mul] at h5
    omega
  · exact h4
theorem MN.low {b l v : Nat} {xs : List Nat} (h : MN ⟨b, l, xs⟩) (hl : 2 ≤ l) (hv : v < 18446744073709551616) : MN ⟨b, l, xs.set 0 v⟩ := by
  obtain ⟨h1, h2, h3⟩ := h.ok
  have ht := h.top
  simp only at h1 h2 h3 ht
  refine ⟨⟨by simpa using h1, by simpa using h2, h3.set hv⟩, h.l0, ?_⟩
  obtain ⟨n, rfl⟩ : ∃ n, l = n + 1 + 1 := ⟨l - 2, by omega⟩
  simp only [Nat.add_sub_cancel] at ht ⊢
  rw [rv_head] at ht ⊢
  rw [rv_set (by omega)]
  have h0 : xs.getD 0 0 < _ := h3 0
  rw [Nat.pow_succ, ← Nat.mul_assoc] at ht ⊢
  simp only [Nat.zero_add] at ht ⊢
  omega
theorem MN.tp {b l v : Nat} {xs : List Nat} (h1 : l ≤ xs.length ∧ xs.length ≤ 9223372036854775807 ∧ Wd xs) (hl : 0 < l) (hv : v < 18446744073709551616) (h : 9223372036854775808 ≤ v) : MN ⟨b, l, xs.set (0 + (l - 1)) v⟩ := by
  obtain ⟨h1, h2, h3⟩ := h1
  refine ⟨⟨by simpa using h1, by simpa using h2, h3.set hv⟩, hl, ?_⟩
  simp only
  have e := rv_put (zs := xs) (o := 0) (i := l - 1) (v := v) (by omega)
  rw [show l - 1 + 1 = l by omega] at e
  rw [e]
  have := Nat.mul_le_mul_right (18446744073709551616 ^ (l - 1)) h
  omega
theorem MN.add {b l : Nat} {xs zs : List Nat} (h : MN ⟨b, l, xs⟩) (ha : AW xs l 0 zs) : MN ⟨b, l, zs⟩ := by
  obtain ⟨h1, h2, h3⟩ := h.ok
  have ht := h.top
  have e := ha.e
  have hl := ha.w.len
  simp only at h1 h2 h3 ht
  exact ⟨⟨by simp only; omega, by simp only; omega, ha.w.wd⟩, h.l0, by simp only; omega⟩
theorem round_spec {fb np sb : Nat} {t : FV} (hm : MN t.m) (hl : t.m.len ≤ 100) (hp : 2 ≤ np) (hp2 : np ≤ 100) (he : -100000 ≤ t.e) (he2 : t.e ≤ 100000) (hsb : sb < 18446744073709551616) :
    Spec (cx V) 138 #[.pointer (some ⟨fb, 0, none⟩), .int .u64 sb] (fh fb (64 * np) t) [] (fun _ : FV => .tuple #[]) (fh fb (64 * np)) (fun q => MN q.m ∧ q.m.len ≤ np ∧ t.e ≤ q.e ∧ q.e ≤ t.e + 1) := by
  obtain ⟨a0, e, ⟨mb, l, xs⟩⟩ := t
  simp only [fh, fc] at *
  obtain ⟨m1, m2, m3⟩ := hm.ok
  have hl0 := hm.l0
  simp only at m1 m2 m3 hl0
  refine Spec.enter Tryz.func138 rfl Tryz.ntmps138 (by simp) [(0, .pointer (some ⟨fb, 0, none⟩)), (1, .int .u64 sb)] (by simp) ?_
  intro X hR
  try simp only [apC, apN]
  refine G.seq (G.region (J.move rfl rfl (J.nc rfl rfl rfl (J.fieldAddr rfl rfl (J.eff (E.si rfl rfl rfl rfl) rfl (J.nil (G.prune [0, 1] rfl (G.seq ?_))))))))
  refine G.seq (G.region (J.move rfl rfl (J.nc rfl rfl rfl (J.fieldAddr rfl rfl (J.loadI rfl rfl rfl rfl ?_)))))
  (first | refine J.neN rfl rfl rfl ?_ | refine J.neZ rfl rfl rfl ?_)
  refine J.nil (G.prune [0, 1, 19] rfl (G.cF rfl (G.skip (G.seq (G.region (J.move rfl rfl (J.nc rfl rfl rfl (J.fieldAddr rfl rfl ?_))))))))
  refine J.loadI rfl rfl rfl rfl (J.lenS rfl rfl (J.convN rfl rfl (by show _ < _; omega) (J.assign rfl rfl (J.nil (G.prune [0, 1, 4] rfl (G.seq (G.region (J.move rfl rfl ?_))))))))
  refine J.mulF rfl rfl rfl (by show _ < _; omega) (J.assign rfl rfl (J.nil (G.seq (G.seq (G.region (J.move rfl rfl (J.move rfl rfl (J.nc rfl rfl rfl ?_))))))))
  refine J.fieldAddr rfl rfl (J.loadI rfl rfl rfl rfl ?_)
  (first | refine J.leN rfl rfl rfl ?_ | refine J.leZ rfl rfl rfl ?_)
  refine J.nil (G.prune [0, 1, 4, 5, 33] rfl ?_)
  by_cases hln : l ≤ np
  · skip
    refine G.cT rfl (G.ret (hR _) ?_)
    exact GL.done (⟨0, e, ⟨mb, l, xs⟩⟩ : FV) rfl rfl ⟨hm, hln, Int.le_refl e, by simp only; omega⟩ rfl [0, 1] rfl (by decide) (by simp [fh])
  · skip
    refine G.cF rfl (G.skip (G.seq (G.region (J.move rfl rfl (J.move rfl rfl (J.nc rfl rfl rfl (J.fieldAddr rfl rfl (J.loadI rfl rfl rfl rfl ?_))))))))
    refine J.subF rfl rfl rfl (by omega) (by show _ < _; omega) (J.subF rfl rfl rfl (by omega) (by show _ < _; omega) (J.convN rfl rfl (by show _ < _; omega) (J.assign rfl rfl (J.nil (G.prune [0, 1, 4, 6] rfl (G.seq (G.region (J.move rfl rfl ?_))))))))
    refine J.nc rfl rfl rfl (J.fieldAddr rfl rfl (J.loadI rfl rfl rfl rfl (J.move rfl rfl (J.eff (E.callP (bit_spec (i := l * 64 - 64 * np - 1) m1 m2 m3 (by omega) (by omega)) [] [1] rfl rfl rfl rfl rfl) rfl fun rb0 hrb0 => ?_))))
    try simp only [apC, apN]
    refine J.andA rfl rfl rfl (by first | assumption | decide | omega) (by first | assumption | decide | omega) fun v48 h48 b48 => J.assign rfl rfl (J.nil (G.prune [0, 1, 4, 6, 7] rfl (G.seq (G.seq (G.region (J.move rfl rfl ?_))))))
    (first | refine J.eqN rfl rfl rfl ?_ | refine J.eqZ rfl rfl rfl ?_)
    refine J.move rfl rfl ?_
    have hv48 : v48 ≤ 1 := by rw [h48]; exact Nat.and_le_right
    clear h48
    apply J.join (σ := Nat) (fun s1 => s1 < 18446744073709551616) (fun s1 => [(0, .pointer (some ⟨fb, 0, none⟩)), (1, .int .u64 s1), (4, .int .u32 (l : Nat)), (7, .int .u64 v48)]) (fun _ => [⟨fb, 166, [.int .u32 ((64 * np : Nat) : Int), .int .u8 0, .int .i8 0, .int .u8 1, .bool false, .slice (some ⟨mb, 0, none⟩) l xs.length, .int .i32 e], true⟩, ⟨mb, 162, cells .u64 xs, true⟩])
    · intro hk
      by_cases h0 : sb = 0
      · by_cases h1 : v48 = 0
        · skip
          refine J.wT rfl rfl (J.move rfl rfl (J.wT rfl rfl ?_))
          (first | refine J.eqN rfl rfl rfl ?_ | refine J.eqZ rfl rfl rfl ?_)
          refine J.wT rfl rfl (J.move rfl rfl (J.sk rfl rfl rfl rfl (J.sk rfl rfl rfl rfl (J.sk rfl rfl rfl rfl (J.sk rfl rfl rfl rfl (J.sk rfl rfl rfl rfl (J.wT rfl rfl (J.pT rfl rfl rfl ?_))))))))
          refine J.pT rfl rfl rfl (J.nil (G.prune [0, 1, 4, 6, 7, 61] rfl (G.cT rfl (G.region (J.move rfl rfl (J.nc rfl rfl rfl (J.fieldAddr rfl rfl (J.loadI rfl rfl rfl rfl ?_))))))))
          refine J.move rfl rfl (J.eff (E.callP (sticky_spec (i := l * 64 - 64 * np - 1) m1 m2 m3 (by omega) (by omega)) [] [1] rfl rfl rfl rfl rfl) rfl fun s1 hs1 => ?_)
          try simp only [apC, apN]
          refine J.assign rfl rfl (J.nil (G.prune [0, 1, 4, 7] rfl (G.seq ?_)))
          exact G.wk [0, 1] (hk s1 hs1)
        · skip
          refine J.wT rfl rfl (J.move rfl rfl (J.wT rfl rfl ?_))
          (first | refine J.eqN rfl rfl rfl ?_ | refine J.eqZ rfl rfl rfl ?_)
          refine J.wT rfl rfl (J.move rfl rfl (J.wF rfl rfl (J.move rfl rfl (J.wF rfl rfl (J.nc rfl rfl rfl (J.wF rfl rfl (J.fieldAddr rfl rfl (J.wF rfl rfl ?_))))))))
          refine J.loadI rfl rfl rfl rfl (J.wF rfl rfl ?_)
          (first | refine J.eqN rfl rfl rfl ?_ | refine J.eqZ rfl rfl rfl ?_)
          refine J.wT rfl rfl (J.pF rfl rfl rfl (J.pT rfl rfl rfl (J.nil (G.prune [0, 1, 4, 6, 7, 61] rfl (G.cT rfl (G.region (J.move rfl rfl (J.nc rfl rfl rfl ?_))))))))
          refine J.fieldAddr rfl rfl (J.loadI rfl rfl rfl rfl (J.move rfl rfl (J.eff (E.callP (sticky_spec (i := l * 64 - 64 * np - 1) m1 m2 m3 (by omega) (by omega)) [] [1] rfl rfl rfl rfl rfl) rfl fun s1 hs1 => ?_)))
          try simp only [apC, apN]
          refine J.assign rfl rfl (J.nil (G.prune [0, 1, 4, 7] rfl (G.seq ?_)))
          exact G.wk [0, 1] (hk s1 hs1)
      · skip
        refine J.sk rfl rfl rfl rfl (J.sk rfl rfl rfl rfl (J.sk rfl rfl rfl rfl (J.skipU rfl rfl rfl rfl (J.skipU rfl rfl rfl rfl (J.skipU rfl rfl rfl rfl (J.skipU rfl rfl rfl rfl (J.skipU rfl rfl rfl rfl (J.sk rfl rfl rfl rfl ?_))))))))
        refine J.pF rfl rfl rfl (J.nil (G.prune [0, 1, 4, 6, 7, 61] rfl (G.cF rfl (G.skip (G.seq ?_)))))
        exact G.wk [0, 1] (hk sb hsb)
    intro s1 hs1
    refine G.region (J.move rfl rfl (J.andA rfl rfl rfl (by first | assumption | decide | omega) (by first | assumption | decide | omega) fun v69 h69 b69 => J.assign rfl rfl (J.nil (G.seq (G.region (J.move rfl rfl (J.nc rfl rfl rfl ?_)))))))
    refine J.fieldAddr rfl rfl (J.loadI rfl rfl rfl rfl (J.addF rfl rfl rfl (by show _ < _; omega) (J.quoF rfl rfl rfl (by omega) (by show _ < _; omega) (J.assign rfl rfl (J.nil (G.prune [0, 1, 4, 7, 8] rfl (G.seq (G.seq ?_))))))))
    refine G.region (J.move rfl rfl (J.move rfl rfl ?_))
    (first | refine J.gtN rfl rfl rfl ?_ | refine J.gtZ rfl rfl rfl ?_)
    refine J.nil ?_
    have e63 : (64 * np + 63) / 64 = np := by omega
    rw [e63]
    refine G.cT rfl (G.seq (G.regionS [0, 1, 2, 3, 4, 5, 6, 7, 8, 9, 10, 11, 12] (some 12) (some 0) [⟨fb, 166, [.int .u32 ((64 * np : Nat) : Int), .int .u8 0, .int .i8 0, .int .u8 1, .bool false, .slice (some ⟨mb, 0, none⟩) l xs.length, .int .i32 e], true⟩] (by kernel_rfl) (SubH.of [0] rfl) rfl (J.move rfl rfl (J.nc rfl rfl rfl (J.fieldAddr rfl rfl (J.ld rfl rfl rfl rfl rfl (J.move rfl rfl (J.nc rfl rfl rfl ?_))))))))
    refine J.fieldAddr rfl rfl (J.ld rfl rfl rfl rfl rfl (J.move rfl rfl (J.move rfl rfl (J.subF rfl rfl rfl (by omega) (by show _ < _; omega) (J.slL1 rfl rfl rfl (by omega) (by omega) ?_)))))
    refine J.effH (E.copy (xs := xs) (ys := xs) (o := 0) (o2 := 0 + (l - np)) (q := np) rfl rfl rfl (Mem.t Mem.h) (show Nat.min (l - (l - np)) l = np by rw [show l - (l - np) = np by omega]; exact Nat.min_eq_left (by omega)) (by omega) (by omega) (Upd1.t Upd1.h)) rfl rfl ⟨fun h => Bool.noConfusion h, ?_⟩
    refine J.nil (G.prune [0, 1, 7, 8] rfl (G.region (J.move rfl rfl (J.move rfl rfl (J.nc rfl rfl rfl (J.fieldAddr rfl rfl (J.loadI rfl rfl rfl rfl (J.move rfl rfl ?_))))))))
    refine J.slH rfl rfl rfl (by omega) (J.nc rfl rfl rfl (J.fieldAddr rfl rfl (J.eff (E.si rfl rfl rfl rfl) rfl (J.nil (G.prune [0, 1, 7, 8] rfl (G.seq (G.region (J.move rfl rfl ?_))))))))
    refine J.mulF rfl rfl rfl (by show _ < _; omega) (J.move rfl rfl (J.nc rfl rfl rfl (J.fieldAddr rfl rfl (J.loadI rfl rfl rfl rfl (J.subF rfl rfl rfl (by omega) (by show _ < _; omega) (J.assign rfl rfl (J.nil (G.prune [0, 1, 7, 8, 9] rfl ?_))))))))
    refine G.seq (G.region (J.move rfl rfl (J.shlA rfl rfl rfl  fun v109 h109 b109 => J.assign rfl rfl (J.nil (G.seq (G.seq (G.region ?_)))))))
    refine J.move rfl rfl (J.move rfl rfl (J.orA rfl rfl rfl (by first | assumption | decide | omega) (by first | assumption | decide | omega) fun v112 h112 b112 => ?_))
    (first | refine J.neN rfl rfl rfl ?_ | refine J.neZ rfl rfl rfl ?_)
    refine J.nil (G.prune [0, 1, 7, 8, 10, 113] rfl ?_)
    have hcut := hm.cut (n := np) (by omega) (by omega)
    rw [← Nat.zero_add (l - np)] at hcut
    have hyl : (splice xs 0 ((xs.drop (0 + (l - np))).take np)).length = xs.length := splice_len _ _ _ (by rw [drop_take_len (by omega)]; omega)
    rw [← hyl]
    generalize splice xs 0 ((xs.drop (0 + (l - np))).take np) = ys at hcut hyl ⊢
    clear m1 m2 m3 hm hyl
    obtain ⟨m1, m2, m3⟩ := hcut.ok
    simp only at m1 m2 m3
    have hy0 := m3 (0 + 0)
    have e1 : np * 64 - 64 * np = 0 := by omega
    have hv1 : v109 = 1 := by rw [h109, e1]
    subst hv1
    clear h109 h112 h69
    have hlow : ∀ (zs : List Nat) (v : Nat), MN ⟨mb, np, zs⟩ → v < 18446744073709551616 → MN ⟨mb, np, zs.set (0 + 0) v⟩ := fun zs v h hv => h.low hp hv
    apply G.join (σ := Int × Int × List Nat) (fun s => MN ⟨mb, np, s.2.2⟩ ∧ e ≤ s.2.1 ∧ s.2.1 ≤ e + 1) (fun s => [(0, .pointer (some ⟨fb, 0, none⟩)), (10, .int .u64 ((1 : Nat) : Int))]) (fun s => [⟨fb, 166, [.int .u32 ((64 * np : Nat) : Int), .int .u8 0, .int .i8 s.1, .int .u8 1, .bool false, .slice (some ⟨mb, 0, none⟩) np s.2.2.length, .int .i32 s.2.1], true⟩, ⟨mb, 162, cells .u64 s.2.2, true⟩])
    · intro hk
      refine G.condP rfl (fun hc => ?_) (fun hc => ?_)
      · refine G.seq ?_
        refine G.region (J.assign rfl rfl (J.nil (G.seq (G.seq (G.region (J.move rfl rfl (J.nc rfl rfl rfl (J.fieldAddr rfl rfl ?_))))))))
        refine J.loadI rfl rfl rfl rfl (J.nil (G.prune [0, 1, 7, 8, 10, 11, 117] rfl (G.block (G.seq (G.region ?_)))))
        (first | refine J.eqN rfl rfl rfl ?_ | refine J.eqZ rfl rfl rfl ?_)
        refine J.assign rfl rfl (J.nil (G.cF rfl (G.seq (G.region ?_))))
        (first | refine J.eqN rfl rfl rfl ?_ | refine J.eqZ rfl rfl rfl ?_)
        refine J.assign rfl rfl (J.nil (G.cF rfl (G.seq (G.region ?_))))
        (first | refine J.eqN rfl rfl rfl ?_ | refine J.eqZ rfl rfl rfl ?_)
        refine J.assign rfl rfl (J.nil (G.cT rfl (G.region (J.move rfl rfl ?_))))
        (first | refine J.neN rfl rfl rfl ?_ | refine J.neZ rfl rfl rfl ?_)
        refine J.move rfl rfl ?_
        apply J.join (σ := Bool) (fun _ => True) (fun b => [(0, .pointer (some ⟨fb, 0, none⟩)), (8, .int .u32 (np : Nat)), (10, .int .u64 ((1 : Nat) : Int)), (11, .bool b)]) (fun _ => [⟨fb, 166, [.int .u32 ((64 * np : Nat) : Int), .int .u8 0, .int .i8 0, .int .u8 1, .bool false, .slice (some ⟨mb, 0, none⟩) np ys.length, .int .i32 e], true⟩, ⟨mb, 162, cells .u64 ys, true⟩])
        · intro hk2
          by_cases h0 : v48 = 0
          · skip
            refine J.sk rfl rfl rfl rfl (J.sk rfl rfl rfl rfl (J.sk rfl rfl rfl rfl (J.skipU rfl rfl rfl rfl (J.skipU rfl rfl rfl rfl (J.skipU rfl rfl rfl rfl (J.skipU rfl rfl rfl rfl (J.skipU rfl rfl rfl rfl (J.skipU rfl rfl rfl rfl ?_))))))))
            refine J.skipU rfl rfl rfl rfl (J.skipU rfl rfl rfl rfl (J.skipU rfl rfl rfl rfl (J.sk rfl rfl rfl rfl (J.pF rfl rfl rfl (J.assign rfl rfl (J.nil (G.prune [0, 8, 10, 11] rfl (G.inBlock ?_))))))))
            refine G.seq ?_
            exact G.wk [0, 1] (hk2 _ trivial)
          · by_cases h1 : v69 = 0
            · skip
              refine J.wT rfl rfl (J.move rfl rfl (J.wT rfl rfl ?_))
              (first | refine J.neN rfl rfl rfl ?_ | refine J.neZ rfl rfl rfl ?_)
              refine J.wT rfl rfl (J.move rfl rfl (J.wF rfl rfl (J.move rfl rfl (J.wF rfl rfl (J.nc rfl rfl rfl (J.wF rfl rfl (J.fieldAddr rfl rfl (J.wF rfl rfl ?_))))))))
              refine J.loadI rfl rfl rfl rfl (J.wF rfl rfl (J.ix rfl rfl rfl (J.wF rfl rfl (J.lc rfl rfl rfl (J.wF rfl rfl (J.move rfl rfl (J.wF rfl rfl (J.andA rfl rfl rfl (by first | assumption | decide | omega) (by first | assumption | decide | omega) fun v142 h142 b142 => ?_))))))))
              refine J.wF rfl rfl ?_
              (first | refine J.neN rfl rfl rfl ?_ | refine J.neZ rfl rfl rfl ?_)
              refine J.wT rfl rfl (J.pF rfl rfl rfl (J.pT rfl rfl rfl (J.assign rfl rfl (J.nil (G.prune [0, 8, 10, 11] rfl (G.inBlock (G.seq ?_)))))))
              exact G.wk [0, 1] (hk2 _ trivial)
            · skip
              refine J.wT rfl rfl (J.move rfl rfl (J.wT rfl rfl ?_))
              (first | refine J.neN rfl rfl rfl ?_ | refine J.neZ rfl rfl rfl ?_)
              refine J.wT rfl rfl (J.move rfl rfl (J.sk rfl rfl rfl rfl (J.sk rfl rfl rfl rfl (J.sk rfl rfl rfl rfl (J.sk rfl rfl rfl rfl (J.sk rfl rfl rfl rfl (J.sk rfl rfl rfl rfl (J.sk rfl rfl rfl rfl ?_))))))))
              refine J.sk rfl rfl rfl rfl (J.sk rfl rfl rfl rfl (J.wT rfl rfl (J.pT rfl rfl rfl (J.pT rfl rfl rfl (J.assign rfl rfl (J.nil (G.prune [0, 8, 10, 11] rfl (G.inBlock ?_))))))))
              refine G.seq ?_
              exact G.wk [0, 1] (hk2 _ trivial)
        intro inc _
        refine G.region (J.move rfl rfl (J.move rfl rfl (J.move rfl rfl (J.nc rfl rfl rfl (J.fieldAddr rfl rfl (J.loadI rfl rfl rfl rfl (J.neB rfl rfl rfl (J.eff (E.callP (makeAcc_spec) [] [] rfl rfl rfl rfl rfl) rfl fun a1 _ => ?_))))))))
        try simp only [apC, apN]
        refine J.nc rfl rfl rfl (J.fieldAddr rfl rfl (J.eff (E.si rfl rfl rfl rfl) rfl (J.nil (G.prune [0, 8, 10, 11] rfl (G.seq (G.region (J.move rfl rfl (J.nil ?_))))))))
        cases inc with
        | false =>
          refine G.cF rfl (G.skip ?_)
          exact G.wk [0, 1] (hk (a1, e, ys) ⟨hcut, Int.le_refl e, by simp only; omega⟩)
        | true =>
          refine G.cT rfl (G.seq (G.regionS [0, 1, 2, 3, 4, 5, 6, 7, 8, 9, 10] none none [⟨fb, 166, [.int .u32 ((64 * np : Nat) : Int), .int .u8 0, .int .i8 a1, .int .u8 1, .bool false, .slice (some ⟨mb, 0, none⟩) np ys.length, .int .i32 e], true⟩] (by kernel_rfl) (SubH.of [0] rfl) rfl (J.move rfl rfl (J.nc rfl rfl rfl (J.fieldAddr rfl rfl (J.ld rfl rfl rfl rfl rfl (J.move rfl rfl (J.nc rfl rfl rfl ?_))))))))
          refine J.fieldAddr rfl rfl (J.ld rfl rfl rfl rfl rfl (J.move rfl rfl ?_))
          refine J.effH (E.callP (addVW1_spec (zs := ys) m1 m2 m3 (by omega)) [1] [] rfl rfl rfl rfl rfl) rfl rfl fun p hp => ⟨fun _ => SubH.of [1] rfl, ?_⟩
          try simp only [apC, apN]
          (first | refine J.neN rfl rfl rfl ?_ | refine J.neZ rfl rfl rfl ?_)
          refine J.nil (G.prune [0, 8, 10, 180] rfl ?_)
          obtain ⟨c, zs⟩ := p
          simp only at hp ⊢
          have hzl := hp.w.len
          have hzw := hp.w.wd
          have hc1 := hp.c1
          rw [← hzl]
          by_cases hc0 : c = 0
          · subst hc0
            refine G.cF rfl (G.skip ?_)
            exact G.wk [1, 0] (hk (a1, e, zs) ⟨hcut.add hp, Int.le_refl e, by simp only; omega⟩)
          · skip
            refine G.cT rfl (G.seq (G.seq (G.region (J.move rfl rfl (J.nc rfl rfl rfl (J.fieldAddr rfl rfl (J.loadI rfl rfl rfl rfl ?_)))))))
            (first | refine J.geN rfl rfl rfl ?_ | refine J.geZ rfl rfl rfl ?_)
            refine J.nil (G.prune [0, 8, 10, 185] rfl (G.cF rfl (G.skip (G.seq (G.region (J.move rfl rfl (J.nc rfl rfl rfl (J.fieldAddr rfl rfl ?_))))))))
            refine J.loadI rfl rfl rfl rfl (J.addK rfl rfl rfl (by omega) (by omega) (J.nc rfl rfl rfl (J.fieldAddr rfl rfl (J.eff (E.si rfl rfl rfl rfl) rfl (J.nil (G.prune [0, 8, 10] rfl (G.seq (G.regionS [0, 1, 2, 3, 4, 5, 6, 7, 8] none none [⟨fb, 166, [.int .u32 ((64 * np : Nat) : Int), .int .u8 0, .int .i8 a1, .int .u8 1, .bool false, .slice (some ⟨mb, 0, none⟩) np zs.length, .int .i32 (e + 1)], true⟩] (by kernel_rfl) (SubH.of [1] rfl) rfl ?_))))))))
            refine J.move rfl rfl (J.nc rfl rfl rfl (J.fieldAddr rfl rfl (J.ld rfl rfl rfl rfl rfl (J.move rfl rfl (J.nc rfl rfl rfl (J.fieldAddr rfl rfl (J.ld rfl rfl rfl rfl rfl ?_)))))))
            refine J.effH (E.callP (rshVUS_spec (V := V) (oz := 0) (n := np) (ox := 0) (zs0 := zs) (s := 1) (by omega) hzw (by omega) (.inl (Nat.le_refl 0)) (by omega) (by decide)) [0] [] rfl rfl rfl rfl rfl) rfl rfl fun p hp2 => ⟨fun _ => SubH.of [1] rfl, ?_⟩
            try simp only [apC, apN]
            obtain ⟨c2, ts⟩ := p
            simp only at hp2 ⊢
            have htl := hp2.w.len
            have hxw := hp2.w.wd (0 + (np - 1))
            rw [← htl]
            refine J.nil (G.prune [0, 8, 10] rfl (G.region (J.move rfl rfl (J.nc rfl rfl rfl (J.fieldAddr rfl rfl (J.loadI rfl rfl rfl rfl (J.move rfl rfl (J.subF rfl rfl rfl (by omega) (by show _ < _; omega) ?_))))))))
            refine J.ix rfl rfl rfl (J.lc rfl rfl rfl (J.orA rfl rfl rfl (by first | assumption | decide | omega) (by first | assumption | decide | omega) fun v213 h213 b213 => J.ix rfl rfl rfl (J.eff (E.sc rfl rfl) rfl (J.nil (G.prune [0, 10] rfl ?_)))))
            have hv := MN.tp (b := mb) (l := np) (xs := ts) ⟨by omega, by omega, hp2.w.wd⟩ (by omega) b213 (by rw [h213]; exact Nat.right_le_or)
            have hsl : (ts.set (0 + (np - 1)) v213).length = ts.length := List.length_set ..
            rw [← hsl]
            exact G.wk [1, 0] (hk (a1, e + 1, ts.set (0 + (np - 1)) v213) ⟨hv, by simp only; omega, Int.le_refl _⟩)
      · refine G.skip ?_
        exact G.wk [0, 1] (hk (0, e, ys) ⟨hcut, Int.le_refl e, by simp only; omega⟩)
    rintro ⟨a1, e', zs⟩ ⟨hz, he1, he2⟩
    simp only at hz he1 he2 ⊢
    obtain ⟨z1, z2, z3⟩ := hz.ok
    simp only at z1 z2 z3
    refine G.region (J.move rfl rfl (J.nc rfl rfl rfl (J.fieldAddr rfl rfl (J.loadI rfl rfl rfl rfl (J.ix rfl rfl rfl (J.lc rfl rfl rfl (J.move rfl rfl (J.subA rfl rfl rfl (by first | assumption | decide | omega) fun v222 h222 b222 => ?_))))))))
    refine J.andNotA rfl rfl rfl fun v223 h223 => J.ix rfl rfl rfl (J.eff (E.sc rfl rfl) rfl (J.nil (G.prune [] rfl (G.fall (hR _) ?_))))
    have hsl : (zs.set (0 + 0) v223).length = zs.length := List.length_set ..
    rw [← hsl]
    exact GL.done (⟨a1, e', ⟨mb, np, zs.set (0 + 0) v223⟩⟩ : FV) rfl rfl ⟨hlow zs v223 hz h223, Nat.le_refl np, he1, he2⟩ rfl [0, 1] rfl (by decide) (by simp [fh])
end
section
set_option maxRecDepth 100000
set_option pp.deepTerms false
variable {V : Addr}
theorem sqr_same {x : RS} {sv : Value} (hx : zok (some x)) (h0 : 0 < x.len) (h9 : x.len ≤ 11) :
    Spec (cx V) 154 #[zv (some x), sv, zv (some x)] (zh true (some x)) [] zv (zh true) (fun q => Res q (zn (some x) * zn (some x))) := by
  obtain ⟨b, lx, xs⟩ := x
  simp only [zok, zn, zv, zh] at hx h0 h9 ⊢
  obtain ⟨x1, x2, x3⟩ := hx
  refine Spec.enter Tryz.func154 rfl Tryz.ntmps154 (by simp) [(0, .slice (some ⟨b, 0, none⟩) lx xs.length), (1, sv), (2, .slice (some ⟨b, 0, none⟩) lx xs.length)] (by simp) ?_
  intro X hR
  try simp only [apC, apN]
  refine G.seq (G.region (J.assign rfl rfl (J.nil (G.seq (G.region (J.move rfl rfl (J.lenS rfl rfl (J.assign rfl rfl ?_))))))))
  refine J.nil (G.seq (G.block (G.seq (G.region (J.move rfl rfl ?_)))))
  (first | refine J.eqN rfl rfl rfl ?_ | refine J.eqZ rfl rfl rfl ?_)
  refine J.assign rfl rfl (J.nil (G.cF rfl (G.seq (G.region (J.move rfl rfl ?_)))))
  (first | refine J.eqN rfl rfl rfl ?_ | refine J.eqZ rfl rfl rfl ?_)
  refine J.assign rfl rfl (J.nil ?_)
  by_cases h1 : lx = 1
  · subst h1
    have e1 : rv xs 0 1 = xs.getD 0 0 := by simp [rv]
    refine G.cT rfl (G.seq (G.region (J.move rfl rfl (J.ix rfl rfl rfl (J.lc rfl rfl rfl (J.assign rfl rfl (J.nil (G.prune [0, 1, 2, 6, 7, 8] rfl ?_))))))))
    refine G.seq (G.region (J.move rfl rfl ?_))
    by_cases hf : 2 ≤ xs.length
    · skip
      refine J.eff (E.callP (make_fit hf) [] [] rfl rfl rfl rfl rfl) rfl fun _ _ => ?_
      try simp only [apC, apN]
      refine J.assign rfl rfl (J.nil (G.seq (G.region (J.move rfl rfl (J.move rfl rfl (J.move rfl rfl (J.move rfl rfl (J.eff (E.callP (mulWW_spec (x := xs.getD (0 + 0) 0) (y := xs.getD (0 + 0) 0) (x3 _) (x3 _)) [] [] rfl rfl rfl rfl rfl) rfl fun _ _ => ?_))))))))
      try simp only [apC, apN]
      refine J.move rfl rfl (J.extractL rfl rfl rfl (J.extractL rfl rfl rfl (J.ix rfl rfl rfl (J.eff (E.sc rfl rfl) rfl (J.ix rfl rfl rfl (J.eff (E.sc rfl rfl) rfl (J.nil (G.prune [0, 1, 2, 6, 7] rfl ?_))))))))
      refine G.seq (G.region (J.move rfl rfl ?_))
      simp only [Nat.zero_add]
      refine J.eff (E.callP (norm_spec (o := 0) (len := 2) (xs := (xs.set 1 (xs.getD 0 0 * xs.getD 0 0 / 18446744073709551616)).set 0 (xs.getD 0 0 * xs.getD 0 0 % 18446744073709551616)) (by simp; omega) (by omega) (by omega)) [] [0] rfl rfl rfl rfl rfl) rfl fun _ _ => ?_
      try simp only [apC, apN]
      refine J.assign rfl rfl (J.nil (G.ret (hR _) ?_))
      exact GL.done (some ⟨b, nl ((xs.set 1 (xs.getD 0 0 * xs.getD 0 0 / 18446744073709551616)).set 0 (xs.getD 0 0 * xs.getD 0 0 % 18446744073709551616)) 0 2, (xs.set 1 (xs.getD 0 0 * xs.getD 0 0 / 18446744073709551616)).set 0 (xs.getD 0 0 * xs.getD 0 0 % 18446744073709551616)⟩) rfl rfl (by rw [e1]; exact Res.two (by omega) (by omega) x3 (x3 _)) (by simp only [zv, List.length_set]; rfl) [0] rfl (by decide) (by simp [zh])
    · skip
      have hc1 := mcap_ge 2
      have hc2 := mcap_le 2
      have hl2 : (List.replicate (mcap 2) 0).length = mcap 2 := List.length_replicate ..
      refine J.eff (E.callP (make_new (n := 2) (by omega) (by omega)) [] [] rfl rfl rfl rfl rfl) rfl fun g _ => ?_
      try simp only [apC, apN]
      refine J.assign rfl rfl (J.nil (G.seq (G.region (J.move rfl rfl (J.move rfl rfl (J.move rfl rfl (J.move rfl rfl (J.eff (E.callP (mulWW_spec (x := xs.getD (0 + 0) 0) (y := xs.getD (0 + 0) 0) (x3 _) (x3 _)) [] [] rfl rfl rfl rfl rfl) rfl fun _ _ => ?_))))))))
      try simp only [apC, apN]
      refine J.move rfl rfl (J.extractL rfl rfl rfl (J.extractL rfl rfl rfl (J.ix rfl rfl rfl (J.eff (E.sc rfl rfl) rfl (J.ix rfl rfl rfl (J.eff (E.sc rfl rfl) rfl (J.nil (G.prune [0, 1, 2, 6, 7] rfl ?_))))))))
      refine G.seq (G.region (J.move rfl rfl ?_))
      simp only [Nat.zero_add]
      refine J.eff (E.callP (norm_spec (o := 0) (len := 2) (xs := ((List.replicate (mcap 2) 0).set 1 (xs.getD 0 0 * xs.getD 0 0 / 18446744073709551616)).set 0 (xs.getD 0 0 * xs.getD 0 0 % 18446744073709551616)) (by simp; omega) (by omega) (by omega)) [] [0] rfl rfl rfl rfl rfl) rfl fun _ _ => ?_
      try simp only [apC, apN]
      refine J.assign rfl rfl (J.nil (G.ret (hR _) ?_))
      exact GL.done (some ⟨g, nl (((List.replicate (mcap 2) 0).set 1 (xs.getD 0 0 * xs.getD 0 0 / 18446744073709551616)).set 0 (xs.getD 0 0 * xs.getD 0 0 % 18446744073709551616)) 0 2, ((List.replicate (mcap 2) 0).set 1 (xs.getD 0 0 * xs.getD 0 0 / 18446744073709551616)).set 0 (xs.getD 0 0 * xs.getD 0 0 % 18446744073709551616)⟩) rfl rfl (by rw [e1]; exact Res.two (by omega) (by omega) (Wd.rep _) (x3 _)) (by simp only [zv, List.length_set, List.length_replicate]; rfl) [0] rfl (by decide) (by simp [zh])
  · have hc1 := mcap_ge (2 * lx)
    have hc2 := mcap_le (2 * lx)
    have hl2 : (List.replicate (mcap (2 * lx)) 0).length = mcap (2 * lx) := List.length_replicate ..
    refine G.cF rfl (G.skip (G.inBlock (G.seq (G.seq (G.region (J.move rfl rfl (J.move rfl rfl (J.eff (E.callP (alias_same (cs := cells .u64 xs) (by omega) (by omega)) [] [0] rfl rfl rfl rfl rfl) rfl fun _ _ => ?_))))))))
    try simp only [apC, apN]
    refine J.nil (G.cT rfl (G.region (J.assign rfl rfl (J.nil (G.seq (G.region (J.move rfl rfl (J.move rfl rfl ?_))))))))
    refine J.mulI rfl rfl rfl (by omega) (J.eff (E.callP (make_new (n := (2 * lx)) (by omega) (by omega)) [] [] rfl rfl rfl rfl rfl) rfl fun g _ => ?_)
    try simp only [apC, apN]
    refine J.assign rfl rfl (J.nil (G.prune [0, 1, 2, 6, 7] rfl (G.seq (G.seq (G.region (J.move rfl rfl (J.loadGi 2 rfl rfl rfl rfl ?_)))))))
    (first | refine J.ltN rfl rfl rfl ?_ | refine J.ltZ rfl rfl rfl ?_)
    refine J.move rfl rfl (J.wT rfl rfl (J.move rfl rfl (J.wT rfl rfl (J.loadGi 3 rfl rfl rfl rfl (J.wT rfl rfl ?_)))))
    (first | refine J.ltN rfl rfl rfl ?_ | refine J.ltZ rfl rfl rfl ?_)
    refine J.pT rfl rfl rfl (J.nil (G.prune [0, 1, 2, 6, 7, 50] rfl (G.cT rfl (G.seq (G.region (J.move rfl rfl (J.move rfl rfl (J.move rfl rfl ?_))))))))
    refine J.eff (E.callP (basicMulX_spec (xs0 := xs) (zs0 := List.replicate (mcap (2 * lx)) 0) (lx := lx) (Wd.rep _) x1 x3 (by omega) (by omega) (by omega) (by omega) (by omega)) [0] [0] rfl rfl rfl rfl rfl) rfl fun p hp => ?_
    try simp only [apC, apN]
    have hlen := hp.w.len
    refine J.nil (G.prune [0, 1, 2, 6, 7] rfl (G.seq (G.region (J.move rfl rfl (J.eff (E.callP (norm_spec (o := 0) (len := 2 * lx) (xs := p) (by omega) (by omega) (by omega)) [] [0] rfl rfl rfl rfl rfl) rfl fun _ _ => ?_)))))
    try simp only [apC, apN]
    refine J.assign rfl rfl (J.nil (G.ret (hR _) ?_))
    exact GL.done (some ⟨g, nl p 0 (2 * lx), p⟩) rfl rfl (Res.sqr hp (by omega) (by omega) (by omega)) (by simp only [zv, hlen, hl2]; rfl) [0] rfl (by decide) (by simp [zh])
theorem topW {b l n : Nat} {xs : List Nat} (h : Res (some ⟨b, l, xs⟩) n) (h0 : 0 < l) : xs.getD (l - 1) 0 ≠ 0 := by
  rcases h.nm with h1 | h1
  · have h2 : l = 0 := h1
    omega
  · exact h1
theorem SL.mn {b l : Nat} {xs zs : List Nat} {c : Nat} (h1 : l ≤ xs.length ∧ xs.length ≤ 9223372036854775807 ∧ Wd xs) (h0 : 0 < l) (hx : xs.getD (l - 1) 0 ≠ 0)
    (h : SL xs xs 0 0 (64 - blen (xs.getD (l - 1) 0)) l c zs) : MN ⟨b, l, zs⟩ := by
  have hl := h.w.len
  have hb : blen (xs.getD (l - 1) 0) ≤ 64 := blen_lt (n := 64) (h1.2.2 _)
  have hb0 : 0 < blen (xs.getD (l - 1) 0) := by unfold blen; rw [if_neg hx]; omega
  have hg := blen_ge hx
  have hlt := blen_le (x := xs.getD (l - 1) 0)
  have e := h.e (l - 1) (by omega)
  simp only [Nat.zero_add, shlW] at e
  generalize xs.getD (l - 1) 0 = x at *
  have h63 : 9223372036854775808 ≤ x * 2 ^ (64 - blen x) := by
    have h2 := Nat.mul_le_mul_right (2 ^ (64 - blen x)) hg
    rw [← Nat.pow_add, show blen x - 1 + (64 - blen x) = 63 by omega] at h2
    exact h2
  have h64 : x * 2 ^ (64 - blen x) < 18446744073709551616 := by
    have h2 := Nat.mul_lt_mul_of_pos_right hlt (Nat.pow_pos (n := 64 - blen x) (show 0 < 2 by decide))
    rw [← Nat.pow_add, show blen x + (64 - blen x) = 64 by omega] at h2
    exact h2
  rw [Nat.mod_eq_of_lt h64] at e
  refine ⟨⟨by simp only; omega, by simp only; omega, h.w.wd⟩, h0, ?_⟩
  simp only
  obtain ⟨m, rfl⟩ : ∃ m, l = m + 1 := ⟨l - 1, by omega⟩
  simp only [Nat.add_sub_cancel, rv_succ, Nat.zero_add] at e ⊢
  have h5 := Nat.mul_le_mul_right (18446744073709551616 ^ m) (show 9223372036854775808 ≤ zs.getD m 0 by omega)
  omega
theorem MN.ofTop {b l : Nat} {xs : List Nat} (h1 : l ≤ xs.length ∧ xs.length ≤ 9223372036854775807 ∧ Wd xs) (h0 : 0 < l) (h : 9223372036854775808 ≤ xs.getD (l - 1) 0) : MN ⟨b, l, xs⟩ := by
  refine ⟨h1, h0, ?_⟩
  obtain ⟨m, rfl⟩ : ∃ m, l = m + 1 := ⟨l - 1, by omega⟩
  simp only [Nat.add_sub_cancel, rv_succ, Nat.zero_add] at h ⊢
  have h5 := Nat.mul_le_mul_right (18446744073709551616 ^ m) h
  omega
theorem fnorm_spec {b l n : Nat} {xs : List Nat} (hx : Res (some ⟨b, l, xs⟩) n) (h0 : 0 < l) (h9 : l ≤ 1000) :
    Spec (cx V) 194 #[.slice (some ⟨b, 0, none⟩) l xs.length] [⟨b, 162, cells .u64 xs, true⟩] [] (fun p : Nat × List Nat => .int .i64 (p.1 : Nat)) (fun p => [⟨b, 162, cells .u64 p.2, true⟩])
      (fun p => p.1 = 64 - blen (xs.getD (l - 1) 0) ∧ MN ⟨b, l, p.2⟩ ∧ p.2.length = xs.length) := by
  have ht := topW hx h0
  obtain ⟨x1, x2, x3⟩ := hx.ok
  simp only at x1 x2 x3
  have hxw := x3 (l - 1)
  refine Spec.enter Tryz.func194 rfl Tryz.ntmps194 (by simp) [(0, .slice (some ⟨b, 0, none⟩) l xs.length)] (by simp) ?_
  intro X hR
  try simp only [apC, apN]
  refine G.seq (G.region (J.assign rfl rfl (J.nil (G.seq (G.seq (G.region (J.move rfl rfl (J.sk rfl rfl rfl rfl ?_))))))))
  refine J.sk rfl rfl rfl rfl (J.sk rfl rfl rfl rfl (J.sk rfl rfl rfl rfl (J.skipU rfl rfl rfl rfl (J.skipU rfl rfl rfl rfl (J.skipU rfl rfl rfl rfl (J.skipU rfl rfl rfl rfl (J.skipU rfl rfl rfl rfl (J.skipU rfl rfl rfl rfl ?_))))))))
  refine J.skipU rfl rfl rfl rfl (J.sk rfl rfl rfl rfl (J.pF rfl rfl rfl (J.nil (G.prune [0, 2, 18] rfl (G.cF rfl (G.skip (G.seq (G.region ?_))))))))
  refine J.move rfl rfl (J.move rfl rfl (J.lenS rfl rfl ?_))
  (first | refine J.subI rfl rfl rfl (by omega) (by omega) ?_ | refine J.subZ rfl rfl rfl (by omega) (by omega) ?_)
  refine J.ix rfl rfl rfl (J.lc rfl rfl rfl ?_)
  simp only [Nat.zero_add]
  refine J.eff (E.callP (nlz_spec hxw) [] [] rfl rfl rfl rfl rfl) rfl fun _ _ => ?_
  try simp only [apC, apN]
  refine J.assign rfl rfl (J.nil (G.prune [0, 2, 3] rfl (G.seq (G.seq (G.region (J.move rfl rfl ?_))))))
  (first | refine J.gtN rfl rfl rfl ?_ | refine J.gtZ rfl rfl rfl ?_)
  refine J.nil ?_
  have hb0 : 0 < blen (xs.getD (l - 1) 0) := by unfold blen; rw [if_neg ht]; omega
  refine G.condP rfl (fun hc => ?_) (fun hc => ?_)
  · refine G.seq ?_
    refine G.region (J.move rfl rfl (J.move rfl rfl (J.move rfl rfl (J.eff (E.callP (lshVUS_spec (V := V) (oz := 0) (n := l) (ox := 0) (zs0 := xs) (by omega) x3 (by omega) (.inl (Nat.le_refl 0)) (by omega) (by omega)) [0] [] rfl rfl rfl rfl rfl) rfl fun p hp => ?_))))
    try simp only [apC, apN]
    obtain ⟨c, zs⟩ := p
    simp only at hp ⊢
    refine J.assign rfl rfl (J.nil (G.prune [2, 3, 4] rfl (G.seq (G.region (J.move rfl rfl (J.sk rfl rfl rfl rfl (J.sk rfl rfl rfl rfl (J.pF rfl rfl rfl ?_))))))))
    refine J.nil (G.prune [2, 3, 36] rfl (G.cF rfl (G.skip (G.seq (G.region (J.move rfl rfl (J.convN rfl rfl (by show _ < _; omega) (J.assign rfl rfl ?_))))))))
    refine J.nil (G.ret (hR _) ?_)
    exact GL.done ((64 - blen (xs.getD (l - 1) 0), zs)) rfl rfl (⟨rfl, SL.mn ⟨x1, x2, x3⟩ h0 ht hp, hp.w.len⟩) rfl [0] rfl (by decide) (by simp [zh])
  · refine G.skip ?_
    refine G.seq (G.region (J.move rfl rfl (J.convN rfl rfl (by show _ < _; omega) (J.assign rfl rfl (J.nil (G.ret (hR _) ?_))))))
    have hg := blen_ge ht
    have hb : blen (xs.getD (l - 1) 0) = 64 := by have := blen_lt (n := 64) hxw; omega
    rw [hb] at hg
    exact GL.done ((64 - blen (xs.getD (l - 1) 0), xs)) rfl rfl (⟨rfl, MN.ofTop ⟨x1, x2, x3⟩ h0 hg, rfl⟩) rfl [0] rfl (by decide) (by simp [zh])
theorem setExp_spec {fb np : Nat} {t : FV} {ex : Int} {sb : Nat} (hm : MN t.m) (hl : t.m.len ≤ 100) (hp : 2 ≤ np) (hp2 : np ≤ 100) (he : -100000 ≤ ex) (he2 : ex ≤ 100000) (hsb : sb < 18446744073709551616) :
    Spec (cx V) 261 #[.pointer (some ⟨fb, 0, none⟩), .int .i64 ex, .int .u64 sb] (fh fb (64 * np) t) [] (fun _ : FV => .tuple #[]) (fh fb (64 * np)) (fun q => MN q.m ∧ q.m.len ≤ np ∧ ex ≤ q.e ∧ q.e ≤ ex + 1) := by
  obtain ⟨a0, e, ⟨mb, l, xs⟩⟩ := t
  simp only [fh, fc] at *
  refine Spec.enter Tryz.func261 rfl Tryz.ntmps261 (by simp) [(0, .pointer (some ⟨fb, 0, none⟩)), (1, .int .i64 ex), (2, .int .u64 sb)] (by simp) ?_
  intro X hR
  try simp only [apC, apN]
  refine G.seq (G.seq (G.region (J.move rfl rfl ?_)))
  (first | refine J.ltN rfl rfl rfl ?_ | refine J.ltZ rfl rfl rfl ?_)
  refine J.nil (G.cF rfl (G.skip (G.seq (G.seq (G.region (J.move rfl rfl ?_))))))
  (first | refine J.gtN rfl rfl rfl ?_ | refine J.gtZ rfl rfl rfl ?_)
  refine J.nil (G.cF rfl (G.skip (G.seq (G.region (J.move rfl rfl (J.nc rfl rfl rfl (J.fieldAddr rfl rfl (J.eff (E.si rfl rfl rfl rfl) rfl ?_))))))))
  refine J.nil (G.prune [0, 1, 2] rfl (G.seq (G.region (J.move rfl rfl (J.move rfl rfl (J.conv32 rfl rfl (by omega) (by omega) (J.nc rfl rfl rfl (J.fieldAddr rfl rfl ?_))))))))
  refine J.eff (E.si rfl rfl rfl rfl) rfl (J.nil (G.prune [0, 2] rfl (G.region (J.move rfl rfl (J.move rfl rfl ?_)))))
  refine J.eff (E.callP (round_spec (fb := fb) (np := np) (t := ⟨a0, ex, ⟨mb, l, xs⟩⟩) hm hl hp hp2 he he2 hsb) [0, 0] [] rfl rfl rfl rfl rfl) rfl fun q hq => ?_
  try simp only [apC, apN]
  refine J.nil (G.fall (hR _) ?_)
  exact GL.done (q : FV) rfl rfl hq rfl [0, 1] rfl (by decide) (by simp [fh])
end
section
set_option maxRecDepth 100000
set_option pp.deepTerms false
variable {V : Addr}
theorem setUint64_spec {x : Nat} (hx : x < 18446744073709551616) (h0 : x ≠ 0) :
    Spec (cx V) 84 #[.slice none 0 0, .int .u64 x] [] [] (fun q : RS => zv (some q)) (fun q => zh true (some q)) (fun q => Res (some q) x ∧ q.len = 1) := by
  refine Spec.enter Tryz.func84 rfl Tryz.ntmps84 (by simp) [(0, .slice none 0 0), (1, .int .u64 x)] (by simp) ?_
  intro X hR
  try simp only [apC, apN]
  refine G.seq (G.region (J.assign rfl rfl (J.nil (G.seq (G.seq (G.region (J.move rfl rfl (J.assign rfl rfl ?_))))))))
  refine J.nil (G.seq (G.region (J.move rfl rfl (J.move rfl rfl ?_))))
  (first | refine J.eqN rfl rfl rfl ?_ | refine J.eqZ rfl rfl rfl ?_)
  refine J.nil (G.cT rfl (G.seq (G.region (J.move rfl rfl (J.move rfl rfl (J.eff (E.callP (setWord_spec (z := none) trivial hx) [] [] rfl rfl rfl rfl rfl) rfl fun q hq => ?_))))))
  try simp only [apC, apN]
  obtain ⟨⟨bq, lq, xq⟩, rfl, hq0⟩ := Res.some hq h0
  simp only [zh, zv, List.cons_append, List.nil_append]
  refine J.assign rfl rfl (J.nil (G.prune [0, 1, 4] rfl (G.ret (hR _) ?_)))
  exact GL.done ⟨bq, lq, xq⟩ rfl rfl ⟨hq, resOneOf hq h0 hx⟩ rfl [0] rfl (by decide) (by simp [zh])
def fn0 (fb pr : Nat) : Hp := [⟨fb, 166, [.int .u32 (pr : Int), .int .u8 0, .int .i8 0, .int .u8 0, .bool false, .slice none 0 0, .int .i32 0], true⟩]
theorem setBits64_spec {fb np x : Nat} (hx : x < 18446744073709551616) (h0 : x ≠ 0) (hp : 2 ≤ np) (hp2 : np ≤ 100) :
    Spec (cx V) 262 #[.pointer (some ⟨fb, 0, none⟩), .bool false, .int .u64 x] (fn0 fb (64 * np)) [] (fun _ : FV => .pointer (some ⟨fb, 0, none⟩)) (fh fb (64 * np)) (fun q => MN q.m ∧ q.m.len = 1 ∧ q.e = ((64 - (64 - blen x) : Nat) : Int)) := by
  have hb0 : 0 < blen x := by unfold blen; rw [if_neg h0]; omega
  have hb := blen_lt (n := 64) hx
  have hg := blen_ge h0
  have hlt := blen_le (x := x)
  have h63 : 9223372036854775808 ≤ x * 2 ^ (64 - blen x) := by
    have h2 := Nat.mul_le_mul_right (2 ^ (64 - blen x)) hg
    rw [← Nat.pow_add, show blen x - 1 + (64 - blen x) = 63 by omega] at h2
    exact h2
  have h64 : x * 2 ^ (64 - blen x) < 18446744073709551616 := by
    have h2 := Nat.mul_lt_mul_of_pos_right hlt (Nat.pow_pos (n := 64 - blen x) (show 0 < 2 by decide))
    rw [← Nat.pow_add, show blen x + (64 - blen x) = 64 by omega] at h2
    exact h2
  simp only [fn0]
  refine Spec.enter Tryz.func262 rfl Tryz.ntmps262 (by simp) [(0, .pointer (some ⟨fb, 0, none⟩)), (1, .bool false), (2, .int .u64 x)] (by simp) ?_
  intro X hR
  try simp only [apC, apN]
  refine G.seq (G.region (J.assign rfl rfl (J.nil (G.seq (G.seq (G.region (J.move rfl rfl (J.nc rfl rfl rfl ?_))))))))
  refine J.fieldAddr rfl rfl (J.loadI rfl rfl rfl rfl ?_)
  (first | refine J.eqN rfl rfl rfl ?_ | refine J.eqZ rfl rfl rfl ?_)
  refine J.nil (G.prune [0, 1, 2, 6, 12] rfl (G.cF rfl (G.skip (G.seq (G.region (J.move rfl rfl (J.nc rfl rfl rfl (J.fieldAddr rfl rfl ?_))))))))
  refine J.eff (E.si rfl rfl rfl rfl) rfl (J.nil (G.prune [0, 1, 2, 6] rfl (G.seq (G.region (J.move rfl rfl (J.move rfl rfl (J.nc rfl rfl rfl (J.fieldAddr rfl rfl ?_))))))))
  refine J.eff (E.si rfl rfl rfl rfl) rfl (J.nil (G.prune [0, 2, 6] rfl (G.seq (G.seq (G.region (J.move rfl rfl ?_))))))
  (first | refine J.eqN rfl rfl rfl ?_ | refine J.eqZ rfl rfl rfl ?_)
  refine J.nil (G.cF rfl (G.skip (G.seq (G.region (J.move rfl rfl (J.nc rfl rfl rfl (J.fieldAddr rfl rfl (J.eff (E.si rfl rfl rfl rfl) rfl ?_))))))))
  refine J.nil (G.prune [0, 2, 6] rfl (G.seq (G.region (J.move rfl rfl (J.eff (E.callP (lz64_spec hx) [] [] rfl rfl rfl rfl rfl) rfl fun _ _ => ?_)))))
  try simp only [apC, apN]
  refine J.assign rfl rfl (J.nil (G.seq (G.region (J.move rfl rfl (J.move rfl rfl (J.nc rfl rfl rfl (J.fieldAddr rfl rfl (J.loadI rfl rfl rfl rfl ?_))))))))
  refine J.move rfl rfl (J.move rfl rfl (J.convN rfl rfl (by show _ < _; omega) (J.shlU rfl rfl rfl ?_)))
  rw [Nat.mod_eq_of_lt h64]
  refine J.eff (E.callP (setUint64_spec h64 (by omega)) [] [] rfl rfl rfl rfl rfl) rfl fun q hq => ?_
  try simp only [apC, apN]
  obtain ⟨bq, lq, xq⟩ := q
  obtain ⟨hq, hq1⟩ := hq
  simp only at hq1
  subst hq1
  obtain ⟨r1, r2, r3⟩ := resOne hq rfl
  simp only [zh, zv, List.cons_append, List.nil_append]
  refine J.nc rfl rfl rfl (J.fieldAddr rfl rfl (J.eff (E.si rfl rfl rfl rfl) rfl (J.nil (G.prune [0, 6, 7] rfl (G.seq (G.region (J.move rfl rfl (J.move rfl rfl ?_))))))))
  (first | refine J.subI rfl rfl rfl (by omega) (by omega) ?_ | refine J.subZ rfl rfl rfl (by omega) (by omega) ?_)
  refine J.convN rfl rfl (by show _ < _; omega) (J.nc rfl rfl rfl (J.fieldAddr rfl rfl (J.eff (E.si rfl rfl rfl rfl) rfl (J.nil (G.prune [0, 6] rfl (G.seq (G.seq (G.region ?_))))))))
  refine J.move rfl rfl (J.nc rfl rfl rfl (J.fieldAddr rfl rfl (J.loadI rfl rfl rfl rfl ?_)))
  (first | refine J.ltN rfl rfl rfl ?_ | refine J.ltZ rfl rfl rfl ?_)
  refine J.nil (G.prune [0, 6, 56] rfl (G.cF rfl (G.skip (G.seq (G.region (J.move rfl rfl (J.assign rfl rfl (J.nil ?_))))))))
  refine G.ret (hR _) ?_
  exact GL.done (⟨0, ((64 - (64 - blen x) : Nat) : Int), ⟨bq, 1, xq⟩⟩ : FV) rfl rfl ⟨MN.ofTop hq.ok (by decide) (by rw [r1]; exact h63), rfl, rfl⟩ rfl [1, 0] rfl (by decide) (by simp [fh])
theorem setU64_spec {fb np x : Nat} (hx : x < 18446744073709551616) (h0 : x ≠ 0) (hp : 2 ≤ np) (hp2 : np ≤ 100) :
    Spec (cx V) 236 #[.pointer (some ⟨fb, 0, none⟩), .int .u64 x] (fn0 fb (64 * np)) [] (fun _ : FV => .pointer (some ⟨fb, 0, none⟩)) (fh fb (64 * np)) (fun q => MN q.m ∧ q.m.len = 1 ∧ q.e = ((64 - (64 - blen x) : Nat) : Int)) := by
  refine Spec.enter Tryz.func236 rfl Tryz.ntmps236 (by simp) [(0, .pointer (some ⟨fb, 0, none⟩)), (1, .int .u64 x)] (by simp) ?_
  intro X hR
  try simp only [apC, apN]
  refine G.seq (G.region (J.assign rfl rfl (J.nil (G.seq (G.region (J.move rfl rfl (J.move rfl rfl (J.eff (E.callP (setBits64_spec (fb := fb) hx h0 hp hp2) [0] [] rfl rfl rfl rfl rfl) rfl fun q hq => ?_))))))))
  try simp only [apC, apN]
  refine J.assign rfl rfl (J.nil (G.prune [4] rfl (G.ret (hR _) ?_)))
  exact GL.done (q : FV) rfl rfl hq rfl [0, 1] rfl (by decide) (by simp [fh])
theorem prec_spec {fb pr : Nat} {cs : List Value} (h : cs[0]? = some (.int .u32 (pr : Int))) (hp : pr < 4294967296) :
    Spec (cx V) 195 #[.pointer (some ⟨fb, 0, none⟩)] [] [⟨fb, 166, cs, false⟩] (fun _ : Unit => .int .u64 (pr : Int)) (fun _ => []) (fun _ => True) := by
  refine Spec.enter Tryz.func195 rfl Tryz.ntmps195 (by simp) [(0, .pointer (some ⟨fb, 0, none⟩))] (by simp) ?_
  intro X hR
  try simp only [apC, apN]
  refine G.seq (G.region (J.assign rfl rfl (J.nil (G.seq (G.region (J.move rfl rfl (J.nc rfl rfl rfl (J.fieldAddr rfl rfl ?_))))))))
  refine J.loadI rfl rfl rfl h (J.convN rfl rfl (by show _ < _; omega) (J.assign rfl rfl (J.nil (G.prune [2] rfl (G.ret (hR _) ?_)))))
  exact GL.done (()) rfl rfl (trivial) rfl [] rfl (by decide) (by simp [zh])
theorem setPrec_spec {fb pr : Nat} (h0 : pr ≠ 0) (hp : pr < 4294967296) :
    Spec (cx V) 97 #[.pointer (some ⟨fb, 0, none⟩), .int .u64 (pr : Int)] (fn0 fb 0) [] (fun _ : Unit => .pointer (some ⟨fb, 0, none⟩)) (fun _ => fn0 fb pr) (fun _ => True) := by
  simp only [fn0]
  refine Spec.enter Tryz.func97 rfl Tryz.ntmps97 (by simp) [(0, .pointer (some ⟨fb, 0, none⟩)), (1, .int .u64 (pr : Int))] (by simp) ?_
  intro X hR
  try simp only [apC, apN]
  refine G.seq (G.region (J.assign rfl rfl (J.nil (G.seq (G.region (J.move rfl rfl (J.nc rfl rfl rfl (J.fieldAddr rfl rfl ?_))))))))
  refine J.eff (E.si rfl rfl rfl rfl) rfl (J.nil (G.prune [0, 1, 4] rfl (G.seq (G.seq (G.region (J.move rfl rfl ?_))))))
  (first | refine J.eqN rfl rfl rfl ?_ | refine J.eqZ rfl rfl rfl ?_)
  refine J.nil (G.cF rfl (G.skip (G.seq (G.seq (G.region (J.move rfl rfl ?_))))))
  (first | refine J.gtN rfl rfl rfl ?_ | refine J.gtZ rfl rfl rfl ?_)
  refine J.nil (G.cF rfl (G.skip (G.seq (G.region (J.move rfl rfl (J.nc rfl rfl rfl (J.fieldAddr rfl rfl (J.loadI rfl rfl rfl rfl ?_))))))))
  refine J.assign rfl rfl (J.nil (G.prune [0, 1, 4, 5] rfl (G.seq (G.region (J.move rfl rfl (J.move rfl rfl (J.convN rfl rfl (by show _ < _; omega) (J.nc rfl rfl rfl ?_))))))))
  refine J.fieldAddr rfl rfl (J.eff (E.si rfl rfl rfl rfl) rfl (J.nil (G.prune [0, 4, 5] rfl (G.seq (G.seq (G.region (J.move rfl rfl (J.nc rfl rfl rfl ?_))))))))
  refine J.fieldAddr rfl rfl (J.loadI rfl rfl rfl rfl (J.move rfl rfl ?_))
  (first | refine J.ltN rfl rfl rfl ?_ | refine J.ltZ rfl rfl rfl ?_)
  refine J.nil (G.prune [0, 4, 47] rfl (G.cF rfl (G.skip (G.seq (G.region (J.move rfl rfl (J.assign rfl rfl (J.nil ?_))))))))
  refine G.ret (hR _) ?_
  exact GL.done (()) rfl rfl (trivial) rfl [0] rfl (by decide) (by simp [zh])
end
section
set_option maxRecDepth 100000
set_option pp.deepTerms false
variable {V : Addr}
theorem MN.zok {m : RS} (h : MN m) : zok (some m) := h.ok
theorem mulTop {a b : RS} {bq lq : Nat} {xq : List Nat} (h : MN a) (h' : MN b) (hq : Res (some ⟨bq, lq, xq⟩) (zn (some a) * zn (some b))) :
    0 < lq ∧ 64 - blen (xq.getD (lq - 1) 0) ≤ 1 ∧ lq ≤ a.len + b.len := by
  obtain ⟨ba, la, xa⟩ := a
  obtain ⟨bb, lb, xb⟩ := b
  obtain ⟨p1, p2, p3⟩ := h.ok
  obtain ⟨q1, q2, q3⟩ := h'.ok
  have t1 := h.top
  have t2 := h'.top
  have l1 := h.l0
  have l2 := h'.l0
  simp only [zn] at *
  have u1 := rv_lt p3 0 la
  have u2 := rv_lt q3 0 lb
  have hu : rv xa 0 la * rv xb 0 lb < 18446744073709551616 ^ (la + lb) := by rw [Nat.pow_add]; exact Nat.mul_lt_mul'' u1 u2
  have hlen := hq.len_le hu
  simp only [zlen] at hlen
  obtain ⟨m, rfl⟩ : ∃ m, la = m + 1 := ⟨la - 1, by omega⟩
  obtain ⟨n, rfl⟩ : ∃ n, lb = n + 1 := ⟨lb - 1, by omega⟩
  simp only [Nat.add_sub_cancel] at t1 t2
  have hlo := Nat.mul_le_mul t1 t2
  rw [show 9223372036854775808 * 18446744073709551616 ^ m * (9223372036854775808 * 18446744073709551616 ^ n) = 4611686018427387904 * 18446744073709551616 ^ (m + n + 1) by
    rw [Nat.pow_succ, Nat.pow_add, Nat.mul_mul_mul_comm, Nat.mul_comm (18446744073709551616 ^ m * _) 18446744073709551616, ← Nat.mul_assoc 4611686018427387904]] at hlo
  rw [← hq.n] at hlo
  simp only [zn] at hlo
  obtain ⟨r1, r2, r3⟩ := hq.ok
  simp only at r1 r2 r3
  have h0 : 0 < lq := by
    rcases Nat.eq_zero_or_pos lq with e | e
    · subst e
      have : 0 < 18446744073709551616 ^ (m + n + 1) := Nat.pow_pos (by decide)
      simp only [rv] at hlo
      omega
    · exact e
  obtain ⟨k, rfl⟩ : ∃ k, lq = k + 1 := ⟨lq - 1, by omega⟩
  have hk : k = m + n + 1 := by
    rcases Nat.lt_or_ge k (m + n + 1) with e | e
    · exfalso
      have e1 := rv_lt r3 0 (k + 1)
      have e2 : 18446744073709551616 ^ (k + 1) ≤ 18446744073709551616 ^ (m + n + 1) := Nat.pow_le_pow_right (by decide) (by omega)
      omega
    · omega
  subst hk
  refine ⟨by omega, ?_, by omega⟩
  simp only [Nat.add_sub_cancel]
  rw [rv_succ, Nat.zero_add] at hlo
  have e1 := rv_lt r3 0 (m + n + 1)
  have hx : 4611686018427387904 ≤ xq.getD (m + n + 1) 0 := by
    rcases Nat.lt_or_ge (xq.getD (m + n + 1) 0) 4611686018427387904 with e | e
    · exfalso
      have := Nat.mul_le_mul_right (18446744073709551616 ^ (m + n + 1)) (Nat.succ_le_of_lt e)
      rw [Nat.succ_mul] at this
      omega
    · exact e
  have hb := blen_le (x := xq.getD (m + n + 1) 0)
  rcases Nat.lt_or_ge (blen (xq.getD (m + n + 1) 0)) 63 with e | e
  · exfalso
    have : 2 ^ blen (xq.getD (m + n + 1) 0) ≤ 2 ^ 62 := Nat.pow_le_pow_right (by decide) (by omega)
    have e62 : 2 ^ 62 = 4611686018427387904 := by decide
    omega
  · omega
theorem umul_spec {zb fb nz nf : Nat} {t u : FV} (ht : MN t.m) (hu : MN u.m) (hl : t.m.len ≤ 20) (hl2 : u.m.len ≤ 20) (hp : 2 ≤ nz) (hp2 : nz ≤ 100) (he : -10000 ≤ t.e ∧ t.e ≤ 10000) (he2 : -10000 ≤ u.e ∧ u.e ≤ 10000) :
    Spec (cx V) 237 #[.pointer (some ⟨zb, 0, none⟩), .pointer (some ⟨zb, 0, none⟩), .pointer (some ⟨fb, 0, none⟩)] (fh zb (64 * nz) t) [⟨fb, 166, fc (64 * nf) u, false⟩, ⟨u.m.b, 162, cells .u64 u.m.xs, false⟩] (fun _ : FV => .tuple #[]) (fh zb (64 * nz))
      (fun q => MN q.m ∧ q.m.len ≤ nz ∧ t.e + u.e - 1 ≤ q.e ∧ q.e ≤ t.e + u.e + 1) := by
  obtain ⟨a0, e, ⟨mb, l, xs⟩⟩ := t
  obtain ⟨a1, e1, ⟨mb1, l1, ys⟩⟩ := u
  simp only [fh, fc] at *
  refine Spec.enter Tryz.func237 rfl Tryz.ntmps237 (by simp) [(0, .pointer (some ⟨zb, 0, none⟩)), (1, .pointer (some ⟨zb, 0, none⟩)), (2, .pointer (some ⟨fb, 0, none⟩))] (by simp) ?_
  intro X hR
  try simp only [apC, apN]
  refine G.sep 0 2 rfl rfl (by decide) (.inl rfl) fun hne => ?_
  simp only at hne
  refine G.seq (G.regionS [0, 1, 2, 3, 4, 5, 6, 7, 8, 9, 10, 11] none none [⟨zb, 166, [.int .u32 ((64 * nz : Nat) : Int), .int .u8 0, .int .i8 a0, .int .u8 1, .bool false, .slice (some ⟨mb, 0, none⟩) l xs.length, .int .i32 e], true⟩, ⟨fb, 166, [.int .u32 ((64 * nf : Nat) : Int), .int .u8 0, .int .i8 a1, .int .u8 1, .bool false, .slice (some ⟨mb1, 0, none⟩) l1 ys.length, .int .i32 e1], false⟩] (by kernel_rfl) (SubH.of [0, 2] rfl) rfl (J.move rfl rfl (J.nc rfl rfl rfl (J.fieldAddr rfl rfl (J.ld rfl rfl rfl rfl rfl (J.conv64 rfl rfl (by omega) (by omega) (J.move rfl rfl (J.nc rfl rfl rfl ?_))))))))
  refine J.fieldAddr rfl rfl (J.ld rfl rfl rfl rfl rfl (J.conv64 rfl rfl (by omega) (by omega) ?_))
  (first | refine J.addI rfl rfl rfl (by omega) ?_ | refine J.addZ rfl rfl rfl (by omega) (by omega) ?_)
  refine J.assign rfl rfl (J.nil (G.prune [0, 1, 2, 6] rfl (G.seq (G.seq (G.region (J.move rfl rfl (J.move rfl rfl (J.ptrOther rfl rfl rfl hne (by first | exact Mem.h | exact M1 | exact M2 | exact M3 | exact M4 | exact M5 | exact M6 | exact M7 | exact M8 | exact M9) (by first | exact Mem.h | exact M1 | exact M2 | exact M3 | exact M4 | exact M5 | exact M6 | exact M7 | exact M8 | exact M9) ?_))))))))
  refine J.nil (G.cF rfl (G.regionS [0, 1, 2, 3, 4, 5, 6, 7, 8, 9, 10, 11, 12, 13, 14, 15, 16] (some 16) (some 0) [⟨zb, 166, [.int .u32 ((64 * nz : Nat) : Int), .int .u8 0, .int .i8 a0, .int .u8 1, .bool false, .slice (some ⟨mb, 0, none⟩) l xs.length, .int .i32 e], true⟩, ⟨fb, 166, [.int .u32 ((64 * nf : Nat) : Int), .int .u8 0, .int .i8 a1, .int .u8 1, .bool false, .slice (some ⟨mb1, 0, none⟩) l1 ys.length, .int .i32 e1], false⟩] (by kernel_rfl) (SubH.of [0, 2] rfl) rfl (J.move rfl rfl (J.move rfl rfl (J.nc rfl rfl rfl (J.fieldAddr rfl rfl (J.ld rfl rfl rfl rfl rfl (J.move rfl rfl ?_))))))))
  refine J.nc rfl rfl rfl (J.fieldAddr rfl rfl (J.ld rfl rfl rfl rfl rfl (J.move rfl rfl (J.nc rfl rfl rfl (J.fieldAddr rfl rfl (J.ld rfl rfl rfl rfl rfl ?_))))))
  refine J.effH (E.callP (natMul_same (sv := .pointer none) (x := ⟨mb, l, xs⟩) (y := ⟨mb1, l1, ys⟩) ht.zok hu.zok ht.l0 hu.l0 (by simp only; omega) (by simp only; omega)) [1] [2] rfl rfl rfl rfl rfl) rfl rfl fun q hq => ⟨fun _ => SubH.app (SubH.of [0, 1] rfl), ?_⟩
  try simp only [apC, apN]
  have hv0 : zn (some ⟨mb, l, xs⟩) * zn (some ⟨mb1, l1, ys⟩) ≠ 0 := Nat.ne_of_gt (Nat.mul_pos (Nat.lt_of_lt_of_le (Nat.mul_pos (by decide) (Nat.pow_pos (by decide))) ht.top) (Nat.lt_of_lt_of_le (Nat.mul_pos (by decide) (Nat.pow_pos (by decide))) hu.top))
  obtain ⟨⟨bq, lq, xq⟩, rfl, hq0⟩ := Res.some hq hv0
  obtain ⟨k1, k2, k3⟩ := mulTop ht hu hq
  simp only at k3
  simp only [zh, zv, List.cons_append, List.nil_append]
  refine J.nc rfl rfl rfl (J.fieldAddr rfl rfl ?_)
  refine J.effH (E.si rfl rfl rfl rfl) rfl rfl ⟨fun h => Bool.noConfusion h, ?_⟩
  refine J.nil (G.prune [0, 6] rfl (G.region (J.move rfl rfl (J.move rfl rfl (J.move rfl rfl (J.nc rfl rfl rfl (J.fieldAddr rfl rfl (J.loadI rfl rfl rfl rfl ?_))))))))
  refine J.eff (E.callP (fnorm_spec hq k1 (by omega)) [0] [] rfl rfl rfl rfl rfl) rfl fun p hp3 => ?_
  try simp only [apC, apN]
  obtain ⟨s, zs⟩ := p
  obtain ⟨hs, hmn, hlen⟩ := hp3
  simp only at hs hmn hlen ⊢
  rw [← hs] at k2
  rw [← hlen]
  (first | refine J.subI rfl rfl rfl (by omega) (by omega) ?_ | refine J.subZ rfl rfl rfl (by omega) (by omega) ?_)
  refine J.eff (E.callP (setExp_spec (fb := zb) (np := nz) (t := ⟨a0, e, ⟨bq, lq, zs⟩⟩) hmn (by simp only; omega) hp hp2 (by omega) (by omega) (by decide)) [1, 0] [] rfl rfl rfl rfl rfl) rfl fun q hq => ?_
  try simp only [apC, apN]
  refine J.nil (G.prune [] rfl (G.fall (hR _) ?_))
  exact GL.done (q : FV) rfl rfl ⟨hq.1, hq.2.1, by have := hq.2.2; omega, by have := hq.2.2; omega⟩ rfl [0, 1] rfl (by decide) (by simp [fh])
theorem umulS_spec {zb nz : Nat} {t : FV} (ht : MN t.m) (hl : t.m.len ≤ 11) (hp : 2 ≤ nz) (hp2 : nz ≤ 100) (he : -10000 ≤ t.e ∧ t.e ≤ 10000) :
    Spec (cx V) 237 #[.pointer (some ⟨zb, 0, none⟩), .pointer (some ⟨zb, 0, none⟩), .pointer (some ⟨zb, 0, none⟩)] (fh zb (64 * nz) t) [] (fun _ : FV => .tuple #[]) (fh zb (64 * nz))
      (fun q => MN q.m ∧ q.m.len ≤ nz ∧ t.e + t.e - 1 ≤ q.e ∧ q.e ≤ t.e + t.e + 1) := by
  obtain ⟨a0, e, ⟨mb, l, xs⟩⟩ := t
  simp only [fh, fc] at *
  refine Spec.enter Tryz.func237 rfl Tryz.ntmps237 (by simp) [(0, .pointer (some ⟨zb, 0, none⟩)), (1, .pointer (some ⟨zb, 0, none⟩)), (2, .pointer (some ⟨zb, 0, none⟩))] (by simp) ?_
  intro X hR
  try simp only [apC, apN]
  refine G.seq (G.regionS [0, 1, 2, 3, 4, 5, 6, 7, 8, 9, 10, 11] none none [⟨zb, 166, [.int .u32 ((64 * nz : Nat) : Int), .int .u8 0, .int .i8 a0, .int .u8 1, .bool false, .slice (some ⟨mb, 0, none⟩) l xs.length, .int .i32 e], true⟩] (by kernel_rfl) (SubH.of [0] rfl) rfl (J.move rfl rfl (J.nc rfl rfl rfl (J.fieldAddr rfl rfl (J.ld rfl rfl rfl rfl rfl (J.conv64 rfl rfl (by omega) (by omega) (J.move rfl rfl (J.nc rfl rfl rfl ?_))))))))
  refine J.fieldAddr rfl rfl (J.ld rfl rfl rfl rfl rfl (J.conv64 rfl rfl (by omega) (by omega) ?_))
  (first | refine J.addI rfl rfl rfl (by omega) ?_ | refine J.addZ rfl rfl rfl (by omega) (by omega) ?_)
  refine J.assign rfl rfl (J.nil (G.prune [0, 1, 2, 6] rfl (G.seq (G.seq (G.region (J.move rfl rfl (J.move rfl rfl (J.ptrSame rfl rfl rfl (by first | exact Mem.h | exact M1 | exact M2 | exact M3 | exact M4 | exact M5 | exact M6 | exact M7 | exact M8 | exact M9) ?_))))))))
  refine J.nil (G.cT rfl (G.regionS [0, 1, 2, 3, 4, 5, 6, 7, 8, 9, 10, 11, 12] (some 12) (some 0) [⟨zb, 166, [.int .u32 ((64 * nz : Nat) : Int), .int .u8 0, .int .i8 a0, .int .u8 1, .bool false, .slice (some ⟨mb, 0, none⟩) l xs.length, .int .i32 e], true⟩] (by kernel_rfl) (SubH.of [0] rfl) rfl (J.move rfl rfl (J.move rfl rfl (J.nc rfl rfl rfl (J.fieldAddr rfl rfl (J.ld rfl rfl rfl rfl rfl (J.move rfl rfl ?_))))))))
  refine J.nc rfl rfl rfl (J.fieldAddr rfl rfl (J.ld rfl rfl rfl rfl rfl ?_))
  refine J.effH (E.callP (sqr_same (sv := .pointer none) (x := ⟨mb, l, xs⟩) ht.zok ht.l0 hl) [1] [] rfl rfl rfl rfl rfl) rfl rfl fun q hq => ⟨fun _ => SubH.app (SubH.of [0] rfl), ?_⟩
  try simp only [apC, apN]
  have hv0 : zn (some ⟨mb, l, xs⟩) * zn (some ⟨mb, l, xs⟩) ≠ 0 := Nat.ne_of_gt (Nat.mul_pos (Nat.lt_of_lt_of_le (Nat.mul_pos (by decide) (Nat.pow_pos (by decide))) ht.top) (Nat.lt_of_lt_of_le (Nat.mul_pos (by decide) (Nat.pow_pos (by decide))) ht.top))
  obtain ⟨⟨bq, lq, xq⟩, rfl, hq0⟩ := Res.some hq hv0
  obtain ⟨k1, k2, k3⟩ := mulTop ht ht hq
  simp only at k3
  simp only [zh, zv, List.cons_append, List.nil_append]
  refine J.nc rfl rfl rfl (J.fieldAddr rfl rfl ?_)
  refine J.effH (E.si rfl rfl rfl rfl) rfl rfl ⟨fun h => Bool.noConfusion h, ?_⟩
  refine J.nil (G.prune [0, 6] rfl (G.region (J.move rfl rfl (J.move rfl rfl (J.move rfl rfl (J.nc rfl rfl rfl (J.fieldAddr rfl rfl (J.loadI rfl rfl rfl rfl ?_))))))))
  refine J.eff (E.callP (fnorm_spec hq k1 (by omega)) [0] [] rfl rfl rfl rfl rfl) rfl fun p hp3 => ?_
  try simp only [apC, apN]
  obtain ⟨s, zs⟩ := p
  obtain ⟨hs, hmn, hlen⟩ := hp3
  simp only at hs hmn hlen ⊢
  rw [← hs] at k2
  rw [← hlen]
  (first | refine J.subI rfl rfl rfl (by omega) (by omega) ?_ | refine J.subZ rfl rfl rfl (by omega) (by omega) ?_)
  refine J.eff (E.callP (setExp_spec (fb := zb) (np := nz) (t := ⟨a0, e, ⟨bq, lq, zs⟩⟩) hmn (by simp only; omega) hp hp2 (by omega) (by omega) (by decide)) [1, 0] [] rfl rfl rfl rfl rfl) rfl fun q hq => ?_
  try simp only [apC, apN]
  refine J.nil (G.prune [] rfl (G.fall (hR _) ?_))
  exact GL.done (q : FV) rfl rfl ⟨hq.1, hq.2.1, by have := hq.2.2; omega, by have := hq.2.2; omega⟩ rfl [0, 1] rfl (by decide) (by simp [fh])
theorem fmul_spec {zb fb nz nf : Nat} {t u : FV} (ht : MN t.m) (hu : MN u.m) (hl : t.m.len ≤ 20) (hl2 : u.m.len ≤ 20) (hp : 2 ≤ nz) (hp2 : nz ≤ 100) (he : -10000 ≤ t.e ∧ t.e ≤ 10000) (he2 : -10000 ≤ u.e ∧ u.e ≤ 10000) :
    Spec (cx V) 198 #[.pointer (some ⟨zb, 0, none⟩), .pointer (some ⟨zb, 0, none⟩), .pointer (some ⟨fb, 0, none⟩)] (fh zb (64 * nz) t) [⟨fb, 166, fc (64 * nf) u, false⟩, ⟨u.m.b, 162, cells .u64 u.m.xs, false⟩] (fun _ : FV => .pointer (some ⟨zb, 0, none⟩)) (fh zb (64 * nz))
      (fun q => MN q.m ∧ q.m.len ≤ nz ∧ t.e + u.e - 1 ≤ q.e ∧ q.e ≤ t.e + u.e + 1) := by
  obtain ⟨a0, e, ⟨mb, l, xs⟩⟩ := t
  obtain ⟨a1, e1, ⟨mb1, l1, ys⟩⟩ := u
  simp only [fh, fc] at *
  refine Spec.enter Tryz.func198 rfl Tryz.ntmps198 (by simp) [(0, .pointer (some ⟨zb, 0, none⟩)), (1, .pointer (some ⟨zb, 0, none⟩)), (2, .pointer (some ⟨fb, 0, none⟩))] (by simp) ?_
  intro X hR
  try simp only [apC, apN]
  refine G.seq (G.region (J.assign rfl rfl (J.nil (G.seq (G.seq (G.region (J.move rfl rfl (J.nc rfl rfl rfl ?_))))))))
  refine J.fieldAddr rfl rfl (J.loadI rfl rfl rfl rfl ?_)
  (first | refine J.eqN rfl rfl rfl ?_ | refine J.eqZ rfl rfl rfl ?_)
  refine J.nil (G.prune [0, 1, 2, 6, 11] rfl (G.cF rfl (G.skip (G.seq (G.regionS [0, 1, 2, 3, 4, 5, 6, 7, 8, 9, 10, 11, 12] (some 12) (some 0) [⟨zb, 166, [.int .u32 ((64 * nz : Nat) : Int), .int .u8 0, .int .i8 a0, .int .u8 1, .bool false, .slice (some ⟨mb, 0, none⟩) l xs.length, .int .i32 e], true⟩, ⟨fb, 166, [.int .u32 ((64 * nf : Nat) : Int), .int .u8 0, .int .i8 a1, .int .u8 1, .bool false, .slice (some ⟨mb1, 0, none⟩) l1 ys.length, .int .i32 e1], false⟩] (by kernel_rfl) (SubH.of [0, 2] rfl) rfl (J.move rfl rfl (J.move rfl rfl (J.nc rfl rfl rfl ?_))))))))
  refine J.fieldAddr rfl rfl (J.ld rfl rfl rfl rfl rfl (J.move rfl rfl (J.nc rfl rfl rfl (J.fieldAddr rfl rfl (J.ld rfl rfl rfl rfl rfl (J.neB rfl rfl rfl (J.nc rfl rfl rfl (J.fieldAddr rfl rfl ?_))))))))
  refine J.effH (E.si rfl rfl rfl rfl) rfl rfl ⟨fun h => Bool.noConfusion h, ?_⟩
  refine J.nil (G.prune [0, 1, 2, 6] rfl (G.seq (G.seq (G.region (J.move rfl rfl (J.nc rfl rfl rfl (J.fieldAddr rfl rfl (J.loadI rfl rfl rfl rfl ?_))))))))
  (first | refine J.eqN rfl rfl rfl ?_ | refine J.eqZ rfl rfl rfl ?_)
  refine J.move rfl rfl (J.wT rfl rfl (J.move rfl rfl (J.wT rfl rfl (J.nc rfl rfl rfl (J.wT rfl rfl (J.fieldAddr rfl rfl (J.wT rfl rfl (J.loadI rfl rfl rfl rfl ?_))))))))
  refine J.wT rfl rfl ?_
  (first | refine J.eqN rfl rfl rfl ?_ | refine J.eqZ rfl rfl rfl ?_)
  refine J.pT rfl rfl rfl (J.nil (G.prune [0, 1, 2, 6, 47] rfl (G.cT rfl (G.seq (G.region (J.move rfl rfl (J.move rfl rfl (J.move rfl rfl ?_))))))))
  refine J.eff (E.callP (umul_spec (zb := zb) (fb := fb) (nz := nz) (nf := nf) (t := ⟨a0, e, ⟨mb, l, xs⟩⟩) (u := ⟨a1, e1, ⟨mb1, l1, ys⟩⟩) ht hu hl hl2 hp hp2 he he2) [0, 0] [0, 1] rfl rfl rfl rfl rfl) rfl fun q hq => ?_
  try simp only [apC, apN]
  refine J.nil (G.prune [0, 1, 2, 6] rfl (G.seq (G.region (J.move rfl rfl (J.assign rfl rfl (J.nil (G.ret (hR _) ?_)))))))
  exact GL.done (q : FV) rfl rfl hq rfl [0, 1] rfl (by decide) (by simp [fh])
theorem fmulS_spec {zb nz : Nat} {t : FV} (ht : MN t.m) (hl : t.m.len ≤ 11) (hp : 2 ≤ nz) (hp2 : nz ≤ 100) (he : -10000 ≤ t.e ∧ t.e ≤ 10000) :
    Spec (cx V) 198 #[.pointer (some ⟨zb, 0, none⟩), .pointer (some ⟨zb, 0, none⟩), .pointer (some ⟨zb, 0, none⟩)] (fh zb (64 * nz) t) [] (fun _ : FV => .pointer (some ⟨zb, 0, none⟩)) (fh zb (64 * nz))
      (fun q => MN q.m ∧ q.m.len ≤ nz ∧ t.e + t.e - 1 ≤ q.e ∧ q.e ≤ t.e + t.e + 1) := by
  obtain ⟨a0, e, ⟨mb, l, xs⟩⟩ := t
  simp only [fh, fc] at *
  refine Spec.enter Tryz.func198 rfl Tryz.ntmps198 (by simp) [(0, .pointer (some ⟨zb, 0, none⟩)), (1, .pointer (some ⟨zb, 0, none⟩)), (2, .pointer (some ⟨zb, 0, none⟩))] (by simp) ?_
  intro X hR
  try simp only [apC, apN]
  refine G.seq (G.region (J.assign rfl rfl (J.nil (G.seq (G.seq (G.region (J.move rfl rfl (J.nc rfl rfl rfl ?_))))))))
  refine J.fieldAddr rfl rfl (J.loadI rfl rfl rfl rfl ?_)
  (first | refine J.eqN rfl rfl rfl ?_ | refine J.eqZ rfl rfl rfl ?_)
  refine J.nil (G.prune [0, 1, 2, 6, 11] rfl (G.cF rfl (G.skip (G.seq (G.regionS [0, 1, 2, 3, 4, 5, 6, 7, 8, 9, 10, 11, 12] (some 12) (some 0) [⟨zb, 166, [.int .u32 ((64 * nz : Nat) : Int), .int .u8 0, .int .i8 a0, .int .u8 1, .bool false, .slice (some ⟨mb, 0, none⟩) l xs.length, .int .i32 e], true⟩] (by kernel_rfl) (SubH.of [0] rfl) rfl (J.move rfl rfl (J.move rfl rfl (J.nc rfl rfl rfl ?_))))))))
  refine J.fieldAddr rfl rfl (J.ld rfl rfl rfl rfl rfl (J.move rfl rfl (J.nc rfl rfl rfl (J.fieldAddr rfl rfl (J.ld rfl rfl rfl rfl rfl (J.neB rfl rfl rfl (J.nc rfl rfl rfl (J.fieldAddr rfl rfl ?_))))))))
  refine J.effH (E.si rfl rfl rfl rfl) rfl rfl ⟨fun h => Bool.noConfusion h, ?_⟩
  refine J.nil (G.prune [0, 1, 2, 6] rfl (G.seq (G.seq (G.region (J.move rfl rfl (J.nc rfl rfl rfl (J.fieldAddr rfl rfl (J.loadI rfl rfl rfl rfl ?_))))))))
  (first | refine J.eqN rfl rfl rfl ?_ | refine J.eqZ rfl rfl rfl ?_)
  refine J.move rfl rfl (J.wT rfl rfl (J.move rfl rfl (J.wT rfl rfl (J.nc rfl rfl rfl (J.wT rfl rfl (J.fieldAddr rfl rfl (J.wT rfl rfl (J.loadI rfl rfl rfl rfl ?_))))))))
  refine J.wT rfl rfl ?_
  (first | refine J.eqN rfl rfl rfl ?_ | refine J.eqZ rfl rfl rfl ?_)
  refine J.pT rfl rfl rfl (J.nil (G.prune [0, 1, 2, 6, 47] rfl (G.cT rfl (G.seq (G.region (J.move rfl rfl (J.move rfl rfl (J.move rfl rfl ?_))))))))
  refine J.eff (E.callP (umulS_spec (zb := zb) (nz := nz) (t := ⟨a0, e, ⟨mb, l, xs⟩⟩) ht hl hp hp2 he) [0, 0] [] rfl rfl rfl rfl rfl) rfl fun q hq => ?_
  try simp only [apC, apN]
  refine J.nil (G.prune [0, 1, 2, 6] rfl (G.seq (G.region (J.move rfl rfl (J.assign rfl rfl (J.nil (G.ret (hR _) ?_)))))))
  exact GL.done (q : FV) rfl rfl hq rfl [0, 1] rfl (by decide) (by simp [fh])
theorem gs_pow5 {n : Nat} (h : n < 28) : ((⟨12, n, none⟩ : Addr), Value.int .u64 ((5 ^ n : Nat) : Int)) ∈ (cx V).GS := by
  show _ ∈ gs V
  unfold gs
  exact List.mem_append_right _ (List.mem_map.2 ⟨n, List.mem_range.2 h, rfl⟩)
theorem powStep {F F' z z' : Int} {m h b : Nat} (hm : m = 2 * h + b) (hb : b ≤ 1) (h1 : z + (F + 1) * m ≤ 1252) (h2 : F' + 1 ≤ 2 * (F + 1)) (h3 : z' ≤ z + (F + 1) * b) : z' + (F' + 1) * h ≤ 1252 := by
  have e1 : (F + 1) * (m : Int) = 2 * ((F + 1) * (h : Int)) + (F + 1) * (b : Int) := by
    subst hm
    rw [Int.natCast_add, Int.natCast_mul, Int.mul_add, Int.mul_left_comm]
    rfl
  have e2 : (F' + 1) * (h : Int) ≤ 2 * (F + 1) * (h : Int) := Int.mul_le_mul_of_nonneg_right h2 (by omega)
  rw [Int.mul_assoc] at e2
  omega
theorem powBound {F z : Int} {m : Nat} (hF : 3 ≤ F) (hz : 0 ≤ z) (hm : 0 < m) (h1 : z + (F + 1) * m ≤ 1252) : F ≤ 1251 ∧ z ≤ 1252 := by
  have e2 : (F + 1) * (1 : Int) ≤ (F + 1) * (m : Int) := Int.mul_le_mul_of_nonneg_left (by omega) (by omega)
  omega
theorem pow5_spec {zb n : Nat} (hn : n ≤ 324) : Spec (cx V) 197 #[.pointer (some ⟨zb, 0, none⟩), .int .u64 n] (fn0 zb (64 * 9)) [] (fun _ : FV => .pointer (some ⟨zb, 0, none⟩)) (fh zb (64 * 9)) (fun q => MN q.m ∧ q.m.len ≤ 9 ∧ 0 ≤ q.e ∧ q.e ≤ 2000) := by
  have e27 : 5 ^ 27 = 7450580596923828125 := by decide
  refine Spec.enter Tryz.func197 rfl Tryz.ntmps197 (by simp) [(0, .pointer (some ⟨zb, 0, none⟩)), (1, .int .u64 n)] (by simp) ?_
  intro X hR
  try simp only [apC, apN]
  refine G.seq (G.region (J.assign rfl rfl (J.nil (G.seq (G.seq (G.region (J.move rfl rfl ?_)))))))
  (first | refine J.leN rfl rfl rfl ?_ | refine J.leZ rfl rfl rfl ?_)
  refine J.nil ?_
  by_cases h27 : n ≤ 27
  · have hle := Nat.pow_le_pow_right (show 0 < 5 by decide) h27
    rw [e27] at hle
    refine G.cT rfl (G.seq (G.region (J.move rfl rfl (J.move rfl rfl (J.indexArr rfl rfl rfl (by omega) ?_)))))
    rw [Nat.zero_add, Nat.mul_one]
    refine J.loadG rfl rfl rfl (gs_pow5 (by omega)) (J.eff (E.callP (setU64_spec (fb := zb) (np := 9) (x := 5 ^ n) (by omega) (Nat.ne_of_gt (Nat.pow_pos (by decide))) (by decide) (by decide)) [0] [] rfl rfl rfl rfl rfl) rfl fun q hq => ?_)
    try simp only [apC, apN]
    refine J.assign rfl rfl (J.nil (G.prune [0, 1, 4] rfl (G.ret (hR _) ?_)))
    exact GL.done (q : FV) rfl rfl ⟨hq.1, by rw [hq.2.1]; decide, by rw [hq.2.2]; omega, by rw [hq.2.2]; omega⟩ rfl [0, 1] rfl (by decide) (by simp [fh])
  · skip
    refine G.cF rfl (G.skip (G.seq (G.region (J.move rfl rfl (J.indexArr rfl rfl rfl (by omega) (J.loadG rfl rfl rfl (gs_pow5 (n := 27) (by decide)) (J.eff (E.callP (setU64_spec (fb := zb) (np := 9) (x := 5 ^ 27) (by decide) (by decide) (by decide) (by decide)) [0] [] rfl rfl rfl rfl rfl) rfl fun z hz => ?_)))))))
    try simp only [apC, apN]
    obtain ⟨z1, z2, z3⟩ := hz
    simp only [fh, List.cons_append, List.nil_append]
    refine J.nil (G.prune [0, 1, 4] rfl (G.seq (G.region (J.move rfl rfl (J.subU rfl rfl rfl (by omega) (by omega) (J.assign rfl rfl (J.nil (G.seq ?_))))))))
    refine G.region (J.eff (E.alloc rfl) rfl fun g19 => J.move rfl rfl (J.eff (E.callP (prec_spec (pr := 64 * 9) rfl (by decide)) [] [1] rfl rfl rfl rfl rfl) rfl fun _ _ => ?_))
    try simp only [apC, apN]
    refine J.addU rfl rfl rfl (by omega) (J.eff (E.callP (setPrec_spec (fb := g19) (pr := 64 * 9 + 64) (by decide) (by decide)) [0] [] rfl rfl rfl rfl rfl) rfl fun _ _ => ?_)
    try simp only [apC, apN]
    refine J.eff (E.callP (setU64_spec (fb := g19) (np := 10) (x := 5) (by decide) (by decide) (by decide) (by decide)) [0] [] rfl rfl rfl rfl rfl) rfl fun f hf => ?_
    try simp only [apC, apN]
    obtain ⟨f1, f2, f3⟩ := hf
    have fe : f.e = 3 := by rw [f3]; decide
    simp only [fh, List.cons_append, List.nil_append]
    refine J.assign rfl rfl (J.nil (G.prune [0, 1, 4, 5] rfl (G.seq (G.block ?_))))
    generalize g19 = g
    refine G.loopW (σ := { t : Nat × FV × FV // t.1 ≤ 400 ∧ MN t.2.1.m ∧ MN t.2.2.m ∧ t.2.1.m.len ≤ 9 ∧ t.2.2.m.len ≤ 10 ∧ 0 ≤ t.2.1.e ∧ 3 ≤ t.2.2.e ∧ t.2.2.e ≤ 3000 ∧ t.2.1.e + (t.2.2.e + 1) * (t.1 : Int) ≤ 1252 }) (fun t => [(0, .pointer (some ⟨zb, 0, none⟩)), (1, .int .u64 (t.1.1 : Nat)), (5, .pointer (some ⟨g, 0, none⟩))]) (fun t => fh zb (64 * 9) t.1.2.1 ++ fh g (64 * 10) t.1.2.2) (fun t => t.1.1) ⟨(n - 27, z, f), by simp only; omega, z1, f1, by simp only; omega, by simp only; omega, by simp only; omega, by simp only; omega, by simp only; omega, by simp only; rw [fe, z3]; omega⟩ (by repeat (first | exact SubSlots.nil _ | refine SubSlots.cons rfl ?_)) [2, 3, 0, 1] rfl (by decide) ?_
    clear z1 z2 z3 f1 f2 f3 fe z f
    rintro ⟨⟨m, z, f⟩, hm, hz, hf, hzl, hfl, hze, hfe, hfe2, hb⟩ ih
    simp only at hm hz hf hzl hfl hze hfe hfe2 hb ih ⊢
    simp only [fh, List.cons_append, List.nil_append] at ih ⊢
    refine G.seq (G.seq (G.region (J.move rfl rfl ?_)))
    (first | refine J.gtN rfl rfl rfl ?_ | refine J.gtZ rfl rfl rfl ?_)
    refine J.nil ?_
    by_cases h0 : m = 0
    · subst h0
      have hzz : z.e ≤ 1252 := by simpa using hb
      refine G.cF rfl (G.exit rfl (G.seq (G.region (J.move rfl rfl (J.assign rfl rfl (J.nil (G.ret (hR _) ?_)))))))
      exact GL.done (z : FV) rfl rfl ⟨hz, hzl, hze, by omega⟩ rfl [0, 1] rfl (by decide) (by simp [fh])
    obtain ⟨k1, k2⟩ := powBound hfe hze (by omega) hb
    have e1 : m &&& 1 = m % 2 := Nat.and_one_is_mod m
    refine G.cT rfl (G.skip (G.block (G.seq (G.seq (G.region (J.move rfl rfl (J.andU rfl rfl rfl (by omega) (by omega) ?_)))))))
    (first | refine J.neN rfl rfl rfl ?_ | refine J.neZ rfl rfl rfl ?_)
    refine J.nil ?_
    rw [e1]
    refine G.condP rfl (fun hc => ?_) (fun hc => ?_)
    · refine G.region ?_
      refine J.move rfl rfl (J.move rfl rfl (J.move rfl rfl ?_))
      refine J.eff (E.callP (fmul_spec (zb := zb) (fb := g) (nz := 9) (nf := 10) (t := z) (u := f) hz hf (by omega) (by omega) (by decide) (by decide) ⟨by omega, by omega⟩ ⟨by omega, by omega⟩) [0, 0] [0, 1] rfl rfl rfl rfl rfl) rfl fun z' hz' => ?_
      try simp only [apC, apN]
      obtain ⟨q1, q2, q3, q4⟩ := hz'
      simp only [fh, List.cons_append, List.nil_append]
      refine J.nil (G.prune [0, 1, 4, 5] rfl (G.seq (G.region (J.move rfl rfl (J.move rfl rfl (J.move rfl rfl ?_))))))
      refine J.eff (E.callP (fmulS_spec (zb := g) (nz := 10) (t := f) hf (by omega) (by decide) (by decide) ⟨by omega, by omega⟩) [2, 2] [] rfl rfl rfl rfl rfl) rfl fun f' hf' => ?_
      try simp only [apC, apN]
      obtain ⟨p1, p2, p3, p4⟩ := hf'
      simp only [fh, List.cons_append, List.nil_append]
      refine J.nil (G.prune [0, 1, 4, 5] rfl (G.region (J.move rfl rfl (J.shrU rfl rfl rfl (by omega) (J.assign rfl rfl (J.nil (G.inBlock ?_)))))))
      rw [Nat.pow_one]
      exact G.wk [2, 3, 0, 1] (ih ⟨(m / 2, z', f'), by simp only; omega, q1, p1, q2, p2, by simp only; omega, by simp only; omega, by simp only; omega, powStep (b := 1) (by omega) (by decide) hb (by simp only; omega) (by simp only; omega)⟩ (by simp only; omega))
    · refine G.skip ?_
      refine G.seq (G.region (J.move rfl rfl (J.move rfl rfl (J.move rfl rfl ?_))))
      refine J.eff (E.callP (fmulS_spec (zb := g) (nz := 10) (t := f) hf (by omega) (by decide) (by decide) ⟨by omega, by omega⟩) [2, 2] [] rfl rfl rfl rfl rfl) rfl fun f' hf' => ?_
      try simp only [apC, apN]
      obtain ⟨p1, p2, p3, p4⟩ := hf'
      simp only [fh, List.cons_append, List.nil_append]
      refine J.nil (G.prune [0, 1, 4, 5] rfl (G.region (J.move rfl rfl (J.shrU rfl rfl rfl (by omega) (J.assign rfl rfl (J.nil (G.inBlock ?_)))))))
      rw [Nat.pow_one]
      exact G.wk [2, 3, 0, 1] (ih ⟨(m / 2, z, f'), by simp only; omega, hz, p1, hzl, p2, hze, by simp only; omega, by simp only; omega, powStep (b := 0) (by omega) (by decide) hb (by simp only; omega) (by simp only; omega)⟩ (by simp only; omega))
end
section
set_option maxRecDepth 100000
set_option pp.deepTerms false
variable {V : Addr}
theorem growNilN_spec {n : Nat} (h0 : 0 < n) (hn : n ≤ 1000) : Spec (cx V) 216 #[.slice none 0 0, .int .i64 n] [] [] (fun p : Nat × Nat => .slice (some ⟨p.1, 0, none⟩) 0 (List.replicate (n + p.2) 0).length) (fun p => [⟨p.1, 162, cells .u64 (List.replicate (n + p.2) 0), true⟩]) (fun p => n + p.2 < 9223372036854775808) := by
  refine Spec.enter Tryz.func216 rfl Tryz.ntmps216 (by simp) [(0, .slice none 0 0), (1, .int .i64 n)] (by simp) ?_
  intro X hR
  try simp only [apC, apN]
  refine G.seq (G.region (J.assign rfl rfl (J.nil (G.seq (G.seq (G.region (J.move rfl rfl ?_)))))))
  (first | refine J.ltN rfl rfl rfl ?_ | refine J.ltZ rfl rfl rfl ?_)
  refine J.nil (G.cF rfl (G.skip (G.seq (G.seq (G.region (J.move rfl rfl (J.move rfl rfl (J.capS rfl rfl ?_))))))))
  refine J.move rfl rfl (J.lenS rfl rfl ?_)
  (first | refine J.subI rfl rfl rfl (by omega) (by omega) ?_ | refine J.subZ rfl rfl rfl (by omega) (by omega) ?_)
  (first | refine J.subI rfl rfl rfl (by omega) (by omega) ?_ | refine J.subZ rfl rfl rfl (by omega) (by omega) ?_)
  refine J.assign rfl rfl (J.nil (G.prune [0, 1, 4] rfl (G.seq (G.region (J.move rfl rfl ?_)))))
  (first | refine J.gtN rfl rfl rfl ?_ | refine J.gtZ rfl rfl rfl ?_)
  refine J.nil (G.cT rfl (G.region (J.move rfl rfl (J.move rfl rfl (J.capS rfl rfl (J.slH rfl rfl rfl (by omega) (J.move rfl rfl (J.eff (E.appendZnil (kk := .u64) (n := n) rfl rfl rfl h0 (by omega) (by omega)) rfl fun g c hc => ?_))))))))
  refine J.move rfl rfl (J.lenS rfl rfl (J.slH rfl rfl rfl (by omega) (J.assign rfl rfl (J.nil (G.prune [0, 4] rfl (G.seq (G.region (J.move rfl rfl ?_))))))))
  refine J.assign rfl rfl (J.nil ?_)
  have hl : (List.replicate (n + c) 0).length = n + c := List.length_replicate ..
  refine G.ret (hR _) ?_
  exact GL.done (g, c) rfl rfl hc rfl [0] rfl (by decide) (by simp)
theorem growNilW_spec {n : Nat} (h0 : 0 < n) (hn : n ≤ 1000) : Spec (cx V) 248 #[.slice none 0 0, .int .i64 n] [] [] (fun p : Nat × Nat => .slice (some ⟨p.1, 0, none⟩) 0 (List.replicate (n + p.2) 0).length) (fun p => [⟨p.1, 162, cells .u64 (List.replicate (n + p.2) 0), true⟩]) (fun p => n + p.2 < 9223372036854775808) := by
  refine Spec.enter Tryz.func248 rfl Tryz.ntmps248 (by simp) [(0, .slice none 0 0), (1, .int .i64 n)] (by simp) ?_
  intro X hR
  try simp only [apC, apN]
  refine G.seq (G.region (J.assign rfl rfl (J.nil (G.seq (G.seq (G.region (J.move rfl rfl ?_)))))))
  (first | refine J.ltN rfl rfl rfl ?_ | refine J.ltZ rfl rfl rfl ?_)
  refine J.nil (G.cF rfl (G.skip (G.seq (G.seq (G.region (J.move rfl rfl (J.move rfl rfl (J.capS rfl rfl ?_))))))))
  refine J.move rfl rfl (J.lenS rfl rfl ?_)
  (first | refine J.subI rfl rfl rfl (by omega) (by omega) ?_ | refine J.subZ rfl rfl rfl (by omega) (by omega) ?_)
  (first | refine J.subI rfl rfl rfl (by omega) (by omega) ?_ | refine J.subZ rfl rfl rfl (by omega) (by omega) ?_)
  refine J.assign rfl rfl (J.nil (G.prune [0, 1, 4] rfl (G.seq (G.region (J.move rfl rfl ?_)))))
  (first | refine J.gtN rfl rfl rfl ?_ | refine J.gtZ rfl rfl rfl ?_)
  refine J.nil (G.cT rfl (G.region (J.move rfl rfl (J.move rfl rfl (J.capS rfl rfl (J.slH rfl rfl rfl (by omega) (J.move rfl rfl (J.eff (E.appendZnil (kk := .u64) (n := n) rfl rfl rfl h0 (by omega) (by omega)) rfl fun g c hc => ?_))))))))
  refine J.move rfl rfl (J.lenS rfl rfl (J.slH rfl rfl rfl (by omega) (J.assign rfl rfl (J.nil (G.prune [0, 4] rfl (G.seq (G.region (J.move rfl rfl ?_))))))))
  refine J.assign rfl rfl (J.nil ?_)
  have hl : (List.replicate (n + c) 0).length = n + c := List.length_replicate ..
  refine G.ret (hR _) ?_
  exact GL.done (g, c) rfl rfl hc rfl [0] rfl (by decide) (by simp)
theorem Wd.app {xs : List Nat} (h : Wd xs) (m : Nat) : Wd (xs ++ List.replicate m 0) := fun j => by
  rw [List.getD_eq_getElem?_getD, List.getElem?_append]
  split
  · rw [← List.getD_eq_getElem?_getD]; exact h j
  · rw [← List.getD_eq_getElem?_getD]; exact Wd.rep m _
def gwV (wb L : Nat) (ws : List Nat) : Option (Nat × List Nat) → Value
  | none => .slice (some ⟨wb, 0, none⟩) L ws.length
  | some p => .slice (some ⟨p.1, 0, none⟩) L p.2.length
def gwH : Option (Nat × List Nat) → Hp
  | none => []
  | some p => [⟨p.1, 162, cells .u64 p.2, true⟩]
def gwP (L n : Nat) (ws : List Nat) : Option (Nat × List Nat) → Prop
  | none => L + n ≤ ws.length
  | some p => L + n ≤ p.2.length ∧ p.2.length < 9223372036854775808 ∧ Wd p.2
theorem growSome_spec {wb L n : Nat} {ws : List Nat} (h0 : 0 < n) (hn : n ≤ 1000) (hL : L ≤ 1000) (hL2 : L ≤ ws.length) (hc : ws.length < 9223372036854775808) (hw : Wd ws) :
    Spec (cx V) 248 #[.slice (some ⟨wb, 0, none⟩) L ws.length, .int .i64 n] [] [⟨wb, 162, cells .u64 ws, false⟩] (gwV wb L ws) gwH (gwP L n ws) := by
  by_cases h : L + n ≤ ws.length
  · refine Spec.enter Tryz.func248 rfl Tryz.ntmps248 (by simp) [(0, .slice (some ⟨wb, 0, none⟩) L ws.length), (1, .int .i64 n)] (by simp) ?_
    intro X hR
    try simp only [apC, apN]
    refine G.seq (G.region (J.assign rfl rfl (J.nil (G.seq (G.seq (G.region (J.move rfl rfl ?_)))))))
    (first | refine J.ltN rfl rfl rfl ?_ | refine J.ltZ rfl rfl rfl ?_)
    refine J.nil (G.cF rfl (G.skip (G.seq (G.seq (G.region (J.move rfl rfl (J.move rfl rfl (J.capS rfl rfl ?_))))))))
    refine J.move rfl rfl (J.lenS rfl rfl ?_)
    (first | refine J.subI rfl rfl rfl (by omega) (by omega) ?_ | refine J.subZ rfl rfl rfl (by omega) (by omega) ?_)
    (first | refine J.subI rfl rfl rfl (by omega) (by omega) ?_ | refine J.subZ rfl rfl rfl (by omega) (by omega) ?_)
    refine J.assign rfl rfl (J.nil (G.prune [0, 1, 4] rfl (G.seq (G.region (J.move rfl rfl ?_)))))
    (first | refine J.gtN rfl rfl rfl ?_ | refine J.gtZ rfl rfl rfl ?_)
    refine J.nil (G.cF rfl (G.skip (G.seq (G.region (J.move rfl rfl (J.assign rfl rfl (J.nil (G.ret (hR _) ?_))))))))
    exact GL.done none rfl rfl h rfl [] rfl (by decide) (by simp [gwH])
  · refine Spec.enter Tryz.func248 rfl Tryz.ntmps248 (by simp) [(0, .slice (some ⟨wb, 0, none⟩) L ws.length), (1, .int .i64 n)] (by simp) ?_
    intro X hR
    try simp only [apC, apN]
    refine G.seq (G.region (J.assign rfl rfl (J.nil (G.seq (G.seq (G.region (J.move rfl rfl ?_)))))))
    (first | refine J.ltN rfl rfl rfl ?_ | refine J.ltZ rfl rfl rfl ?_)
    refine J.nil (G.cF rfl (G.skip (G.seq (G.seq (G.region (J.move rfl rfl (J.move rfl rfl (J.capS rfl rfl ?_))))))))
    refine J.move rfl rfl (J.lenS rfl rfl ?_)
    (first | refine J.subI rfl rfl rfl (by omega) (by omega) ?_ | refine J.subZ rfl rfl rfl (by omega) (by omega) ?_)
    (first | refine J.subI rfl rfl rfl (by omega) (by omega) ?_ | refine J.subZ rfl rfl rfl (by omega) (by omega) ?_)
    refine J.assign rfl rfl (J.nil (G.prune [0, 1, 4] rfl (G.seq (G.region (J.move rfl rfl ?_)))))
    (first | refine J.gtN rfl rfl rfl ?_ | refine J.gtZ rfl rfl rfl ?_)
    refine J.nil (G.cT rfl (G.region (J.move rfl rfl (J.move rfl rfl (J.capS rfl rfl (J.slH rfl rfl rfl (by omega) (J.move rfl rfl (J.eff (E.appendZ (xs := ws) (n := n - (ws.length - L)) rfl rfl rfl Mem.h (by omega) (by omega) (by omega)) rfl fun g c hc2 => ?_))))))))
    have hl : (ws ++ List.replicate (n - (ws.length - L) + c) 0).length = ws.length + (n - (ws.length - L)) + c := by simp; omega
    refine J.move rfl rfl (J.lenS rfl rfl (J.slH rfl rfl rfl (by omega) (J.assign rfl rfl (J.nil (G.prune [0, 4] rfl (G.seq (G.region (J.move rfl rfl ?_))))))))
    refine J.assign rfl rfl (J.nil (G.ret (hR _) ?_))
    exact GL.done (some (g, ws ++ List.replicate (n - (ws.length - L) + c) 0)) rfl rfl ⟨by simp only; omega, by simp only; omega, hw.app _⟩ rfl [0] rfl (by decide) (by simp [gwH])
theorem save_nil {sb : Nat} : Spec (cx V) 158 #[.pointer (some ⟨sb, 0, none⟩)] [] [⟨sb, 240, [.pointer none], false⟩] (fun _ : Unit => .int .i64 ((0 : Nat) : Int)) (fun _ => []) (fun _ => True) := by
  refine Spec.enter Tryz.func158 rfl Tryz.ntmps158 (by simp) [(0, .pointer (some ⟨sb, 0, none⟩))] (by simp) ?_
  intro X hR
  try simp only [apC, apN]
  refine G.seq (G.region (J.assign rfl rfl (J.nil (G.seq (G.region (J.move rfl rfl (J.nc rfl rfl rfl (J.fieldAddr rfl rfl ?_))))))))
  refine J.loadI rfl rfl rfl rfl (J.assign rfl rfl (J.nil (G.prune [2, 3] rfl (G.seq (G.seq (G.region (J.move rfl rfl (J.ptrNilE rfl rfl ?_))))))))
  refine J.nil (G.cT rfl (G.seq (G.region (J.assign rfl rfl (J.nil (G.ret (hR _) ?_))))))
  exact GL.done (()) rfl rfl (trivial) rfl [] rfl (by decide) (by simp)
theorem isave_spec {ib l c : Nat} {a : Option Addr} : Spec (cx V) 215 #[.pointer (some ⟨ib, 0, none⟩)] [] [⟨ib, 286, [.slice a l c], false⟩] (fun _ : Unit => .int .i64 (l : Int)) (fun _ => []) (fun _ => True) := by
  refine Spec.enter Tryz.func215 rfl Tryz.ntmps215 (by simp) [(0, .pointer (some ⟨ib, 0, none⟩))] (by simp) ?_
  intro X hR
  try simp only [apC, apN]
  refine G.seq (G.region (J.assign rfl rfl (J.nil (G.seq (G.region (J.move rfl rfl (J.nc rfl rfl rfl (J.fieldAddr rfl rfl ?_))))))))
  refine J.loadI rfl rfl rfl rfl (J.lenS rfl rfl (J.assign rfl rfl (J.nil (G.prune [2] rfl (G.ret (hR _) ?_)))))
  exact GL.done (()) rfl rfl (trivial) rfl [] rfl (by decide) (by simp)
theorem save_some {sb ib l c : Nat} {a : Option Addr} : Spec (cx V) 158 #[.pointer (some ⟨sb, 0, none⟩)] [] [⟨sb, 240, [.pointer (some ⟨ib, 0, none⟩)], false⟩, ⟨ib, 286, [.slice a l c], false⟩] (fun _ : Unit => .int .i64 (l : Int)) (fun _ => []) (fun _ => True) := by
  refine Spec.enter Tryz.func158 rfl Tryz.ntmps158 (by simp) [(0, .pointer (some ⟨sb, 0, none⟩))] (by simp) ?_
  intro X hR
  try simp only [apC, apN]
  refine G.seq (G.region (J.assign rfl rfl (J.nil (G.seq (G.region (J.move rfl rfl (J.nc rfl rfl rfl (J.fieldAddr rfl rfl ?_))))))))
  refine J.loadI rfl rfl rfl rfl (J.assign rfl rfl (J.nil (G.prune [2, 3] rfl (G.seq (G.seq (G.region (J.move rfl rfl (J.ptrNilE rfl rfl ?_))))))))
  refine J.nil (G.cF rfl (G.skip (G.seq (G.region (J.move rfl rfl (J.eff (E.callP (isave_spec (l := l)) [] [1] rfl rfl rfl rfl rfl) rfl fun _ _ => ?_))))))
  try simp only [apC, apN]
  refine J.assign rfl rfl (J.nil (G.ret (hR _) ?_))
  exact GL.done (()) rfl rfl (trivial) rfl [] rfl (by decide) (by simp)
theorem restore_nilD {sb n : Nat} : SpecD (cx V) 157 #[.pointer (some ⟨sb, 0, none⟩), .int .i64 n] [] [⟨sb, 240, [.pointer none], false⟩] (τ := Unit) (fun _ => []) (fun _ => True) := by
  refine SpecD.enter (val := fun _ => .tuple #[]) Tryz.func157 rfl Tryz.ntmps157 (by simp) [(0, .pointer (some ⟨sb, 0, none⟩)), (1, .int .i64 n)] (by simp) ?_
  intro X hR
  try simp only [apC, apN]
  refine G.seq (G.region (J.move rfl rfl (J.nc rfl rfl rfl (J.fieldAddr rfl rfl (J.loadI rfl rfl rfl rfl (J.assign rfl rfl (J.nil (G.prune [1, 4] rfl ?_))))))))
  refine G.seq (G.seq (G.region (J.move rfl rfl (J.ptrNilE rfl rfl (J.nil (G.cT rfl (G.ret (hR) ?_)))))))
  exact GL.done (()) rfl rfl (trivial) rfl [] rfl (by decide) (by simp)
theorem irestore_spec {ib l c n : Nat} {a : Option Addr} (h : n ≤ c) : Spec (cx V) 214 #[.pointer (some ⟨ib, 0, none⟩), .int .i64 n] [⟨ib, 286, [.slice a l c], true⟩] [] (fun _ : Unit => .tuple #[]) (fun _ => [⟨ib, 286, [.slice a n c], true⟩]) (fun _ => True) := by
  refine Spec.enter Tryz.func214 rfl Tryz.ntmps214 (by simp) [(0, .pointer (some ⟨ib, 0, none⟩)), (1, .int .i64 n)] (by simp) ?_
  intro X hR
  try simp only [apC, apN]
  refine G.region (J.move rfl rfl (J.move rfl rfl (J.nc rfl rfl rfl (J.fieldAddr rfl rfl (J.loadI rfl rfl rfl rfl (J.move rfl rfl (J.slH rfl rfl rfl (by omega) (J.nc rfl rfl rfl ?_))))))))
  refine J.fieldAddr rfl rfl (J.eff (E.si rfl rfl rfl rfl) rfl (J.nil (G.prune [] rfl (G.fall (hR _) ?_))))
  exact GL.done (()) rfl rfl (trivial) rfl [0] rfl (by decide) (by simp)
theorem restore_someD {sb ib l c n : Nat} {a : Option Addr} (h : n ≤ c) : SpecD (cx V) 157 #[.pointer (some ⟨sb, 0, none⟩), .int .i64 n] [⟨ib, 286, [.slice a l c], true⟩] [⟨sb, 240, [.pointer (some ⟨ib, 0, none⟩)], false⟩] (τ := Unit) (fun _ => [⟨ib, 286, [.slice a n c], true⟩]) (fun _ => True) := by
  refine SpecD.enter (val := fun _ => .tuple #[]) Tryz.func157 rfl Tryz.ntmps157 (by simp) [(0, .pointer (some ⟨sb, 0, none⟩)), (1, .int .i64 n)] (by simp) ?_
  intro X hR
  try simp only [apC, apN]
  refine G.seq (G.region (J.move rfl rfl (J.nc rfl rfl rfl (J.fieldAddr rfl rfl (J.loadI rfl rfl rfl rfl (J.assign rfl rfl (J.nil (G.prune [1, 4] rfl ?_))))))))
  refine G.seq (G.seq (G.region (J.move rfl rfl (J.ptrNilE rfl rfl (J.nil (G.cF rfl (G.skip (G.region ?_))))))))
  refine J.move rfl rfl (J.move rfl rfl (J.eff (E.callP (irestore_spec (n := n) h) [0] [] rfl rfl rfl rfl rfl) rfl fun _ _ => ?_))
  try simp only [apC, apN]
  refine J.nil (G.fall (hR) ?_)
  exact GL.done (()) rfl rfl (trivial) rfl [0] rfl (by decide) (by simp)
theorem ifree_spec {ib l c : Nat} {a : Option Addr} : Spec (cx V) 147 #[.pointer (some ⟨ib, 0, none⟩)] [⟨ib, 286, [.slice a l c], true⟩] [] (fun _ : Unit => .tuple #[]) (fun _ => [⟨ib, 286, [.slice a 0 c], true⟩]) (fun _ => True) := by
  refine Spec.enter Tryz.func147 rfl Tryz.ntmps147 (by simp) [(0, .pointer (some ⟨ib, 0, none⟩))] (by simp) ?_
  intro X hR
  try simp only [apC, apN]
  refine G.region (J.move rfl rfl (J.move rfl rfl (J.nc rfl rfl rfl (J.fieldAddr rfl rfl (J.loadI rfl rfl rfl rfl (J.slH rfl rfl rfl (by omega) (J.nc rfl rfl rfl (J.fieldAddr rfl rfl ?_))))))))
  refine J.eff (E.si rfl rfl rfl rfl) rfl (J.nil (G.prune [] rfl (G.fall (hR _) ?_)))
  exact GL.done (()) rfl rfl (trivial) rfl [0] rfl (by decide) (by simp)
theorem free_someD {sb ib l c : Nat} {a : Option Addr} : SpecD (cx V) 107 #[.pointer (some ⟨sb, 0, none⟩)] [⟨ib, 286, [.slice a l c], true⟩] [⟨sb, 240, [.pointer (some ⟨ib, 0, none⟩)], false⟩] (τ := Unit) (fun _ => [⟨ib, 286, [.slice a 0 c], true⟩]) (fun _ => True) := by
  refine SpecD.enter (val := fun _ => .tuple #[]) Tryz.func107 rfl Tryz.ntmps107 (by simp) [(0, .pointer (some ⟨sb, 0, none⟩))] (by simp) ?_
  intro X hR
  try simp only [apC, apN]
  refine G.seq (G.region (J.move rfl rfl (J.nc rfl rfl rfl (J.fieldAddr rfl rfl (J.loadI rfl rfl rfl rfl (J.assign rfl rfl (J.nil (G.prune [2] rfl ?_))))))))
  refine G.seq (G.region (J.move rfl rfl (J.ptrNilN rfl rfl (J.nil (G.cT rfl (G.region (J.move rfl rfl (J.eff (E.callP (ifree_spec) [0] [] rfl rfl rfl rfl rfl) rfl fun _ _ => ?_))))))))
  try simp only [apC, apN]
  refine J.nil (G.fall (hR) ?_)
  exact GL.done (()) rfl rfl (trivial) rfl [0] rfl (by decide) (by simp)
def r4 (n : Nat) : Nat := (n + 3) / 4 * 4
theorem r4_le (n : Nat) : n ≤ r4 n := by unfold r4; omega
theorem r4_le2 (n : Nat) : r4 n ≤ n + 3 := by unfold r4; omega
def nw (m c v : Nat) : List Nat := (List.replicate (m + c) 0).set 0 v
theorem nw_len (m c v : Nat) : (nw m c v).length = m + c := by unfold nw; rw [List.length_set, List.length_replicate]
theorem nw_wd {m c v : Nat} (h : v < 18446744073709551616) : Wd (nw m c v) := (Wd.rep _).set h
theorem inat_nil {ib n : Nat} (h0 : 0 < n) (hn : n ≤ 20) : Spec (cx V) 217 #[.pointer (some ⟨ib, 0, none⟩), .int .i64 n] [⟨ib, 286, [.slice none 0 0], true⟩] []
    (fun p : Nat × Nat => .slice (some ⟨p.1, 0, none⟩) n n) (fun p => [⟨ib, 286, [.slice (some ⟨p.1, 0, none⟩) (r4 n) (nw (r4 n) p.2 1043915).length], true⟩, ⟨p.1, 162, cells .u64 (nw (r4 n) p.2 1043915), true⟩]) (fun p => r4 n + p.2 < 9223372036854775808) := by
  have h1 := r4_le n
  have h2 := r4_le2 n
  refine Spec.enter Tryz.func217 rfl Tryz.ntmps217 (by simp) [(0, .pointer (some ⟨ib, 0, none⟩)), (1, .int .i64 n)] (by simp) ?_
  intro X hR
  try simp only [apC, apN]
  refine G.seq (G.region (J.assign rfl rfl (J.nil (G.seq (G.region (J.move rfl rfl ?_))))))
  (first | refine J.addI rfl rfl rfl (by omega) ?_ | refine J.addZ rfl rfl rfl (by omega) (by omega) ?_)
  refine J.andNotI rfl rfl rfl (by omega) (J.assign rfl rfl (J.nil (G.prune [0, 1, 4, 5] rfl (G.seq (G.region (J.move rfl rfl (J.nc rfl rfl rfl (J.fieldAddr rfl rfl ?_))))))))
  refine J.loadI rfl rfl rfl rfl (J.lenS rfl rfl (J.assign rfl rfl (J.nil (G.prune [0, 1, 4, 5, 6] rfl (G.seq (G.region (J.move rfl rfl (J.move rfl rfl ?_))))))))
  refine J.nc rfl rfl rfl (J.fieldAddr rfl rfl (J.loadI rfl rfl rfl rfl (J.move rfl rfl ?_)))
  rw [show (n + 3) / 4 * 4 = r4 n from rfl]
  refine J.eff (E.callP (growNilW_spec (n := r4 n) (by omega) (by omega)) [] [] rfl rfl rfl rfl rfl) rfl fun p hp => ?_
  try simp only [apC, apN]
  obtain ⟨g, c⟩ := p
  simp only at hp ⊢
  have hl : (List.replicate (r4 n + c) 0).length = r4 n + c := List.length_replicate ..
  refine J.nc rfl rfl rfl (J.fieldAddr rfl rfl (J.eff (E.si rfl rfl rfl rfl) rfl (J.nil (G.prune [0, 1, 4, 5, 6] rfl (G.seq (G.region (J.move rfl rfl (J.move rfl rfl ?_))))))))
  refine J.nc rfl rfl rfl (J.fieldAddr rfl rfl (J.loadI rfl rfl rfl rfl (J.move rfl rfl (J.move rfl rfl ?_))))
  (first | refine J.addI rfl rfl rfl (by omega) ?_ | refine J.addZ rfl rfl rfl (by omega) (by omega) ?_)
  refine J.slH rfl rfl rfl (by omega) (J.nc rfl rfl rfl (J.fieldAddr rfl rfl (J.eff (E.si rfl rfl rfl rfl) rfl (J.nil (G.prune [0, 1, 4, 6] rfl (G.seq (G.region (J.move rfl rfl ?_))))))))
  refine J.nc rfl rfl rfl (J.fieldAddr rfl rfl (J.loadI rfl rfl rfl rfl (J.move rfl rfl (J.move rfl rfl (J.move rfl rfl ?_)))))
  (first | refine J.addI rfl rfl rfl (by omega) ?_ | refine J.addZ rfl rfl rfl (by omega) (by omega) ?_)
  refine J.move rfl rfl (J.move rfl rfl ?_)
  (first | refine J.addI rfl rfl rfl (by omega) ?_ | refine J.addZ rfl rfl rfl (by omega) (by omega) ?_)
  refine J.sl3 rfl rfl rfl rfl rfl (by omega) (by omega) (by omega) (by omega) (J.assign rfl rfl (J.nil (G.prune [1, 4, 7] rfl (G.seq (G.seq (G.region (J.move rfl rfl ?_)))))))
  (first | refine J.gtN rfl rfl rfl ?_ | refine J.gtZ rfl rfl rfl ?_)
  refine J.nil (G.cT rfl (G.region (J.move rfl rfl (J.ix rfl rfl rfl (J.eff (E.sc rfl rfl) rfl (J.nil (G.seq (G.region ?_))))))))
  refine J.move rfl rfl (J.assign rfl rfl (J.nil (G.ret (hR _) ?_)))
  rw [Nat.zero_add, Nat.zero_add, Nat.zero_add, Nat.sub_zero, ← List.length_set (i := 0) (a := 1043915)]
  exact GL.done (g, c) rfl rfl hp rfl [1, 0] rfl (by decide) (by simp)
def inV (wb L n : Nat) : Option (Nat × List Nat) → Value
  | none => .slice (some ⟨wb, L, none⟩) n n
  | some p => .slice (some ⟨p.1, L, none⟩) n n
def inH (ib wb L n : Nat) (ws : List Nat) : Option (Nat × List Nat) → Hp
  | none => [⟨ib, 286, [.slice (some ⟨wb, 0, none⟩) (L + r4 n) ws.length], true⟩, ⟨wb, 162, cells .u64 (ws.set L 1043915), true⟩]
  | some p => [⟨ib, 286, [.slice (some ⟨p.1, 0, none⟩) (L + r4 n) p.2.length], true⟩, ⟨wb, 162, cells .u64 ws, true⟩, ⟨p.1, 162, cells .u64 p.2, true⟩]
theorem inat_some {ib wb L n : Nat} {ws : List Nat} (h0 : 0 < n) (hn : n ≤ 20) (hL : L ≤ 1000) (hL2 : L ≤ ws.length) (hc : ws.length < 9223372036854775808) (hw : Wd ws) :
    Spec (cx V) 217 #[.pointer (some ⟨ib, 0, none⟩), .int .i64 n] [⟨ib, 286, [.slice (some ⟨wb, 0, none⟩) L ws.length], true⟩, ⟨wb, 162, cells .u64 ws, true⟩] [] (inV wb L n) (inH ib wb L n ws) (gwP L (r4 n) ws) := by
  have h1 := r4_le n
  have h2 := r4_le2 n
  refine Spec.enter Tryz.func217 rfl Tryz.ntmps217 (by simp) [(0, .pointer (some ⟨ib, 0, none⟩)), (1, .int .i64 n)] (by simp) ?_
  intro X hR
  try simp only [apC, apN]
  refine G.seq (G.region (J.assign rfl rfl (J.nil (G.seq (G.region (J.move rfl rfl ?_))))))
  (first | refine J.addI rfl rfl rfl (by omega) ?_ | refine J.addZ rfl rfl rfl (by omega) (by omega) ?_)
  refine J.andNotI rfl rfl rfl (by omega) (J.assign rfl rfl (J.nil (G.prune [0, 1, 4, 5] rfl (G.seq (G.region (J.move rfl rfl (J.nc rfl rfl rfl (J.fieldAddr rfl rfl ?_))))))))
  refine J.loadI rfl rfl rfl rfl (J.lenS rfl rfl (J.assign rfl rfl (J.nil (G.prune [0, 1, 4, 5, 6] rfl (G.seq (G.region (J.move rfl rfl (J.move rfl rfl ?_))))))))
  refine J.nc rfl rfl rfl (J.fieldAddr rfl rfl (J.loadI rfl rfl rfl rfl (J.move rfl rfl ?_)))
  rw [show (n + 3) / 4 * 4 = r4 n from rfl]
  refine J.eff (E.callP (growSome_spec (n := r4 n) (L := L) (by omega) (by omega) hL hL2 hc hw) [] [1] rfl rfl rfl rfl rfl) rfl fun p hp => ?_
  try simp only [apC, apN]
  rcases p with _ | ⟨g, ws2⟩
  · simp only [gwV, gwH, gwP, List.cons_append, List.nil_append] at hp ⊢
    refine J.nc rfl rfl rfl (J.fieldAddr rfl rfl (J.eff (E.si rfl rfl rfl rfl) rfl (J.nil (G.prune [0, 1, 4, 5, 6] rfl (G.seq (G.region (J.move rfl rfl (J.move rfl rfl ?_))))))))
    refine J.nc rfl rfl rfl (J.fieldAddr rfl rfl (J.loadI rfl rfl rfl rfl (J.move rfl rfl (J.move rfl rfl ?_))))
    (first | refine J.addI rfl rfl rfl (by omega) ?_ | refine J.addZ rfl rfl rfl (by omega) (by omega) ?_)
    refine J.slH rfl rfl rfl (by omega) (J.nc rfl rfl rfl (J.fieldAddr rfl rfl (J.eff (E.si rfl rfl rfl rfl) rfl (J.nil (G.prune [0, 1, 4, 6] rfl (G.seq (G.region (J.move rfl rfl ?_))))))))
    refine J.nc rfl rfl rfl (J.fieldAddr rfl rfl (J.loadI rfl rfl rfl rfl (J.move rfl rfl (J.move rfl rfl (J.move rfl rfl ?_)))))
    (first | refine J.addI rfl rfl rfl (by omega) ?_ | refine J.addZ rfl rfl rfl (by omega) (by omega) ?_)
    refine J.move rfl rfl (J.move rfl rfl ?_)
    (first | refine J.addI rfl rfl rfl (by omega) ?_ | refine J.addZ rfl rfl rfl (by omega) (by omega) ?_)
    refine J.sl3 rfl rfl rfl rfl rfl (by omega) (by omega) (by omega) (by omega) (J.assign rfl rfl (J.nil (G.prune [1, 4, 7] rfl (G.seq (G.seq (G.region (J.move rfl rfl ?_)))))))
    (first | refine J.gtN rfl rfl rfl ?_ | refine J.gtZ rfl rfl rfl ?_)
    refine J.nil ?_
    rw [Nat.zero_add, Nat.add_sub_cancel_left]
    refine G.cT rfl (G.region (J.move rfl rfl (J.ix rfl rfl rfl (J.eff (E.sc rfl rfl) rfl (J.nil (G.seq (G.region (J.move rfl rfl ?_))))))))
    refine J.assign rfl rfl (J.nil (G.ret (hR _) ?_))
    exact GL.done none rfl rfl hp rfl [0, 1] rfl (by decide) (by simp [inH])
  · simp only [gwV, gwH, gwP, List.cons_append, List.nil_append] at hp ⊢
    obtain ⟨p1, p2, p3⟩ := hp
    refine J.nc rfl rfl rfl (J.fieldAddr rfl rfl (J.eff (E.si rfl rfl rfl rfl) rfl (J.nil (G.prune [0, 1, 4, 5, 6] rfl (G.seq (G.region (J.move rfl rfl (J.move rfl rfl ?_))))))))
    refine J.nc rfl rfl rfl (J.fieldAddr rfl rfl (J.loadI rfl rfl rfl rfl (J.move rfl rfl (J.move rfl rfl ?_))))
    (first | refine J.addI rfl rfl rfl (by omega) ?_ | refine J.addZ rfl rfl rfl (by omega) (by omega) ?_)
    refine J.slH rfl rfl rfl (by omega) (J.nc rfl rfl rfl (J.fieldAddr rfl rfl (J.eff (E.si rfl rfl rfl rfl) rfl (J.nil (G.prune [0, 1, 4, 6] rfl (G.seq (G.region (J.move rfl rfl ?_))))))))
    refine J.nc rfl rfl rfl (J.fieldAddr rfl rfl (J.loadI rfl rfl rfl rfl (J.move rfl rfl (J.move rfl rfl (J.move rfl rfl ?_)))))
    (first | refine J.addI rfl rfl rfl (by omega) ?_ | refine J.addZ rfl rfl rfl (by omega) (by omega) ?_)
    refine J.move rfl rfl (J.move rfl rfl ?_)
    (first | refine J.addI rfl rfl rfl (by omega) ?_ | refine J.addZ rfl rfl rfl (by omega) (by omega) ?_)
    refine J.sl3 rfl rfl rfl rfl rfl (by omega) (by omega) (by omega) (by omega) (J.assign rfl rfl (J.nil (G.prune [1, 4, 7] rfl (G.seq (G.seq (G.region (J.move rfl rfl ?_)))))))
    (first | refine J.gtN rfl rfl rfl ?_ | refine J.gtZ rfl rfl rfl ?_)
    refine J.nil ?_
    rw [Nat.zero_add, Nat.add_sub_cancel_left]
    refine G.cT rfl (G.region (J.move rfl rfl (J.ix rfl rfl rfl (J.eff (E.sc rfl rfl) rfl (J.nil (G.seq (G.region (J.move rfl rfl ?_))))))))
    refine J.assign rfl rfl (J.nil (G.ret (hR _) ?_))
    have hl : (ws2.set L 1043915).length = ws2.length := List.length_set ..
    rw [← hl]
    exact GL.done (some (g, ws2.set L 1043915)) rfl rfl ⟨by simp only; omega, by simp only; omega, p3.set (by decide)⟩ rfl [1, 2, 0] rfl (by decide) (by simp [inH])
theorem snat_small {sb n : Nat} (h0 : 0 < n) (hn : n ≤ 4) : Spec (cx V) 159 #[.pointer (some ⟨sb, 0, none⟩), .int .i64 n] [] [⟨sb, 240, [.pointer none], false⟩]
    (fun p : Nat × Nat => .slice (some ⟨p.1, 0, none⟩) n (nw n p.2 11259375).length) (fun p => [⟨p.1, 162, cells .u64 (nw n p.2 11259375), true⟩]) (fun p => n + p.2 < 9223372036854775808) := by
  refine Spec.enter Tryz.func159 rfl Tryz.ntmps159 (by simp) [(0, .pointer (some ⟨sb, 0, none⟩)), (1, .int .i64 n)] (by simp) ?_
  intro X hR
  try simp only [apC, apN]
  refine G.seq (G.region (J.assign rfl rfl (J.nil (G.seq (G.region (J.move rfl rfl (J.nc rfl rfl rfl (J.fieldAddr rfl rfl ?_))))))))
  refine J.loadI rfl rfl rfl rfl (J.assign rfl rfl (J.nil (G.prune [0, 1, 4, 5] rfl (G.seq (G.seq (G.region (J.move rfl rfl (J.ptrNilE rfl rfl ?_))))))))
  refine J.nil (G.cT rfl (G.seq (G.seq (G.region (J.move rfl rfl ?_)))))
  (first | refine J.leN rfl rfl rfl ?_ | refine J.leZ rfl rfl rfl ?_)
  refine J.nil (G.cT rfl (G.seq (G.region (J.move rfl rfl (J.eff (E.callP (growNilN_spec (n := n) (by omega) (by omega)) [] [] rfl rfl rfl rfl rfl) rfl fun p hp => ?_)))))
  try simp only [apC, apN]
  obtain ⟨g, c⟩ := p
  simp only at hp ⊢
  have hl : (List.replicate (n + c) 0).length = n + c := List.length_replicate ..
  refine J.assign rfl rfl (J.nil (G.seq (G.region (J.move rfl rfl (J.move rfl rfl (J.slH rfl rfl rfl (by omega) (J.assign rfl rfl (J.nil ?_))))))))
  refine G.prune [0, 1, 4, 6] rfl (G.seq (G.seq (G.region (J.move rfl rfl ?_))))
  (first | refine J.gtN rfl rfl rfl ?_ | refine J.gtZ rfl rfl rfl ?_)
  refine J.nil (G.cT rfl (G.region (J.move rfl rfl (J.ix rfl rfl rfl (J.eff (E.sc rfl rfl) rfl (J.nil (G.seq (G.region ?_))))))))
  refine J.move rfl rfl (J.assign rfl rfl (J.nil (G.ret (hR _) ?_)))
  rw [Nat.zero_add, ← List.length_set (i := 0) (a := 11259375)]
  exact GL.done (g, c) rfl rfl hp rfl [0] rfl (by decide) (by simp)
theorem snat_new {sb n : Nat} (h0 : 4 < n) (hn : n ≤ 20) : Spec (cx V) 159 #[.pointer (some ⟨sb, 0, none⟩), .int .i64 n] [⟨sb, 240, [.pointer none], true⟩] []
    (fun p : Nat × Nat × Nat => .slice (some ⟨p.2.1, 0, none⟩) n n)
    (fun p => [⟨sb, 240, [.pointer (some ⟨p.1, 0, none⟩)], true⟩, ⟨p.1, 286, [.slice (some ⟨p.2.1, 0, none⟩) (r4 n) (nw (r4 n) p.2.2 1043915).length], true⟩, ⟨p.2.1, 162, cells .u64 (nw (r4 n) p.2.2 1043915), true⟩]) (fun p => r4 n + p.2.2 < 9223372036854775808) := by
  refine Spec.enter Tryz.func159 rfl Tryz.ntmps159 (by simp) [(0, .pointer (some ⟨sb, 0, none⟩)), (1, .int .i64 n)] (by simp) ?_
  intro X hR
  try simp only [apC, apN]
  refine G.seq (G.region (J.assign rfl rfl (J.nil (G.seq (G.region (J.move rfl rfl (J.nc rfl rfl rfl (J.fieldAddr rfl rfl ?_))))))))
  refine J.loadI rfl rfl rfl rfl (J.assign rfl rfl (J.nil (G.prune [0, 1, 4, 5] rfl (G.seq (G.seq (G.region (J.move rfl rfl (J.ptrNilE rfl rfl ?_))))))))
  refine J.nil (G.cT rfl (G.seq (G.seq (G.region (J.move rfl rfl ?_)))))
  (first | refine J.leN rfl rfl rfl ?_ | refine J.leZ rfl rfl rfl ?_)
  refine J.nil (G.cF rfl (G.skip (G.seq (G.region (J.eff (E.alloc rfl) rfl fun g25 => J.assign rfl rfl (J.nil (G.region ?_)))))))
  refine J.move rfl rfl (J.move rfl rfl (J.nc rfl rfl rfl (J.fieldAddr rfl rfl (J.eff (E.si rfl rfl rfl rfl) rfl (J.nil (G.prune [1, 4, 5] rfl (G.seq (G.region ?_))))))))
  refine J.move rfl rfl (J.move rfl rfl (J.eff (E.callP (inat_nil (n := n) (by omega) hn) [0] [] rfl rfl rfl rfl rfl) rfl fun p hp => ?_))
  try simp only [apC, apN]
  obtain ⟨g, c⟩ := p
  simp only at hp ⊢
  refine J.assign rfl rfl (J.nil (G.prune [4] rfl (G.ret (hR _) ?_)))
  exact GL.done (g25, g, c) rfl rfl hp rfl [2, 0, 1] rfl (by decide) (by simp)
theorem snat_some {sb ib wb L n : Nat} {ws : List Nat} (h0 : 0 < n) (hn : n ≤ 20) (hL : L ≤ 1000) (hL2 : L ≤ ws.length) (hc : ws.length < 9223372036854775808) (hw : Wd ws) :
    Spec (cx V) 159 #[.pointer (some ⟨sb, 0, none⟩), .int .i64 n] [⟨ib, 286, [.slice (some ⟨wb, 0, none⟩) L ws.length], true⟩, ⟨wb, 162, cells .u64 ws, true⟩] [⟨sb, 240, [.pointer (some ⟨ib, 0, none⟩)], false⟩] (inV wb L n) (inH ib wb L n ws) (gwP L (r4 n) ws) := by
  refine Spec.enter Tryz.func159 rfl Tryz.ntmps159 (by simp) [(0, .pointer (some ⟨sb, 0, none⟩)), (1, .int .i64 n)] (by simp) ?_
  intro X hR
  try simp only [apC, apN]
  refine G.seq (G.region (J.assign rfl rfl (J.nil (G.seq (G.region (J.move rfl rfl (J.nc rfl rfl rfl (J.fieldAddr rfl rfl ?_))))))))
  refine J.loadI rfl rfl rfl rfl (J.assign rfl rfl (J.nil (G.prune [0, 1, 4, 5] rfl (G.seq (G.seq (G.region (J.move rfl rfl (J.ptrNilE rfl rfl ?_))))))))
  refine J.nil (G.cF rfl (G.skip (G.seq (G.region (J.move rfl rfl (J.move rfl rfl (J.eff (E.callP (inat_some (n := n) (L := L) h0 hn hL hL2 hc hw) [0, 0] [] rfl rfl rfl rfl rfl) rfl fun p hp => ?_)))))))
  try simp only [apC, apN]
  rcases p with _ | ⟨g, ws2⟩
  · simp only [inV, inH, List.cons_append, List.nil_append]
    refine J.assign rfl rfl (J.nil (G.prune [4] rfl (G.ret (hR _) ?_)))
    exact GL.done none rfl rfl hp rfl [0, 1] rfl (by decide) (by simp [inH])
  · simp only [inV, inH, List.cons_append, List.nil_append]
    refine J.assign rfl rfl (J.nil (G.prune [4] rfl (G.ret (hR _) ?_)))
    exact GL.done (some (g, ws2)) rfl rfl hp rfl [0, 1, 2] rfl (by decide) (by simp [inH])
end
section
set_option maxRecDepth 100000
theorem kn_eq (B P q v1 v2 v' : Nat) : q * (v1 * (B * P) + v2 * P + v') = (q * v1) * (B * P) + (q * v2) * P + q * v' := by
  rw [Nat.mul_add, Nat.mul_add, Nat.mul_assoc, Nat.mul_assoc]
theorem kn_U (B P u0 u1 u2 u' : Nat) : u0 * (B * (B * P)) + u1 * (B * P) + u2 * P + u' = (u0 * B + u1) * (B * P) + u2 * P + u' := by
  rw [Nat.add_mul, Nat.mul_assoc]
theorem kn_start {B P v1 v2 v' u0 u1 u2 u' q r : Nat} (hP : 0 < P) (hu' : u' < P) (hu2 : u2 < B) (hq : q * v1 + r = u0 * B + u1) (hr : r < v1) :
    u0 * (B * (B * P)) + u1 * (B * P) + u2 * P + u' < (q + 1) * (v1 * (B * P) + v2 * P + v') := by
  rw [kn_U, kn_eq]
  have e1 : u0 * B + u1 + 1 ≤ (q + 1) * v1 := by rw [Nat.add_mul]; omega
  have e2 := Nat.mul_le_mul_right (B * P) e1
  rw [Nat.add_mul (u0 * B + u1)] at e2
  have e3 : (u2 + 1) * P ≤ B * P := Nat.mul_le_mul_right P hu2
  rw [Nat.add_mul] at e3
  omega
theorem kn_down {B P v1 v2 v' u0 u1 u2 u' q r : Nat} (hu' : u' < P) (hq : (q + 1) * v1 + r = u0 * B + u1) (hg : r * B + u2 < (q + 1) * v2) :
    u0 * (B * (B * P)) + u1 * (B * P) + u2 * P + u' < (q + 1) * (v1 * (B * P) + v2 * P + v') := by
  rw [kn_U, kn_eq, ← hq, Nat.add_mul ((q + 1) * v1)]
  have e2 := Nat.mul_le_mul_right P hg
  rw [Nat.succ_mul, Nat.add_mul, Nat.mul_assoc r] at e2
  omega
theorem kn_end {B P v1 v2 v' u0 u1 u2 u' q r : Nat} (hv' : v' < P) (hqB : q ≤ B) (hv1 : 0 < v1) (hq : q * v1 + r = u0 * B + u1) (hg : q * v2 ≤ r * B + u2) :
    q * (v1 * (B * P) + v2 * P + v') ≤ (u0 * (B * (B * P)) + u1 * (B * P) + u2 * P + u') + (v1 * (B * P) + v2 * P + v') := by
  rw [kn_U, kn_eq, ← hq, Nat.add_mul (q * v1)]
  have e2 := Nat.mul_le_mul_right P hg
  rw [Nat.add_mul, Nat.mul_assoc r] at e2
  have e3 : q * v' ≤ B * P := Nat.mul_le_mul hqB (Nat.le_of_lt hv')
  have e4 : 1 * (B * P) ≤ v1 * (B * P) := Nat.mul_le_mul_right _ hv1
  omega
theorem kn_end' {B P v1 v2 v' u0 u1 u2 u' : Nat} (hB : 0 < B) (hv' : v' < P) (hv2 : v2 < B) (hv1 : B ≤ 2 * v1) (hu : v1 ≤ u0) :
    (B - 1) * (v1 * (B * P) + v2 * P + v') ≤ (u0 * (B * (B * P)) + u1 * (B * P) + u2 * P + u') + (v1 * (B * P) + v2 * P + v') := by
  have a1 : v2 * P + v' ≤ B * P := by
    have := Nat.mul_le_mul_right P (Nat.succ_le_of_lt hv2)
    rw [Nat.succ_mul] at this; omega
  have a2 := Nat.mul_le_mul_left B a1
  have a3 : v1 * (B * (B * P)) ≤ u0 * (B * (B * P)) := Nat.mul_le_mul_right _ hu
  have a4 := Nat.mul_le_mul_right (B * P) hv1
  have a5 : 2 * v1 * (B * P) = v1 * (B * P) + v1 * (B * P) := by rw [Nat.mul_assoc, Nat.two_mul]
  have a6 : B * (v1 * (B * P) + v2 * P + v') = v1 * (B * (B * P)) + B * (v2 * P + v') := by
    rw [Nat.add_assoc, Nat.mul_add, Nat.mul_left_comm]
  rw [Nat.sub_mul, Nat.one_mul, a6]
  omega
theorem kn_sub {U V Q d c W : Nat} (h1 : d + Q = U + c * W) (hc : c ≤ 1) (hd : d < W) (hU : U < W) (hQ : Q ≤ U + V) (q : Nat) (hq : Q = q * V) (hlt : U < (q + 1) * V) :
    (c = 0 → q * V + d = U ∧ d < V) ∧ (c = 1 → 0 < q ∧ (q - 1) * V + (d + V - W) = U ∧ W ≤ d + V ∧ d + V - W < V) := by
  rw [Nat.add_mul] at hlt
  subst hq
  refine ⟨fun h => ?_, fun h => ?_⟩
  · subst h; omega
  · subst h
    rcases Nat.eq_zero_or_pos q with h0 | h0
    · subst h0; omega
    · obtain ⟨p, rfl⟩ : ∃ p, q = p + 1 := ⟨q - 1, by omega⟩
      rw [Nat.add_sub_cancel]
      rw [Nat.add_mul] at *
      omega
theorem rv_top2 (xs : List Nat) (o m : Nat) : rv xs o (m + 2) = xs.getD (o + (m + 1)) 0 * (18446744073709551616 * 18446744073709551616 ^ m) + xs.getD (o + m) 0 * 18446744073709551616 ^ m + rv xs o m := by
  rw [rv_succ, rv_succ, Nat.pow_succ, Nat.mul_comm (18446744073709551616 ^ m) 18446744073709551616]
  omega
theorem rv_top3 (xs : List Nat) (o m : Nat) : rv xs o (m + 3) = xs.getD (o + (m + 2)) 0 * (18446744073709551616 * (18446744073709551616 * 18446744073709551616 ^ m)) + xs.getD (o + (m + 1)) 0 * (18446744073709551616 * 18446744073709551616 ^ m) + xs.getD (o + m) 0 * 18446744073709551616 ^ m + rv xs o m := by
  rw [rv_succ, rv_top2, Nat.pow_succ, Nat.pow_succ, Nat.mul_comm (18446744073709551616 ^ m) 18446744073709551616, Nat.mul_comm (18446744073709551616 * 18446744073709551616 ^ m) 18446744073709551616]
  omega
structure GS (U V q : Nat) : Prop where
  b : q < 18446744073709551616
  lo : U < (q + 1) * V
  hi : q * V ≤ U + V
structure Dvs (vs : List Nat) (m : Nat) : Prop where
  wd : Wd vs
  top : 9223372036854775808 ≤ vs.getD (m + 1) 0
theorem Dvs.pos {vs : List Nat} {m : Nat} (h : Dvs vs m) : 18446744073709551616 ^ (m + 1) ≤ rv vs 0 (m + 2) := by
  rw [rv_top2, Nat.zero_add, Nat.pow_succ, Nat.mul_comm (18446744073709551616 ^ m) 18446744073709551616]
  have := Nat.mul_le_mul_right (18446744073709551616 * 18446744073709551616 ^ m) (Nat.le_trans (show 1 ≤ 9223372036854775808 by decide) h.top)
  omega
structure G2 (ws vs : List Nat) (j m q r x1 x2 : Nat) : Prop where
  ex : x1 * 18446744073709551616 + x2 = q * vs.getD m 0
  lx : x2 < 18446744073709551616
  er : q * vs.getD (m + 1) 0 + r = ws.getD (j + (m + 2)) 0 * 18446744073709551616 + ws.getD (j + (m + 1)) 0
  lr : r < 18446744073709551616
  lq : q < 18446744073709551616
  lo : rv ws j (m + 3) < (q + 1) * rv vs 0 (m + 2)
theorem G2.start {ws vs : List Nat} {j m q r x1 x2 : Nat} (hv : Dvs vs m) (hw : Wd ws) (hlt : ws.getD (j + (m + 2)) 0 < vs.getD (m + 1) 0)
    (hq : q = (ws.getD (j + (m + 2)) 0 * 18446744073709551616 + ws.getD (j + (m + 1)) 0) / vs.getD (m + 1) 0) (hr : r = (ws.getD (j + (m + 2)) 0 * 18446744073709551616 + ws.getD (j + (m + 1)) 0) % vs.getD (m + 1) 0)
    (h1 : x1 = q * vs.getD m 0 / 18446744073709551616) (h2 : x2 = q * vs.getD m 0 % 18446744073709551616) : G2 ws vs j m q r x1 x2 := by
  have hv1 := hv.top
  have hvl : vs.getD (m + 1) 0 < _ := hv.wd (m + 1)
  have w1 : ws.getD (j + (m + 1)) 0 < _ := hw (j + (m + 1))
  have e : q * vs.getD (m + 1) 0 + r = ws.getD (j + (m + 2)) 0 * 18446744073709551616 + ws.getD (j + (m + 1)) 0 := by
    rw [hq, hr, Nat.mul_comm]; exact Nat.div_add_mod _ _
  have hrl : r < vs.getD (m + 1) 0 := by rw [hr]; exact Nat.mod_lt _ (by omega)
  refine ⟨?_, by rw [h2]; exact Nat.mod_lt _ (by decide), e, by omega, ?_, ?_⟩
  · rw [h1, h2, Nat.mul_comm _ 18446744073709551616]; exact Nat.div_add_mod _ _
  · rw [hq]
    refine (Nat.div_lt_iff_lt_mul (by omega)).2 ?_
    have := Nat.mul_le_mul_right 18446744073709551616 (Nat.succ_le_of_lt hlt)
    rw [Nat.succ_mul, Nat.mul_comm (vs.getD (m + 1) 0)] at this
    omega
  · rw [rv_top3, rv_top2, Nat.zero_add, Nat.zero_add]
    exact kn_start (Nat.pow_pos (by decide)) (rv_lt hw j m) (hw _) e hrl
theorem G2.gs {ws vs : List Nat} {j m q r x1 x2 : Nat} (h : G2 ws vs j m q r x1 x2) (hv : Dvs vs m) (hg : q * vs.getD m 0 ≤ r * 18446744073709551616 + ws.getD (j + m) 0) : GS (rv ws j (m + 3)) (rv vs 0 (m + 2)) q := by
  refine ⟨h.lq, h.lo, ?_⟩
  rw [rv_top3, rv_top2, Nat.zero_add, Nat.zero_add]
  exact kn_end (rv_lt hv.wd 0 m) (Nat.le_of_lt h.lq) (by have := hv.top; omega) h.er hg
theorem sub2 {x1 x2 v t : Nat} (h : x1 * 18446744073709551616 + x2 = t + v) (hx : x2 < 18446744073709551616) (hv : v < 18446744073709551616) :
    (if x2 < v then x1 - 1 else x1) * 18446744073709551616 + (if x2 < v then x2 + 18446744073709551616 - v else x2 - v) = t ∧ (if x2 < v then x2 + 18446744073709551616 - v else x2 - v) < 18446744073709551616 := by
  by_cases h1 : x2 < v
  · rw [if_pos h1, if_pos h1]
    obtain ⟨y, rfl⟩ : ∃ y, x1 = y + 1 := ⟨x1 - 1, by omega⟩
    rw [Nat.add_sub_cancel]
    omega
  · rw [if_neg h1, if_neg h1]; omega
theorem G2.down {ws vs : List Nat} {j m q r x1 x2 : Nat} (h : G2 ws vs j m q r x1 x2) (hv : Dvs vs m) (hw : Wd ws) (hg : r * 18446744073709551616 + ws.getD (j + m) 0 < q * vs.getD m 0) :
    0 < q ∧ (18446744073709551616 ≤ r + vs.getD (m + 1) 0 → GS (rv ws j (m + 3)) (rv vs 0 (m + 2)) (q - 1)) ∧
    (r + vs.getD (m + 1) 0 < 18446744073709551616 → G2 ws vs j m (q - 1) (r + vs.getD (m + 1) 0) (if x2 < vs.getD m 0 then x1 - 1 else x1) (if x2 < vs.getD m 0 then x2 + 18446744073709551616 - vs.getD m 0 else x2 - vs.getD m 0)) := by
  have hq0 : 0 < q := by
    rcases Nat.eq_zero_or_pos q with e | e
    · subst e; rw [Nat.zero_mul] at hg; omega
    · exact e
  obtain ⟨p, rfl⟩ : ∃ p, q = p + 1 := ⟨q - 1, by omega⟩
  have e := h.er
  have hx := h.ex
  have hq := h.lq
  have hx2 := h.lx
  have hv2 : vs.getD m 0 < _ := hv.wd m
  have lo : rv ws j (m + 3) < (p + 1) * rv vs 0 (m + 2) := by
    rw [rv_top3, rv_top2, Nat.zero_add, Nat.zero_add]
    exact kn_down (rv_lt hw j m) e hg
  have e' : p * vs.getD (m + 1) 0 + (r + vs.getD (m + 1) 0) = ws.getD (j + (m + 2)) 0 * 18446744073709551616 + ws.getD (j + (m + 1)) 0 := by
    rw [← e, Nat.succ_mul]; omega
  refine ⟨hq0, fun ho => ?_, fun ho => ?_⟩
  · refine ⟨by omega, by rw [Nat.add_sub_cancel]; exact lo, ?_⟩
    rw [Nat.add_sub_cancel, rv_top3, rv_top2, Nat.zero_add, Nat.zero_add]
    refine kn_end (r := r + vs.getD (m + 1) 0) (rv_lt hv.wd 0 m) (by omega) (by have := hv.top; omega) e' ?_
    have h1 : p * vs.getD m 0 ≤ 18446744073709551616 * 18446744073709551616 := Nat.mul_le_mul (by omega) (Nat.le_of_lt hv2)
    have h2 := Nat.mul_le_mul_right 18446744073709551616 ho
    omega
  · rw [Nat.succ_mul] at hx
    obtain ⟨k1, k2⟩ := sub2 hx hx2 hv2
    exact ⟨by rw [Nat.add_sub_cancel]; exact k1, k2, by rw [Nat.add_sub_cancel]; exact e', ho, by omega, by rw [Nat.add_sub_cancel]; exact lo⟩
theorem GS.max {ws vs : List Nat} {j m : Nat} (hv : Dvs vs m) (hw : Wd ws) (h : rv ws (j + 1) (m + 2) < rv vs 0 (m + 2)) (he : ws.getD (j + (m + 2)) 0 = vs.getD (m + 1) 0) : GS (rv ws j (m + 3)) (rv vs 0 (m + 2)) 18446744073709551615 := by
  have hU : rv ws j (m + 3) < rv vs 0 (m + 2) * 18446744073709551616 := by
    rw [rv_head, Nat.mul_comm (rv vs 0 (m + 2))]
    have := hw j
    omega
  refine ⟨by decide, by rw [Nat.mul_comm]; exact hU, ?_⟩
  rw [rv_top3, rv_top2, Nat.zero_add, Nat.zero_add]
  exact kn_end' (by decide) (rv_lt hv.wd 0 m) (hv.wd _) (by have := hv.top; omega) (by omega)
theorem top_le {ws vs : List Nat} {j m : Nat} (hv : Dvs vs m) (h : rv ws (j + 1) (m + 2) < rv vs 0 (m + 2)) : ws.getD (j + (m + 2)) 0 ≤ vs.getD (m + 1) 0 := by
  rw [rv_succ, rv_succ vs, show j + 1 + (m + 1) = j + (m + 2) by omega, Nat.zero_add] at h
  rcases Nat.lt_or_ge (vs.getD (m + 1) 0) (ws.getD (j + (m + 2)) 0) with e | e
  · have h1 := Nat.mul_le_mul_right (18446744073709551616 ^ (m + 1)) (Nat.succ_le_of_lt e)
    have h2 := rv_lt hv.wd 0 (m + 1)
    rw [Nat.succ_mul] at h1
    omega
  · exact e
end
section
set_option maxRecDepth 100000
structure DI (U0 : Nat) (vs ws qs : List Nat) (T m i : Nat) : Prop where
  w : Wd ws
  q : Wd qs
  lt : rv ws i (m + 2) < rv vs 0 (m + 2)
  e : rv qs i (T - i) * rv vs 0 (m + 2) * 18446744073709551616 ^ i + rv ws 0 (i + (m + 2)) = U0
theorem DI.core {U0 : Nat} {vs ws qs ws' : List Nat} {T m k q d : Nat} (h : DI U0 vs ws qs T m (k + 1)) (hk : k + 1 ≤ T) (hd : rv ws' k (m + 2) = d) (he : q * rv vs 0 (m + 2) + d = rv ws k (m + 3)) (hlt : d < rv vs 0 (m + 2))
    (hlow : ∀ j, j < k → ws'.getD j 0 = ws.getD j 0) (hw : Wd ws') (hq : q < 18446744073709551616) (hl : k < qs.length) : DI U0 vs ws' (qs.set k q) T m k := by
  refine ⟨hw, h.q.set hq, by rw [hd]; exact hlt, ?_⟩
  have e := h.e
  have e1 : rv (qs.set k q) k (T - k) = q + 18446744073709551616 * rv qs (k + 1) (T - (k + 1)) := by
    rw [show T - k = (T - (k + 1)) + 1 by omega, rv_head, getD_set_eq hl, rv_set (by omega)]
  have e2 : rv ws' 0 (k + (m + 2)) = rv ws 0 k + 18446744073709551616 ^ k * d := by
    rw [rv_split, Nat.zero_add, hd, rv_congr (xs := ws') (ys := ws) (o := 0) (o' := 0) (n := k) fun j hj => by rw [Nat.zero_add]; exact hlow j hj]
  have e3 : rv ws 0 (k + 1 + (m + 2)) = rv ws 0 k + 18446744073709551616 ^ k * (q * rv vs 0 (m + 2) + d) := by
    rw [show k + 1 + (m + 2) = k + (m + 3) by omega, rv_split, Nat.zero_add, he]
  rw [e3, Nat.pow_succ] at e
  rw [e1, e2, ← e]
  generalize rv qs (k + 1) (T - (k + 1)) = R
  generalize rv vs 0 (m + 2) = V
  generalize 18446744073709551616 ^ k = P
  rw [Nat.add_mul, Nat.add_mul, Nat.mul_add]
  have a1 : 18446744073709551616 * R * V * P = R * V * (P * 18446744073709551616) := by
    simp only [Nat.mul_comm, Nat.mul_left_comm, Nat.mul_assoc]
  have a2 : q * V * P = P * (q * V) := Nat.mul_comm _ _
  omega
theorem DI.sub {U0 : Nat} {vs ws qs ws' hs : List Nat} {T m k q oh : Nat} (h : DI U0 vs ws qs T m (k + 1)) (hk : k + 1 ≤ T) (hv : Dvs vs m) (g : GS (rv ws k (m + 3)) (rv vs 0 (m + 2)) q) (hs' : SV ws hs k oh (m + 3) 0 ws')
    (hq : rv hs oh (m + 3) = q * rv vs 0 (m + 2)) (hl : k < qs.length) : DI U0 vs ws' (qs.set k q) T m k := by
  have e := hs'.e
  rw [hq] at e
  obtain ⟨k1, -⟩ := kn_sub (d := rv ws' k (m + 3)) (c := 0) e (by decide) (rv_lt hs'.w.wd k (m + 3)) (rv_lt h.w k (m + 3)) g.hi q rfl g.lo
  obtain ⟨k2, k3⟩ := k1 rfl
  have ht : rv ws' k (m + 3) = rv ws' k (m + 2) + ws'.getD (k + (m + 2)) 0 * 18446744073709551616 ^ (m + 2) := rv_succ ws' k (m + 2)
  have hV := rv_lt hv.wd 0 (m + 2)
  have h0 : ws'.getD (k + (m + 2)) 0 = 0 := by
    rcases Nat.eq_zero_or_pos (ws'.getD (k + (m + 2)) 0) with e | e
    · exact e
    · exfalso
      have h1 : 1 * 18446744073709551616 ^ (m + 2) ≤ ws'.getD (k + (m + 2)) 0 * 18446744073709551616 ^ (m + 2) := Nat.mul_le_mul_right _ e
      rw [Nat.one_mul] at h1
      omega
  rw [h0, Nat.zero_mul] at ht
  have ht' : rv ws' k (m + 2) = rv ws' k (m + 3) := by omega
  exact h.core hk rfl (by rw [ht']; exact k2) (by rw [ht']; exact k3) (fun j hj => hs'.w.out j (by omega)) hs'.w.wd g.b hl
theorem DI.add {U0 : Nat} {vs ws qs ws' ws2 hs : List Nat} {T m k q oh c2 : Nat} (h : DI U0 vs ws qs T m (k + 1)) (hk : k + 1 ≤ T) (hv : Dvs vs m) (g : GS (rv ws k (m + 3)) (rv vs 0 (m + 2)) q) (hs' : SV ws hs k oh (m + 3) 1 ws')
    (hq : rv hs oh (m + 3) = q * rv vs 0 (m + 2)) (ha : AV ws' vs k 0 (m + 2) c2 ws2) (hl : k < qs.length) (x : Nat) (hx : x < 18446744073709551616) : 0 < q ∧ DI U0 vs (ws2.set (k + (m + 2)) x) (qs.set k (q - 1)) T m k := by
  have e := hs'.e
  rw [hq] at e
  obtain ⟨-, k1⟩ := kn_sub (d := rv ws' k (m + 3)) (c := 1) e (by decide) (rv_lt hs'.w.wd k (m + 3)) (rv_lt h.w k (m + 3)) g.hi q rfl g.lo
  obtain ⟨k2, k3, k4, k5⟩ := k1 rfl
  have ht : rv ws' k (m + 3) = rv ws' k (m + 2) + ws'.getD (k + (m + 2)) 0 * 18446744073709551616 ^ (m + 2) := rv_succ ws' k (m + 2)
  have hV := rv_lt hv.wd 0 (m + 2)
  have ea := ha.e
  have hX := rv_lt ha.w.wd k (m + 2)
  have e3 : rv ws2 k (m + 2) = rv ws' k (m + 3) + rv vs 0 (m + 2) - 18446744073709551616 ^ (m + 3) := by
    have e4 : 18446744073709551616 ^ (m + 3) = 18446744073709551616 * 18446744073709551616 ^ (m + 2) := by rw [Nat.pow_succ, Nat.mul_comm]
    have e5 : rv ws2 k (m + 2) + (c2 + ws'.getD (k + (m + 2)) 0) * 18446744073709551616 ^ (m + 2) = rv ws' k (m + 3) + rv vs 0 (m + 2) := by
      rw [Nat.add_mul, ht]; omega
    rw [e4] at k4 k5 ⊢
    generalize rv ws2 k (m + 2) = X at *
    generalize c2 + ws'.getD (k + (m + 2)) 0 = t at *
    generalize rv ws' k (m + 3) + rv vs 0 (m + 2) = D at *
    generalize 18446744073709551616 ^ (m + 2) = P at *
    have : t = 18446744073709551616 := by
      rcases Nat.lt_trichotomy t 18446744073709551616 with e | e | e
      · have := Nat.mul_le_mul_right P (Nat.succ_le_of_lt e)
        rw [Nat.succ_mul] at this
        omega
      · exact e
      · have := Nat.mul_le_mul_right P (Nat.succ_le_of_lt e)
        rw [Nat.succ_mul] at this
        omega
    subst this
    omega
  refine ⟨k2, h.core hk (by rw [rv_set (by omega), e3]) k3 k5 (fun j hj => ?_) (ha.w.wd.set hx) (by have := g.b; omega) hl⟩
  rw [getD_set_ne (by omega), ha.w.out j (by omega)]
  exact hs'.w.out j (by omega)
theorem DI.fin {U0 : Nat} {vs ws qs : List Nat} {T m : Nat} (h : DI U0 vs ws qs T m 0) : rv qs 0 T * rv vs 0 (m + 2) + rv ws 0 (m + 2) = U0 := by
  have e := h.e
  rw [Nat.sub_zero, Nat.pow_zero, Nat.mul_one, Nat.zero_add] at e
  exact e
end
section
set_option maxRecDepth 100000
set_option pp.deepTerms false
set_option maxHeartbeats 2000000
variable {V : Addr}
theorem gt_spec {x1 x2 y1 y2 : Nat} (h2 : x2 < 18446744073709551616) (h4 : y2 < 18446744073709551616) : Spec (cx V) 253 #[.int .u64 x1, .int .u64 x2, .int .u64 y1, .int .u64 y2] [] []
    (fun _ : Unit => .bool (decide (y1 * 18446744073709551616 + y2 < x1 * 18446744073709551616 + x2))) (fun _ => []) (fun _ => True) := by
  refine Spec.enter Tryz.func253 rfl Tryz.ntmps253 (by simp) [(0, .int .u64 x1), (1, .int .u64 x2), (2, .int .u64 y1), (3, .int .u64 y2)] (by simp) ?_
  intro X hR
  try simp only [apC, apN]
  refine G.seq (G.region (J.assign rfl rfl (J.nil (G.seq (G.region (J.move rfl rfl (J.move rfl rfl ?_)))))))
  (first | refine J.gtN rfl rfl rfl ?_ | refine J.gtZ rfl rfl rfl ?_)
  refine J.move rfl rfl ?_
  by_cases h : y1 < x1
  · skip
    refine J.sk rfl rfl rfl rfl (J.sk rfl rfl rfl rfl (J.sk rfl rfl rfl rfl (J.sk rfl rfl rfl rfl (J.skipU rfl rfl rfl rfl (J.skipU rfl rfl rfl rfl (J.skipU rfl rfl rfl rfl (J.sk rfl rfl rfl rfl (J.pT rfl rfl rfl ?_))))))))
    refine J.assign rfl rfl (J.nil (G.prune [8] rfl (G.ret (hR _) ?_)))
    exact GL.done () rfl rfl trivial (by show Value.bool (decide _) = Value.bool true; rw [decide_eq_true (by omega)]) [] rfl (by decide) (by simp)
  · by_cases h1 : x1 = y1
    · skip
      refine J.wF rfl rfl (J.move rfl rfl (J.wF rfl rfl (J.move rfl rfl (J.wF rfl rfl ?_))))
      (first | refine J.eqN rfl rfl rfl ?_ | refine J.eqZ rfl rfl rfl ?_)
      refine J.wF rfl rfl (J.move rfl rfl (J.wT rfl rfl (J.move rfl rfl (J.wT rfl rfl (J.move rfl rfl (J.wT rfl rfl ?_))))))
      (first | refine J.gtN rfl rfl rfl ?_ | refine J.gtZ rfl rfl rfl ?_)
      refine J.wF rfl rfl (J.pT rfl rfl rfl (J.pF rfl rfl rfl (J.assign rfl rfl (J.nil (G.prune [8] rfl (G.ret (hR _) ?_))))))
      exact GL.done () rfl rfl trivial (by show Value.bool (decide _) = Value.bool (decide (y2 < x2)); congr 1; exact decide_eq_decide.2 (by omega)) [] rfl (by decide) (by simp)
    · skip
      refine J.wF rfl rfl (J.move rfl rfl (J.wF rfl rfl (J.move rfl rfl (J.wF rfl rfl ?_))))
      (first | refine J.eqN rfl rfl rfl ?_ | refine J.eqZ rfl rfl rfl ?_)
      refine J.wF rfl rfl (J.move rfl rfl (J.sk rfl rfl rfl rfl (J.sk rfl rfl rfl rfl (J.sk rfl rfl rfl rfl (J.wF rfl rfl (J.pF rfl rfl rfl (J.pF rfl rfl rfl (J.assign rfl rfl ?_))))))))
      refine J.nil (G.prune [8] rfl (G.ret (hR _) ?_))
      exact GL.done () rfl rfl trivial (by show Value.bool (decide _) = Value.bool false; rw [decide_eq_false (by omega)]) [] rfl (by decide) (by simp)
theorem DI.start {vs us us1 qs hs : List Nat} {T m oh c : Nat} (hv : Dvs vs m) (hw : Wd us) (hq : Wd qs) (h0 : us.getD (T + (m + 1)) 0 = 0) (hs' : SV us hs T oh (m + 2) c us1) (hh : rv hs oh (m + 2) = 0) :
    c = 0 ∧ DI (rv us 0 (T + (m + 2))) vs us1 qs T m T := by
  have e := hs'.e
  have l1 := rv_lt hs'.w.wd T (m + 2)
  have hc := hs'.lt
  have hc0 : c = 0 := by
    rcases Nat.eq_zero_or_pos c with e' | e'
    · exact e'
    · exfalso
      obtain rfl : c = 1 := by omega
      rw [hh] at e
      omega
  subst hc0
  refine ⟨rfl, hs'.w.wd, hq, ?_, ?_⟩
  · have e1 : rv us T (m + 2) = rv us T (m + 1) + us.getD (T + (m + 1)) 0 * 18446744073709551616 ^ (m + 1) := rv_succ us T (m + 1)
    rw [h0, Nat.zero_mul] at e1
    have := rv_lt hw T (m + 1)
    have := hv.pos
    omega
  · rw [Nat.sub_self, rv_split us1 0 T, rv_split us 0 T, rv_congr (xs := us1) (ys := us) (o := 0) (o' := 0) (n := T) fun j hj => hs'.w.out _ (by omega), Nat.zero_add, show rv us1 T (m + 2) = rv us T (m + 2) by rw [hh] at e; omega]
    simp [rv]
theorem MA.hat {hs0 vs hs : List Nat} {oh m q c : Nat} (h : MA hs0 vs oh 0 q 0 (m + 2) c hs) (hl : oh + (m + 3) ≤ hs0.length) : rv (hs.set (oh + (m + 2)) c) oh (m + 3) = q * rv vs 0 (m + 2) := by
  have e := h.e
  have hlen := h.w.len
  rw [show m + 3 = (m + 2) + 1 from rfl, rv_put (by omega), e, Nat.add_zero, Nat.mul_comm]
theorem MA.zero {hs0 vs hs : List Nat} {oh m c : Nat} (h : MA hs0 vs oh 0 0 0 (m + 2) c hs) (hl : oh + (m + 3) ≤ hs0.length) : c = 0 ∧ rv (hs.set (oh + (m + 2)) c) oh (m + 2) = 0 := by
  have e := h.e
  rw [Nat.mul_zero] at e
  have hp : 0 < 18446744073709551616 ^ (m + 2) := Nat.pow_pos (by decide)
  have hc : c = 0 := by
    rcases Nat.eq_zero_or_pos c with e' | e'
    · exact e'
    · exfalso
      have h1 : 1 * 18446744073709551616 ^ (m + 2) ≤ c * 18446744073709551616 ^ (m + 2) := Nat.mul_le_mul_right _ e'
      omega
  exact ⟨hc, by rw [rv_set (by omega)]; omega⟩
theorem MA.conv {zs0 xs0 ys0 zs : List Nat} {oz ox y r i c : Nat} (h : MA zs0 xs0 oz ox y r i c zs) (e : ∀ j, j < i → xs0.getD (ox + j) 0 = ys0.getD (ox + j) 0) : MA zs0 ys0 oz ox y r i c zs :=
  ⟨h.w, h.lt, by rw [h.e, rv_congr e]⟩
theorem AV.conv {zs0 ys0 ys1 zs : List Nat} {oz oy i c : Nat} (h : AV zs0 ys0 oz oy i c zs) (e : ∀ j, j < i → ys0.getD (oy + j) 0 = ys1.getD (oy + j) 0) : AV zs0 ys1 oz oy i c zs :=
  ⟨h.w, h.lt, by rw [h.e, rv_congr e]⟩
theorem divBasicA {qb ub vb sb T m cq cv  : Nat} {us qs vs : List Nat} (hv : Dvs vs m) (hvl : m + 2 ≤ vs.length) (hu : Wd us) (hul : T + (m + 2) ≤ us.length) (huc : us.length < 9223372036854775808) (hq : Wd qs) (hql : T ≤ qs.length) (hT : 0 < T) (hT9 : T ≤ 100) (hm9 : m ≤ 10) (h0 : us.getD (T + (m + 1)) 0 = 0) (hm1 : m ≤ 1) :
    Spec (cx V) 230 #[.slice (some ⟨qb, 0, none⟩) T cq, .pointer (some ⟨sb, 0, none⟩), .slice (some ⟨ub, 0, none⟩) (T + (m + 2)) us.length, .slice (some ⟨vb, 0, none⟩) (m + 2) cv] [⟨qb, 162, cells .u64 qs, true⟩, ⟨ub, 162, cells .u64 us, true⟩] [⟨vb, 162, cells .u64 vs, false⟩, ⟨sb, 240, [.pointer none], false⟩]
      (fun _ : List Nat × List Nat => .tuple #[]) (fun p => [⟨qb, 162, cells .u64 p.1, true⟩, ⟨ub, 162, cells .u64 p.2, true⟩]) (fun p => DI (rv us 0 (T + (m + 2))) vs p.2 p.1 T m 0 ∧ p.1.length = qs.length ∧ p.2.length = us.length) := by
  have hv1 := hv.top
  have hvw := hv.wd (0 + (m + 1))
  have hvw2 := hv.wd (0 + m)
  have hul2 := hul
  refine Spec.enter Tryz.func230 rfl Tryz.ntmps230 (by simp) [(0, .slice (some ⟨qb, 0, none⟩) T cq), (1, .pointer (some ⟨sb, 0, none⟩)), (2, .slice (some ⟨ub, 0, none⟩) (T + (m + 2)) us.length), (3, .slice (some ⟨vb, 0, none⟩) (m + 2) cv)] (by simp) ?_
  intro X hR
  try simp only [apC, apN]
  refine G.seq (G.region (J.move rfl rfl (J.lenS rfl rfl (J.assign rfl rfl (J.nil (G.seq (G.region (J.move rfl rfl ?_))))))))
  refine J.lenS rfl rfl (J.move rfl rfl ?_)
  (first | refine J.subI rfl rfl rfl (by omega) (by omega) ?_ | refine J.subZ rfl rfl rfl (by omega) (by omega) ?_)
  refine J.assign rfl rfl (J.nil (G.prune [0, 1, 2, 3, 8, 9, 15, 16, 17, 18, 19, 20, 21, 22, 23] rfl (G.seq (G.region (J.move rfl rfl (J.move rfl rfl ?_))))))
  rw [Nat.add_sub_cancel]
  refine J.eff (E.callP (save_nil) [] [3] rfl rfl rfl rfl rfl) rfl fun _ _ => ?_
  try simp only [apC, apN]
  refine J.eff (E.defer rfl) rfl (J.nil (G.prune [0, 1, 2, 3, 8, 9, 15, 16, 17, 18, 19, 20, 21, 22, 23] rfl (G.seq (G.region (J.move rfl rfl (J.move rfl rfl ?_))))))
  (first | refine J.addI rfl rfl rfl (by omega) ?_ | refine J.addZ rfl rfl rfl (by omega) (by omega) ?_)
  refine J.eff (E.callP (snat_small (n := m + 2 + 1) (by omega) (by omega)) [] [3] rfl rfl rfl rfl rfl) rfl fun p hp => ?_
  try simp only [apC, apN]
  obtain ⟨hb, c⟩ := p
  simp only at hp ⊢
  have hhl : (nw (m + 2 + 1) c 11259375).length = m + 2 + 1 + c := nw_len ..
  have hhw : Wd (nw (m + 2 + 1) c 11259375) := nw_wd (by decide)
  generalize nw (m + 2 + 1) c 11259375 = hs at *
  have hh1 : 0 + (m + 3) ≤ hs.length := by omega
  have hh2 : hs.length < 9223372036854775808 := by omega
  refine J.assign rfl rfl (J.nil (G.prune [0, 1, 2, 3, 8, 9, 10, 15, 16, 17, 18, 19, 20, 21, 22, 23] rfl (G.seq (G.region (J.move rfl rfl (J.move rfl rfl ?_))))))
  (first | refine J.subI rfl rfl rfl (by omega) (by omega) ?_ | refine J.subZ rfl rfl rfl (by omega) (by omega) ?_)
  refine J.ix rfl rfl rfl (J.lc rfl rfl rfl (J.assign rfl rfl (J.nil (G.prune [0, 1, 2, 3, 8, 9, 10, 11, 15, 16, 17, 18, 19, 20, 21, 22, 23] rfl (G.seq (G.region (J.move rfl rfl ?_)))))))
  rw [show m + 2 - 1 = m + 1 from rfl]
  refine J.eff (E.callP (recip_spec (d := vs.getD (0 + (m + 1)) 0) (by rw [Nat.zero_add]; omega) hvw) [] [] rfl rfl rfl rfl rfl) rfl fun _ _ => ?_
  try simp only [apC, apN]
  refine J.assign rfl rfl (J.nil (G.seq (G.region (J.assign rfl rfl (J.nil (G.seq (G.region (J.move rfl rfl ?_))))))))
  refine J.assign rfl rfl (J.nil (G.block ?_))
  rw [Nat.zero_add] at hvw hvw2 ⊢
  refine G.loop1 (G.seq (G.seq (G.region (J.move rfl rfl ?_))))
  (first | refine J.geN rfl rfl rfl ?_ | refine J.geZ rfl rfl rfl ?_)
  refine J.nil (G.cT rfl (G.skip (G.seq (G.block (G.seq (G.region (J.assign rfl rfl (J.nil ?_))))))))
  refine G.seq (G.seq (G.region (J.move rfl rfl (J.move rfl rfl ?_))))
  (first | refine J.neN rfl rfl rfl ?_ | refine J.neZ rfl rfl rfl ?_)
  refine J.nil (G.cT rfl (G.seq (G.region (J.assign rfl rfl (J.nil (G.seq (G.region (J.move rfl rfl ?_))))))))
  refine J.move rfl rfl (J.move rfl rfl (J.move rfl rfl ?_))
  (first | refine J.addI rfl rfl rfl (by omega) ?_ | refine J.addZ rfl rfl rfl (by omega) (by omega) ?_)
  (first | refine J.subI rfl rfl rfl (by omega) (by omega) ?_ | refine J.subZ rfl rfl rfl (by omega) (by omega) ?_)
  refine J.ix rfl rfl rfl (J.lc rfl rfl rfl (J.move rfl rfl (J.move rfl rfl ?_)))
  rw [show T + (m + 2) - 1 = T + (m + 1) from rfl, Nat.zero_add, h0]
  refine J.eff (E.callP (divWW_spec (x1 := 0) (x0 := 0) (y := vs.getD (m + 1) 0) (m := recip (vs.getD (m + 1) 0)) (by omega) (by decide) hvw rfl) [] [] rfl rfl rfl rfl rfl) rfl fun _ _ => ?_
  try simp only [apC, apN]
  refine J.move rfl rfl (J.extractL rfl rfl rfl (J.extractL rfl rfl rfl (J.assign rfl rfl (J.assign rfl rfl (J.nil (G.prune [0, 1, 2, 3, 8, 9, 10, 11, 12, 13, 14, 15, 16, 21, 22, 23] rfl (G.seq (G.region ?_))))))))
  refine J.move rfl rfl (J.move rfl rfl ?_)
  (first | refine J.subI rfl rfl rfl (by omega) (by omega) ?_ | refine J.subZ rfl rfl rfl (by omega) (by omega) ?_)
  refine J.ix rfl rfl rfl (J.lc rfl rfl rfl (J.assign rfl rfl (J.nil (G.prune [0, 1, 2, 3, 8, 9, 10, 11, 12, 13, 14, 15, 16, 17, 21, 22, 23] rfl (G.seq (G.region (J.move rfl rfl (J.move rfl rfl ?_))))))))
  rw [show 0 * 18446744073709551616 + 0 = 0 from rfl, Nat.zero_div, Nat.zero_mod, show m + 2 - 2 = m from rfl]
  simp only [Nat.zero_add]
  refine J.eff (E.callP (mulWW_spec (x := 0) (y := vs.getD m 0) (by decide) hvw2) [] [] rfl rfl rfl rfl rfl) rfl fun _ _ => ?_
  try simp only [apC, apN]
  refine J.move rfl rfl (J.extractL rfl rfl rfl (J.extractL rfl rfl rfl (J.assign rfl rfl (J.assign rfl rfl (J.nil (G.prune [0, 1, 2, 3, 8, 9, 10, 11, 12, 13, 14, 15, 16, 17, 18, 19, 21, 22, 23] rfl (G.seq (G.region ?_))))))))
  refine J.move rfl rfl (J.move rfl rfl (J.move rfl rfl ?_))
  (first | refine J.addI rfl rfl rfl (by omega) ?_ | refine J.addZ rfl rfl rfl (by omega) (by omega) ?_)
  (first | refine J.subI rfl rfl rfl (by omega) (by omega) ?_ | refine J.subZ rfl rfl rfl (by omega) (by omega) ?_)
  refine J.ix rfl rfl rfl (J.lc rfl rfl rfl (J.assign rfl rfl (J.nil (G.prune [0, 1, 2, 3, 8, 9, 10, 11, 12, 13, 14, 15, 16, 17, 18, 19, 20, 21, 22, 23] rfl (G.block ?_)))))
  rw [show 0 * vs.getD m 0 / 18446744073709551616 = 0 by rw [Nat.zero_mul], show 0 * vs.getD m 0 % 18446744073709551616 = 0 by rw [Nat.zero_mul], show T + (m + 2) - 2 = T + m from rfl]
  refine G.loop1 (G.seq (G.seq (G.region (J.move rfl rfl (J.move rfl rfl (J.move rfl rfl (J.move rfl rfl (J.eff (E.callP (gt_spec (x1 := 0) (x2 := 0) (y1 := 0) (y2 := us.getD (0 + (T + m)) 0) (by decide) (hu _)) [] [] rfl rfl rfl rfl rfl) rfl fun _ _ => ?_))))))))
  try simp only [apC, apN]
  refine J.nil (G.prune [0, 1, 2, 3, 8, 9, 10, 11, 12, 13, 14, 15, 16, 17, 18, 19, 20, 21, 22, 23, 88] rfl (G.cF rfl (G.exit rfl (G.seq (G.region (J.move rfl rfl (J.move rfl rfl (J.move rfl rfl ?_))))))))
  refine J.move rfl rfl (J.slH0 rfl rfl rfl (by omega) rfl (J.move rfl rfl (J.move rfl rfl (J.eff (E.callP (mulAddVWWO_spec (V := V) (zs0 := hs) (xs0 := vs) (oz := 0) (ox := 0) (n := m + 2) (y := 0) (r := 0) (by omega) hhw (by omega) hv.wd (by omega) (by decide) (by decide)) [0] [2] rfl rfl rfl rfl rfl) rfl fun p hp => ?_))))
  try simp only [apC, apN]
  obtain ⟨c1, hs1⟩ := p
  simp only at hp ⊢
  have hm1l := hp.w.len
  obtain ⟨hc0, hz⟩ := hp.zero (by omega)
  subst hc0
  have hw1 : Wd (hs1.set (0 + (m + 2)) 0) := hp.w.wd.set (by decide)
  have hl1 : (hs1.set (0 + (m + 2)) 0).length = hs.length := by rw [List.length_set]; exact hm1l
  refine J.ix rfl rfl rfl (J.eff (E.sc rfl rfl) rfl (J.nil (G.prune [0, 1, 2, 3, 8, 9, 10, 11, 12, 14, 15, 16, 17, 18, 19, 20, 23] rfl (G.seq (G.region (J.move rfl rfl (J.lenS rfl rfl (J.assign rfl rfl ?_))))))))
  refine J.nil (G.seq (G.seq (G.region (J.move rfl rfl (J.move rfl rfl ?_)))))
  (first | refine J.addI rfl rfl rfl (by omega) ?_ | refine J.addZ rfl rfl rfl (by omega) (by omega) ?_)
  refine J.move rfl rfl (J.lenS rfl rfl ?_)
  (first | refine J.gtN rfl rfl rfl ?_ | refine J.gtZ rfl rfl rfl ?_)
  refine J.move rfl rfl ?_
  have he0 : (hs1.set (0 + (m + 2)) 0).getD (0 + (m + 2)) 0 = 0 := getD_set_eq (by omega)
  refine J.wT rfl rfl (J.move rfl rfl (J.wT rfl rfl (J.move rfl rfl (J.wT rfl rfl (J.ix rfl rfl rfl (J.wT rfl rfl (J.lc rfl rfl rfl (J.wT rfl rfl ?_))))))))
  (first | refine J.eqN rfl rfl rfl ?_ | refine J.eqZ rfl rfl rfl ?_)
  refine J.pT rfl rfl rfl (J.nil (G.prune [0, 1, 2, 3, 8, 9, 10, 11, 12, 14, 15, 16, 17, 18, 19, 20, 21, 23, 128] rfl (G.cT rfl (G.region (J.move rfl rfl ?_)))))
  (first | refine J.subI rfl rfl rfl (by omega) (by omega) ?_ | refine J.subZ rfl rfl rfl (by omega) (by omega) ?_)
  refine J.assign rfl rfl (J.nil (G.seq ?_))
  rw [show m + 2 + 1 - 1 = m + 2 from rfl]
  refine G.regionS [0, 1, 2, 3, 4, 5, 6, 7, 8, 9, 10, 11, 12, 13, 14, 15, 16] none none [] (by kernel_rfl) (SubH.of [] rfl) rfl (J.move rfl rfl (J.move rfl rfl (J.move rfl rfl (J.move rfl rfl ?_))))
  (first | refine J.addI rfl rfl rfl (by omega) ?_ | refine J.addZ rfl rfl rfl (by omega) (by omega) ?_)
  (first | refine J.slLH1 rfl rfl rfl rfl (by omega) (by omega) (by omega) ?_ | refine J.slLHnil rfl rfl rfl rfl (by omega) (by omega) ?_)
  refine J.move rfl rfl (J.move rfl rfl (J.move rfl rfl (J.move rfl rfl ?_)))
  (first | refine J.addI rfl rfl rfl (by omega) ?_ | refine J.addZ rfl rfl rfl (by omega) (by omega) ?_)
  (first | refine J.slLH1 rfl rfl rfl rfl (by omega) (by omega) (by omega) ?_ | refine J.slLHnil rfl rfl rfl rfl (by omega) (by omega) ?_)
  refine J.move rfl rfl (J.move rfl rfl (J.slH rfl rfl rfl (by omega) ?_))
  rw [Nat.add_sub_cancel_left, Nat.zero_add]
  refine J.effH (E.callP (subVV_spec (zs0 := us) (ys0 := hs1.set (0 + (m + 2)) 0) (b2 := hb) (oz := T) (oy := 0) (n := m + 2) (by omega) hu (by omega) hw1 (by omega)) [2] [0] rfl rfl rfl rfl rfl) rfl rfl fun p hp2 => ⟨fun _ => SubH.of [] rfl, ?_⟩
  try simp only [apC, apN]
  obtain ⟨c2, us1⟩ := p
  simp only at hp2 ⊢
  obtain ⟨hc2, hdi⟩ := DI.start hv hu hq h0 hp2 hz
  subst hc2
  have hul1 := hp2.w.len
  refine J.assign rfl rfl (J.nil (G.prune [0, 1, 2, 3, 8, 9, 10, 11, 12, 14, 15, 16, 17, 18, 19, 20, 21, 22, 23] rfl (G.seq (G.seq (G.region (J.move rfl rfl ?_))))))
  (first | refine J.neN rfl rfl rfl ?_ | refine J.neZ rfl rfl rfl ?_)
  refine J.nil (G.cF rfl (G.skip (G.seq (G.region (J.move rfl rfl (J.move rfl rfl (J.move rfl rfl ?_)))))))
  (first | refine J.addI rfl rfl rfl (by omega) ?_ | refine J.addZ rfl rfl rfl (by omega) (by omega) ?_)
  (first | refine J.subI rfl rfl rfl (by omega) (by omega) ?_ | refine J.subZ rfl rfl rfl (by omega) (by omega) ?_)
  refine J.ix rfl rfl rfl (J.lc rfl rfl rfl (J.assign rfl rfl (J.nil (G.prune [0, 1, 2, 3, 8, 9, 10, 11, 12, 13, 14, 15, 16, 17, 18, 19, 20, 21, 22, 23] rfl (G.seq (G.seq (G.region (J.move rfl rfl ?_))))))))
  refine J.move rfl rfl ?_
  (first | refine J.eqN rfl rfl rfl ?_ | refine J.eqZ rfl rfl rfl ?_)
  refine J.move rfl rfl ?_
  rw [show T + (m + 2) - 1 = T + (m + 1) from rfl]
  refine J.wT rfl rfl (J.move rfl rfl (J.wT rfl rfl (J.move rfl rfl (J.wT rfl rfl (J.lenS rfl rfl (J.wT rfl rfl ?_))))))
  (first | refine J.eqN rfl rfl rfl ?_ | refine J.eqZ rfl rfl rfl ?_)
  refine J.pT rfl rfl rfl (J.move rfl rfl (J.wT rfl rfl (J.move rfl rfl (J.wT rfl rfl ?_))))
  (first | refine J.eqN rfl rfl rfl ?_ | refine J.eqZ rfl rfl rfl ?_)
  refine J.pT rfl rfl rfl (J.nil (G.prune [0, 1, 2, 3, 8, 9, 10, 11, 12, 13, 14, 15, 16, 17, 18, 19, 20, 21, 22, 23, 196] rfl (G.cT rfl (G.exit rfl (G.region (J.move rfl rfl ?_))))))
  (first | refine J.subI rfl rfl rfl (by omega) (by omega) ?_ | refine J.subZ rfl rfl rfl (by omega) (by omega) ?_)
  refine J.assign rfl rfl (J.nil ?_)
  rw [Nat.zero_add]
  have hTi : ((T - 1 : Nat) : Int) = (T : Int) - 1 := by omega
  simp only [hTi]
  refine G.loopI (σ := { t : Nat × List Nat × List Nat × List Nat // t.1 ≤ T ∧ DI (rv us 0 (T + (m + 2))) vs t.2.1 t.2.2.1 T m t.1 ∧ t.2.1.length = us.length ∧ t.2.2.1.length = qs.length ∧ t.2.2.2.length = hs.length ∧ Wd t.2.2.2 })
    (fun t => [(0, .slice (some ⟨qb, 0, none⟩) T cq), (1, .pointer (some ⟨sb, 0, none⟩)), (2, .slice (some ⟨ub, 0, none⟩) (T + (m + 2)) us.length), (3, .slice (some ⟨vb, 0, none⟩) (m + 2) cv), (8, .int .i64 ((m + 2 : Nat) : Int)), (9, .int .i64 (T : Nat)), (10, .slice (some ⟨hb, 0, none⟩) (m + 2 + 1) hs.length), (11, .int .u64 (vs.getD (m + 1) 0 : Nat)), (12, .int .u64 (recip (vs.getD (m + 1) 0) : Nat)), (13, .int .u64 (t.1.2.1.getD (t.1.1 + (m + 1)) 0 : Nat)), (14, .int .i64 ((t.1.1 : Int) - 1))]) (fun t => [⟨ub, 162, cells .u64 t.1.2.1, true⟩, ⟨hb, 162, cells .u64 t.1.2.2.2, true⟩, ⟨qb, 162, cells .u64 t.1.2.2.1, true⟩, ⟨vb, 162, cells .u64 vs, false⟩, ⟨sb, 240, [.pointer none], false⟩]) (fun t => t.1.1) ⟨(T, us1, qs, hs1.set (0 + (m + 2)) 0), Nat.le_refl T, hdi, hul1, rfl, hl1, hw1⟩ (by repeat (first | exact SubSlots.nil _ | refine SubSlots.cons rfl ?_)) [0, 1, 2, 3, 4] rfl (by decide) ?_
  clear hdi hp2 he0 hz hp hul1 hw1 hl1 hm1l hs1 us1
  rintro ⟨⟨i, ws, qs', hs'⟩, hi, hd, hwl, hql', hhl', hhw'⟩ ih
  simp only at hi hd hwl hql' hhl' hhw' ih ⊢
  rcases Nat.eq_zero_or_pos i with h00 | h00
  · subst h00
    refine G.seq (G.seq (G.region (J.move rfl rfl ?_)))
    (first | refine J.geN rfl rfl rfl ?_ | refine J.geZ rfl rfl rfl ?_)
    refine J.nil (G.cF rfl (G.exit rfl (G.fall (hR _) ?_)))
    refine GL.deferredP (restore_nilD (V := V) (sb := sb) (n := 0)) [] [4] rfl rfl rfl fun _ _ => ?_
    exact GL.done (qs', ws) rfl rfl ⟨hd, hql', hwl⟩ rfl [2, 0] rfl (by decide) (by simp)
  obtain ⟨k, rfl⟩ : ∃ k, i = k + 1 := ⟨i - 1, by omega⟩
  have hki : ((k + 1 : Nat) : Int) - 1 = (k : Int) := by omega
  have hkm : k + 1 + (m + 1) = k + (m + 2) := by omega
  simp only [hki, hkm] at ih ⊢
  have htop := top_le hv hd.lt
  have hw0 := hd.w (k + (m + 2))
  have hw1 := hd.w (k + (m + 1))
  have hw2 := hd.w (k + m)
  refine G.seq (G.seq (G.region (J.move rfl rfl ?_)))
  (first | refine J.geN rfl rfl rfl ?_ | refine J.geZ rfl rfl rfl ?_)
  refine J.nil (G.cT rfl (G.skip (G.seq (G.block (G.seq (G.region (J.assign rfl rfl (J.nil ?_))))))))
  refine G.seq (G.seq (G.region (J.move rfl rfl (J.move rfl rfl ?_))))
  (first | refine J.neN rfl rfl rfl ?_ | refine J.neZ rfl rfl rfl ?_)
  refine J.nil ?_
  refine G.cut (σ := Nat) (fun q => GS (rv ws k (m + 3)) (rv vs 0 (m + 2)) q) (fun q => [(0, .slice (some ⟨qb, 0, none⟩) T cq), (1, .pointer (some ⟨sb, 0, none⟩)), (2, .slice (some ⟨ub, 0, none⟩) (T + (m + 2)) us.length), (3, .slice (some ⟨vb, 0, none⟩) (m + 2) cv), (8, .int .i64 ((m + 2 : Nat) : Int)), (9, .int .i64 (T : Nat)), (10, .slice (some ⟨hb, 0, none⟩) (m + 2 + 1) hs.length), (11, .int .u64 (vs.getD (m + 1) 0 : Nat)), (12, .int .u64 (recip (vs.getD (m + 1) 0) : Nat)), (14, .int .i64 (k : Int)), (15, .int .u64 (q : Nat))]) (fun _ => [⟨ub, 162, cells .u64 ws, true⟩, ⟨hb, 162, cells .u64 hs', true⟩, ⟨qb, 162, cells .u64 qs', true⟩, ⟨vb, 162, cells .u64 vs, false⟩, ⟨sb, 240, [.pointer none], false⟩]) (fun hk => ?_) ?_
  · skip
    by_cases he : ws.getD (k + (m + 2)) 0 = vs.getD (m + 1) 0
    · skip
      refine G.cF rfl (G.skip ?_)
      exact G.wk [0, 1, 2, 3, 4] (hk 18446744073709551615 (GS.max hv hd.w hd.lt he))
    · have hlt : ws.getD (k + (m + 2)) 0 < vs.getD (m + 1) 0 := by omega
      have hg2 := G2.start (q := (ws.getD (k + (m + 2)) 0 * 18446744073709551616 + ws.getD (k + (m + 1)) 0) / vs.getD (m + 1) 0) hv hd.w hlt rfl rfl rfl rfl
      refine G.cT rfl (G.seq (G.region (J.assign rfl rfl (J.nil (G.seq (G.region (J.move rfl rfl (J.move rfl rfl ?_))))))))
      refine J.move rfl rfl (J.move rfl rfl ?_)
      (first | refine J.addI rfl rfl rfl (by omega) ?_ | refine J.addZ rfl rfl rfl (by omega) (by omega) ?_)
      (first | refine J.subI rfl rfl rfl (by omega) (by omega) ?_ | refine J.subZ rfl rfl rfl (by omega) (by omega) ?_)
      refine J.ix rfl rfl rfl (J.lc rfl rfl rfl (J.move rfl rfl (J.move rfl rfl ?_)))
      rw [show k + (m + 2) - 1 = k + (m + 1) from rfl, Nat.zero_add]
      refine J.eff (E.callP (divWW_spec (x1 := ws.getD (k + (m + 2)) 0) (x0 := ws.getD (k + (m + 1)) 0) (y := vs.getD (m + 1) 0) (m := recip (vs.getD (m + 1) 0)) hlt hw1 hvw rfl) [] [] rfl rfl rfl rfl rfl) rfl fun _ _ => ?_
      try simp only [apC, apN]
      refine J.move rfl rfl (J.extractL rfl rfl rfl (J.extractL rfl rfl rfl (J.assign rfl rfl (J.assign rfl rfl (J.nil (G.prune [0, 1, 2, 3, 8, 9, 10, 11, 12, 13, 14, 15, 16, 21, 22, 23] rfl (G.seq (G.region ?_))))))))
      refine J.move rfl rfl (J.move rfl rfl ?_)
      (first | refine J.subI rfl rfl rfl (by omega) (by omega) ?_ | refine J.subZ rfl rfl rfl (by omega) (by omega) ?_)
      refine J.ix rfl rfl rfl (J.lc rfl rfl rfl (J.assign rfl rfl (J.nil (G.prune [0, 1, 2, 3, 8, 9, 10, 11, 12, 13, 14, 15, 16, 17, 21, 22, 23] rfl (G.seq (G.region (J.move rfl rfl (J.move rfl rfl ?_))))))))
      rw [show m + 2 - 2 = m from rfl]
      rw [Nat.zero_add m]
      generalize (ws.getD (k + (m + 2)) 0 * 18446744073709551616 + ws.getD (k + (m + 1)) 0) / vs.getD (m + 1) 0 = q0 at hg2 ⊢
      generalize (ws.getD (k + (m + 2)) 0 * 18446744073709551616 + ws.getD (k + (m + 1)) 0) % vs.getD (m + 1) 0 = r0 at hg2 ⊢
      refine J.eff (E.callP (mulWW_spec (x := q0) (y := vs.getD m 0) hg2.lq hvw2) [] [] rfl rfl rfl rfl rfl) rfl fun _ _ => ?_
      try simp only [apC, apN]
      refine J.move rfl rfl (J.extractL rfl rfl rfl (J.extractL rfl rfl rfl (J.assign rfl rfl (J.assign rfl rfl (J.nil (G.prune [0, 1, 2, 3, 8, 9, 10, 11, 12, 13, 14, 15, 16, 17, 18, 19, 21, 22, 23] rfl (G.seq (G.region ?_))))))))
      refine J.move rfl rfl (J.move rfl rfl (J.move rfl rfl ?_))
      (first | refine J.addI rfl rfl rfl (by omega) ?_ | refine J.addZ rfl rfl rfl (by omega) (by omega) ?_)
      (first | refine J.subI rfl rfl rfl (by omega) (by omega) ?_ | refine J.subZ rfl rfl rfl (by omega) (by omega) ?_)
      refine J.ix rfl rfl rfl (J.lc rfl rfl rfl (J.assign rfl rfl (J.nil (G.prune [0, 1, 2, 3, 8, 9, 10, 11, 12, 13, 14, 15, 16, 17, 18, 19, 20, 21, 22, 23] rfl (G.block ?_)))))
      simp only [show k + (m + 2) - 2 = k + m from rfl, Nat.zero_add]
      refine G.loopW (σ := { t : Nat × Nat × Nat × Nat // G2 ws vs k m t.1 t.2.1 t.2.2.1 t.2.2.2 }) (fun t => [(0, .slice (some ⟨qb, 0, none⟩) T cq), (1, .pointer (some ⟨sb, 0, none⟩)), (2, .slice (some ⟨ub, 0, none⟩) (T + (m + 2)) us.length), (3, .slice (some ⟨vb, 0, none⟩) (m + 2) cv), (8, .int .i64 ((m + 2 : Nat) : Int)), (9, .int .i64 (T : Nat)), (10, .slice (some ⟨hb, 0, none⟩) (m + 2 + 1) hs.length), (11, .int .u64 (vs.getD (m + 1) 0 : Nat)), (12, .int .u64 (recip (vs.getD (m + 1) 0) : Nat)), (14, .int .i64 (k : Int)), (15, .int .u64 (t.1.1 : Nat)), (16, .int .u64 (t.1.2.1 : Nat)), (17, .int .u64 (vs.getD m 0 : Nat)), (18, .int .u64 (t.1.2.2.1 : Nat)), (19, .int .u64 (t.1.2.2.2 : Nat)), (20, .int .u64 (ws.getD (k + m) 0 : Nat))]) (fun _ => [⟨ub, 162, cells .u64 ws, true⟩, ⟨hb, 162, cells .u64 hs', true⟩, ⟨qb, 162, cells .u64 qs', true⟩, ⟨vb, 162, cells .u64 vs, false⟩, ⟨sb, 240, [.pointer none], false⟩]) (fun t => t.1.1) ⟨(q0, r0, _, _), hg2⟩ (by repeat (first | exact SubSlots.nil _ | refine SubSlots.cons rfl ?_)) [0, 1, 2, 3, 4] rfl (by decide) ?_
      clear hg2 q0 r0
      rintro ⟨⟨q, r, x1, x2⟩, hg⟩ ihh
      simp only at hg ihh ⊢
      have hx2 := hg.lx
      have hrl := hg.lr
      have hql := hg.lq
      have hex := hg.ex
      refine G.seq (G.seq (G.region (J.move rfl rfl (J.move rfl rfl (J.move rfl rfl (J.move rfl rfl (J.eff (E.callP (gt_spec (x1 := x1) (x2 := x2) (y1 := r) (y2 := ws.getD (k + m) 0) hx2 hw2) [] [] rfl rfl rfl rfl rfl) rfl fun _ _ => ?_)))))))
      try simp only [apC, apN]
      refine J.nil (G.prune [0, 1, 2, 3, 8, 9, 10, 11, 12, 13, 14, 15, 16, 17, 18, 19, 20, 21, 22, 23, 88] rfl ?_)
      by_cases hgt : r * 18446744073709551616 + ws.getD (k + m) 0 < x1 * 18446744073709551616 + x2
      · obtain ⟨hq0, hdo, hdn⟩ := hg.down hv hd.w (by rw [← hex]; exact hgt)
        refine G.cT rfl (G.skip (G.block (G.seq (G.region (J.move rfl rfl (J.subA rfl rfl rfl (by first | assumption | decide | omega) fun v90 h90 b90 => J.assign rfl rfl (J.nil ?_)))))))
        refine G.seq (G.region (J.move rfl rfl (J.move rfl rfl (J.addA rfl rfl rfl  fun v93 h93 b93 => J.assign rfl rfl (J.nil (G.prune [0, 1, 2, 3, 8, 9, 10, 11, 12, 13, 14, 15, 16, 17, 18, 19, 20, 21, 22, 23] rfl (G.seq ?_)))))))
        refine G.seq (G.region (J.move rfl rfl (J.move rfl rfl ?_)))
        (first | refine J.ltN rfl rfl rfl ?_ | refine J.ltZ rfl rfl rfl ?_)
        refine J.nil ?_
        obtain rfl : v90 = q - 1 := by omega
        by_cases ho : 18446744073709551616 ≤ r + vs.getD (m + 1) 0
        · have e93 : v93 < vs.getD (m + 1) 0 := by omega
          refine G.cT rfl (G.exit rfl ?_)
          exact G.wk [0, 1, 2, 3, 4] (hk (q - 1) (hdo ho))
        · obtain rfl : v93 = r + vs.getD (m + 1) 0 := by omega
          have hdn' := hdn (by omega)
          refine G.cF rfl (G.skip (G.seq (G.seq (G.region (J.move rfl rfl (J.move rfl rfl ?_))))))
          (first | refine J.gtN rfl rfl rfl ?_ | refine J.gtZ rfl rfl rfl ?_)
          refine J.nil ?_
          by_cases hx : x2 < vs.getD m 0
          · rw [if_pos hx, if_pos hx] at hdn'
            have hx1 : 0 < x1 := by
              have h1 : 1 * vs.getD m 0 ≤ q * vs.getD m 0 := Nat.mul_le_mul_right _ hq0
              omega
            have hx1W : x1 < 18446744073709551616 := by
              have h1 : q * vs.getD m 0 ≤ 18446744073709551615 * 18446744073709551615 := Nat.mul_le_mul (by omega) (by omega)
              omega
            refine G.cT rfl (G.region (J.move rfl rfl (J.subA rfl rfl rfl (by first | assumption | decide | omega) fun v101 h101 b101 => J.assign rfl rfl (J.nil (G.region (J.move rfl rfl (J.move rfl rfl ?_)))))))
            refine J.subA rfl rfl rfl (by first | assumption | decide | omega) fun v104 h104 b104 => J.assign rfl rfl (J.nil (G.prune [0, 1, 2, 3, 8, 9, 10, 11, 12, 13, 14, 15, 16, 17, 18, 19, 20, 21, 22, 23] rfl (G.inBlock ?_)))
            obtain rfl : v101 = x1 - 1 := by omega
            obtain rfl : v104 = x2 + 18446744073709551616 - vs.getD m 0 := by omega
            exact G.wk [0, 1, 2, 3, 4] (ihh ⟨(q - 1, r + vs.getD (m + 1) 0, x1 - 1, x2 + 18446744073709551616 - vs.getD m 0), hdn'⟩ (by simp only; omega))
          · rw [if_neg hx, if_neg hx] at hdn'
            refine G.cF rfl (G.skip (G.region (J.move rfl rfl (J.move rfl rfl (J.subA rfl rfl rfl (by first | assumption | decide | omega) fun v104 h104 b104 => J.assign rfl rfl (J.nil (G.prune [0, 1, 2, 3, 8, 9, 10, 11, 12, 13, 14, 15, 16, 17, 18, 19, 20, 21, 22, 23] rfl ?_)))))))
            refine G.inBlock ?_
            obtain rfl : v104 = x2 - vs.getD m 0 := by omega
            exact G.wk [0, 1, 2, 3, 4] (ihh ⟨(q - 1, r + vs.getD (m + 1) 0, x1, x2 - vs.getD m 0), hdn'⟩ (by simp only; omega))
      · skip
        refine G.cF rfl (G.exit rfl ?_)
        exact G.wk [0, 1, 2, 3, 4] (hk q (hg.gs hv (by rw [← hex]; omega)))
  rintro q hg
  have hql := hg.b
  refine G.seq (G.region (J.move rfl rfl (J.move rfl rfl (J.move rfl rfl (J.move rfl rfl (J.slH0 rfl rfl rfl (by omega) rfl (J.move rfl rfl (J.move rfl rfl ?_))))))))
  refine J.eff (E.callP (mulAddVWWO_spec (V := V) (zs0 := hs') (xs0 := vs) (oz := 0) (ox := 0) (n := m + 2) (y := q) (r := 0) (by omega) hhw' (by omega) hv.wd (by omega) hql (by decide)) [1] [2] rfl rfl rfl rfl rfl) rfl fun p hp => ?_
  try simp only [apC, apN]
  obtain ⟨c1, hs1⟩ := p
  simp only at hp ⊢
  have hl1a := hp.w.len
  have hat := hp.hat (by omega)
  have hw1' : Wd (hs1.set (0 + (m + 2)) c1) := hp.w.wd.set hp.lt
  have hl1 : (hs1.set (0 + (m + 2)) c1).length = hs.length := by rw [List.length_set, hp.w.len]; exact hhl'
  refine J.ix rfl rfl rfl (J.eff (E.sc rfl rfl) rfl (J.nil (G.prune [0, 1, 2, 3, 8, 9, 10, 11, 12, 14, 15, 16, 17, 18, 19, 20, 23] rfl (G.seq (G.region (J.move rfl rfl (J.lenS rfl rfl (J.assign rfl rfl ?_))))))))
  refine J.nil (G.seq (G.seq (G.region (J.move rfl rfl (J.move rfl rfl ?_)))))
  (first | refine J.addI rfl rfl rfl (by omega) ?_ | refine J.addZ rfl rfl rfl (by omega) (by omega) ?_)
  refine J.move rfl rfl (J.lenS rfl rfl ?_)
  (first | refine J.gtN rfl rfl rfl ?_ | refine J.gtZ rfl rfl rfl ?_)
  refine J.move rfl rfl (J.sk rfl rfl rfl rfl (J.sk rfl rfl rfl rfl (J.sk rfl rfl rfl rfl (J.sk rfl rfl rfl rfl (J.sk rfl rfl rfl rfl (J.pF rfl rfl rfl (J.nil (G.prune [0, 1, 2, 3, 8, 9, 10, 11, 12, 14, 15, 16, 17, 18, 19, 20, 21, 23, 128] rfl ?_))))))))
  refine G.cF rfl (G.skip (G.seq (G.regionS [0, 1, 2, 3, 4, 5, 6, 7, 8, 9, 10, 11, 12, 13, 14, 15, 16] none none [] (by kernel_rfl) (SubH.of [] rfl) rfl (J.move rfl rfl (J.move rfl rfl (J.move rfl rfl (J.move rfl rfl ?_)))))))
  (first | refine J.addI rfl rfl rfl (by omega) ?_ | refine J.addZ rfl rfl rfl (by omega) (by omega) ?_)
  (first | refine J.slLH1 rfl rfl rfl rfl (by omega) (by omega) (by omega) ?_ | refine J.slLHnil rfl rfl rfl rfl (by omega) (by omega) ?_)
  refine J.move rfl rfl (J.move rfl rfl (J.move rfl rfl (J.move rfl rfl ?_)))
  (first | refine J.addI rfl rfl rfl (by omega) ?_ | refine J.addZ rfl rfl rfl (by omega) (by omega) ?_)
  (first | refine J.slLH1 rfl rfl rfl rfl (by omega) (by omega) (by omega) ?_ | refine J.slLHnil rfl rfl rfl rfl (by omega) (by omega) ?_)
  refine J.move rfl rfl (J.move rfl rfl (J.slH rfl rfl rfl (by omega) ?_))
  rw [Nat.add_sub_cancel_left, Nat.zero_add]
  refine J.effH (E.callP (subVV_spec (zs0 := ws) (ys0 := hs1.set (0 + (m + 2)) c1) (b2 := hb) (oz := k) (oy := 0) (n := m + 2 + 1) (by omega) hd.w (by omega) hw1' (by omega)) [1] [0] rfl rfl rfl rfl rfl) rfl rfl fun p hp2 => ⟨fun _ => SubH.of [] rfl, ?_⟩
  try simp only [apC, apN]
  obtain ⟨c2, ws1⟩ := p
  simp only at hp2 ⊢
  have hl2 := hp2.w.len
  have hc2 := hp2.lt
  refine J.assign rfl rfl (J.nil (G.prune [0, 1, 2, 3, 8, 9, 10, 11, 12, 14, 15, 16, 17, 18, 19, 20, 21, 22, 23] rfl (G.seq (G.seq (G.region (J.move rfl rfl ?_))))))
  (first | refine J.neN rfl rfl rfl ?_ | refine J.neZ rfl rfl rfl ?_)
  refine J.nil ?_
  refine G.cut (σ := List Nat × Nat) (fun t => DI (rv us 0 (T + (m + 2))) vs t.1 (qs'.set k t.2) T m k ∧ t.1.length = us.length) (fun t => [(0, .slice (some ⟨qb, 0, none⟩) T cq), (1, .pointer (some ⟨sb, 0, none⟩)), (2, .slice (some ⟨ub, 0, none⟩) (T + (m + 2)) us.length), (3, .slice (some ⟨vb, 0, none⟩) (m + 2) cv), (8, .int .i64 ((m + 2 : Nat) : Int)), (9, .int .i64 (T : Nat)), (10, .slice (some ⟨hb, 0, none⟩) (m + 2 + 1) hs.length), (11, .int .u64 (vs.getD (m + 1) 0 : Nat)), (12, .int .u64 (recip (vs.getD (m + 1) 0) : Nat)), (14, .int .i64 (k : Int)), (15, .int .u64 (t.2 : Nat))]) (fun t => [⟨ub, 162, cells .u64 t.1, true⟩, ⟨hb, 162, cells .u64 (hs1.set (0 + (m + 2)) c1), true⟩, ⟨qb, 162, cells .u64 qs', true⟩, ⟨vb, 162, cells .u64 vs, false⟩, ⟨sb, 240, [.pointer none], false⟩]) (fun hk2 => ?_) ?_
  · skip
    by_cases hc0 : c2 = 0
    · subst hc0
      have hdi := hd.sub (by omega) hv hg hp2 hat (by omega)
      refine G.cF rfl (G.skip ?_)
      exact G.wk [0, 1, 2, 3, 4] (hk2 (ws1, q) ⟨hdi, by simp only; omega⟩)
    · obtain rfl : c2 = 1 := by omega
      refine G.cT rfl (G.seq (G.regionS [0, 1, 2, 3, 4, 5, 6, 7, 8, 9, 10, 11, 12, 13, 14] none none [] (by kernel_rfl) (SubH.of [] rfl) rfl (J.move rfl rfl (J.move rfl rfl (J.move rfl rfl (J.move rfl rfl ?_))))))
      (first | refine J.addI rfl rfl rfl (by omega) ?_ | refine J.addZ rfl rfl rfl (by omega) (by omega) ?_)
      (first | refine J.slLH1 rfl rfl rfl rfl (by omega) (by omega) (by omega) ?_ | refine J.slLHnil rfl rfl rfl rfl (by omega) (by omega) ?_)
      refine J.move rfl rfl (J.move rfl rfl (J.move rfl rfl (J.move rfl rfl ?_)))
      (first | refine J.addI rfl rfl rfl (by omega) ?_ | refine J.addZ rfl rfl rfl (by omega) (by omega) ?_)
      (first | refine J.slLH1 rfl rfl rfl rfl (by omega) (by omega) (by omega) ?_ | refine J.slLHnil rfl rfl rfl rfl (by omega) (by omega) ?_)
      refine J.move rfl rfl ?_
      rw [Nat.add_sub_cancel_left, Nat.zero_add]
      refine J.effH (E.callP (addVV_spec (zs0 := ws1) (ys0 := vs) (b2 := vb) (oz := k) (oy := 0) (n := m + 2) (by omega) hp2.w.wd (by omega) hv.wd (by omega)) [0] [2] rfl rfl rfl rfl rfl) rfl rfl fun p hp3 => ⟨fun _ => SubH.of [] rfl, ?_⟩
      try simp only [apC, apN]
      obtain ⟨c3, ws2⟩ := p
      simp only at hp3 ⊢
      have hl3 := hp3.w.len
      refine J.assign rfl rfl (J.nil (G.prune [0, 1, 2, 3, 8, 9, 10, 11, 12, 14, 15, 16, 17, 18, 19, 20, 21, 22, 23] rfl (G.seq (G.seq (G.region (J.move rfl rfl (J.move rfl rfl ?_)))))))
      (first | refine J.ltN rfl rfl rfl ?_ | refine J.ltZ rfl rfl rfl ?_)
      refine J.nil (G.cT rfl (G.region (J.move rfl rfl (J.move rfl rfl (J.move rfl rfl ?_)))))
      (first | refine J.addI rfl rfl rfl (by omega) ?_ | refine J.addZ rfl rfl rfl (by omega) (by omega) ?_)
      refine J.ix rfl rfl rfl (J.lc rfl rfl rfl (J.move rfl rfl (J.addA rfl rfl rfl  fun v173 h173 b173 => J.ix rfl rfl rfl (J.eff (E.sc rfl rfl) rfl (J.nil (G.prune [0, 1, 2, 3, 8, 9, 10, 11, 12, 14, 15, 16, 17, 18, 19, 20, 21, 22, 23] rfl (G.region ?_)))))))
      refine J.move rfl rfl (J.subA rfl rfl rfl (by first | assumption | decide | omega) fun v176 h176 b176 => J.assign rfl rfl (J.nil ?_))
      simp only [Nat.zero_add (k + (m + 2))]
      obtain ⟨hq0, hdi⟩ := hd.add (by omega) hv hg hp2 hat hp3 (by omega) v173 b173
      obtain rfl : v176 = q - 1 := by omega
      exact G.wk [0, 1, 2, 3, 4] (hk2 (ws2.set (k + (m + 2)) v173, q - 1) ⟨hdi, by simp only [List.length_set]; omega⟩)
  rintro ⟨ws2, qd⟩ ⟨hdi, hl4⟩
  simp only at hdi hl4 ⊢
  refine G.seq (G.region (J.move rfl rfl (J.move rfl rfl (J.move rfl rfl ?_))))
  (first | refine J.addI rfl rfl rfl (by omega) ?_ | refine J.addZ rfl rfl rfl (by omega) (by omega) ?_)
  (first | refine J.subI rfl rfl rfl (by omega) (by omega) ?_ | refine J.subZ rfl rfl rfl (by omega) (by omega) ?_)
  refine J.ix rfl rfl rfl (J.lc rfl rfl rfl (J.assign rfl rfl (J.nil (G.prune [0, 1, 2, 3, 8, 9, 10, 11, 12, 13, 14, 15, 16, 17, 18, 19, 20, 21, 22, 23] rfl (G.seq (G.seq (G.region (J.move rfl rfl ?_))))))))
  refine J.move rfl rfl ?_
  (first | refine J.eqN rfl rfl rfl ?_ | refine J.eqZ rfl rfl rfl ?_)
  refine J.move rfl rfl ?_
  rw [show k + (m + 2) - 1 = k + (m + 1) from rfl, Nat.zero_add (k + (m + 1))]
  refine J.sk rfl rfl rfl rfl (J.sk rfl rfl rfl rfl (J.sk rfl rfl rfl rfl (J.sk rfl rfl rfl rfl (J.pF rfl rfl rfl (J.move rfl rfl (J.sk rfl rfl rfl rfl (J.sk rfl rfl rfl rfl (J.pF rfl rfl rfl ?_))))))))
  refine J.nil (G.prune [0, 1, 2, 3, 8, 9, 10, 11, 12, 13, 14, 15, 16, 17, 18, 19, 20, 21, 22, 23, 196] rfl (G.cF rfl (G.skip (G.region (J.move rfl rfl (J.move rfl rfl (J.move rfl rfl (J.ix rfl rfl rfl ?_))))))))
  refine J.eff (E.sc rfl rfl) rfl (J.nil (G.prune [0, 1, 2, 3, 8, 9, 10, 11, 12, 13, 14, 15, 16, 17, 18, 19, 20, 21, 22, 23] rfl (G.inBlock (G.region (J.move rfl rfl ?_)))))
  (first | refine J.subI rfl rfl rfl (by omega) (by omega) ?_ | refine J.subZ rfl rfl rfl (by omega) (by omega) ?_)
  refine J.assign rfl rfl (J.nil ?_)
  simp only [Nat.zero_add k]
  exact G.wk [0, 1, 2, 3, 4] (ih ⟨(k, ws2, qs'.set k qd, hs1.set (0 + (m + 2)) c1), by simp only; omega, hdi, hl4, by simp only [List.length_set]; omega, hl1, hw1'⟩ (by simp only; omega))
theorem divBasicB {qb ub vb sb T m cq cv  : Nat} {us qs vs : List Nat} (hv : Dvs vs m) (hvl : m + 2 ≤ vs.length) (hu : Wd us) (hul : T + (m + 2) ≤ us.length) (huc : us.length < 9223372036854775808) (hq : Wd qs) (hql : T ≤ qs.length) (hT : 0 < T) (hT9 : T ≤ 100) (hm9 : m ≤ 10) (h0 : us.getD (T + (m + 1)) 0 = 0) (hm2 : 2 ≤ m) :
    Spec (cx V) 230 #[.slice (some ⟨qb, 0, none⟩) T cq, .pointer (some ⟨sb, 0, none⟩), .slice (some ⟨ub, 0, none⟩) (T + (m + 2)) us.length, .slice (some ⟨vb, 0, none⟩) (m + 2) cv] [⟨qb, 162, cells .u64 qs, true⟩, ⟨ub, 162, cells .u64 us, true⟩, ⟨sb, 240, [.pointer none], true⟩] [⟨vb, 162, cells .u64 vs, false⟩]
      (fun _ : List Nat × List Nat × Nat × Nat × Nat => .tuple #[]) (fun p => [⟨qb, 162, cells .u64 p.1, true⟩, ⟨ub, 162, cells .u64 p.2.1, true⟩, ⟨sb, 240, [.pointer (some ⟨p.2.2.1, 0, none⟩)], true⟩, ⟨p.2.2.1, 286, [.slice (some ⟨p.2.2.2.1, 0, none⟩) 0 p.2.2.2.2], true⟩]) (fun p => DI (rv us 0 (T + (m + 2))) vs p.2.1 p.1 T m 0 ∧ p.1.length = qs.length ∧ p.2.1.length = us.length) := by
  have hv1 := hv.top
  have hvw := hv.wd (0 + (m + 1))
  have hvw2 := hv.wd (0 + m)
  have hul2 := hul
  refine Spec.enter Tryz.func230 rfl Tryz.ntmps230 (by simp) [(0, .slice (some ⟨qb, 0, none⟩) T cq), (1, .pointer (some ⟨sb, 0, none⟩)), (2, .slice (some ⟨ub, 0, none⟩) (T + (m + 2)) us.length), (3, .slice (some ⟨vb, 0, none⟩) (m + 2) cv)] (by simp) ?_
  intro X hR
  try simp only [apC, apN]
  refine G.seq (G.region (J.move rfl rfl (J.lenS rfl rfl (J.assign rfl rfl (J.nil (G.seq (G.region (J.move rfl rfl ?_))))))))
  refine J.lenS rfl rfl (J.move rfl rfl ?_)
  (first | refine J.subI rfl rfl rfl (by omega) (by omega) ?_ | refine J.subZ rfl rfl rfl (by omega) (by omega) ?_)
  refine J.assign rfl rfl (J.nil (G.prune [0, 1, 2, 3, 8, 9, 15, 16, 17, 18, 19, 20, 21, 22, 23] rfl (G.seq (G.region (J.move rfl rfl (J.move rfl rfl ?_))))))
  rw [Nat.add_sub_cancel]
  refine J.eff (E.callP (save_nil) [] [2] rfl rfl rfl rfl rfl) rfl fun _ _ => ?_
  try simp only [apC, apN]
  refine J.eff (E.defer rfl) rfl (J.nil (G.prune [0, 1, 2, 3, 8, 9, 15, 16, 17, 18, 19, 20, 21, 22, 23] rfl (G.seq (G.region (J.move rfl rfl (J.move rfl rfl ?_))))))
  (first | refine J.addI rfl rfl rfl (by omega) ?_ | refine J.addZ rfl rfl rfl (by omega) (by omega) ?_)
  refine J.eff (E.callP (snat_new (n := m + 2 + 1) (by omega) (by omega)) [2] [] rfl rfl rfl rfl rfl) rfl fun p hp => ?_
  try simp only [apC, apN]
  obtain ⟨ib, hb, c⟩ := p
  simp only at hp ⊢
  have hhl : (nw (r4 (m + 2 + 1)) c 1043915).length = r4 (m + 2 + 1) + c := nw_len ..
  have hhw : Wd (nw (r4 (m + 2 + 1)) c 1043915) := nw_wd (by decide)
  have hr4 := r4_le (m + 2 + 1)
  generalize nw (r4 (m + 2 + 1)) c 1043915 = hs at *
  have hh1 : 0 + (m + 3) ≤ hs.length := by omega
  have hh2 : hs.length < 9223372036854775808 := by omega
  refine J.ord [2, 3, 4, 5, 0, 1] rfl (by decide) ?_
  refine J.assign rfl rfl (J.nil (G.prune [0, 1, 2, 3, 8, 9, 10, 15, 16, 17, 18, 19, 20, 21, 22, 23] rfl (G.seq (G.region (J.move rfl rfl (J.move rfl rfl ?_))))))
  (first | refine J.subI rfl rfl rfl (by omega) (by omega) ?_ | refine J.subZ rfl rfl rfl (by omega) (by omega) ?_)
  refine J.ix rfl rfl rfl (J.lc rfl rfl rfl (J.assign rfl rfl (J.nil (G.prune [0, 1, 2, 3, 8, 9, 10, 11, 15, 16, 17, 18, 19, 20, 21, 22, 23] rfl (G.seq (G.region (J.move rfl rfl ?_)))))))
  rw [show m + 2 - 1 = m + 1 from rfl]
  refine J.eff (E.callP (recip_spec (d := vs.getD (0 + (m + 1)) 0) (by rw [Nat.zero_add]; omega) hvw) [] [] rfl rfl rfl rfl rfl) rfl fun _ _ => ?_
  try simp only [apC, apN]
  refine J.assign rfl rfl (J.nil (G.seq (G.region (J.assign rfl rfl (J.nil (G.seq (G.region (J.move rfl rfl ?_))))))))
  refine J.assign rfl rfl (J.nil (G.block ?_))
  rw [Nat.zero_add] at hvw hvw2 ⊢
  refine G.loop1 (G.seq (G.seq (G.region (J.move rfl rfl ?_))))
  (first | refine J.geN rfl rfl rfl ?_ | refine J.geZ rfl rfl rfl ?_)
  refine J.nil (G.cT rfl (G.skip (G.seq (G.block (G.seq (G.region (J.assign rfl rfl (J.nil ?_))))))))
  refine G.seq (G.seq (G.region (J.move rfl rfl (J.move rfl rfl ?_))))
  (first | refine J.neN rfl rfl rfl ?_ | refine J.neZ rfl rfl rfl ?_)
  refine J.nil (G.cT rfl (G.seq (G.region (J.assign rfl rfl (J.nil (G.seq (G.region (J.move rfl rfl ?_))))))))
  refine J.move rfl rfl (J.move rfl rfl (J.move rfl rfl ?_))
  (first | refine J.addI rfl rfl rfl (by omega) ?_ | refine J.addZ rfl rfl rfl (by omega) (by omega) ?_)
  (first | refine J.subI rfl rfl rfl (by omega) (by omega) ?_ | refine J.subZ rfl rfl rfl (by omega) (by omega) ?_)
  refine J.ix rfl rfl rfl (J.lc rfl rfl rfl (J.move rfl rfl (J.move rfl rfl ?_)))
  rw [show T + (m + 2) - 1 = T + (m + 1) from rfl, Nat.zero_add, h0]
  refine J.eff (E.callP (divWW_spec (x1 := 0) (x0 := 0) (y := vs.getD (m + 1) 0) (m := recip (vs.getD (m + 1) 0)) (by omega) (by decide) hvw rfl) [] [] rfl rfl rfl rfl rfl) rfl fun _ _ => ?_
  try simp only [apC, apN]
  refine J.move rfl rfl (J.extractL rfl rfl rfl (J.extractL rfl rfl rfl (J.assign rfl rfl (J.assign rfl rfl (J.nil (G.prune [0, 1, 2, 3, 8, 9, 10, 11, 12, 13, 14, 15, 16, 21, 22, 23] rfl (G.seq (G.region ?_))))))))
  refine J.move rfl rfl (J.move rfl rfl ?_)
  (first | refine J.subI rfl rfl rfl (by omega) (by omega) ?_ | refine J.subZ rfl rfl rfl (by omega) (by omega) ?_)
  refine J.ix rfl rfl rfl (J.lc rfl rfl rfl (J.assign rfl rfl (J.nil (G.prune [0, 1, 2, 3, 8, 9, 10, 11, 12, 13, 14, 15, 16, 17, 21, 22, 23] rfl (G.seq (G.region (J.move rfl rfl (J.move rfl rfl ?_))))))))
  rw [show 0 * 18446744073709551616 + 0 = 0 from rfl, Nat.zero_div, Nat.zero_mod, show m + 2 - 2 = m from rfl]
  simp only [Nat.zero_add]
  refine J.eff (E.callP (mulWW_spec (x := 0) (y := vs.getD m 0) (by decide) hvw2) [] [] rfl rfl rfl rfl rfl) rfl fun _ _ => ?_
  try simp only [apC, apN]
  refine J.move rfl rfl (J.extractL rfl rfl rfl (J.extractL rfl rfl rfl (J.assign rfl rfl (J.assign rfl rfl (J.nil (G.prune [0, 1, 2, 3, 8, 9, 10, 11, 12, 13, 14, 15, 16, 17, 18, 19, 21, 22, 23] rfl (G.seq (G.region ?_))))))))
  refine J.move rfl rfl (J.move rfl rfl (J.move rfl rfl ?_))
  (first | refine J.addI rfl rfl rfl (by omega) ?_ | refine J.addZ rfl rfl rfl (by omega) (by omega) ?_)
  (first | refine J.subI rfl rfl rfl (by omega) (by omega) ?_ | refine J.subZ rfl rfl rfl (by omega) (by omega) ?_)
  refine J.ix rfl rfl rfl (J.lc rfl rfl rfl (J.assign rfl rfl (J.nil (G.prune [0, 1, 2, 3, 8, 9, 10, 11, 12, 13, 14, 15, 16, 17, 18, 19, 20, 21, 22, 23] rfl (G.block ?_)))))
  rw [show 0 * vs.getD m 0 / 18446744073709551616 = 0 by rw [Nat.zero_mul], show 0 * vs.getD m 0 % 18446744073709551616 = 0 by rw [Nat.zero_mul], show T + (m + 2) - 2 = T + m from rfl]
  refine G.loop1 (G.seq (G.seq (G.region (J.move rfl rfl (J.move rfl rfl (J.move rfl rfl (J.move rfl rfl (J.eff (E.callP (gt_spec (x1 := 0) (x2 := 0) (y1 := 0) (y2 := us.getD (0 + (T + m)) 0) (by decide) (hu _)) [] [] rfl rfl rfl rfl rfl) rfl fun _ _ => ?_))))))))
  try simp only [apC, apN]
  refine J.nil (G.prune [0, 1, 2, 3, 8, 9, 10, 11, 12, 13, 14, 15, 16, 17, 18, 19, 20, 21, 22, 23, 88] rfl (G.cF rfl (G.exit rfl (G.seq (G.region (J.move rfl rfl (J.move rfl rfl (J.move rfl rfl ?_))))))))
  refine J.move rfl rfl (J.slH0 rfl rfl rfl (by omega) rfl (J.move rfl rfl (J.move rfl rfl (J.eff (E.callP (mulAddVWWO_spec (V := V) (zs0 := hs) (xs0 := vs) (oz := 0) (ox := 0) (n := m + 2) (y := 0) (r := 0) (by omega) hhw (by omega) hv.wd (by omega) (by decide) (by decide)) [0] [2] rfl rfl rfl rfl rfl) rfl fun p hp => ?_))))
  try simp only [apC, apN]
  obtain ⟨c1, hs1⟩ := p
  simp only at hp ⊢
  have hm1l := hp.w.len
  obtain ⟨hc0, hz⟩ := hp.zero (by omega)
  subst hc0
  have hw1 : Wd (hs1.set (0 + (m + 2)) 0) := hp.w.wd.set (by decide)
  have hl1 : (hs1.set (0 + (m + 2)) 0).length = hs.length := by rw [List.length_set]; exact hm1l
  refine J.ix rfl rfl rfl (J.eff (E.sc rfl rfl) rfl (J.nil (G.prune [0, 1, 2, 3, 8, 9, 10, 11, 12, 14, 15, 16, 17, 18, 19, 20, 23] rfl (G.seq (G.region (J.move rfl rfl (J.lenS rfl rfl (J.assign rfl rfl ?_))))))))
  refine J.nil (G.seq (G.seq (G.region (J.move rfl rfl (J.move rfl rfl ?_)))))
  (first | refine J.addI rfl rfl rfl (by omega) ?_ | refine J.addZ rfl rfl rfl (by omega) (by omega) ?_)
  refine J.move rfl rfl (J.lenS rfl rfl ?_)
  (first | refine J.gtN rfl rfl rfl ?_ | refine J.gtZ rfl rfl rfl ?_)
  refine J.move rfl rfl ?_
  have he0 : (hs1.set (0 + (m + 2)) 0).getD (0 + (m + 2)) 0 = 0 := getD_set_eq (by omega)
  refine J.wT rfl rfl (J.move rfl rfl (J.wT rfl rfl (J.move rfl rfl (J.wT rfl rfl (J.ix rfl rfl rfl (J.wT rfl rfl (J.lc rfl rfl rfl (J.wT rfl rfl ?_))))))))
  (first | refine J.eqN rfl rfl rfl ?_ | refine J.eqZ rfl rfl rfl ?_)
  refine J.pT rfl rfl rfl (J.nil (G.prune [0, 1, 2, 3, 8, 9, 10, 11, 12, 14, 15, 16, 17, 18, 19, 20, 21, 23, 128] rfl (G.cT rfl (G.region (J.move rfl rfl ?_)))))
  (first | refine J.subI rfl rfl rfl (by omega) (by omega) ?_ | refine J.subZ rfl rfl rfl (by omega) (by omega) ?_)
  refine J.assign rfl rfl (J.nil (G.seq ?_))
  rw [show m + 2 + 1 - 1 = m + 2 from rfl]
  refine G.regionS [0, 1, 2, 3, 4, 5, 6, 7, 8, 9, 10, 11, 12, 13, 14, 15, 16] none none [] (by kernel_rfl) (SubH.of [] rfl) rfl (J.move rfl rfl (J.move rfl rfl (J.move rfl rfl (J.move rfl rfl ?_))))
  (first | refine J.addI rfl rfl rfl (by omega) ?_ | refine J.addZ rfl rfl rfl (by omega) (by omega) ?_)
  (first | refine J.slLH1 rfl rfl rfl rfl (by omega) (by omega) (by omega) ?_ | refine J.slLHnil rfl rfl rfl rfl (by omega) (by omega) ?_)
  refine J.move rfl rfl (J.move rfl rfl (J.move rfl rfl (J.move rfl rfl ?_)))
  (first | refine J.addI rfl rfl rfl (by omega) ?_ | refine J.addZ rfl rfl rfl (by omega) (by omega) ?_)
  (first | refine J.slLH1 rfl rfl rfl rfl (by omega) (by omega) (by omega) ?_ | refine J.slLHnil rfl rfl rfl rfl (by omega) (by omega) ?_)
  refine J.move rfl rfl (J.move rfl rfl (J.slH rfl rfl rfl (by omega) ?_))
  rw [Nat.add_sub_cancel_left, Nat.zero_add]
  refine J.effH (E.callP (subVV_spec (zs0 := us) (ys0 := hs1.set (0 + (m + 2)) 0) (b2 := hb) (oz := T) (oy := 0) (n := m + 2) (by omega) hu (by omega) hw1 (by omega)) [2] [0] rfl rfl rfl rfl rfl) rfl rfl fun p hp2 => ⟨fun _ => SubH.of [] rfl, ?_⟩
  try simp only [apC, apN]
  obtain ⟨c2, us1⟩ := p
  simp only at hp2 ⊢
  obtain ⟨hc2, hdi⟩ := DI.start hv hu hq h0 hp2 hz
  subst hc2
  have hul1 := hp2.w.len
  refine J.assign rfl rfl (J.nil (G.prune [0, 1, 2, 3, 8, 9, 10, 11, 12, 14, 15, 16, 17, 18, 19, 20, 21, 22, 23] rfl (G.seq (G.seq (G.region (J.move rfl rfl ?_))))))
  (first | refine J.neN rfl rfl rfl ?_ | refine J.neZ rfl rfl rfl ?_)
  refine J.nil (G.cF rfl (G.skip (G.seq (G.region (J.move rfl rfl (J.move rfl rfl (J.move rfl rfl ?_)))))))
  (first | refine J.addI rfl rfl rfl (by omega) ?_ | refine J.addZ rfl rfl rfl (by omega) (by omega) ?_)
  (first | refine J.subI rfl rfl rfl (by omega) (by omega) ?_ | refine J.subZ rfl rfl rfl (by omega) (by omega) ?_)
  refine J.ix rfl rfl rfl (J.lc rfl rfl rfl (J.assign rfl rfl (J.nil (G.prune [0, 1, 2, 3, 8, 9, 10, 11, 12, 13, 14, 15, 16, 17, 18, 19, 20, 21, 22, 23] rfl (G.seq (G.seq (G.region (J.move rfl rfl ?_))))))))
  refine J.move rfl rfl ?_
  (first | refine J.eqN rfl rfl rfl ?_ | refine J.eqZ rfl rfl rfl ?_)
  refine J.move rfl rfl ?_
  rw [show T + (m + 2) - 1 = T + (m + 1) from rfl]
  refine J.wT rfl rfl (J.move rfl rfl (J.wT rfl rfl (J.move rfl rfl (J.wT rfl rfl (J.lenS rfl rfl (J.wT rfl rfl ?_))))))
  (first | refine J.eqN rfl rfl rfl ?_ | refine J.eqZ rfl rfl rfl ?_)
  refine J.pT rfl rfl rfl (J.move rfl rfl (J.wT rfl rfl (J.move rfl rfl (J.wT rfl rfl ?_))))
  (first | refine J.eqN rfl rfl rfl ?_ | refine J.eqZ rfl rfl rfl ?_)
  refine J.pT rfl rfl rfl (J.nil (G.prune [0, 1, 2, 3, 8, 9, 10, 11, 12, 13, 14, 15, 16, 17, 18, 19, 20, 21, 22, 23, 196] rfl (G.cT rfl (G.exit rfl (G.region (J.move rfl rfl ?_))))))
  (first | refine J.subI rfl rfl rfl (by omega) (by omega) ?_ | refine J.subZ rfl rfl rfl (by omega) (by omega) ?_)
  refine J.assign rfl rfl (J.nil ?_)
  rw [Nat.zero_add]
  have hTi : ((T - 1 : Nat) : Int) = (T : Int) - 1 := by omega
  simp only [hTi]
  refine G.loopI (σ := { t : Nat × List Nat × List Nat × List Nat // t.1 ≤ T ∧ DI (rv us 0 (T + (m + 2))) vs t.2.1 t.2.2.1 T m t.1 ∧ t.2.1.length = us.length ∧ t.2.2.1.length = qs.length ∧ t.2.2.2.length = hs.length ∧ Wd t.2.2.2 })
    (fun t => [(0, .slice (some ⟨qb, 0, none⟩) T cq), (1, .pointer (some ⟨sb, 0, none⟩)), (2, .slice (some ⟨ub, 0, none⟩) (T + (m + 2)) us.length), (3, .slice (some ⟨vb, 0, none⟩) (m + 2) cv), (8, .int .i64 ((m + 2 : Nat) : Int)), (9, .int .i64 (T : Nat)), (10, .slice (some ⟨hb, 0, none⟩) (m + 2 + 1) (m + 2 + 1)), (11, .int .u64 (vs.getD (m + 1) 0 : Nat)), (12, .int .u64 (recip (vs.getD (m + 1) 0) : Nat)), (13, .int .u64 (t.1.2.1.getD (t.1.1 + (m + 1)) 0 : Nat)), (14, .int .i64 ((t.1.1 : Int) - 1))]) (fun t => [⟨ub, 162, cells .u64 t.1.2.1, true⟩, ⟨hb, 162, cells .u64 t.1.2.2.2, true⟩, ⟨qb, 162, cells .u64 t.1.2.2.1, true⟩, ⟨vb, 162, cells .u64 vs, false⟩, ⟨sb, 240, [.pointer (some ⟨ib, 0, none⟩)], true⟩, ⟨ib, 286, [.slice (some ⟨hb, 0, none⟩) (r4 (m + 2 + 1)) hs.length], true⟩]) (fun t => t.1.1) ⟨(T, us1, qs, hs1.set (0 + (m + 2)) 0), Nat.le_refl T, hdi, hul1, rfl, hl1, hw1⟩ (by repeat (first | exact SubSlots.nil _ | refine SubSlots.cons rfl ?_)) [0, 1, 2, 3, 4, 5] rfl (by decide) ?_
  clear hdi hp2 he0 hz hp hul1 hw1 hl1 hm1l hs1 us1
  rintro ⟨⟨i, ws, qs', hs'⟩, hi, hd, hwl, hql', hhl', hhw'⟩ ih
  simp only at hi hd hwl hql' hhl' hhw' ih ⊢
  rcases Nat.eq_zero_or_pos i with h00 | h00
  · subst h00
    refine G.seq (G.seq (G.region (J.move rfl rfl ?_)))
    (first | refine J.geN rfl rfl rfl ?_ | refine J.geZ rfl rfl rfl ?_)
    refine J.nil (G.cF rfl (G.exit rfl (G.fall (hR _) ?_)))
    refine GL.deferredP (restore_someD (V := V) (sb := sb) (ib := ib) (n := 0) (Nat.zero_le _)) [5] [4] rfl rfl rfl fun _ _ => ?_
    exact GL.done (qs', ws, ib, hb, hs.length) rfl rfl ⟨hd, hql', hwl⟩ rfl [3, 1, 5, 0] rfl (by decide) (by simp)
  obtain ⟨k, rfl⟩ : ∃ k, i = k + 1 := ⟨i - 1, by omega⟩
  have hki : ((k + 1 : Nat) : Int) - 1 = (k : Int) := by omega
  have hkm : k + 1 + (m + 1) = k + (m + 2) := by omega
  simp only [hki, hkm] at ih ⊢
  have htop := top_le hv hd.lt
  have hw0 := hd.w (k + (m + 2))
  have hw1 := hd.w (k + (m + 1))
  have hw2 := hd.w (k + m)
  refine G.seq (G.seq (G.region (J.move rfl rfl ?_)))
  (first | refine J.geN rfl rfl rfl ?_ | refine J.geZ rfl rfl rfl ?_)
  refine J.nil (G.cT rfl (G.skip (G.seq (G.block (G.seq (G.region (J.assign rfl rfl (J.nil ?_))))))))
  refine G.seq (G.seq (G.region (J.move rfl rfl (J.move rfl rfl ?_))))
  (first | refine J.neN rfl rfl rfl ?_ | refine J.neZ rfl rfl rfl ?_)
  refine J.nil ?_
  refine G.cut (σ := Nat) (fun q => GS (rv ws k (m + 3)) (rv vs 0 (m + 2)) q) (fun q => [(0, .slice (some ⟨qb, 0, none⟩) T cq), (1, .pointer (some ⟨sb, 0, none⟩)), (2, .slice (some ⟨ub, 0, none⟩) (T + (m + 2)) us.length), (3, .slice (some ⟨vb, 0, none⟩) (m + 2) cv), (8, .int .i64 ((m + 2 : Nat) : Int)), (9, .int .i64 (T : Nat)), (10, .slice (some ⟨hb, 0, none⟩) (m + 2 + 1) (m + 2 + 1)), (11, .int .u64 (vs.getD (m + 1) 0 : Nat)), (12, .int .u64 (recip (vs.getD (m + 1) 0) : Nat)), (14, .int .i64 (k : Int)), (15, .int .u64 (q : Nat))]) (fun _ => [⟨ub, 162, cells .u64 ws, true⟩, ⟨hb, 162, cells .u64 hs', true⟩, ⟨qb, 162, cells .u64 qs', true⟩, ⟨vb, 162, cells .u64 vs, false⟩, ⟨sb, 240, [.pointer (some ⟨ib, 0, none⟩)], true⟩, ⟨ib, 286, [.slice (some ⟨hb, 0, none⟩) (r4 (m + 2 + 1)) hs.length], true⟩]) (fun hk => ?_) ?_
  · skip
    by_cases he : ws.getD (k + (m + 2)) 0 = vs.getD (m + 1) 0
    · skip
      refine G.cF rfl (G.skip ?_)
      exact G.wk [0, 1, 2, 3, 4, 5] (hk 18446744073709551615 (GS.max hv hd.w hd.lt he))
    · have hlt : ws.getD (k + (m + 2)) 0 < vs.getD (m + 1) 0 := by omega
      have hg2 := G2.start (q := (ws.getD (k + (m + 2)) 0 * 18446744073709551616 + ws.getD (k + (m + 1)) 0) / vs.getD (m + 1) 0) hv hd.w hlt rfl rfl rfl rfl
      refine G.cT rfl (G.seq (G.region (J.assign rfl rfl (J.nil (G.seq (G.region (J.move rfl rfl (J.move rfl rfl ?_))))))))
      refine J.move rfl rfl (J.move rfl rfl ?_)
      (first | refine J.addI rfl rfl rfl (by omega) ?_ | refine J.addZ rfl rfl rfl (by omega) (by omega) ?_)
      (first | refine J.subI rfl rfl rfl (by omega) (by omega) ?_ | refine J.subZ rfl rfl rfl (by omega) (by omega) ?_)
      refine J.ix rfl rfl rfl (J.lc rfl rfl rfl (J.move rfl rfl (J.move rfl rfl ?_)))
      rw [show k + (m + 2) - 1 = k + (m + 1) from rfl, Nat.zero_add]
      refine J.eff (E.callP (divWW_spec (x1 := ws.getD (k + (m + 2)) 0) (x0 := ws.getD (k + (m + 1)) 0) (y := vs.getD (m + 1) 0) (m := recip (vs.getD (m + 1) 0)) hlt hw1 hvw rfl) [] [] rfl rfl rfl rfl rfl) rfl fun _ _ => ?_
      try simp only [apC, apN]
      refine J.move rfl rfl (J.extractL rfl rfl rfl (J.extractL rfl rfl rfl (J.assign rfl rfl (J.assign rfl rfl (J.nil (G.prune [0, 1, 2, 3, 8, 9, 10, 11, 12, 13, 14, 15, 16, 21, 22, 23] rfl (G.seq (G.region ?_))))))))
      refine J.move rfl rfl (J.move rfl rfl ?_)
      (first | refine J.subI rfl rfl rfl (by omega) (by omega) ?_ | refine J.subZ rfl rfl rfl (by omega) (by omega) ?_)
      refine J.ix rfl rfl rfl (J.lc rfl rfl rfl (J.assign rfl rfl (J.nil (G.prune [0, 1, 2, 3, 8, 9, 10, 11, 12, 13, 14, 15, 16, 17, 21, 22, 23] rfl (G.seq (G.region (J.move rfl rfl (J.move rfl rfl ?_))))))))
      rw [show m + 2 - 2 = m from rfl]
      rw [Nat.zero_add m]
      generalize (ws.getD (k + (m + 2)) 0 * 18446744073709551616 + ws.getD (k + (m + 1)) 0) / vs.getD (m + 1) 0 = q0 at hg2 ⊢
      generalize (ws.getD (k + (m + 2)) 0 * 18446744073709551616 + ws.getD (k + (m + 1)) 0) % vs.getD (m + 1) 0 = r0 at hg2 ⊢
      refine J.eff (E.callP (mulWW_spec (x := q0) (y := vs.getD m 0) hg2.lq hvw2) [] [] rfl rfl rfl rfl rfl) rfl fun _ _ => ?_
      try simp only [apC, apN]
      refine J.move rfl rfl (J.extractL rfl rfl rfl (J.extractL rfl rfl rfl (J.assign rfl rfl (J.assign rfl rfl (J.nil (G.prune [0, 1, 2, 3, 8, 9, 10, 11, 12, 13, 14, 15, 16, 17, 18, 19, 21, 22, 23] rfl (G.seq (G.region ?_))))))))
      refine J.move rfl rfl (J.move rfl rfl (J.move rfl rfl ?_))
      (first | refine J.addI rfl rfl rfl (by omega) ?_ | refine J.addZ rfl rfl rfl (by omega) (by omega) ?_)
      (first | refine J.subI rfl rfl rfl (by omega) (by omega) ?_ | refine J.subZ rfl rfl rfl (by omega) (by omega) ?_)
      refine J.ix rfl rfl rfl (J.lc rfl rfl rfl (J.assign rfl rfl (J.nil (G.prune [0, 1, 2, 3, 8, 9, 10, 11, 12, 13, 14, 15, 16, 17, 18, 19, 20, 21, 22, 23] rfl (G.block ?_)))))
      simp only [show k + (m + 2) - 2 = k + m from rfl, Nat.zero_add]
      refine G.loopW (σ := { t : Nat × Nat × Nat × Nat // G2 ws vs k m t.1 t.2.1 t.2.2.1 t.2.2.2 }) (fun t => [(0, .slice (some ⟨qb, 0, none⟩) T cq), (1, .pointer (some ⟨sb, 0, none⟩)), (2, .slice (some ⟨ub, 0, none⟩) (T + (m + 2)) us.length), (3, .slice (some ⟨vb, 0, none⟩) (m + 2) cv), (8, .int .i64 ((m + 2 : Nat) : Int)), (9, .int .i64 (T : Nat)), (10, .slice (some ⟨hb, 0, none⟩) (m + 2 + 1) (m + 2 + 1)), (11, .int .u64 (vs.getD (m + 1) 0 : Nat)), (12, .int .u64 (recip (vs.getD (m + 1) 0) : Nat)), (14, .int .i64 (k : Int)), (15, .int .u64 (t.1.1 : Nat)), (16, .int .u64 (t.1.2.1 : Nat)), (17, .int .u64 (vs.getD m 0 : Nat)), (18, .int .u64 (t.1.2.2.1 : Nat)), (19, .int .u64 (t.1.2.2.2 : Nat)), (20, .int .u64 (ws.getD (k + m) 0 : Nat))]) (fun _ => [⟨ub, 162, cells .u64 ws, true⟩, ⟨hb, 162, cells .u64 hs', true⟩, ⟨qb, 162, cells .u64 qs', true⟩, ⟨vb, 162, cells .u64 vs, false⟩, ⟨sb, 240, [.pointer (some ⟨ib, 0, none⟩)], true⟩, ⟨ib, 286, [.slice (some ⟨hb, 0, none⟩) (r4 (m + 2 + 1)) hs.length], true⟩]) (fun t => t.1.1) ⟨(q0, r0, _, _), hg2⟩ (by repeat (first | exact SubSlots.nil _ | refine SubSlots.cons rfl ?_)) [0, 1, 2, 3, 4, 5] rfl (by decide) ?_
      clear hg2 q0 r0
      rintro ⟨⟨q, r, x1, x2⟩, hg⟩ ihh
      simp only at hg ihh ⊢
      have hx2 := hg.lx
      have hrl := hg.lr
      have hql := hg.lq
      have hex := hg.ex
      refine G.seq (G.seq (G.region (J.move rfl rfl (J.move rfl rfl (J.move rfl rfl (J.move rfl rfl (J.eff (E.callP (gt_spec (x1 := x1) (x2 := x2) (y1 := r) (y2 := ws.getD (k + m) 0) hx2 hw2) [] [] rfl rfl rfl rfl rfl) rfl fun _ _ => ?_)))))))
      try simp only [apC, apN]
      refine J.nil (G.prune [0, 1, 2, 3, 8, 9, 10, 11, 12, 13, 14, 15, 16, 17, 18, 19, 20, 21, 22, 23, 88] rfl ?_)
      by_cases hgt : r * 18446744073709551616 + ws.getD (k + m) 0 < x1 * 18446744073709551616 + x2
      · obtain ⟨hq0, hdo, hdn⟩ := hg.down hv hd.w (by rw [← hex]; exact hgt)
        refine G.cT rfl (G.skip (G.block (G.seq (G.region (J.move rfl rfl (J.subA rfl rfl rfl (by first | assumption | decide | omega) fun v90 h90 b90 => J.assign rfl rfl (J.nil ?_)))))))
        refine G.seq (G.region (J.move rfl rfl (J.move rfl rfl (J.addA rfl rfl rfl  fun v93 h93 b93 => J.assign rfl rfl (J.nil (G.prune [0, 1, 2, 3, 8, 9, 10, 11, 12, 13, 14, 15, 16, 17, 18, 19, 20, 21, 22, 23] rfl (G.seq ?_)))))))
        refine G.seq (G.region (J.move rfl rfl (J.move rfl rfl ?_)))
        (first | refine J.ltN rfl rfl rfl ?_ | refine J.ltZ rfl rfl rfl ?_)
        refine J.nil ?_
        obtain rfl : v90 = q - 1 := by omega
        by_cases ho : 18446744073709551616 ≤ r + vs.getD (m + 1) 0
        · have e93 : v93 < vs.getD (m + 1) 0 := by omega
          refine G.cT rfl (G.exit rfl ?_)
          exact G.wk [0, 1, 2, 3, 4, 5] (hk (q - 1) (hdo ho))
        · obtain rfl : v93 = r + vs.getD (m + 1) 0 := by omega
          have hdn' := hdn (by omega)
          refine G.cF rfl (G.skip (G.seq (G.seq (G.region (J.move rfl rfl (J.move rfl rfl ?_))))))
          (first | refine J.gtN rfl rfl rfl ?_ | refine J.gtZ rfl rfl rfl ?_)
          refine J.nil ?_
          by_cases hx : x2 < vs.getD m 0
          · rw [if_pos hx, if_pos hx] at hdn'
            have hx1 : 0 < x1 := by
              have h1 : 1 * vs.getD m 0 ≤ q * vs.getD m 0 := Nat.mul_le_mul_right _ hq0
              omega
            have hx1W : x1 < 18446744073709551616 := by
              have h1 : q * vs.getD m 0 ≤ 18446744073709551615 * 18446744073709551615 := Nat.mul_le_mul (by omega) (by omega)
              omega
            refine G.cT rfl (G.region (J.move rfl rfl (J.subA rfl rfl rfl (by first | assumption | decide | omega) fun v101 h101 b101 => J.assign rfl rfl (J.nil (G.region (J.move rfl rfl (J.move rfl rfl ?_)))))))
            refine J.subA rfl rfl rfl (by first | assumption | decide | omega) fun v104 h104 b104 => J.assign rfl rfl (J.nil (G.prune [0, 1, 2, 3, 8, 9, 10, 11, 12, 13, 14, 15, 16, 17, 18, 19, 20, 21, 22, 23] rfl (G.inBlock ?_)))
            obtain rfl : v101 = x1 - 1 := by omega
            obtain rfl : v104 = x2 + 18446744073709551616 - vs.getD m 0 := by omega
            exact G.wk [0, 1, 2, 3, 4, 5] (ihh ⟨(q - 1, r + vs.getD (m + 1) 0, x1 - 1, x2 + 18446744073709551616 - vs.getD m 0), hdn'⟩ (by simp only; omega))
          · rw [if_neg hx, if_neg hx] at hdn'
            refine G.cF rfl (G.skip (G.region (J.move rfl rfl (J.move rfl rfl (J.subA rfl rfl rfl (by first | assumption | decide | omega) fun v104 h104 b104 => J.assign rfl rfl (J.nil (G.prune [0, 1, 2, 3, 8, 9, 10, 11, 12, 13, 14, 15, 16, 17, 18, 19, 20, 21, 22, 23] rfl ?_)))))))
            refine G.inBlock ?_
            obtain rfl : v104 = x2 - vs.getD m 0 := by omega
            exact G.wk [0, 1, 2, 3, 4, 5] (ihh ⟨(q - 1, r + vs.getD (m + 1) 0, x1, x2 - vs.getD m 0), hdn'⟩ (by simp only; omega))
      · skip
        refine G.cF rfl (G.exit rfl ?_)
        exact G.wk [0, 1, 2, 3, 4, 5] (hk q (hg.gs hv (by rw [← hex]; omega)))
  rintro q hg
  have hql := hg.b
  refine G.seq (G.region (J.move rfl rfl (J.move rfl rfl (J.move rfl rfl (J.move rfl rfl (J.slH0 rfl rfl rfl (by omega) rfl (J.move rfl rfl (J.move rfl rfl ?_))))))))
  refine J.eff (E.callP (mulAddVWWO_spec (V := V) (zs0 := hs') (xs0 := vs) (oz := 0) (ox := 0) (n := m + 2) (y := q) (r := 0) (by omega) hhw' (by omega) hv.wd (by omega) hql (by decide)) [1] [2] rfl rfl rfl rfl rfl) rfl fun p hp => ?_
  try simp only [apC, apN]
  obtain ⟨c1, hs1⟩ := p
  simp only at hp ⊢
  have hl1a := hp.w.len
  have hat := hp.hat (by omega)
  have hw1' : Wd (hs1.set (0 + (m + 2)) c1) := hp.w.wd.set hp.lt
  have hl1 : (hs1.set (0 + (m + 2)) c1).length = hs.length := by rw [List.length_set, hp.w.len]; exact hhl'
  refine J.ix rfl rfl rfl (J.eff (E.sc rfl rfl) rfl (J.nil (G.prune [0, 1, 2, 3, 8, 9, 10, 11, 12, 14, 15, 16, 17, 18, 19, 20, 23] rfl (G.seq (G.region (J.move rfl rfl (J.lenS rfl rfl (J.assign rfl rfl ?_))))))))
  refine J.nil (G.seq (G.seq (G.region (J.move rfl rfl (J.move rfl rfl ?_)))))
  (first | refine J.addI rfl rfl rfl (by omega) ?_ | refine J.addZ rfl rfl rfl (by omega) (by omega) ?_)
  refine J.move rfl rfl (J.lenS rfl rfl ?_)
  (first | refine J.gtN rfl rfl rfl ?_ | refine J.gtZ rfl rfl rfl ?_)
  refine J.move rfl rfl (J.sk rfl rfl rfl rfl (J.sk rfl rfl rfl rfl (J.sk rfl rfl rfl rfl (J.sk rfl rfl rfl rfl (J.sk rfl rfl rfl rfl (J.pF rfl rfl rfl (J.nil (G.prune [0, 1, 2, 3, 8, 9, 10, 11, 12, 14, 15, 16, 17, 18, 19, 20, 21, 23, 128] rfl ?_))))))))
  refine G.cF rfl (G.skip (G.seq (G.regionS [0, 1, 2, 3, 4, 5, 6, 7, 8, 9, 10, 11, 12, 13, 14, 15, 16] none none [] (by kernel_rfl) (SubH.of [] rfl) rfl (J.move rfl rfl (J.move rfl rfl (J.move rfl rfl (J.move rfl rfl ?_)))))))
  (first | refine J.addI rfl rfl rfl (by omega) ?_ | refine J.addZ rfl rfl rfl (by omega) (by omega) ?_)
  (first | refine J.slLH1 rfl rfl rfl rfl (by omega) (by omega) (by omega) ?_ | refine J.slLHnil rfl rfl rfl rfl (by omega) (by omega) ?_)
  refine J.move rfl rfl (J.move rfl rfl (J.move rfl rfl (J.move rfl rfl ?_)))
  (first | refine J.addI rfl rfl rfl (by omega) ?_ | refine J.addZ rfl rfl rfl (by omega) (by omega) ?_)
  (first | refine J.slLH1 rfl rfl rfl rfl (by omega) (by omega) (by omega) ?_ | refine J.slLHnil rfl rfl rfl rfl (by omega) (by omega) ?_)
  refine J.move rfl rfl (J.move rfl rfl (J.slH rfl rfl rfl (by omega) ?_))
  rw [Nat.add_sub_cancel_left, Nat.zero_add]
  refine J.effH (E.callP (subVV_spec (zs0 := ws) (ys0 := hs1.set (0 + (m + 2)) c1) (b2 := hb) (oz := k) (oy := 0) (n := m + 2 + 1) (by omega) hd.w (by omega) hw1' (by omega)) [1] [0] rfl rfl rfl rfl rfl) rfl rfl fun p hp2 => ⟨fun _ => SubH.of [] rfl, ?_⟩
  try simp only [apC, apN]
  obtain ⟨c2, ws1⟩ := p
  simp only at hp2 ⊢
  have hl2 := hp2.w.len
  have hc2 := hp2.lt
  refine J.assign rfl rfl (J.nil (G.prune [0, 1, 2, 3, 8, 9, 10, 11, 12, 14, 15, 16, 17, 18, 19, 20, 21, 22, 23] rfl (G.seq (G.seq (G.region (J.move rfl rfl ?_))))))
  (first | refine J.neN rfl rfl rfl ?_ | refine J.neZ rfl rfl rfl ?_)
  refine J.nil ?_
  refine G.cut (σ := List Nat × Nat) (fun t => DI (rv us 0 (T + (m + 2))) vs t.1 (qs'.set k t.2) T m k ∧ t.1.length = us.length) (fun t => [(0, .slice (some ⟨qb, 0, none⟩) T cq), (1, .pointer (some ⟨sb, 0, none⟩)), (2, .slice (some ⟨ub, 0, none⟩) (T + (m + 2)) us.length), (3, .slice (some ⟨vb, 0, none⟩) (m + 2) cv), (8, .int .i64 ((m + 2 : Nat) : Int)), (9, .int .i64 (T : Nat)), (10, .slice (some ⟨hb, 0, none⟩) (m + 2 + 1) (m + 2 + 1)), (11, .int .u64 (vs.getD (m + 1) 0 : Nat)), (12, .int .u64 (recip (vs.getD (m + 1) 0) : Nat)), (14, .int .i64 (k : Int)), (15, .int .u64 (t.2 : Nat))]) (fun t => [⟨ub, 162, cells .u64 t.1, true⟩, ⟨hb, 162, cells .u64 (hs1.set (0 + (m + 2)) c1), true⟩, ⟨qb, 162, cells .u64 qs', true⟩, ⟨vb, 162, cells .u64 vs, false⟩, ⟨sb, 240, [.pointer (some ⟨ib, 0, none⟩)], true⟩, ⟨ib, 286, [.slice (some ⟨hb, 0, none⟩) (r4 (m + 2 + 1)) hs.length], true⟩]) (fun hk2 => ?_) ?_
  · skip
    by_cases hc0 : c2 = 0
    · subst hc0
      have hdi := hd.sub (by omega) hv hg hp2 hat (by omega)
      refine G.cF rfl (G.skip ?_)
      exact G.wk [0, 1, 2, 3, 4, 5] (hk2 (ws1, q) ⟨hdi, by simp only; omega⟩)
    · obtain rfl : c2 = 1 := by omega
      refine G.cT rfl (G.seq (G.regionS [0, 1, 2, 3, 4, 5, 6, 7, 8, 9, 10, 11, 12, 13, 14] none none [] (by kernel_rfl) (SubH.of [] rfl) rfl (J.move rfl rfl (J.move rfl rfl (J.move rfl rfl (J.move rfl rfl ?_))))))
      (first | refine J.addI rfl rfl rfl (by omega) ?_ | refine J.addZ rfl rfl rfl (by omega) (by omega) ?_)
      (first | refine J.slLH1 rfl rfl rfl rfl (by omega) (by omega) (by omega) ?_ | refine J.slLHnil rfl rfl rfl rfl (by omega) (by omega) ?_)
      refine J.move rfl rfl (J.move rfl rfl (J.move rfl rfl (J.move rfl rfl ?_)))
      (first | refine J.addI rfl rfl rfl (by omega) ?_ | refine J.addZ rfl rfl rfl (by omega) (by omega) ?_)
      (first | refine J.slLH1 rfl rfl rfl rfl (by omega) (by omega) (by omega) ?_ | refine J.slLHnil rfl rfl rfl rfl (by omega) (by omega) ?_)
      refine J.move rfl rfl ?_
      rw [Nat.add_sub_cancel_left, Nat.zero_add]
      refine J.effH (E.callP (addVV_spec (zs0 := ws1) (ys0 := vs) (b2 := vb) (oz := k) (oy := 0) (n := m + 2) (by omega) hp2.w.wd (by omega) hv.wd (by omega)) [0] [2] rfl rfl rfl rfl rfl) rfl rfl fun p hp3 => ⟨fun _ => SubH.of [] rfl, ?_⟩
      try simp only [apC, apN]
      obtain ⟨c3, ws2⟩ := p
      simp only at hp3 ⊢
      have hl3 := hp3.w.len
      refine J.assign rfl rfl (J.nil (G.prune [0, 1, 2, 3, 8, 9, 10, 11, 12, 14, 15, 16, 17, 18, 19, 20, 21, 22, 23] rfl (G.seq (G.seq (G.region (J.move rfl rfl (J.move rfl rfl ?_)))))))
      (first | refine J.ltN rfl rfl rfl ?_ | refine J.ltZ rfl rfl rfl ?_)
      refine J.nil (G.cT rfl (G.region (J.move rfl rfl (J.move rfl rfl (J.move rfl rfl ?_)))))
      (first | refine J.addI rfl rfl rfl (by omega) ?_ | refine J.addZ rfl rfl rfl (by omega) (by omega) ?_)
      refine J.ix rfl rfl rfl (J.lc rfl rfl rfl (J.move rfl rfl (J.addA rfl rfl rfl  fun v173 h173 b173 => J.ix rfl rfl rfl (J.eff (E.sc rfl rfl) rfl (J.nil (G.prune [0, 1, 2, 3, 8, 9, 10, 11, 12, 14, 15, 16, 17, 18, 19, 20, 21, 22, 23] rfl (G.region ?_)))))))
      refine J.move rfl rfl (J.subA rfl rfl rfl (by first | assumption | decide | omega) fun v176 h176 b176 => J.assign rfl rfl (J.nil ?_))
      simp only [Nat.zero_add (k + (m + 2))]
      obtain ⟨hq0, hdi⟩ := hd.add (by omega) hv hg hp2 hat hp3 (by omega) v173 b173
      obtain rfl : v176 = q - 1 := by omega
      exact G.wk [0, 1, 2, 3, 4, 5] (hk2 (ws2.set (k + (m + 2)) v173, q - 1) ⟨hdi, by simp only [List.length_set]; omega⟩)
  rintro ⟨ws2, qd⟩ ⟨hdi, hl4⟩
  simp only at hdi hl4 ⊢
  refine G.seq (G.region (J.move rfl rfl (J.move rfl rfl (J.move rfl rfl ?_))))
  (first | refine J.addI rfl rfl rfl (by omega) ?_ | refine J.addZ rfl rfl rfl (by omega) (by omega) ?_)
  (first | refine J.subI rfl rfl rfl (by omega) (by omega) ?_ | refine J.subZ rfl rfl rfl (by omega) (by omega) ?_)
  refine J.ix rfl rfl rfl (J.lc rfl rfl rfl (J.assign rfl rfl (J.nil (G.prune [0, 1, 2, 3, 8, 9, 10, 11, 12, 13, 14, 15, 16, 17, 18, 19, 20, 21, 22, 23] rfl (G.seq (G.seq (G.region (J.move rfl rfl ?_))))))))
  refine J.move rfl rfl ?_
  (first | refine J.eqN rfl rfl rfl ?_ | refine J.eqZ rfl rfl rfl ?_)
  refine J.move rfl rfl ?_
  rw [show k + (m + 2) - 1 = k + (m + 1) from rfl, Nat.zero_add (k + (m + 1))]
  refine J.sk rfl rfl rfl rfl (J.sk rfl rfl rfl rfl (J.sk rfl rfl rfl rfl (J.sk rfl rfl rfl rfl (J.pF rfl rfl rfl (J.move rfl rfl (J.sk rfl rfl rfl rfl (J.sk rfl rfl rfl rfl (J.pF rfl rfl rfl ?_))))))))
  refine J.nil (G.prune [0, 1, 2, 3, 8, 9, 10, 11, 12, 13, 14, 15, 16, 17, 18, 19, 20, 21, 22, 23, 196] rfl (G.cF rfl (G.skip (G.region (J.move rfl rfl (J.move rfl rfl (J.move rfl rfl (J.ix rfl rfl rfl ?_))))))))
  refine J.eff (E.sc rfl rfl) rfl (J.nil (G.prune [0, 1, 2, 3, 8, 9, 10, 11, 12, 13, 14, 15, 16, 17, 18, 19, 20, 21, 22, 23] rfl (G.inBlock (G.region (J.move rfl rfl ?_)))))
  (first | refine J.subI rfl rfl rfl (by omega) (by omega) ?_ | refine J.subZ rfl rfl rfl (by omega) (by omega) ?_)
  refine J.assign rfl rfl (J.nil ?_)
  simp only [Nat.zero_add k]
  exact G.wk [0, 1, 2, 3, 4, 5] (ih ⟨(k, ws2, qs'.set k qd, hs1.set (0 + (m + 2)) c1), by simp only; omega, hdi, hl4, by simp only [List.length_set]; omega, hl1, hw1'⟩ (by simp only; omega))
theorem divBasicC {qb ub vb sb T m cq cv ib L : Nat} {us qs vs : List Nat} (hv : Dvs vs m) (hvl : m + 2 ≤ vs.length) (hu : Wd us) (hul : T + (m + 2) ≤ us.length) (huc : us.length < 9223372036854775808) (hq : Wd qs) (hql : T ≤ qs.length) (hT : 0 < T) (hT9 : T ≤ 100) (hm9 : m ≤ 10) (h0 : us.getD (T + (m + 1)) 0 = 0) (hL : m + 2 ≤ L) (hL9 : L ≤ 100) (hLl : L ≤ vs.length) (hvc : vs.length < 9223372036854775808) :
    Spec (cx V) 230 #[.slice (some ⟨qb, 0, none⟩) T cq, .pointer (some ⟨sb, 0, none⟩), .slice (some ⟨ub, 0, none⟩) (T + (m + 2)) us.length, .slice (some ⟨vb, 0, none⟩) (m + 2) cv] [⟨qb, 162, cells .u64 qs, true⟩, ⟨ub, 162, cells .u64 us, true⟩, ⟨ib, 286, [.slice (some ⟨vb, 0, none⟩) L vs.length], true⟩, ⟨vb, 162, cells .u64 vs, true⟩] [⟨sb, 240, [.pointer (some ⟨ib, 0, none⟩)], false⟩]
      (fun _ : List Nat × List Nat × Nat × Nat => .tuple #[]) (fun p => [⟨qb, 162, cells .u64 p.1, true⟩, ⟨ub, 162, cells .u64 p.2.1, true⟩, ⟨ib, 286, [.slice (some ⟨p.2.2.1, 0, none⟩) L p.2.2.2], true⟩]) (fun p => DI (rv us 0 (T + (m + 2))) vs p.2.1 p.1 T m 0 ∧ p.1.length = qs.length ∧ p.2.1.length = us.length) := by
  have hv1 := hv.top
  have hvw := hv.wd (0 + (m + 1))
  have hvw2 := hv.wd (0 + m)
  have hul2 := hul
  refine Spec.enter Tryz.func230 rfl Tryz.ntmps230 (by simp) [(0, .slice (some ⟨qb, 0, none⟩) T cq), (1, .pointer (some ⟨sb, 0, none⟩)), (2, .slice (some ⟨ub, 0, none⟩) (T + (m + 2)) us.length), (3, .slice (some ⟨vb, 0, none⟩) (m + 2) cv)] (by simp) ?_
  intro X hR
  try simp only [apC, apN]
  refine G.seq (G.region (J.move rfl rfl (J.lenS rfl rfl (J.assign rfl rfl (J.nil (G.seq (G.region (J.move rfl rfl ?_))))))))
  refine J.lenS rfl rfl (J.move rfl rfl ?_)
  (first | refine J.subI rfl rfl rfl (by omega) (by omega) ?_ | refine J.subZ rfl rfl rfl (by omega) (by omega) ?_)
  refine J.assign rfl rfl (J.nil (G.prune [0, 1, 2, 3, 8, 9, 15, 16, 17, 18, 19, 20, 21, 22, 23] rfl (G.seq (G.region (J.move rfl rfl (J.move rfl rfl ?_))))))
  rw [Nat.add_sub_cancel]
  refine J.eff (E.callP (save_some (ib := ib) (l := L)) [] [4, 2] rfl rfl rfl rfl rfl) rfl fun _ _ => ?_
  try simp only [apC, apN]
  refine J.eff (E.defer rfl) rfl (J.nil (G.prune [0, 1, 2, 3, 8, 9, 15, 16, 17, 18, 19, 20, 21, 22, 23] rfl (G.seq (G.region (J.move rfl rfl (J.move rfl rfl ?_))))))
  (first | refine J.addI rfl rfl rfl (by omega) ?_ | refine J.addZ rfl rfl rfl (by omega) (by omega) ?_)
  refine J.eff (E.callP (snat_some (n := m + 2 + 1) (L := L) (by omega) (by omega) (by omega) hLl hvc hv.wd) [2, 2] [2] rfl rfl rfl rfl rfl) rfl fun p hp => ?_
  try simp only [apC, apN]
  have hr4 := r4_le (m + 2 + 1)
  rcases p with _ | ⟨hb, hs⟩
  · simp only [inV, inH, gwP, List.cons_append, List.nil_append] at hp ⊢
    have hag : ∀ j, j < m + 2 → (vs.set L 1043915).getD (0 + j) 0 = vs.getD (0 + j) 0 := fun j hj => getD_set_ne (by omega)
    have hhw : Wd (vs.set L 1043915) := hv.wd.set (by decide)
    have hsl : (vs.set L 1043915).length = vs.length := List.length_set ..
    generalize vs.set L 1043915 = hs at hag hhw hsl ⊢
    have hh1 : L + (m + 3) ≤ hs.length := by omega
    have hh2 : hs.length < 9223372036854775808 := by omega
    refine J.ord [1, 2, 3, 0, 4] rfl (by decide) ?_
    refine J.assign rfl rfl (J.nil (G.prune [0, 1, 2, 3, 8, 9, 10, 15, 16, 17, 18, 19, 20, 21, 22, 23] rfl (G.seq (G.region (J.move rfl rfl (J.move rfl rfl ?_))))))
    (first | refine J.subI rfl rfl rfl (by omega) (by omega) ?_ | refine J.subZ rfl rfl rfl (by omega) (by omega) ?_)
    refine J.ix rfl rfl rfl (J.lc rfl rfl rfl (J.assign rfl rfl (J.nil (G.prune [0, 1, 2, 3, 8, 9, 10, 11, 15, 16, 17, 18, 19, 20, 21, 22, 23] rfl (G.seq (G.region (J.move rfl rfl ?_)))))))
    rw [show m + 2 - 1 = m + 1 from rfl]
    rw [hag (m + 1) (by omega)]
    refine J.eff (E.callP (recip_spec (d := vs.getD (0 + (m + 1)) 0) (by rw [Nat.zero_add]; omega) hvw) [] [] rfl rfl rfl rfl rfl) rfl fun _ _ => ?_
    try simp only [apC, apN]
    refine J.assign rfl rfl (J.nil (G.seq (G.region (J.assign rfl rfl (J.nil (G.seq (G.region (J.move rfl rfl ?_))))))))
    refine J.assign rfl rfl (J.nil (G.block ?_))
    rw [Nat.zero_add] at hvw hvw2 ⊢
    refine G.loop1 (G.seq (G.seq (G.region (J.move rfl rfl ?_))))
    (first | refine J.geN rfl rfl rfl ?_ | refine J.geZ rfl rfl rfl ?_)
    refine J.nil (G.cT rfl (G.skip (G.seq (G.block (G.seq (G.region (J.assign rfl rfl (J.nil ?_))))))))
    refine G.seq (G.seq (G.region (J.move rfl rfl (J.move rfl rfl ?_))))
    (first | refine J.neN rfl rfl rfl ?_ | refine J.neZ rfl rfl rfl ?_)
    refine J.nil (G.cT rfl (G.seq (G.region (J.assign rfl rfl (J.nil (G.seq (G.region (J.move rfl rfl ?_))))))))
    refine J.move rfl rfl (J.move rfl rfl (J.move rfl rfl ?_))
    (first | refine J.addI rfl rfl rfl (by omega) ?_ | refine J.addZ rfl rfl rfl (by omega) (by omega) ?_)
    (first | refine J.subI rfl rfl rfl (by omega) (by omega) ?_ | refine J.subZ rfl rfl rfl (by omega) (by omega) ?_)
    refine J.ix rfl rfl rfl (J.lc rfl rfl rfl (J.move rfl rfl (J.move rfl rfl ?_)))
    rw [show T + (m + 2) - 1 = T + (m + 1) from rfl, Nat.zero_add, h0]
    refine J.eff (E.callP (divWW_spec (x1 := 0) (x0 := 0) (y := vs.getD (m + 1) 0) (m := recip (vs.getD (m + 1) 0)) (by omega) (by decide) hvw rfl) [] [] rfl rfl rfl rfl rfl) rfl fun _ _ => ?_
    try simp only [apC, apN]
    refine J.move rfl rfl (J.extractL rfl rfl rfl (J.extractL rfl rfl rfl (J.assign rfl rfl (J.assign rfl rfl (J.nil (G.prune [0, 1, 2, 3, 8, 9, 10, 11, 12, 13, 14, 15, 16, 21, 22, 23] rfl (G.seq (G.region ?_))))))))
    refine J.move rfl rfl (J.move rfl rfl ?_)
    (first | refine J.subI rfl rfl rfl (by omega) (by omega) ?_ | refine J.subZ rfl rfl rfl (by omega) (by omega) ?_)
    refine J.ix rfl rfl rfl (J.lc rfl rfl rfl (J.assign rfl rfl (J.nil (G.prune [0, 1, 2, 3, 8, 9, 10, 11, 12, 13, 14, 15, 16, 17, 21, 22, 23] rfl (G.seq (G.region (J.move rfl rfl (J.move rfl rfl ?_))))))))
    rw [show 0 * 18446744073709551616 + 0 = 0 from rfl, Nat.zero_div, Nat.zero_mod, show m + 2 - 2 = m from rfl]
    rw [hag m (by omega)]
    simp only [Nat.zero_add]
    refine J.eff (E.callP (mulWW_spec (x := 0) (y := vs.getD m 0) (by decide) hvw2) [] [] rfl rfl rfl rfl rfl) rfl fun _ _ => ?_
    try simp only [apC, apN]
    refine J.move rfl rfl (J.extractL rfl rfl rfl (J.extractL rfl rfl rfl (J.assign rfl rfl (J.assign rfl rfl (J.nil (G.prune [0, 1, 2, 3, 8, 9, 10, 11, 12, 13, 14, 15, 16, 17, 18, 19, 21, 22, 23] rfl (G.seq (G.region ?_))))))))
    refine J.move rfl rfl (J.move rfl rfl (J.move rfl rfl ?_))
    (first | refine J.addI rfl rfl rfl (by omega) ?_ | refine J.addZ rfl rfl rfl (by omega) (by omega) ?_)
    (first | refine J.subI rfl rfl rfl (by omega) (by omega) ?_ | refine J.subZ rfl rfl rfl (by omega) (by omega) ?_)
    refine J.ix rfl rfl rfl (J.lc rfl rfl rfl (J.assign rfl rfl (J.nil (G.prune [0, 1, 2, 3, 8, 9, 10, 11, 12, 13, 14, 15, 16, 17, 18, 19, 20, 21, 22, 23] rfl (G.block ?_)))))
    rw [show 0 * vs.getD m 0 / 18446744073709551616 = 0 by rw [Nat.zero_mul], show 0 * vs.getD m 0 % 18446744073709551616 = 0 by rw [Nat.zero_mul], show T + (m + 2) - 2 = T + m from rfl]
    refine G.loop1 (G.seq (G.seq (G.region (J.move rfl rfl (J.move rfl rfl (J.move rfl rfl (J.move rfl rfl (J.eff (E.callP (gt_spec (x1 := 0) (x2 := 0) (y1 := 0) (y2 := us.getD (0 + (T + m)) 0) (by decide) (hu _)) [] [] rfl rfl rfl rfl rfl) rfl fun _ _ => ?_))))))))
    try simp only [apC, apN]
    refine J.nil (G.prune [0, 1, 2, 3, 8, 9, 10, 11, 12, 13, 14, 15, 16, 17, 18, 19, 20, 21, 22, 23, 88] rfl (G.cF rfl (G.exit rfl (G.seq (G.region (J.move rfl rfl (J.move rfl rfl (J.move rfl rfl ?_))))))))
    refine J.move rfl rfl (J.slH0 rfl rfl rfl (by omega) rfl (J.move rfl rfl (J.move rfl rfl (J.eff (E.callP (mulAddVWWS_spec (V := V) (zs0 := hs) (oz := L) (ox := 0) (n := m + 2) (y := 0) (r := 0) (by omega) hhw (by omega) (.inr (by omega)) (by omega) (by decide) (by decide)) [0] [] rfl rfl rfl rfl rfl) rfl fun p hp => ?_))))
    try simp only [apC, apN]
    obtain ⟨c1, hs1⟩ := p
    simp only at hp ⊢
    replace hp := hp.conv (ys0 := vs) hag
    have hm1l := hp.w.len
    obtain ⟨hc0, hz⟩ := hp.zero (by omega)
    subst hc0
    have hag1 : ∀ j, j < m + 2 → (hs1.set (L + (m + 2)) 0).getD (0 + j) 0 = vs.getD (0 + j) 0 := fun j hj => by rw [getD_set_ne (by omega), hp.w.out _ (by omega)]; exact hag j hj
    have hw1 : Wd (hs1.set (L + (m + 2)) 0) := hp.w.wd.set (by decide)
    have hl1 : (hs1.set (L + (m + 2)) 0).length = hs.length := by rw [List.length_set]; exact hm1l
    refine J.ix rfl rfl rfl (J.eff (E.sc rfl rfl) rfl (J.nil (G.prune [0, 1, 2, 3, 8, 9, 10, 11, 12, 14, 15, 16, 17, 18, 19, 20, 23] rfl (G.seq (G.region (J.move rfl rfl (J.lenS rfl rfl (J.assign rfl rfl ?_))))))))
    refine J.nil (G.seq (G.seq (G.region (J.move rfl rfl (J.move rfl rfl ?_)))))
    (first | refine J.addI rfl rfl rfl (by omega) ?_ | refine J.addZ rfl rfl rfl (by omega) (by omega) ?_)
    refine J.move rfl rfl (J.lenS rfl rfl ?_)
    (first | refine J.gtN rfl rfl rfl ?_ | refine J.gtZ rfl rfl rfl ?_)
    refine J.move rfl rfl ?_
    have he0 : (hs1.set (L + (m + 2)) 0).getD (L + (m + 2)) 0 = 0 := getD_set_eq (by omega)
    refine J.wT rfl rfl (J.move rfl rfl (J.wT rfl rfl (J.move rfl rfl (J.wT rfl rfl (J.ix rfl rfl rfl (J.wT rfl rfl (J.lc rfl rfl rfl (J.wT rfl rfl ?_))))))))
    (first | refine J.eqN rfl rfl rfl ?_ | refine J.eqZ rfl rfl rfl ?_)
    refine J.pT rfl rfl rfl (J.nil (G.prune [0, 1, 2, 3, 8, 9, 10, 11, 12, 14, 15, 16, 17, 18, 19, 20, 21, 23, 128] rfl (G.cT rfl (G.region (J.move rfl rfl ?_)))))
    (first | refine J.subI rfl rfl rfl (by omega) (by omega) ?_ | refine J.subZ rfl rfl rfl (by omega) (by omega) ?_)
    refine J.assign rfl rfl (J.nil (G.seq ?_))
    rw [show m + 2 + 1 - 1 = m + 2 from rfl]
    refine G.regionS [0, 1, 2, 3, 4, 5, 6, 7, 8, 9, 10, 11, 12, 13, 14, 15, 16] none none [] (by kernel_rfl) (SubH.of [] rfl) rfl (J.move rfl rfl (J.move rfl rfl (J.move rfl rfl (J.move rfl rfl ?_))))
    (first | refine J.addI rfl rfl rfl (by omega) ?_ | refine J.addZ rfl rfl rfl (by omega) (by omega) ?_)
    (first | refine J.slLH1 rfl rfl rfl rfl (by omega) (by omega) (by omega) ?_ | refine J.slLHnil rfl rfl rfl rfl (by omega) (by omega) ?_)
    refine J.move rfl rfl (J.move rfl rfl (J.move rfl rfl (J.move rfl rfl ?_)))
    (first | refine J.addI rfl rfl rfl (by omega) ?_ | refine J.addZ rfl rfl rfl (by omega) (by omega) ?_)
    (first | refine J.slLH1 rfl rfl rfl rfl (by omega) (by omega) (by omega) ?_ | refine J.slLHnil rfl rfl rfl rfl (by omega) (by omega) ?_)
    refine J.move rfl rfl (J.move rfl rfl (J.slH rfl rfl rfl (by omega) ?_))
    rw [Nat.add_sub_cancel_left, Nat.zero_add]
    refine J.effH (E.callP (subVV_spec (zs0 := us) (ys0 := hs1.set (L + (m + 2)) 0) (b2 := vb) (oz := T) (oy := L) (n := m + 2) (by omega) hu (by omega) hw1 (by omega)) [2] [0] rfl rfl rfl rfl rfl) rfl rfl fun p hp2 => ⟨fun _ => SubH.of [] rfl, ?_⟩
    try simp only [apC, apN]
    obtain ⟨c2, us1⟩ := p
    simp only at hp2 ⊢
    obtain ⟨hc2, hdi⟩ := DI.start hv hu hq h0 hp2 hz
    subst hc2
    have hul1 := hp2.w.len
    refine J.assign rfl rfl (J.nil (G.prune [0, 1, 2, 3, 8, 9, 10, 11, 12, 14, 15, 16, 17, 18, 19, 20, 21, 22, 23] rfl (G.seq (G.seq (G.region (J.move rfl rfl ?_))))))
    (first | refine J.neN rfl rfl rfl ?_ | refine J.neZ rfl rfl rfl ?_)
    refine J.nil (G.cF rfl (G.skip (G.seq (G.region (J.move rfl rfl (J.move rfl rfl (J.move rfl rfl ?_)))))))
    (first | refine J.addI rfl rfl rfl (by omega) ?_ | refine J.addZ rfl rfl rfl (by omega) (by omega) ?_)
    (first | refine J.subI rfl rfl rfl (by omega) (by omega) ?_ | refine J.subZ rfl rfl rfl (by omega) (by omega) ?_)
    refine J.ix rfl rfl rfl (J.lc rfl rfl rfl (J.assign rfl rfl (J.nil (G.prune [0, 1, 2, 3, 8, 9, 10, 11, 12, 13, 14, 15, 16, 17, 18, 19, 20, 21, 22, 23] rfl (G.seq (G.seq (G.region (J.move rfl rfl ?_))))))))
    refine J.move rfl rfl ?_
    (first | refine J.eqN rfl rfl rfl ?_ | refine J.eqZ rfl rfl rfl ?_)
    refine J.move rfl rfl ?_
    rw [show T + (m + 2) - 1 = T + (m + 1) from rfl]
    refine J.wT rfl rfl (J.move rfl rfl (J.wT rfl rfl (J.move rfl rfl (J.wT rfl rfl (J.lenS rfl rfl (J.wT rfl rfl ?_))))))
    (first | refine J.eqN rfl rfl rfl ?_ | refine J.eqZ rfl rfl rfl ?_)
    refine J.pT rfl rfl rfl (J.move rfl rfl (J.wT rfl rfl (J.move rfl rfl (J.wT rfl rfl ?_))))
    (first | refine J.eqN rfl rfl rfl ?_ | refine J.eqZ rfl rfl rfl ?_)
    refine J.pT rfl rfl rfl (J.nil (G.prune [0, 1, 2, 3, 8, 9, 10, 11, 12, 13, 14, 15, 16, 17, 18, 19, 20, 21, 22, 23, 196] rfl (G.cT rfl (G.exit rfl (G.region (J.move rfl rfl ?_))))))
    (first | refine J.subI rfl rfl rfl (by omega) (by omega) ?_ | refine J.subZ rfl rfl rfl (by omega) (by omega) ?_)
    refine J.assign rfl rfl (J.nil ?_)
    rw [Nat.zero_add]
    have hTi : ((T - 1 : Nat) : Int) = (T : Int) - 1 := by omega
    simp only [hTi]
    refine G.loopI (σ := { t : Nat × List Nat × List Nat × List Nat // t.1 ≤ T ∧ DI (rv us 0 (T + (m + 2))) vs t.2.1 t.2.2.1 T m t.1 ∧ t.2.1.length = us.length ∧ t.2.2.1.length = qs.length ∧ t.2.2.2.length = hs.length ∧ Wd t.2.2.2 ∧ ∀ j, j < m + 2 → t.2.2.2.getD (0 + j) 0 = vs.getD (0 + j) 0})
      (fun t => [(0, .slice (some ⟨qb, 0, none⟩) T cq), (1, .pointer (some ⟨sb, 0, none⟩)), (2, .slice (some ⟨ub, 0, none⟩) (T + (m + 2)) us.length), (3, .slice (some ⟨vb, 0, none⟩) (m + 2) cv), (8, .int .i64 ((m + 2 : Nat) : Int)), (9, .int .i64 (T : Nat)), (10, .slice (some ⟨vb, L, none⟩) (m + 2 + 1) (m + 2 + 1)), (11, .int .u64 (vs.getD (m + 1) 0 : Nat)), (12, .int .u64 (recip (vs.getD (m + 1) 0) : Nat)), (13, .int .u64 (t.1.2.1.getD (t.1.1 + (m + 1)) 0 : Nat)), (14, .int .i64 ((t.1.1 : Int) - 1))]) (fun t => [⟨ub, 162, cells .u64 t.1.2.1, true⟩, ⟨vb, 162, cells .u64 t.1.2.2.2, true⟩, ⟨qb, 162, cells .u64 t.1.2.2.1, true⟩, ⟨ib, 286, [.slice (some ⟨vb, 0, none⟩) (L + r4 (m + 2 + 1)) vs.length], true⟩, ⟨sb, 240, [.pointer (some ⟨ib, 0, none⟩)], false⟩]) (fun t => t.1.1) ⟨(T, us1, qs, hs1.set (L + (m + 2)) 0), Nat.le_refl T, hdi, hul1, rfl, hl1, hw1, hag1⟩ (by repeat (first | exact SubSlots.nil _ | refine SubSlots.cons rfl ?_)) [0, 1, 2, 3, 4] rfl (by decide) ?_
    clear hag1 hdi hp2 he0 hz hp hul1 hw1 hl1 hm1l hs1 us1
    rintro ⟨⟨i, ws, qs', hs'⟩, hi, hd, hwl, hql', hhl', hhw', hag'⟩ ih
    simp only at hi hd hwl hql' hhl' hhw' ih ⊢
    rcases Nat.eq_zero_or_pos i with h00 | h00
    · subst h00
      refine G.seq (G.seq (G.region (J.move rfl rfl ?_)))
      (first | refine J.geN rfl rfl rfl ?_ | refine J.geZ rfl rfl rfl ?_)
      refine J.nil (G.cF rfl (G.exit rfl (G.fall (hR _) ?_)))
      refine GL.deferredP (restore_someD (V := V) (sb := sb) (ib := ib) (n := L) (by omega)) [3] [3] rfl rfl rfl fun _ _ => ?_
      exact GL.done (qs', ws, vb, vs.length) rfl rfl ⟨hd, hql', hwl⟩ rfl [3, 1, 0] rfl (by decide) (by simp)
    obtain ⟨k, rfl⟩ : ∃ k, i = k + 1 := ⟨i - 1, by omega⟩
    have hki : ((k + 1 : Nat) : Int) - 1 = (k : Int) := by omega
    have hkm : k + 1 + (m + 1) = k + (m + 2) := by omega
    simp only [hki, hkm] at ih ⊢
    have htop := top_le hv hd.lt
    have hw0 := hd.w (k + (m + 2))
    have hw1 := hd.w (k + (m + 1))
    have hw2 := hd.w (k + m)
    refine G.seq (G.seq (G.region (J.move rfl rfl ?_)))
    (first | refine J.geN rfl rfl rfl ?_ | refine J.geZ rfl rfl rfl ?_)
    refine J.nil (G.cT rfl (G.skip (G.seq (G.block (G.seq (G.region (J.assign rfl rfl (J.nil ?_))))))))
    refine G.seq (G.seq (G.region (J.move rfl rfl (J.move rfl rfl ?_))))
    (first | refine J.neN rfl rfl rfl ?_ | refine J.neZ rfl rfl rfl ?_)
    refine J.nil ?_
    refine G.cut (σ := Nat) (fun q => GS (rv ws k (m + 3)) (rv vs 0 (m + 2)) q) (fun q => [(0, .slice (some ⟨qb, 0, none⟩) T cq), (1, .pointer (some ⟨sb, 0, none⟩)), (2, .slice (some ⟨ub, 0, none⟩) (T + (m + 2)) us.length), (3, .slice (some ⟨vb, 0, none⟩) (m + 2) cv), (8, .int .i64 ((m + 2 : Nat) : Int)), (9, .int .i64 (T : Nat)), (10, .slice (some ⟨vb, L, none⟩) (m + 2 + 1) (m + 2 + 1)), (11, .int .u64 (vs.getD (m + 1) 0 : Nat)), (12, .int .u64 (recip (vs.getD (m + 1) 0) : Nat)), (14, .int .i64 (k : Int)), (15, .int .u64 (q : Nat))]) (fun _ => [⟨ub, 162, cells .u64 ws, true⟩, ⟨vb, 162, cells .u64 hs', true⟩, ⟨qb, 162, cells .u64 qs', true⟩, ⟨ib, 286, [.slice (some ⟨vb, 0, none⟩) (L + r4 (m + 2 + 1)) vs.length], true⟩, ⟨sb, 240, [.pointer (some ⟨ib, 0, none⟩)], false⟩]) (fun hk => ?_) ?_
    · skip
      by_cases he : ws.getD (k + (m + 2)) 0 = vs.getD (m + 1) 0
      · skip
        refine G.cF rfl (G.skip ?_)
        exact G.wk [0, 1, 2, 3, 4] (hk 18446744073709551615 (GS.max hv hd.w hd.lt he))
      · have hlt : ws.getD (k + (m + 2)) 0 < vs.getD (m + 1) 0 := by omega
        have hg2 := G2.start (q := (ws.getD (k + (m + 2)) 0 * 18446744073709551616 + ws.getD (k + (m + 1)) 0) / vs.getD (m + 1) 0) hv hd.w hlt rfl rfl rfl rfl
        refine G.cT rfl (G.seq (G.region (J.assign rfl rfl (J.nil (G.seq (G.region (J.move rfl rfl (J.move rfl rfl ?_))))))))
        refine J.move rfl rfl (J.move rfl rfl ?_)
        (first | refine J.addI rfl rfl rfl (by omega) ?_ | refine J.addZ rfl rfl rfl (by omega) (by omega) ?_)
        (first | refine J.subI rfl rfl rfl (by omega) (by omega) ?_ | refine J.subZ rfl rfl rfl (by omega) (by omega) ?_)
        refine J.ix rfl rfl rfl (J.lc rfl rfl rfl (J.move rfl rfl (J.move rfl rfl ?_)))
        rw [show k + (m + 2) - 1 = k + (m + 1) from rfl, Nat.zero_add]
        refine J.eff (E.callP (divWW_spec (x1 := ws.getD (k + (m + 2)) 0) (x0 := ws.getD (k + (m + 1)) 0) (y := vs.getD (m + 1) 0) (m := recip (vs.getD (m + 1) 0)) hlt hw1 hvw rfl) [] [] rfl rfl rfl rfl rfl) rfl fun _ _ => ?_
        try simp only [apC, apN]
        refine J.move rfl rfl (J.extractL rfl rfl rfl (J.extractL rfl rfl rfl (J.assign rfl rfl (J.assign rfl rfl (J.nil (G.prune [0, 1, 2, 3, 8, 9, 10, 11, 12, 13, 14, 15, 16, 21, 22, 23] rfl (G.seq (G.region ?_))))))))
        refine J.move rfl rfl (J.move rfl rfl ?_)
        (first | refine J.subI rfl rfl rfl (by omega) (by omega) ?_ | refine J.subZ rfl rfl rfl (by omega) (by omega) ?_)
        refine J.ix rfl rfl rfl (J.lc rfl rfl rfl (J.assign rfl rfl (J.nil (G.prune [0, 1, 2, 3, 8, 9, 10, 11, 12, 13, 14, 15, 16, 17, 21, 22, 23] rfl (G.seq (G.region (J.move rfl rfl (J.move rfl rfl ?_))))))))
        rw [show m + 2 - 2 = m from rfl]
        rw [hag' m (by omega)]
        rw [Nat.zero_add m]
        generalize (ws.getD (k + (m + 2)) 0 * 18446744073709551616 + ws.getD (k + (m + 1)) 0) / vs.getD (m + 1) 0 = q0 at hg2 ⊢
        generalize (ws.getD (k + (m + 2)) 0 * 18446744073709551616 + ws.getD (k + (m + 1)) 0) % vs.getD (m + 1) 0 = r0 at hg2 ⊢
        refine J.eff (E.callP (mulWW_spec (x := q0) (y := vs.getD m 0) hg2.lq hvw2) [] [] rfl rfl rfl rfl rfl) rfl fun _ _ => ?_
        try simp only [apC, apN]
        refine J.move rfl rfl (J.extractL rfl rfl rfl (J.extractL rfl rfl rfl (J.assign rfl rfl (J.assign rfl rfl (J.nil (G.prune [0, 1, 2, 3, 8, 9, 10, 11, 12, 13, 14, 15, 16, 17, 18, 19, 21, 22, 23] rfl (G.seq (G.region ?_))))))))
        refine J.move rfl rfl (J.move rfl rfl (J.move rfl rfl ?_))
        (first | refine J.addI rfl rfl rfl (by omega) ?_ | refine J.addZ rfl rfl rfl (by omega) (by omega) ?_)
        (first | refine J.subI rfl rfl rfl (by omega) (by omega) ?_ | refine J.subZ rfl rfl rfl (by omega) (by omega) ?_)
        refine J.ix rfl rfl rfl (J.lc rfl rfl rfl (J.assign rfl rfl (J.nil (G.prune [0, 1, 2, 3, 8, 9, 10, 11, 12, 13, 14, 15, 16, 17, 18, 19, 20, 21, 22, 23] rfl (G.block ?_)))))
        simp only [show k + (m + 2) - 2 = k + m from rfl, Nat.zero_add]
        refine G.loopW (σ := { t : Nat × Nat × Nat × Nat // G2 ws vs k m t.1 t.2.1 t.2.2.1 t.2.2.2 }) (fun t => [(0, .slice (some ⟨qb, 0, none⟩) T cq), (1, .pointer (some ⟨sb, 0, none⟩)), (2, .slice (some ⟨ub, 0, none⟩) (T + (m + 2)) us.length), (3, .slice (some ⟨vb, 0, none⟩) (m + 2) cv), (8, .int .i64 ((m + 2 : Nat) : Int)), (9, .int .i64 (T : Nat)), (10, .slice (some ⟨vb, L, none⟩) (m + 2 + 1) (m + 2 + 1)), (11, .int .u64 (vs.getD (m + 1) 0 : Nat)), (12, .int .u64 (recip (vs.getD (m + 1) 0) : Nat)), (14, .int .i64 (k : Int)), (15, .int .u64 (t.1.1 : Nat)), (16, .int .u64 (t.1.2.1 : Nat)), (17, .int .u64 (vs.getD m 0 : Nat)), (18, .int .u64 (t.1.2.2.1 : Nat)), (19, .int .u64 (t.1.2.2.2 : Nat)), (20, .int .u64 (ws.getD (k + m) 0 : Nat))]) (fun _ => [⟨ub, 162, cells .u64 ws, true⟩, ⟨vb, 162, cells .u64 hs', true⟩, ⟨qb, 162, cells .u64 qs', true⟩, ⟨ib, 286, [.slice (some ⟨vb, 0, none⟩) (L + r4 (m + 2 + 1)) vs.length], true⟩, ⟨sb, 240, [.pointer (some ⟨ib, 0, none⟩)], false⟩]) (fun t => t.1.1) ⟨(q0, r0, _, _), hg2⟩ (by repeat (first | exact SubSlots.nil _ | refine SubSlots.cons rfl ?_)) [0, 1, 2, 3, 4] rfl (by decide) ?_
        clear hg2 q0 r0
        rintro ⟨⟨q, r, x1, x2⟩, hg⟩ ihh
        simp only at hg ihh ⊢
        have hx2 := hg.lx
        have hrl := hg.lr
        have hql := hg.lq
        have hex := hg.ex
        refine G.seq (G.seq (G.region (J.move rfl rfl (J.move rfl rfl (J.move rfl rfl (J.move rfl rfl (J.eff (E.callP (gt_spec (x1 := x1) (x2 := x2) (y1 := r) (y2 := ws.getD (k + m) 0) hx2 hw2) [] [] rfl rfl rfl rfl rfl) rfl fun _ _ => ?_)))))))
        try simp only [apC, apN]
        refine J.nil (G.prune [0, 1, 2, 3, 8, 9, 10, 11, 12, 13, 14, 15, 16, 17, 18, 19, 20, 21, 22, 23, 88] rfl ?_)
        by_cases hgt : r * 18446744073709551616 + ws.getD (k + m) 0 < x1 * 18446744073709551616 + x2
        · obtain ⟨hq0, hdo, hdn⟩ := hg.down hv hd.w (by rw [← hex]; exact hgt)
          refine G.cT rfl (G.skip (G.block (G.seq (G.region (J.move rfl rfl (J.subA rfl rfl rfl (by first | assumption | decide | omega) fun v90 h90 b90 => J.assign rfl rfl (J.nil ?_)))))))
          refine G.seq (G.region (J.move rfl rfl (J.move rfl rfl (J.addA rfl rfl rfl  fun v93 h93 b93 => J.assign rfl rfl (J.nil (G.prune [0, 1, 2, 3, 8, 9, 10, 11, 12, 13, 14, 15, 16, 17, 18, 19, 20, 21, 22, 23] rfl (G.seq ?_)))))))
          refine G.seq (G.region (J.move rfl rfl (J.move rfl rfl ?_)))
          (first | refine J.ltN rfl rfl rfl ?_ | refine J.ltZ rfl rfl rfl ?_)
          refine J.nil ?_
          obtain rfl : v90 = q - 1 := by omega
          by_cases ho : 18446744073709551616 ≤ r + vs.getD (m + 1) 0
          · have e93 : v93 < vs.getD (m + 1) 0 := by omega
            refine G.cT rfl (G.exit rfl ?_)
            exact G.wk [0, 1, 2, 3, 4] (hk (q - 1) (hdo ho))
          · obtain rfl : v93 = r + vs.getD (m + 1) 0 := by omega
            have hdn' := hdn (by omega)
            refine G.cF rfl (G.skip (G.seq (G.seq (G.region (J.move rfl rfl (J.move rfl rfl ?_))))))
            (first | refine J.gtN rfl rfl rfl ?_ | refine J.gtZ rfl rfl rfl ?_)
            refine J.nil ?_
            by_cases hx : x2 < vs.getD m 0
            · rw [if_pos hx, if_pos hx] at hdn'
              have hx1 : 0 < x1 := by
                have h1 : 1 * vs.getD m 0 ≤ q * vs.getD m 0 := Nat.mul_le_mul_right _ hq0
                omega
              have hx1W : x1 < 18446744073709551616 := by
                have h1 : q * vs.getD m 0 ≤ 18446744073709551615 * 18446744073709551615 := Nat.mul_le_mul (by omega) (by omega)
                omega
              refine G.cT rfl (G.region (J.move rfl rfl (J.subA rfl rfl rfl (by first | assumption | decide | omega) fun v101 h101 b101 => J.assign rfl rfl (J.nil (G.region (J.move rfl rfl (J.move rfl rfl ?_)))))))
              refine J.subA rfl rfl rfl (by first | assumption | decide | omega) fun v104 h104 b104 => J.assign rfl rfl (J.nil (G.prune [0, 1, 2, 3, 8, 9, 10, 11, 12, 13, 14, 15, 16, 17, 18, 19, 20, 21, 22, 23] rfl (G.inBlock ?_)))
              obtain rfl : v101 = x1 - 1 := by omega
              obtain rfl : v104 = x2 + 18446744073709551616 - vs.getD m 0 := by omega
              exact G.wk [0, 1, 2, 3, 4] (ihh ⟨(q - 1, r + vs.getD (m + 1) 0, x1 - 1, x2 + 18446744073709551616 - vs.getD m 0), hdn'⟩ (by simp only; omega))
            · rw [if_neg hx, if_neg hx] at hdn'
              refine G.cF rfl (G.skip (G.region (J.move rfl rfl (J.move rfl rfl (J.subA rfl rfl rfl (by first | assumption | decide | omega) fun v104 h104 b104 => J.assign rfl rfl (J.nil (G.prune [0, 1, 2, 3, 8, 9, 10, 11, 12, 13, 14, 15, 16, 17, 18, 19, 20, 21, 22, 23] rfl ?_)))))))
              refine G.inBlock ?_
              obtain rfl : v104 = x2 - vs.getD m 0 := by omega
              exact G.wk [0, 1, 2, 3, 4] (ihh ⟨(q - 1, r + vs.getD (m + 1) 0, x1, x2 - vs.getD m 0), hdn'⟩ (by simp only; omega))
        · skip
          refine G.cF rfl (G.exit rfl ?_)
          exact G.wk [0, 1, 2, 3, 4] (hk q (hg.gs hv (by rw [← hex]; omega)))
    rintro q hg
    have hql := hg.b
    refine G.seq (G.region (J.move rfl rfl (J.move rfl rfl (J.move rfl rfl (J.move rfl rfl (J.slH0 rfl rfl rfl (by omega) rfl (J.move rfl rfl (J.move rfl rfl ?_))))))))
    refine J.eff (E.callP (mulAddVWWS_spec (V := V) (zs0 := hs') (oz := L) (ox := 0) (n := m + 2) (y := q) (r := 0) (by omega) hhw' (by omega) (.inr (by omega)) (by omega) hql (by decide)) [1] [] rfl rfl rfl rfl rfl) rfl fun p hp => ?_
    try simp only [apC, apN]
    obtain ⟨c1, hs1⟩ := p
    simp only at hp ⊢
    replace hp := hp.conv (ys0 := vs) hag'
    have hl1a := hp.w.len
    have hagq : ∀ j, j < m + 2 → (hs1.set (L + (m + 2)) c1).getD (0 + j) 0 = vs.getD (0 + j) 0 := fun j hj => by rw [getD_set_ne (by omega), hp.w.out _ (by omega)]; exact hag' j hj
    have hat := hp.hat (by omega)
    have hw1' : Wd (hs1.set (L + (m + 2)) c1) := hp.w.wd.set hp.lt
    have hl1 : (hs1.set (L + (m + 2)) c1).length = hs.length := by rw [List.length_set, hp.w.len]; exact hhl'
    refine J.ix rfl rfl rfl (J.eff (E.sc rfl rfl) rfl (J.nil (G.prune [0, 1, 2, 3, 8, 9, 10, 11, 12, 14, 15, 16, 17, 18, 19, 20, 23] rfl (G.seq (G.region (J.move rfl rfl (J.lenS rfl rfl (J.assign rfl rfl ?_))))))))
    refine J.nil (G.seq (G.seq (G.region (J.move rfl rfl (J.move rfl rfl ?_)))))
    (first | refine J.addI rfl rfl rfl (by omega) ?_ | refine J.addZ rfl rfl rfl (by omega) (by omega) ?_)
    refine J.move rfl rfl (J.lenS rfl rfl ?_)
    (first | refine J.gtN rfl rfl rfl ?_ | refine J.gtZ rfl rfl rfl ?_)
    refine J.move rfl rfl (J.sk rfl rfl rfl rfl (J.sk rfl rfl rfl rfl (J.sk rfl rfl rfl rfl (J.sk rfl rfl rfl rfl (J.sk rfl rfl rfl rfl (J.pF rfl rfl rfl (J.nil (G.prune [0, 1, 2, 3, 8, 9, 10, 11, 12, 14, 15, 16, 17, 18, 19, 20, 21, 23, 128] rfl ?_))))))))
    refine G.cF rfl (G.skip (G.seq (G.regionS [0, 1, 2, 3, 4, 5, 6, 7, 8, 9, 10, 11, 12, 13, 14, 15, 16] none none [] (by kernel_rfl) (SubH.of [] rfl) rfl (J.move rfl rfl (J.move rfl rfl (J.move rfl rfl (J.move rfl rfl ?_)))))))
    (first | refine J.addI rfl rfl rfl (by omega) ?_ | refine J.addZ rfl rfl rfl (by omega) (by omega) ?_)
    (first | refine J.slLH1 rfl rfl rfl rfl (by omega) (by omega) (by omega) ?_ | refine J.slLHnil rfl rfl rfl rfl (by omega) (by omega) ?_)
    refine J.move rfl rfl (J.move rfl rfl (J.move rfl rfl (J.move rfl rfl ?_)))
    (first | refine J.addI rfl rfl rfl (by omega) ?_ | refine J.addZ rfl rfl rfl (by omega) (by omega) ?_)
    (first | refine J.slLH1 rfl rfl rfl rfl (by omega) (by omega) (by omega) ?_ | refine J.slLHnil rfl rfl rfl rfl (by omega) (by omega) ?_)
    refine J.move rfl rfl (J.move rfl rfl (J.slH rfl rfl rfl (by omega) ?_))
    rw [Nat.add_sub_cancel_left, Nat.zero_add]
    refine J.effH (E.callP (subVV_spec (zs0 := ws) (ys0 := hs1.set (L + (m + 2)) c1) (b2 := vb) (oz := k) (oy := L) (n := m + 2 + 1) (by omega) hd.w (by omega) hw1' (by omega)) [1] [0] rfl rfl rfl rfl rfl) rfl rfl fun p hp2 => ⟨fun _ => SubH.of [] rfl, ?_⟩
    try simp only [apC, apN]
    obtain ⟨c2, ws1⟩ := p
    simp only at hp2 ⊢
    have hl2 := hp2.w.len
    have hc2 := hp2.lt
    refine J.assign rfl rfl (J.nil (G.prune [0, 1, 2, 3, 8, 9, 10, 11, 12, 14, 15, 16, 17, 18, 19, 20, 21, 22, 23] rfl (G.seq (G.seq (G.region (J.move rfl rfl ?_))))))
    (first | refine J.neN rfl rfl rfl ?_ | refine J.neZ rfl rfl rfl ?_)
    refine J.nil ?_
    refine G.cut (σ := List Nat × Nat) (fun t => DI (rv us 0 (T + (m + 2))) vs t.1 (qs'.set k t.2) T m k ∧ t.1.length = us.length) (fun t => [(0, .slice (some ⟨qb, 0, none⟩) T cq), (1, .pointer (some ⟨sb, 0, none⟩)), (2, .slice (some ⟨ub, 0, none⟩) (T + (m + 2)) us.length), (3, .slice (some ⟨vb, 0, none⟩) (m + 2) cv), (8, .int .i64 ((m + 2 : Nat) : Int)), (9, .int .i64 (T : Nat)), (10, .slice (some ⟨vb, L, none⟩) (m + 2 + 1) (m + 2 + 1)), (11, .int .u64 (vs.getD (m + 1) 0 : Nat)), (12, .int .u64 (recip (vs.getD (m + 1) 0) : Nat)), (14, .int .i64 (k : Int)), (15, .int .u64 (t.2 : Nat))]) (fun t => [⟨ub, 162, cells .u64 t.1, true⟩, ⟨vb, 162, cells .u64 (hs1.set (L + (m + 2)) c1), true⟩, ⟨qb, 162, cells .u64 qs', true⟩, ⟨ib, 286, [.slice (some ⟨vb, 0, none⟩) (L + r4 (m + 2 + 1)) vs.length], true⟩, ⟨sb, 240, [.pointer (some ⟨ib, 0, none⟩)], false⟩]) (fun hk2 => ?_) ?_
    · skip
      by_cases hc0 : c2 = 0
      · subst hc0
        have hdi := hd.sub (by omega) hv hg hp2 hat (by omega)
        refine G.cF rfl (G.skip ?_)
        exact G.wk [0, 1, 2, 3, 4] (hk2 (ws1, q) ⟨hdi, by simp only; omega⟩)
      · obtain rfl : c2 = 1 := by omega
        refine G.cT rfl (G.seq (G.regionS [0, 1, 2, 3, 4, 5, 6, 7, 8, 9, 10, 11, 12, 13, 14] none none [] (by kernel_rfl) (SubH.of [] rfl) rfl (J.move rfl rfl (J.move rfl rfl (J.move rfl rfl (J.move rfl rfl ?_))))))
        (first | refine J.addI rfl rfl rfl (by omega) ?_ | refine J.addZ rfl rfl rfl (by omega) (by omega) ?_)
        (first | refine J.slLH1 rfl rfl rfl rfl (by omega) (by omega) (by omega) ?_ | refine J.slLHnil rfl rfl rfl rfl (by omega) (by omega) ?_)
        refine J.move rfl rfl (J.move rfl rfl (J.move rfl rfl (J.move rfl rfl ?_)))
        (first | refine J.addI rfl rfl rfl (by omega) ?_ | refine J.addZ rfl rfl rfl (by omega) (by omega) ?_)
        (first | refine J.slLH1 rfl rfl rfl rfl (by omega) (by omega) (by omega) ?_ | refine J.slLHnil rfl rfl rfl rfl (by omega) (by omega) ?_)
        refine J.move rfl rfl ?_
        rw [Nat.add_sub_cancel_left, Nat.zero_add]
        refine J.effH (E.callP (addVV_spec (zs0 := ws1) (ys0 := (hs1.set (L + (m + 2)) c1)) (b2 := vb) (oz := k) (oy := 0) (n := m + 2) (by omega) hp2.w.wd (by omega) hw1' (by omega)) [0] [0] rfl rfl rfl rfl rfl) rfl rfl fun p hp3 => ⟨fun _ => SubH.of [] rfl, ?_⟩
        try simp only [apC, apN]
        obtain ⟨c3, ws2⟩ := p
        simp only at hp3 ⊢
        replace hp3 := hp3.conv (ys1 := vs) hagq
        have hl3 := hp3.w.len
        refine J.assign rfl rfl (J.nil (G.prune [0, 1, 2, 3, 8, 9, 10, 11, 12, 14, 15, 16, 17, 18, 19, 20, 21, 22, 23] rfl (G.seq (G.seq (G.region (J.move rfl rfl (J.move rfl rfl ?_)))))))
        (first | refine J.ltN rfl rfl rfl ?_ | refine J.ltZ rfl rfl rfl ?_)
        refine J.nil (G.cT rfl (G.region (J.move rfl rfl (J.move rfl rfl (J.move rfl rfl ?_)))))
        (first | refine J.addI rfl rfl rfl (by omega) ?_ | refine J.addZ rfl rfl rfl (by omega) (by omega) ?_)
        refine J.ix rfl rfl rfl (J.lc rfl rfl rfl (J.move rfl rfl (J.addA rfl rfl rfl  fun v173 h173 b173 => J.ix rfl rfl rfl (J.eff (E.sc rfl rfl) rfl (J.nil (G.prune [0, 1, 2, 3, 8, 9, 10, 11, 12, 14, 15, 16, 17, 18, 19, 20, 21, 22, 23] rfl (G.region ?_)))))))
        refine J.move rfl rfl (J.subA rfl rfl rfl (by first | assumption | decide | omega) fun v176 h176 b176 => J.assign rfl rfl (J.nil ?_))
        simp only [Nat.zero_add (k + (m + 2))]
        obtain ⟨hq0, hdi⟩ := hd.add (by omega) hv hg hp2 hat hp3 (by omega) v173 b173
        obtain rfl : v176 = q - 1 := by omega
        exact G.wk [0, 1, 2, 3, 4] (hk2 (ws2.set (k + (m + 2)) v173, q - 1) ⟨hdi, by simp only [List.length_set]; omega⟩)
    rintro ⟨ws2, qd⟩ ⟨hdi, hl4⟩
    simp only at hdi hl4 ⊢
    refine G.seq (G.region (J.move rfl rfl (J.move rfl rfl (J.move rfl rfl ?_))))
    (first | refine J.addI rfl rfl rfl (by omega) ?_ | refine J.addZ rfl rfl rfl (by omega) (by omega) ?_)
    (first | refine J.subI rfl rfl rfl (by omega) (by omega) ?_ | refine J.subZ rfl rfl rfl (by omega) (by omega) ?_)
    refine J.ix rfl rfl rfl (J.lc rfl rfl rfl (J.assign rfl rfl (J.nil (G.prune [0, 1, 2, 3, 8, 9, 10, 11, 12, 13, 14, 15, 16, 17, 18, 19, 20, 21, 22, 23] rfl (G.seq (G.seq (G.region (J.move rfl rfl ?_))))))))
    refine J.move rfl rfl ?_
    (first | refine J.eqN rfl rfl rfl ?_ | refine J.eqZ rfl rfl rfl ?_)
    refine J.move rfl rfl ?_
    rw [show k + (m + 2) - 1 = k + (m + 1) from rfl, Nat.zero_add (k + (m + 1))]
    refine J.sk rfl rfl rfl rfl (J.sk rfl rfl rfl rfl (J.sk rfl rfl rfl rfl (J.sk rfl rfl rfl rfl (J.pF rfl rfl rfl (J.move rfl rfl (J.sk rfl rfl rfl rfl (J.sk rfl rfl rfl rfl (J.pF rfl rfl rfl ?_))))))))
    refine J.nil (G.prune [0, 1, 2, 3, 8, 9, 10, 11, 12, 13, 14, 15, 16, 17, 18, 19, 20, 21, 22, 23, 196] rfl (G.cF rfl (G.skip (G.region (J.move rfl rfl (J.move rfl rfl (J.move rfl rfl (J.ix rfl rfl rfl ?_))))))))
    refine J.eff (E.sc rfl rfl) rfl (J.nil (G.prune [0, 1, 2, 3, 8, 9, 10, 11, 12, 13, 14, 15, 16, 17, 18, 19, 20, 21, 22, 23] rfl (G.inBlock (G.region (J.move rfl rfl ?_)))))
    (first | refine J.subI rfl rfl rfl (by omega) (by omega) ?_ | refine J.subZ rfl rfl rfl (by omega) (by omega) ?_)
    refine J.assign rfl rfl (J.nil ?_)
    simp only [Nat.zero_add k]
    exact G.wk [0, 1, 2, 3, 4] (ih ⟨(k, ws2, qs'.set k qd, hs1.set (L + (m + 2)) c1), by simp only; omega, hdi, hl4, by simp only [List.length_set]; omega, hl1, hw1', hagq⟩ (by simp only; omega))
  · simp only [inV, inH, gwP, List.cons_append, List.nil_append] at hp ⊢
    obtain ⟨p1, p2, hhw⟩ := hp
    have hh1 : L + (m + 3) ≤ hs.length := by omega
    refine J.ord [2, 3, 4, 1, 0, 5] rfl (by decide) ?_
    refine J.assign rfl rfl (J.nil (G.prune [0, 1, 2, 3, 8, 9, 10, 15, 16, 17, 18, 19, 20, 21, 22, 23] rfl (G.seq (G.region (J.move rfl rfl (J.move rfl rfl ?_))))))
    (first | refine J.subI rfl rfl rfl (by omega) (by omega) ?_ | refine J.subZ rfl rfl rfl (by omega) (by omega) ?_)
    refine J.ix rfl rfl rfl (J.lc rfl rfl rfl (J.assign rfl rfl (J.nil (G.prune [0, 1, 2, 3, 8, 9, 10, 11, 15, 16, 17, 18, 19, 20, 21, 22, 23] rfl (G.seq (G.region (J.move rfl rfl ?_)))))))
    rw [show m + 2 - 1 = m + 1 from rfl]
    refine J.eff (E.callP (recip_spec (d := vs.getD (0 + (m + 1)) 0) (by rw [Nat.zero_add]; omega) hvw) [] [] rfl rfl rfl rfl rfl) rfl fun _ _ => ?_
    try simp only [apC, apN]
    refine J.assign rfl rfl (J.nil (G.seq (G.region (J.assign rfl rfl (J.nil (G.seq (G.region (J.move rfl rfl ?_))))))))
    refine J.assign rfl rfl (J.nil (G.block ?_))
    rw [Nat.zero_add] at hvw hvw2 ⊢
    refine G.loop1 (G.seq (G.seq (G.region (J.move rfl rfl ?_))))
    (first | refine J.geN rfl rfl rfl ?_ | refine J.geZ rfl rfl rfl ?_)
    refine J.nil (G.cT rfl (G.skip (G.seq (G.block (G.seq (G.region (J.assign rfl rfl (J.nil ?_))))))))
    refine G.seq (G.seq (G.region (J.move rfl rfl (J.move rfl rfl ?_))))
    (first | refine J.neN rfl rfl rfl ?_ | refine J.neZ rfl rfl rfl ?_)
    refine J.nil (G.cT rfl (G.seq (G.region (J.assign rfl rfl (J.nil (G.seq (G.region (J.move rfl rfl ?_))))))))
    refine J.move rfl rfl (J.move rfl rfl (J.move rfl rfl ?_))
    (first | refine J.addI rfl rfl rfl (by omega) ?_ | refine J.addZ rfl rfl rfl (by omega) (by omega) ?_)
    (first | refine J.subI rfl rfl rfl (by omega) (by omega) ?_ | refine J.subZ rfl rfl rfl (by omega) (by omega) ?_)
    refine J.ix rfl rfl rfl (J.lc rfl rfl rfl (J.move rfl rfl (J.move rfl rfl ?_)))
    rw [show T + (m + 2) - 1 = T + (m + 1) from rfl, Nat.zero_add, h0]
    refine J.eff (E.callP (divWW_spec (x1 := 0) (x0 := 0) (y := vs.getD (m + 1) 0) (m := recip (vs.getD (m + 1) 0)) (by omega) (by decide) hvw rfl) [] [] rfl rfl rfl rfl rfl) rfl fun _ _ => ?_
    try simp only [apC, apN]
    refine J.move rfl rfl (J.extractL rfl rfl rfl (J.extractL rfl rfl rfl (J.assign rfl rfl (J.assign rfl rfl (J.nil (G.prune [0, 1, 2, 3, 8, 9, 10, 11, 12, 13, 14, 15, 16, 21, 22, 23] rfl (G.seq (G.region ?_))))))))
    refine J.move rfl rfl (J.move rfl rfl ?_)
    (first | refine J.subI rfl rfl rfl (by omega) (by omega) ?_ | refine J.subZ rfl rfl rfl (by omega) (by omega) ?_)
    refine J.ix rfl rfl rfl (J.lc rfl rfl rfl (J.assign rfl rfl (J.nil (G.prune [0, 1, 2, 3, 8, 9, 10, 11, 12, 13, 14, 15, 16, 17, 21, 22, 23] rfl (G.seq (G.region (J.move rfl rfl (J.move rfl rfl ?_))))))))
    rw [show 0 * 18446744073709551616 + 0 = 0 from rfl, Nat.zero_div, Nat.zero_mod, show m + 2 - 2 = m from rfl]
    simp only [Nat.zero_add]
    refine J.eff (E.callP (mulWW_spec (x := 0) (y := vs.getD m 0) (by decide) hvw2) [] [] rfl rfl rfl rfl rfl) rfl fun _ _ => ?_
    try simp only [apC, apN]
    refine J.move rfl rfl (J.extractL rfl rfl rfl (J.extractL rfl rfl rfl (J.assign rfl rfl (J.assign rfl rfl (J.nil (G.prune [0, 1, 2, 3, 8, 9, 10, 11, 12, 13, 14, 15, 16, 17, 18, 19, 21, 22, 23] rfl (G.seq (G.region ?_))))))))
    refine J.move rfl rfl (J.move rfl rfl (J.move rfl rfl ?_))
    (first | refine J.addI rfl rfl rfl (by omega) ?_ | refine J.addZ rfl rfl rfl (by omega) (by omega) ?_)
    (first | refine J.subI rfl rfl rfl (by omega) (by omega) ?_ | refine J.subZ rfl rfl rfl (by omega) (by omega) ?_)
    refine J.ix rfl rfl rfl (J.lc rfl rfl rfl (J.assign rfl rfl (J.nil (G.prune [0, 1, 2, 3, 8, 9, 10, 11, 12, 13, 14, 15, 16, 17, 18, 19, 20, 21, 22, 23] rfl (G.block ?_)))))
    rw [show 0 * vs.getD m 0 / 18446744073709551616 = 0 by rw [Nat.zero_mul], show 0 * vs.getD m 0 % 18446744073709551616 = 0 by rw [Nat.zero_mul], show T + (m + 2) - 2 = T + m from rfl]
    refine G.loop1 (G.seq (G.seq (G.region (J.move rfl rfl (J.move rfl rfl (J.move rfl rfl (J.move rfl rfl (J.eff (E.callP (gt_spec (x1 := 0) (x2 := 0) (y1 := 0) (y2 := us.getD (0 + (T + m)) 0) (by decide) (hu _)) [] [] rfl rfl rfl rfl rfl) rfl fun _ _ => ?_))))))))
    try simp only [apC, apN]
    refine J.nil (G.prune [0, 1, 2, 3, 8, 9, 10, 11, 12, 13, 14, 15, 16, 17, 18, 19, 20, 21, 22, 23, 88] rfl (G.cF rfl (G.exit rfl (G.seq (G.region (J.move rfl rfl (J.move rfl rfl (J.move rfl rfl ?_))))))))
    refine J.move rfl rfl (J.slH0 rfl rfl rfl (by omega) rfl (J.move rfl rfl (J.move rfl rfl (J.eff (E.callP (mulAddVWWO_spec (V := V) (zs0 := hs) (xs0 := vs) (oz := L) (ox := 0) (n := m + 2) (y := 0) (r := 0) (by omega) hhw (by omega) hv.wd (by omega) (by decide) (by decide)) [0] [2] rfl rfl rfl rfl rfl) rfl fun p hp => ?_))))
    try simp only [apC, apN]
    obtain ⟨c1, hs1⟩ := p
    simp only at hp ⊢
    have hm1l := hp.w.len
    obtain ⟨hc0, hz⟩ := hp.zero (by omega)
    subst hc0
    have hw1 : Wd (hs1.set (L + (m + 2)) 0) := hp.w.wd.set (by decide)
    have hl1 : (hs1.set (L + (m + 2)) 0).length = hs.length := by rw [List.length_set]; exact hm1l
    refine J.ix rfl rfl rfl (J.eff (E.sc rfl rfl) rfl (J.nil (G.prune [0, 1, 2, 3, 8, 9, 10, 11, 12, 14, 15, 16, 17, 18, 19, 20, 23] rfl (G.seq (G.region (J.move rfl rfl (J.lenS rfl rfl (J.assign rfl rfl ?_))))))))
    refine J.nil (G.seq (G.seq (G.region (J.move rfl rfl (J.move rfl rfl ?_)))))
    (first | refine J.addI rfl rfl rfl (by omega) ?_ | refine J.addZ rfl rfl rfl (by omega) (by omega) ?_)
    refine J.move rfl rfl (J.lenS rfl rfl ?_)
    (first | refine J.gtN rfl rfl rfl ?_ | refine J.gtZ rfl rfl rfl ?_)
    refine J.move rfl rfl ?_
    have he0 : (hs1.set (L + (m + 2)) 0).getD (L + (m + 2)) 0 = 0 := getD_set_eq (by omega)
    refine J.wT rfl rfl (J.move rfl rfl (J.wT rfl rfl (J.move rfl rfl (J.wT rfl rfl (J.ix rfl rfl rfl (J.wT rfl rfl (J.lc rfl rfl rfl (J.wT rfl rfl ?_))))))))
    (first | refine J.eqN rfl rfl rfl ?_ | refine J.eqZ rfl rfl rfl ?_)
    refine J.pT rfl rfl rfl (J.nil (G.prune [0, 1, 2, 3, 8, 9, 10, 11, 12, 14, 15, 16, 17, 18, 19, 20, 21, 23, 128] rfl (G.cT rfl (G.region (J.move rfl rfl ?_)))))
    (first | refine J.subI rfl rfl rfl (by omega) (by omega) ?_ | refine J.subZ rfl rfl rfl (by omega) (by omega) ?_)
    refine J.assign rfl rfl (J.nil (G.seq ?_))
    rw [show m + 2 + 1 - 1 = m + 2 from rfl]
    refine G.regionS [0, 1, 2, 3, 4, 5, 6, 7, 8, 9, 10, 11, 12, 13, 14, 15, 16] none none [] (by kernel_rfl) (SubH.of [] rfl) rfl (J.move rfl rfl (J.move rfl rfl (J.move rfl rfl (J.move rfl rfl ?_))))
    (first | refine J.addI rfl rfl rfl (by omega) ?_ | refine J.addZ rfl rfl rfl (by omega) (by omega) ?_)
    (first | refine J.slLH1 rfl rfl rfl rfl (by omega) (by omega) (by omega) ?_ | refine J.slLHnil rfl rfl rfl rfl (by omega) (by omega) ?_)
    refine J.move rfl rfl (J.move rfl rfl (J.move rfl rfl (J.move rfl rfl ?_)))
    (first | refine J.addI rfl rfl rfl (by omega) ?_ | refine J.addZ rfl rfl rfl (by omega) (by omega) ?_)
    (first | refine J.slLH1 rfl rfl rfl rfl (by omega) (by omega) (by omega) ?_ | refine J.slLHnil rfl rfl rfl rfl (by omega) (by omega) ?_)
    refine J.move rfl rfl (J.move rfl rfl (J.slH rfl rfl rfl (by omega) ?_))
    rw [Nat.add_sub_cancel_left, Nat.zero_add]
    refine J.effH (E.callP (subVV_spec (zs0 := us) (ys0 := hs1.set (L + (m + 2)) 0) (b2 := hb) (oz := T) (oy := L) (n := m + 2) (by omega) hu (by omega) hw1 (by omega)) [2] [0] rfl rfl rfl rfl rfl) rfl rfl fun p hp2 => ⟨fun _ => SubH.of [] rfl, ?_⟩
    try simp only [apC, apN]
    obtain ⟨c2, us1⟩ := p
    simp only at hp2 ⊢
    obtain ⟨hc2, hdi⟩ := DI.start hv hu hq h0 hp2 hz
    subst hc2
    have hul1 := hp2.w.len
    refine J.assign rfl rfl (J.nil (G.prune [0, 1, 2, 3, 8, 9, 10, 11, 12, 14, 15, 16, 17, 18, 19, 20, 21, 22, 23] rfl (G.seq (G.seq (G.region (J.move rfl rfl ?_))))))
    (first | refine J.neN rfl rfl rfl ?_ | refine J.neZ rfl rfl rfl ?_)
    refine J.nil (G.cF rfl (G.skip (G.seq (G.region (J.move rfl rfl (J.move rfl rfl (J.move rfl rfl ?_)))))))
    (first | refine J.addI rfl rfl rfl (by omega) ?_ | refine J.addZ rfl rfl rfl (by omega) (by omega) ?_)
    (first | refine J.subI rfl rfl rfl (by omega) (by omega) ?_ | refine J.subZ rfl rfl rfl (by omega) (by omega) ?_)
    refine J.ix rfl rfl rfl (J.lc rfl rfl rfl (J.assign rfl rfl (J.nil (G.prune [0, 1, 2, 3, 8, 9, 10, 11, 12, 13, 14, 15, 16, 17, 18, 19, 20, 21, 22, 23] rfl (G.seq (G.seq (G.region (J.move rfl rfl ?_))))))))
    refine J.move rfl rfl ?_
    (first | refine J.eqN rfl rfl rfl ?_ | refine J.eqZ rfl rfl rfl ?_)
    refine J.move rfl rfl ?_
    rw [show T + (m + 2) - 1 = T + (m + 1) from rfl]
    refine J.wT rfl rfl (J.move rfl rfl (J.wT rfl rfl (J.move rfl rfl (J.wT rfl rfl (J.lenS rfl rfl (J.wT rfl rfl ?_))))))
    (first | refine J.eqN rfl rfl rfl ?_ | refine J.eqZ rfl rfl rfl ?_)
    refine J.pT rfl rfl rfl (J.move rfl rfl (J.wT rfl rfl (J.move rfl rfl (J.wT rfl rfl ?_))))
    (first | refine J.eqN rfl rfl rfl ?_ | refine J.eqZ rfl rfl rfl ?_)
    refine J.pT rfl rfl rfl (J.nil (G.prune [0, 1, 2, 3, 8, 9, 10, 11, 12, 13, 14, 15, 16, 17, 18, 19, 20, 21, 22, 23, 196] rfl (G.cT rfl (G.exit rfl (G.region (J.move rfl rfl ?_))))))
    (first | refine J.subI rfl rfl rfl (by omega) (by omega) ?_ | refine J.subZ rfl rfl rfl (by omega) (by omega) ?_)
    refine J.assign rfl rfl (J.nil ?_)
    rw [Nat.zero_add]
    have hTi : ((T - 1 : Nat) : Int) = (T : Int) - 1 := by omega
    simp only [hTi]
    refine G.loopI (σ := { t : Nat × List Nat × List Nat × List Nat // t.1 ≤ T ∧ DI (rv us 0 (T + (m + 2))) vs t.2.1 t.2.2.1 T m t.1 ∧ t.2.1.length = us.length ∧ t.2.2.1.length = qs.length ∧ t.2.2.2.length = hs.length ∧ Wd t.2.2.2 })
      (fun t => [(0, .slice (some ⟨qb, 0, none⟩) T cq), (1, .pointer (some ⟨sb, 0, none⟩)), (2, .slice (some ⟨ub, 0, none⟩) (T + (m + 2)) us.length), (3, .slice (some ⟨vb, 0, none⟩) (m + 2) cv), (8, .int .i64 ((m + 2 : Nat) : Int)), (9, .int .i64 (T : Nat)), (10, .slice (some ⟨hb, L, none⟩) (m + 2 + 1) (m + 2 + 1)), (11, .int .u64 (vs.getD (m + 1) 0 : Nat)), (12, .int .u64 (recip (vs.getD (m + 1) 0) : Nat)), (13, .int .u64 (t.1.2.1.getD (t.1.1 + (m + 1)) 0 : Nat)), (14, .int .i64 ((t.1.1 : Int) - 1))]) (fun t => [⟨ub, 162, cells .u64 t.1.2.1, true⟩, ⟨hb, 162, cells .u64 t.1.2.2.2, true⟩, ⟨qb, 162, cells .u64 t.1.2.2.1, true⟩, ⟨vb, 162, cells .u64 vs, true⟩, ⟨ib, 286, [.slice (some ⟨hb, 0, none⟩) (L + r4 (m + 2 + 1)) hs.length], true⟩, ⟨sb, 240, [.pointer (some ⟨ib, 0, none⟩)], false⟩]) (fun t => t.1.1) ⟨(T, us1, qs, hs1.set (L + (m + 2)) 0), Nat.le_refl T, hdi, hul1, rfl, hl1, hw1⟩ (by repeat (first | exact SubSlots.nil _ | refine SubSlots.cons rfl ?_)) [0, 1, 2, 3, 4, 5] rfl (by decide) ?_
    clear hdi hp2 he0 hz hp hul1 hw1 hl1 hm1l hs1 us1
    rintro ⟨⟨i, ws, qs', hs'⟩, hi, hd, hwl, hql', hhl', hhw'⟩ ih
    simp only at hi hd hwl hql' hhl' hhw' ih ⊢
    rcases Nat.eq_zero_or_pos i with h00 | h00
    · subst h00
      refine G.seq (G.seq (G.region (J.move rfl rfl ?_)))
      (first | refine J.geN rfl rfl rfl ?_ | refine J.geZ rfl rfl rfl ?_)
      refine J.nil (G.cF rfl (G.exit rfl (G.fall (hR _) ?_)))
      refine GL.deferredP (restore_someD (V := V) (sb := sb) (ib := ib) (n := L) (by omega)) [4] [4] rfl rfl rfl fun _ _ => ?_
      exact GL.done (qs', ws, hb, hs.length) rfl rfl ⟨hd, hql', hwl⟩ rfl [3, 1, 0] rfl (by decide) (by simp)
    obtain ⟨k, rfl⟩ : ∃ k, i = k + 1 := ⟨i - 1, by omega⟩
    have hki : ((k + 1 : Nat) : Int) - 1 = (k : Int) := by omega
    have hkm : k + 1 + (m + 1) = k + (m + 2) := by omega
    simp only [hki, hkm] at ih ⊢
    have htop := top_le hv hd.lt
    have hw0 := hd.w (k + (m + 2))
    have hw1 := hd.w (k + (m + 1))
    have hw2 := hd.w (k + m)
    refine G.seq (G.seq (G.region (J.move rfl rfl ?_)))
    (first | refine J.geN rfl rfl rfl ?_ | refine J.geZ rfl rfl rfl ?_)
    refine J.nil (G.cT rfl (G.skip (G.seq (G.block (G.seq (G.region (J.assign rfl rfl (J.nil ?_))))))))
    refine G.seq (G.seq (G.region (J.move rfl rfl (J.move rfl rfl ?_))))
    (first | refine J.neN rfl rfl rfl ?_ | refine J.neZ rfl rfl rfl ?_)
    refine J.nil ?_
    refine G.cut (σ := Nat) (fun q => GS (rv ws k (m + 3)) (rv vs 0 (m + 2)) q) (fun q => [(0, .slice (some ⟨qb, 0, none⟩) T cq), (1, .pointer (some ⟨sb, 0, none⟩)), (2, .slice (some ⟨ub, 0, none⟩) (T + (m + 2)) us.length), (3, .slice (some ⟨vb, 0, none⟩) (m + 2) cv), (8, .int .i64 ((m + 2 : Nat) : Int)), (9, .int .i64 (T : Nat)), (10, .slice (some ⟨hb, L, none⟩) (m + 2 + 1) (m + 2 + 1)), (11, .int .u64 (vs.getD (m + 1) 0 : Nat)), (12, .int .u64 (recip (vs.getD (m + 1) 0) : Nat)), (14, .int .i64 (k : Int)), (15, .int .u64 (q : Nat))]) (fun _ => [⟨ub, 162, cells .u64 ws, true⟩, ⟨hb, 162, cells .u64 hs', true⟩, ⟨qb, 162, cells .u64 qs', true⟩, ⟨vb, 162, cells .u64 vs, true⟩, ⟨ib, 286, [.slice (some ⟨hb, 0, none⟩) (L + r4 (m + 2 + 1)) hs.length], true⟩, ⟨sb, 240, [.pointer (some ⟨ib, 0, none⟩)], false⟩]) (fun hk => ?_) ?_
    · skip
      by_cases he : ws.getD (k + (m + 2)) 0 = vs.getD (m + 1) 0
      · skip
        refine G.cF rfl (G.skip ?_)
        exact G.wk [0, 1, 2, 3, 4, 5] (hk 18446744073709551615 (GS.max hv hd.w hd.lt he))
      · have hlt : ws.getD (k + (m + 2)) 0 < vs.getD (m + 1) 0 := by omega
        have hg2 := G2.start (q := (ws.getD (k + (m + 2)) 0 * 18446744073709551616 + ws.getD (k + (m + 1)) 0) / vs.getD (m + 1) 0) hv hd.w hlt rfl rfl rfl rfl
        refine G.cT rfl (G.seq (G.region (J.assign rfl rfl (J.nil (G.seq (G.region (J.move rfl rfl (J.move rfl rfl ?_))))))))
        refine J.move rfl rfl (J.move rfl rfl ?_)
        (first | refine J.addI rfl rfl rfl (by omega) ?_ | refine J.addZ rfl rfl rfl (by omega) (by omega) ?_)
        (first | refine J.subI rfl rfl rfl (by omega) (by omega) ?_ | refine J.subZ rfl rfl rfl (by omega) (by omega) ?_)
        refine J.ix rfl rfl rfl (J.lc rfl rfl rfl (J.move rfl rfl (J.move rfl rfl ?_)))
        rw [show k + (m + 2) - 1 = k + (m + 1) from rfl, Nat.zero_add]
        refine J.eff (E.callP (divWW_spec (x1 := ws.getD (k + (m + 2)) 0) (x0 := ws.getD (k + (m + 1)) 0) (y := vs.getD (m + 1) 0) (m := recip (vs.getD (m + 1) 0)) hlt hw1 hvw rfl) [] [] rfl rfl rfl rfl rfl) rfl fun _ _ => ?_
        try simp only [apC, apN]
        refine J.move rfl rfl (J.extractL rfl rfl rfl (J.extractL rfl rfl rfl (J.assign rfl rfl (J.assign rfl rfl (J.nil (G.prune [0, 1, 2, 3, 8, 9, 10, 11, 12, 13, 14, 15, 16, 21, 22, 23] rfl (G.seq (G.region ?_))))))))
        refine J.move rfl rfl (J.move rfl rfl ?_)
        (first | refine J.subI rfl rfl rfl (by omega) (by omega) ?_ | refine J.subZ rfl rfl rfl (by omega) (by omega) ?_)
        refine J.ix rfl rfl rfl (J.lc rfl rfl rfl (J.assign rfl rfl (J.nil (G.prune [0, 1, 2, 3, 8, 9, 10, 11, 12, 13, 14, 15, 16, 17, 21, 22, 23] rfl (G.seq (G.region (J.move rfl rfl (J.move rfl rfl ?_))))))))
        rw [show m + 2 - 2 = m from rfl]
        rw [Nat.zero_add m]
        generalize (ws.getD (k + (m + 2)) 0 * 18446744073709551616 + ws.getD (k + (m + 1)) 0) / vs.getD (m + 1) 0 = q0 at hg2 ⊢
        generalize (ws.getD (k + (m + 2)) 0 * 18446744073709551616 + ws.getD (k + (m + 1)) 0) % vs.getD (m + 1) 0 = r0 at hg2 ⊢
        refine J.eff (E.callP (mulWW_spec (x := q0) (y := vs.getD m 0) hg2.lq hvw2) [] [] rfl rfl rfl rfl rfl) rfl fun _ _ => ?_
        try simp only [apC, apN]
        refine J.move rfl rfl (J.extractL rfl rfl rfl (J.extractL rfl rfl rfl (J.assign rfl rfl (J.assign rfl rfl (J.nil (G.prune [0, 1, 2, 3, 8, 9, 10, 11, 12, 13, 14, 15, 16, 17, 18, 19, 21, 22, 23] rfl (G.seq (G.region ?_))))))))
        refine J.move rfl rfl (J.move rfl rfl (J.move rfl rfl ?_))
        (first | refine J.addI rfl rfl rfl (by omega) ?_ | refine J.addZ rfl rfl rfl (by omega) (by omega) ?_)
        (first | refine J.subI rfl rfl rfl (by omega) (by omega) ?_ | refine J.subZ rfl rfl rfl (by omega) (by omega) ?_)
        refine J.ix rfl rfl rfl (J.lc rfl rfl rfl (J.assign rfl rfl (J.nil (G.prune [0, 1, 2, 3, 8, 9, 10, 11, 12, 13, 14, 15, 16, 17, 18, 19, 20, 21, 22, 23] rfl (G.block ?_)))))
        simp only [show k + (m + 2) - 2 = k + m from rfl, Nat.zero_add]
        refine G.loopW (σ := { t : Nat × Nat × Nat × Nat // G2 ws vs k m t.1 t.2.1 t.2.2.1 t.2.2.2 }) (fun t => [(0, .slice (some ⟨qb, 0, none⟩) T cq), (1, .pointer (some ⟨sb, 0, none⟩)), (2, .slice (some ⟨ub, 0, none⟩) (T + (m + 2)) us.length), (3, .slice (some ⟨vb, 0, none⟩) (m + 2) cv), (8, .int .i64 ((m + 2 : Nat) : Int)), (9, .int .i64 (T : Nat)), (10, .slice (some ⟨hb, L, none⟩) (m + 2 + 1) (m + 2 + 1)), (11, .int .u64 (vs.getD (m + 1) 0 : Nat)), (12, .int .u64 (recip (vs.getD (m + 1) 0) : Nat)), (14, .int .i64 (k : Int)), (15, .int .u64 (t.1.1 : Nat)), (16, .int .u64 (t.1.2.1 : Nat)), (17, .int .u64 (vs.getD m 0 : Nat)), (18, .int .u64 (t.1.2.2.1 : Nat)), (19, .int .u64 (t.1.2.2.2 : Nat)), (20, .int .u64 (ws.getD (k + m) 0 : Nat))]) (fun _ => [⟨ub, 162, cells .u64 ws, true⟩, ⟨hb, 162, cells .u64 hs', true⟩, ⟨qb, 162, cells .u64 qs', true⟩, ⟨vb, 162, cells .u64 vs, true⟩, ⟨ib, 286, [.slice (some ⟨hb, 0, none⟩) (L + r4 (m + 2 + 1)) hs.length], true⟩, ⟨sb, 240, [.pointer (some ⟨ib, 0, none⟩)], false⟩]) (fun t => t.1.1) ⟨(q0, r0, _, _), hg2⟩ (by repeat (first | exact SubSlots.nil _ | refine SubSlots.cons rfl ?_)) [0, 1, 2, 3, 4, 5] rfl (by decide) ?_
        clear hg2 q0 r0
        rintro ⟨⟨q, r, x1, x2⟩, hg⟩ ihh
        simp only at hg ihh ⊢
        have hx2 := hg.lx
        have hrl := hg.lr
        have hql := hg.lq
        have hex := hg.ex
        refine G.seq (G.seq (G.region (J.move rfl rfl (J.move rfl rfl (J.move rfl rfl (J.move rfl rfl (J.eff (E.callP (gt_spec (x1 := x1) (x2 := x2) (y1 := r) (y2 := ws.getD (k + m) 0) hx2 hw2) [] [] rfl rfl rfl rfl rfl) rfl fun _ _ => ?_)))))))
        try simp only [apC, apN]
        refine J.nil (G.prune [0, 1, 2, 3, 8, 9, 10, 11, 12, 13, 14, 15, 16, 17, 18, 19, 20, 21, 22, 23, 88] rfl ?_)
        by_cases hgt : r * 18446744073709551616 + ws.getD (k + m) 0 < x1 * 18446744073709551616 + x2
        · obtain ⟨hq0, hdo, hdn⟩ := hg.down hv hd.w (by rw [← hex]; exact hgt)
          refine G.cT rfl (G.skip (G.block (G.seq (G.region (J.move rfl rfl (J.subA rfl rfl rfl (by first | assumption | decide | omega) fun v90 h90 b90 => J.assign rfl rfl (J.nil ?_)))))))
          refine G.seq (G.region (J.move rfl rfl (J.move rfl rfl (J.addA rfl rfl rfl  fun v93 h93 b93 => J.assign rfl rfl (J.nil (G.prune [0, 1, 2, 3, 8, 9, 10, 11, 12, 13, 14, 15, 16, 17, 18, 19, 20, 21, 22, 23] rfl (G.seq ?_)))))))
          refine G.seq (G.region (J.move rfl rfl (J.move rfl rfl ?_)))
          (first | refine J.ltN rfl rfl rfl ?_ | refine J.ltZ rfl rfl rfl ?_)
          refine J.nil ?_
          obtain rfl : v90 = q - 1 := by omega
          by_cases ho : 18446744073709551616 ≤ r + vs.getD (m + 1) 0
          · have e93 : v93 < vs.getD (m + 1) 0 := by omega
            refine G.cT rfl (G.exit rfl ?_)
            exact G.wk [0, 1, 2, 3, 4, 5] (hk (q - 1) (hdo ho))
          · obtain rfl : v93 = r + vs.getD (m + 1) 0 := by omega
            have hdn' := hdn (by omega)
            refine G.cF rfl (G.skip (G.seq (G.seq (G.region (J.move rfl rfl (J.move rfl rfl ?_))))))
            (first | refine J.gtN rfl rfl rfl ?_ | refine J.gtZ rfl rfl rfl ?_)
            refine J.nil ?_
            by_cases hx : x2 < vs.getD m 0
            · rw [if_pos hx, if_pos hx] at hdn'
              have hx1 : 0 < x1 := by
                have h1 : 1 * vs.getD m 0 ≤ q * vs.getD m 0 := Nat.mul_le_mul_right _ hq0
                omega
              have hx1W : x1 < 18446744073709551616 := by
                have h1 : q * vs.getD m 0 ≤ 18446744073709551615 * 18446744073709551615 := Nat.mul_le_mul (by omega) (by omega)
                omega
              refine G.cT rfl (G.region (J.move rfl rfl (J.subA rfl rfl rfl (by first | assumption | decide | omega) fun v101 h101 b101 => J.assign rfl rfl (J.nil (G.region (J.move rfl rfl (J.move rfl rfl ?_)))))))
              refine J.subA rfl rfl rfl (by first | assumption | decide | omega) fun v104 h104 b104 => J.assign rfl rfl (J.nil (G.prune [0, 1, 2, 3, 8, 9, 10, 11, 12, 13, 14, 15, 16, 17, 18, 19, 20, 21, 22, 23] rfl (G.inBlock ?_)))
              obtain rfl : v101 = x1 - 1 := by omega
              obtain rfl : v104 = x2 + 18446744073709551616 - vs.getD m 0 := by omega
              exact G.wk [0, 1, 2, 3, 4, 5] (ihh ⟨(q - 1, r + vs.getD (m + 1) 0, x1 - 1, x2 + 18446744073709551616 - vs.getD m 0), hdn'⟩ (by simp only; omega))
            · rw [if_neg hx, if_neg hx] at hdn'
              refine G.cF rfl (G.skip (G.region (J.move rfl rfl (J.move rfl rfl (J.subA rfl rfl rfl (by first | assumption | decide | omega) fun v104 h104 b104 => J.assign rfl rfl (J.nil (G.prune [0, 1, 2, 3, 8, 9, 10, 11, 12, 13, 14, 15, 16, 17, 18, 19, 20, 21, 22, 23] rfl ?_)))))))
              refine G.inBlock ?_
              obtain rfl : v104 = x2 - vs.getD m 0 := by omega
              exact G.wk [0, 1, 2, 3, 4, 5] (ihh ⟨(q - 1, r + vs.getD (m + 1) 0, x1, x2 - vs.getD m 0), hdn'⟩ (by simp only; omega))
        · skip
          refine G.cF rfl (G.exit rfl ?_)
          exact G.wk [0, 1, 2, 3, 4, 5] (hk q (hg.gs hv (by rw [← hex]; omega)))
    rintro q hg
    have hql := hg.b
    refine G.seq (G.region (J.move rfl rfl (J.move rfl rfl (J.move rfl rfl (J.move rfl rfl (J.slH0 rfl rfl rfl (by omega) rfl (J.move rfl rfl (J.move rfl rfl ?_))))))))
    refine J.eff (E.callP (mulAddVWWO_spec (V := V) (zs0 := hs') (xs0 := vs) (oz := L) (ox := 0) (n := m + 2) (y := q) (r := 0) (by omega) hhw' (by omega) hv.wd (by omega) hql (by decide)) [1] [2] rfl rfl rfl rfl rfl) rfl fun p hp => ?_
    try simp only [apC, apN]
    obtain ⟨c1, hs1⟩ := p
    simp only at hp ⊢
    have hl1a := hp.w.len
    have hat := hp.hat (by omega)
    have hw1' : Wd (hs1.set (L + (m + 2)) c1) := hp.w.wd.set hp.lt
    have hl1 : (hs1.set (L + (m + 2)) c1).length = hs.length := by rw [List.length_set, hp.w.len]; exact hhl'
    refine J.ix rfl rfl rfl (J.eff (E.sc rfl rfl) rfl (J.nil (G.prune [0, 1, 2, 3, 8, 9, 10, 11, 12, 14, 15, 16, 17, 18, 19, 20, 23] rfl (G.seq (G.region (J.move rfl rfl (J.lenS rfl rfl (J.assign rfl rfl ?_))))))))
    refine J.nil (G.seq (G.seq (G.region (J.move rfl rfl (J.move rfl rfl ?_)))))
    (first | refine J.addI rfl rfl rfl (by omega) ?_ | refine J.addZ rfl rfl rfl (by omega) (by omega) ?_)
    refine J.move rfl rfl (J.lenS rfl rfl ?_)
    (first | refine J.gtN rfl rfl rfl ?_ | refine J.gtZ rfl rfl rfl ?_)
    refine J.move rfl rfl (J.sk rfl rfl rfl rfl (J.sk rfl rfl rfl rfl (J.sk rfl rfl rfl rfl (J.sk rfl rfl rfl rfl (J.sk rfl rfl rfl rfl (J.pF rfl rfl rfl (J.nil (G.prune [0, 1, 2, 3, 8, 9, 10, 11, 12, 14, 15, 16, 17, 18, 19, 20, 21, 23, 128] rfl ?_))))))))
    refine G.cF rfl (G.skip (G.seq (G.regionS [0, 1, 2, 3, 4, 5, 6, 7, 8, 9, 10, 11, 12, 13, 14, 15, 16] none none [] (by kernel_rfl) (SubH.of [] rfl) rfl (J.move rfl rfl (J.move rfl rfl (J.move rfl rfl (J.move rfl rfl ?_)))))))
    (first | refine J.addI rfl rfl rfl (by omega) ?_ | refine J.addZ rfl rfl rfl (by omega) (by omega) ?_)
    (first | refine J.slLH1 rfl rfl rfl rfl (by omega) (by omega) (by omega) ?_ | refine J.slLHnil rfl rfl rfl rfl (by omega) (by omega) ?_)
    refine J.move rfl rfl (J.move rfl rfl (J.move rfl rfl (J.move rfl rfl ?_)))
    (first | refine J.addI rfl rfl rfl (by omega) ?_ | refine J.addZ rfl rfl rfl (by omega) (by omega) ?_)
    (first | refine J.slLH1 rfl rfl rfl rfl (by omega) (by omega) (by omega) ?_ | refine J.slLHnil rfl rfl rfl rfl (by omega) (by omega) ?_)
    refine J.move rfl rfl (J.move rfl rfl (J.slH rfl rfl rfl (by omega) ?_))
    rw [Nat.add_sub_cancel_left, Nat.zero_add]
    refine J.effH (E.callP (subVV_spec (zs0 := ws) (ys0 := hs1.set (L + (m + 2)) c1) (b2 := hb) (oz := k) (oy := L) (n := m + 2 + 1) (by omega) hd.w (by omega) hw1' (by omega)) [1] [0] rfl rfl rfl rfl rfl) rfl rfl fun p hp2 => ⟨fun _ => SubH.of [] rfl, ?_⟩
    try simp only [apC, apN]
    obtain ⟨c2, ws1⟩ := p
    simp only at hp2 ⊢
    have hl2 := hp2.w.len
    have hc2 := hp2.lt
    refine J.assign rfl rfl (J.nil (G.prune [0, 1, 2, 3, 8, 9, 10, 11, 12, 14, 15, 16, 17, 18, 19, 20, 21, 22, 23] rfl (G.seq (G.seq (G.region (J.move rfl rfl ?_))))))
    (first | refine J.neN rfl rfl rfl ?_ | refine J.neZ rfl rfl rfl ?_)
    refine J.nil ?_
    refine G.cut (σ := List Nat × Nat) (fun t => DI (rv us 0 (T + (m + 2))) vs t.1 (qs'.set k t.2) T m k ∧ t.1.length = us.length) (fun t => [(0, .slice (some ⟨qb, 0, none⟩) T cq), (1, .pointer (some ⟨sb, 0, none⟩)), (2, .slice (some ⟨ub, 0, none⟩) (T + (m + 2)) us.length), (3, .slice (some ⟨vb, 0, none⟩) (m + 2) cv), (8, .int .i64 ((m + 2 : Nat) : Int)), (9, .int .i64 (T : Nat)), (10, .slice (some ⟨hb, L, none⟩) (m + 2 + 1) (m + 2 + 1)), (11, .int .u64 (vs.getD (m + 1) 0 : Nat)), (12, .int .u64 (recip (vs.getD (m + 1) 0) : Nat)), (14, .int .i64 (k : Int)), (15, .int .u64 (t.2 : Nat))]) (fun t => [⟨ub, 162, cells .u64 t.1, true⟩, ⟨hb, 162, cells .u64 (hs1.set (L + (m + 2)) c1), true⟩, ⟨qb, 162, cells .u64 qs', true⟩, ⟨vb, 162, cells .u64 vs, true⟩, ⟨ib, 286, [.slice (some ⟨hb, 0, none⟩) (L + r4 (m + 2 + 1)) hs.length], true⟩, ⟨sb, 240, [.pointer (some ⟨ib, 0, none⟩)], false⟩]) (fun hk2 => ?_) ?_
    · skip
      by_cases hc0 : c2 = 0
      · subst hc0
        have hdi := hd.sub (by omega) hv hg hp2 hat (by omega)
        refine G.cF rfl (G.skip ?_)
        exact G.wk [0, 1, 2, 3, 4, 5] (hk2 (ws1, q) ⟨hdi, by simp only; omega⟩)
      · obtain rfl : c2 = 1 := by omega
        refine G.cT rfl (G.seq (G.regionS [0, 1, 2, 3, 4, 5, 6, 7, 8, 9, 10, 11, 12, 13, 14] none none [] (by kernel_rfl) (SubH.of [] rfl) rfl (J.move rfl rfl (J.move rfl rfl (J.move rfl rfl (J.move rfl rfl ?_))))))
        (first | refine J.addI rfl rfl rfl (by omega) ?_ | refine J.addZ rfl rfl rfl (by omega) (by omega) ?_)
        (first | refine J.slLH1 rfl rfl rfl rfl (by omega) (by omega) (by omega) ?_ | refine J.slLHnil rfl rfl rfl rfl (by omega) (by omega) ?_)
        refine J.move rfl rfl (J.move rfl rfl (J.move rfl rfl (J.move rfl rfl ?_)))
        (first | refine J.addI rfl rfl rfl (by omega) ?_ | refine J.addZ rfl rfl rfl (by omega) (by omega) ?_)
        (first | refine J.slLH1 rfl rfl rfl rfl (by omega) (by omega) (by omega) ?_ | refine J.slLHnil rfl rfl rfl rfl (by omega) (by omega) ?_)
        refine J.move rfl rfl ?_
        rw [Nat.add_sub_cancel_left, Nat.zero_add]
        refine J.effH (E.callP (addVV_spec (zs0 := ws1) (ys0 := vs) (b2 := vb) (oz := k) (oy := 0) (n := m + 2) (by omega) hp2.w.wd (by omega) hv.wd (by omega)) [0] [2] rfl rfl rfl rfl rfl) rfl rfl fun p hp3 => ⟨fun _ => SubH.of [] rfl, ?_⟩
        try simp only [apC, apN]
        obtain ⟨c3, ws2⟩ := p
        simp only at hp3 ⊢
        have hl3 := hp3.w.len
        refine J.assign rfl rfl (J.nil (G.prune [0, 1, 2, 3, 8, 9, 10, 11, 12, 14, 15, 16, 17, 18, 19, 20, 21, 22, 23] rfl (G.seq (G.seq (G.region (J.move rfl rfl (J.move rfl rfl ?_)))))))
        (first | refine J.ltN rfl rfl rfl ?_ | refine J.ltZ rfl rfl rfl ?_)
        refine J.nil (G.cT rfl (G.region (J.move rfl rfl (J.move rfl rfl (J.move rfl rfl ?_)))))
        (first | refine J.addI rfl rfl rfl (by omega) ?_ | refine J.addZ rfl rfl rfl (by omega) (by omega) ?_)
        refine J.ix rfl rfl rfl (J.lc rfl rfl rfl (J.move rfl rfl (J.addA rfl rfl rfl  fun v173 h173 b173 => J.ix rfl rfl rfl (J.eff (E.sc rfl rfl) rfl (J.nil (G.prune [0, 1, 2, 3, 8, 9, 10, 11, 12, 14, 15, 16, 17, 18, 19, 20, 21, 22, 23] rfl (G.region ?_)))))))
        refine J.move rfl rfl (J.subA rfl rfl rfl (by first | assumption | decide | omega) fun v176 h176 b176 => J.assign rfl rfl (J.nil ?_))
        simp only [Nat.zero_add (k + (m + 2))]
        obtain ⟨hq0, hdi⟩ := hd.add (by omega) hv hg hp2 hat hp3 (by omega) v173 b173
        obtain rfl : v176 = q - 1 := by omega
        exact G.wk [0, 1, 2, 3, 4, 5] (hk2 (ws2.set (k + (m + 2)) v173, q - 1) ⟨hdi, by simp only [List.length_set]; omega⟩)
    rintro ⟨ws2, qd⟩ ⟨hdi, hl4⟩
    simp only at hdi hl4 ⊢
    refine G.seq (G.region (J.move rfl rfl (J.move rfl rfl (J.move rfl rfl ?_))))
    (first | refine J.addI rfl rfl rfl (by omega) ?_ | refine J.addZ rfl rfl rfl (by omega) (by omega) ?_)
    (first | refine J.subI rfl rfl rfl (by omega) (by omega) ?_ | refine J.subZ rfl rfl rfl (by omega) (by omega) ?_)
    refine J.ix rfl rfl rfl (J.lc rfl rfl rfl (J.assign rfl rfl (J.nil (G.prune [0, 1, 2, 3, 8, 9, 10, 11, 12, 13, 14, 15, 16, 17, 18, 19, 20, 21, 22, 23] rfl (G.seq (G.seq (G.region (J.move rfl rfl ?_))))))))
    refine J.move rfl rfl ?_
    (first | refine J.eqN rfl rfl rfl ?_ | refine J.eqZ rfl rfl rfl ?_)
    refine J.move rfl rfl ?_
    rw [show k + (m + 2) - 1 = k + (m + 1) from rfl, Nat.zero_add (k + (m + 1))]
    refine J.sk rfl rfl rfl rfl (J.sk rfl rfl rfl rfl (J.sk rfl rfl rfl rfl (J.sk rfl rfl rfl rfl (J.pF rfl rfl rfl (J.move rfl rfl (J.sk rfl rfl rfl rfl (J.sk rfl rfl rfl rfl (J.pF rfl rfl rfl ?_))))))))
    refine J.nil (G.prune [0, 1, 2, 3, 8, 9, 10, 11, 12, 13, 14, 15, 16, 17, 18, 19, 20, 21, 22, 23, 196] rfl (G.cF rfl (G.skip (G.region (J.move rfl rfl (J.move rfl rfl (J.move rfl rfl (J.ix rfl rfl rfl ?_))))))))
    refine J.eff (E.sc rfl rfl) rfl (J.nil (G.prune [0, 1, 2, 3, 8, 9, 10, 11, 12, 13, 14, 15, 16, 17, 18, 19, 20, 21, 22, 23] rfl (G.inBlock (G.region (J.move rfl rfl ?_)))))
    (first | refine J.subI rfl rfl rfl (by omega) (by omega) ?_ | refine J.subZ rfl rfl rfl (by omega) (by omega) ?_)
    refine J.assign rfl rfl (J.nil ?_)
    simp only [Nat.zero_add k]
    exact G.wk [0, 1, 2, 3, 4, 5] (ih ⟨(k, ws2, qs'.set k qd, hs1.set (L + (m + 2)) c1), by simp only; omega, hdi, hl4, by simp only [List.length_set]; omega, hl1, hw1'⟩ (by simp only; omega))
end
section
set_option maxRecDepth 100000
set_option pp.deepTerms false
set_option maxHeartbeats 2000000
variable {V : Addr}
theorem DV.copy {vs ys : List Nat} {m : Nat} (hv : m + 2 ≤ vs.length) (hy : m + 2 ≤ ys.length) (hw : Wd vs) (h : Dvs ys m) :
    Dvs (splice vs 0 ((ys.drop 0).take (m + 2))) m ∧ rv (splice vs 0 ((ys.drop 0).take (m + 2))) 0 (m + 2) = rv ys 0 (m + 2) ∧ (splice vs 0 ((ys.drop 0).take (m + 2))).length = vs.length := by
  have hl : ((ys.drop 0).take (m + 2)).length = m + 2 := drop_take_len (by omega)
  have hg : ∀ j, j < m + 2 → (splice vs 0 ((ys.drop 0).take (m + 2))).getD j 0 = ys.getD j 0 := fun j hj => by
    rw [getD_splice (by omega), if_pos (by omega), Nat.sub_zero, getD_drop_take hj, Nat.zero_add]
  exact ⟨⟨hw.splice (h.wd.sub _ _) (by omega), by rw [hg _ (by omega)]; exact h.top⟩, rv_congr fun j hj => by rw [Nat.zero_add]; exact hg j hj, splice_len _ _ _ (by omega)⟩
structure UZ (xs us : List Nat) (l : Nat) : Prop where
  w : Wd us
  e : rv us 0 (l + 1) = rv xs 0 l
  z : us.getD l 0 = 0
  l : us.length = mcap (l + 1)
theorem UZ.mk' {xs : List Nat} {l : Nat} (hl : l ≤ xs.length) (hw : Wd xs) : UZ xs ((splice (List.replicate (mcap (l + 1)) 0) 0 ((xs.drop 0).take l)).set (0 + l) 0) l := by
  have hc := mcap_ge (l + 1)
  have h1 : ((xs.drop 0).take l).length = l := drop_take_len (by omega)
  have h2 : (List.replicate (mcap (l + 1)) 0).length = mcap (l + 1) := List.length_replicate ..
  have h3 : (splice (List.replicate (mcap (l + 1)) 0) 0 ((xs.drop 0).take l)).length = mcap (l + 1) := by rw [splice_len _ _ _ (by omega), h2]
  have hz : ((splice (List.replicate (mcap (l + 1)) 0) 0 ((xs.drop 0).take l)).set (0 + l) 0).getD l 0 = 0 := by rw [Nat.zero_add]; exact getD_set_eq (by omega)
  refine ⟨((Wd.rep _).splice (hw.sub _ _) (by omega)).set (by decide), ?_, hz, by rw [List.length_set, h3]⟩
  have hz' := hz
  rw [Nat.zero_add l] at hz'
  rw [rv_succ, Nat.zero_add l, hz', Nat.zero_mul, Nat.add_zero, rv_set (by omega)]
  exact rv_congr fun j hj => by rw [Nat.zero_add, getD_splice (by omega), if_pos (by omega), Nat.sub_zero, getD_drop_take hj, Nat.zero_add]
def skR (sb : Nat) : Option (Nat × Nat × Nat × Nat) → Hp
  | none => [⟨sb, 240, [.pointer none], true⟩]
  | some p => [⟨sb, 240, [.pointer (some ⟨p.1, 0, none⟩)], true⟩, ⟨p.1, 286, [.slice (some ⟨p.2.1, 0, none⟩) p.2.2.1 p.2.2.2], true⟩]
def qrH (sb : Nat) (t : RS × RS × Option (Nat × Nat × Nat × Nat)) : Hp := ⟨t.1.b, 162, cells .u64 t.1.xs, true⟩ :: ⟨t.2.1.b, 162, cells .u64 t.2.1.xs, true⟩ :: skR sb t.2.2
theorem divQ {Q V R X : Nat} (h : Q * V + R = X) (h1 : R < V) (h2 : V ≤ X) : Q ≠ 0 := by
  rintro rfl
  rw [Nat.zero_mul] at h
  omega
theorem divLarge_spec {sb T m : Nat} {z x y : RS} (hz : zok (some z)) (hx : zok (some x)) (hxl : x.len = T + (m + 1)) (hT : 0 < T) (hT9 : T ≤ 60) (hm9 : m ≤ 8) (hyl : y.len = m + 2) (hyk : y.len ≤ y.xs.length) (hy : Dvs y.xs m) (hXY : rv y.xs 0 (m + 2) ≤ rv x.xs 0 (T + (m + 1))) :
    Spec (cx V) 188 #[zv (some z), .pointer (some ⟨sb, 0, none⟩), .slice none 0 0, zv (some x), zv (some y)] (⟨z.b, 162, cells .u64 z.xs, true⟩ :: [⟨sb, 240, [.pointer none], true⟩]) [⟨x.b, 162, cells .u64 x.xs, false⟩, ⟨y.b, 162, cells .u64 y.xs, false⟩]
      (fun t : RS × RS × Option (Nat × Nat × Nat × Nat) => .tuple #[zv (some t.1), zv (some t.2.1)]) (qrH sb) (fun t => (∃ Q, Res (some t.1) Q ∧ Q ≠ 0) ∧ t.1.len ≤ T ∧ t.2.1.len ≤ t.2.1.xs.length) := by
  obtain ⟨zb, lz, zs⟩ := z
  obtain ⟨xb, lx, xs⟩ := x
  obtain ⟨yb, ly, ys⟩ := y
  obtain ⟨z1, z2, z3⟩ := hz
  obtain ⟨x1, x2, x3⟩ := hx
  simp only [zv] at *
  subst hxl
  subst hyl
  have hvt := hy.wd (0 + (m + 1))
  have hb64 : blen (ys.getD (m + 1) 0) = 64 := by
    have h1 := blen_lt (n := 64) (hy.wd (m + 1))
    have h2 := blen_le (x := ys.getD (m + 1) 0)
    have h3 := hy.top
    rcases Nat.lt_or_ge (blen (ys.getD (m + 1) 0)) 64 with e | e
    · exfalso
      have : 2 ^ blen (ys.getD (m + 1) 0) ≤ 2 ^ 63 := Nat.pow_le_pow_right (by decide) (by omega)
      have e63 : 2 ^ 63 = 9223372036854775808 := by decide
      omega
    · omega
  have hmc1 := mcap_ge (T + (m + 1) + 1)
  have hmc2 := mcap_le (T + (m + 1) + 1)
  have hmq1 := mcap_ge T
  have hmq2 := mcap_le T
  have hrl : (List.replicate (mcap (T + (m + 1) + 1)) 0).length = mcap (T + (m + 1) + 1) := List.length_replicate ..
  have hrq : (List.replicate (mcap T) 0).length = mcap T := List.length_replicate ..
  refine Spec.enter Tryz.func188 rfl Tryz.ntmps188 (by simp) [(0, .slice (some ⟨zb, 0, none⟩) lz zs.length), (1, .pointer (some ⟨sb, 0, none⟩)), (2, .slice none 0 0), (3, .slice (some ⟨xb, 0, none⟩) (T + (m + 1)) xs.length), (4, .slice (some ⟨yb, 0, none⟩) (m + 2) ys.length)] (by simp) ?_
  intro X hR
  try simp only [apC, apN]
  refine G.seq (G.region (J.assign rfl rfl (J.assign rfl rfl (J.nil (G.seq (G.region (J.move rfl rfl (J.lenS rfl rfl ?_))))))))
  refine J.assign rfl rfl (J.nil (G.seq (G.region (J.move rfl rfl (J.lenS rfl rfl (J.move rfl rfl ?_))))))
  (first | refine J.subI rfl rfl rfl (by omega) (by omega) ?_ | refine J.subZ rfl rfl rfl (by omega) (by omega) ?_)
  refine J.assign rfl rfl (J.nil (G.prune [0, 1, 2, 3, 4, 10, 11, 12, 13] rfl (G.seq (G.region (J.move rfl rfl (J.move rfl rfl (J.eff (E.callP (save_nil) [] [1] rfl rfl rfl rfl rfl) rfl fun _ _ => ?_)))))))
  try simp only [apC, apN]
  refine J.eff (E.defer rfl) rfl (J.nil (G.prune [0, 1, 2, 3, 4, 10, 11, 12, 13] rfl (G.seq (G.region (J.move rfl rfl (J.move rfl rfl ?_))))))
  (first | refine J.subI rfl rfl rfl (by omega) (by omega) ?_ | refine J.subZ rfl rfl rfl (by omega) (by omega) ?_)
  refine J.ix rfl rfl rfl (J.lc rfl rfl rfl ?_)
  rw [show m + 2 - 1 = m + 1 from rfl]
  refine J.eff (E.callP (nlz_spec hvt) [] [] rfl rfl rfl rfl rfl) rfl fun _ _ => ?_
  try simp only [apC, apN]
  refine J.assign rfl rfl (J.nil (G.prune [0, 1, 2, 3, 4, 10, 11, 12, 13, 14] rfl (G.seq (G.region (J.move rfl rfl (J.move rfl rfl ?_))))))
  rw [Nat.zero_add, hb64]
  by_cases h4 : m ≤ 2
  · skip
    refine J.eff (E.callP (snat_small (n := m + 2) (by omega) (by omega)) [] [1] rfl rfl rfl rfl rfl) rfl fun p hp => ?_
    try simp only [apC, apN]
    obtain ⟨vb, c⟩ := p
    simp only at hp ⊢
    have hvl0 : (nw (m + 2) c 11259375).length = m + 2 + c := nw_len ..
    have hvw0 : Wd (nw (m + 2) c 11259375) := nw_wd (by decide)
    generalize nw (m + 2) c 11259375 = vs0 at *
    refine J.ord [0, 1, 3, 4, 2] rfl (by decide) ?_
    refine J.assign rfl rfl (J.nil (G.prune [0, 1, 2, 3, 4, 10, 11, 12, 13, 14, 15] rfl (G.seq (G.region (J.move rfl rfl (J.move rfl rfl (J.lenS rfl rfl ?_)))))))
    (first | refine J.addI rfl rfl rfl (by omega) ?_ | refine J.addZ rfl rfl rfl (by omega) (by omega) ?_)
    refine J.eff (E.callP (make_new (n := T + (m + 1) + 1) (by omega) (by omega)) [] [] rfl rfl rfl rfl rfl) rfl fun ub _ => ?_
    try simp only [apC, apN]
    refine J.assign rfl rfl (J.nil (G.prune [0, 1, 2, 3, 4, 10, 11, 12, 13, 14, 15] rfl (G.seq (G.seq (G.region (J.move rfl rfl ?_))))))
    (first | refine J.eqN rfl rfl rfl ?_ | refine J.eqZ rfl rfl rfl ?_)
    refine J.nil (G.cT rfl (G.seq (G.region (J.move rfl rfl (J.move rfl rfl (J.eff (E.copy (xs := vs0) (ys := ys) (o := 0) (o2 := 0) (q := m + 2) rfl rfl rfl (Mem.t (Mem.t (Mem.t (Mem.t Mem.h)))) (Nat.min_self _) (by omega) (by omega) (Upd1.t Upd1.h)) rfl (J.nil (G.seq ?_))))))))
    refine G.region (J.move rfl rfl (J.move rfl rfl (J.lenS rfl rfl (J.slH rfl rfl rfl (by omega) (J.move rfl rfl (J.eff (E.copy (xs := List.replicate (mcap (T + (m + 1) + 1)) 0) (ys := xs) (o := 0) (o2 := 0) (q := T + (m + 1)) rfl rfl rfl (Mem.t (Mem.t (Mem.t Mem.h))) (Nat.min_self _) (by omega) (by omega) Upd1.h) rfl ?_))))))
    have hsl : (splice (List.replicate (mcap (T + (m + 1) + 1)) 0) 0 ((xs.drop 0).take (T + (m + 1)))).length = mcap (T + (m + 1) + 1) := by rw [splice_len _ _ _ (by rw [drop_take_len (by omega)]; omega), hrl]
    refine J.nil (G.prune [0, 1, 2, 3, 10, 11, 12, 13, 14, 15] rfl (G.region (J.move rfl rfl (J.move rfl rfl (J.lenS rfl rfl (J.ix rfl rfl rfl (J.eff (E.sc rfl rfl) rfl (J.nil ?_))))))))
    refine G.prune [0, 1, 2, 10, 11, 12, 13, 14, 15] rfl (G.seq (G.seq (G.region (J.move rfl rfl (J.move rfl rfl ?_)))))
    obtain ⟨hv, hve, hvl⟩ := DV.copy (vs := vs0) (by omega) hyk hvw0 hy
    have huz := UZ.mk' (l := T + (m + 1)) x1 x3
    generalize splice vs0 0 ((ys.drop 0).take (m + 2)) = vs at hv hve hvl ⊢
    generalize (splice (List.replicate (mcap (T + (m + 1) + 1)) 0) 0 ((xs.drop 0).take (T + (m + 1)))).set (0 + (T + (m + 1))) 0 = us at huz ⊢
    have hul := huz.l
    rw [← hul]
    refine J.sep 2 0 rfl rfl (by decide) (.inl rfl) fun hne => ?_
    simp only at hne
    refine J.eff (E.callP (alias_other (cs := cells .u64 zs) (cs2 := cells .u64 us) hne (by omega) (by omega)) [] [2, 0] rfl rfl rfl rfl rfl) rfl fun _ _ => ?_
    try simp only [apC, apN]
    refine J.nil (G.cF rfl ?_)
    apply G.join (σ := Nat × List Nat) (fun t => T ≤ t.2.length ∧ t.2.length < 9223372036854775808 ∧ Wd t.2) (fun t => [(1, .pointer (some ⟨sb, 0, none⟩)), (2, .slice (some ⟨ub, 0, none⟩) (T + (m + 2)) us.length), (10, .slice (some ⟨t.1, 0, none⟩) T t.2.length), (12, .int .i64 ((m + 2 : Nat) : Int)), (14, .int .u64 ((64 - 64 : Nat) : Int)), (15, .slice (some ⟨vb, 0, none⟩) (m + 2) vs0.length)]) (fun t => [⟨t.1, 162, cells .u64 t.2, true⟩, ⟨ub, 162, cells .u64 us, true⟩, ⟨vb, 162, cells .u64 vs, true⟩, ⟨sb, 240, [.pointer none], true⟩])
    · intro hk
      refine G.skip (G.seq (G.region (J.move rfl rfl (J.move rfl rfl ?_))))
      (first | refine J.addI rfl rfl rfl (by omega) ?_ | refine J.addZ rfl rfl rfl (by omega) (by omega) ?_)
      rw [show T + (m + 1) - (m + 2) + 1 = T by omega]
      by_cases hf : T ≤ zs.length
      · skip
        refine J.eff (E.callP (make_fit hf) [] [] rfl rfl rfl rfl rfl) rfl fun _ _ => ?_
        try simp only [apC, apN]
        refine J.assign rfl rfl (J.nil (G.prune [1, 2, 10, 11, 12, 14, 15] rfl (G.seq (G.seq ?_))))
        exact G.wk [2, 0, 1, 5] (hk (zb, zs) ⟨hf, by simp only; omega, z3⟩)
      · skip
        refine J.eff (E.callP (make_new (n := T) (by omega) (by omega)) [] [] rfl rfl rfl rfl rfl) rfl fun qg _ => ?_
        try simp only [apC, apN]
        refine J.assign rfl rfl (J.nil (G.prune [1, 2, 10, 11, 12, 14, 15] rfl (G.seq (G.seq ?_))))
        have hk' := hk (qg, List.replicate (mcap T) 0) ⟨by simp only; omega, by simp only; omega, Wd.rep _⟩
        simp only [hrq] at hk'
        exact G.wk [0, 1, 2, 6] hk'
    rintro ⟨qb, qs⟩ ⟨hq1, hq2, hq3⟩
    simp only at hq1 hq2 hq3 ⊢
    refine G.region (J.move rfl rfl (J.loadGi 4 rfl rfl rfl rfl ?_))
    (first | refine J.ltN rfl rfl rfl ?_ | refine J.ltZ rfl rfl rfl ?_)
    refine J.nil (G.cT rfl (G.region (J.move rfl rfl (J.move rfl rfl (J.move rfl rfl (J.move rfl rfl ?_))))))
    have hU : rv us 0 (T + (m + 2)) = rv xs 0 (T + (m + 1)) := huz.e
    by_cases hm1 : m ≤ 1
    · skip
      refine J.eff (E.callP (divBasicA (cq := qs.length) (cv := vs0.length) hv (by omega) huz.w (by omega) (by omega) hq3 hq1 hT (by omega) (by omega) huz.z hm1) [0, 0] [0, 1] rfl rfl rfl rfl rfl) rfl fun p hp => ?_
      try simp only [apC, apN]
      obtain ⟨qs', us'⟩ := p
      obtain ⟨hd, hl1, hl2⟩ := hp
      simp only at hd hl1 hl2 ⊢
      have hfin := hd.fin
      rw [hU, hve] at hfin
      have hQ0 := divQ hfin (by have := hd.lt; rw [hve] at this; exact this) hXY
      refine J.nil (G.prune [2, 10, 11, 14] rfl (G.seq (G.region (J.move rfl rfl (J.eff (E.callP (norm_spec (o := 0) (len := T) (xs := qs') (by omega) (by omega) (by omega)) [] [0] rfl rfl rfl rfl rfl) rfl fun _ _ => ?_)))))
      try simp only [apC, apN]
      refine J.assign rfl rfl (J.nil (G.seq (G.seq (G.region (J.move rfl rfl ?_)))))
      (first | refine J.neN rfl rfl rfl ?_ | refine J.neZ rfl rfl rfl ?_)
      refine J.nil (G.cF rfl (G.skip (G.seq (G.region (J.move rfl rfl (J.eff (E.callP (norm_spec (o := 0) (len := T + (m + 2)) (xs := us') (by omega) (by omega) (by omega)) [] [1] rfl rfl rfl rfl rfl) rfl fun _ _ => ?_))))))
      try simp only [apC, apN]
      refine J.assign rfl rfl (J.nil (G.seq (G.region (J.move rfl rfl (J.move rfl rfl (J.assign rfl rfl (J.assign rfl rfl (J.nil ?_))))))))
      refine G.prune [10, 11] rfl (G.ret (hR _) ?_)
      rw [← hl1, ← hl2]
      refine GL.deferredP (restore_nilD (V := V) (sb := sb) (n := 0)) [] [3] rfl rfl rfl fun _ _ => ?_
      exact GL.done (⟨qb, nl qs' 0 T, qs'⟩, ⟨ub, nl us' 0 (T + (m + 2)), us'⟩, none) rfl rfl ⟨⟨_, Res.norm (by omega) (by omega) hd.q rfl, hQ0⟩, nl_le _ _ _, show nl us' 0 (T + (m + 2)) ≤ us'.length from Nat.le_trans (nl_le _ _ _) (by omega)⟩ rfl [0, 1, 3] rfl (by decide) (by simp [qrH, skR])
    · skip
      refine J.eff (E.callP (divBasicB (cq := qs.length) (cv := vs0.length) hv (by omega) huz.w (by omega) (by omega) hq3 hq1 hT (by omega) (by omega) huz.z (by omega)) [0, 0, 1] [0] rfl rfl rfl rfl rfl) rfl fun p hp => ?_
      try simp only [apC, apN]
      obtain ⟨qs', us', ib, ba, bc⟩ := p
      obtain ⟨hd, hl1, hl2⟩ := hp
      simp only at hd hl1 hl2 ⊢
      have hfin := hd.fin
      rw [hU, hve] at hfin
      have hQ0 := divQ hfin (by have := hd.lt; rw [hve] at this; exact this) hXY
      refine J.nil (G.prune [2, 10, 11, 14] rfl (G.seq (G.region (J.move rfl rfl (J.eff (E.callP (norm_spec (o := 0) (len := T) (xs := qs') (by omega) (by omega) (by omega)) [] [0] rfl rfl rfl rfl rfl) rfl fun _ _ => ?_)))))
      try simp only [apC, apN]
      refine J.assign rfl rfl (J.nil (G.seq (G.seq (G.region (J.move rfl rfl ?_)))))
      (first | refine J.neN rfl rfl rfl ?_ | refine J.neZ rfl rfl rfl ?_)
      refine J.nil (G.cF rfl (G.skip (G.seq (G.region (J.move rfl rfl (J.eff (E.callP (norm_spec (o := 0) (len := T + (m + 2)) (xs := us') (by omega) (by omega) (by omega)) [] [1] rfl rfl rfl rfl rfl) rfl fun _ _ => ?_))))))
      try simp only [apC, apN]
      refine J.assign rfl rfl (J.nil (G.seq (G.region (J.move rfl rfl (J.move rfl rfl (J.assign rfl rfl (J.assign rfl rfl (J.nil ?_))))))))
      refine G.prune [10, 11] rfl (G.ret (hR _) ?_)
      rw [← hl1, ← hl2]
      refine GL.deferredP (restore_someD (V := V) (sb := sb) (ib := ib) (n := 0) (Nat.zero_le _)) [3] [2] rfl rfl rfl fun _ _ => ?_
      exact GL.done (⟨qb, nl qs' 0 T, qs'⟩, ⟨ub, nl us' 0 (T + (m + 2)), us'⟩, some (ib, ba, 0, bc)) rfl rfl ⟨⟨_, Res.norm (by omega) (by omega) hd.q rfl, hQ0⟩, nl_le _ _ _, show nl us' 0 (T + (m + 2)) ≤ us'.length from Nat.le_trans (nl_le _ _ _) (by omega)⟩ rfl [1, 2, 3, 0] rfl (by decide) (by simp [qrH, skR])
  · have hr4 := r4_le (m + 2)
    have hr42 := r4_le2 (m + 2)
    refine J.eff (E.callP (snat_new (n := m + 2) (by omega) (by omega)) [1] [] rfl rfl rfl rfl rfl) rfl fun p hp => ?_
    try simp only [apC, apN]
    obtain ⟨ib, vb, c⟩ := p
    simp only at hp ⊢
    have hvl0 : (nw (r4 (m + 2)) c 1043915).length = r4 (m + 2) + c := nw_len ..
    have hvw0 : Wd (nw (r4 (m + 2)) c 1043915) := nw_wd (by decide)
    generalize nw (r4 (m + 2)) c 1043915 = vs0 at *
    refine J.ord [2, 3, 4, 5, 0, 1] rfl (by decide) ?_
    refine J.assign rfl rfl (J.nil (G.prune [0, 1, 2, 3, 4, 10, 11, 12, 13, 14, 15] rfl (G.seq (G.region (J.move rfl rfl (J.move rfl rfl (J.lenS rfl rfl ?_)))))))
    (first | refine J.addI rfl rfl rfl (by omega) ?_ | refine J.addZ rfl rfl rfl (by omega) (by omega) ?_)
    refine J.eff (E.callP (make_new (n := T + (m + 1) + 1) (by omega) (by omega)) [] [] rfl rfl rfl rfl rfl) rfl fun ub _ => ?_
    try simp only [apC, apN]
    refine J.assign rfl rfl (J.nil (G.prune [0, 1, 2, 3, 4, 10, 11, 12, 13, 14, 15] rfl (G.seq (G.seq (G.region (J.move rfl rfl ?_))))))
    (first | refine J.eqN rfl rfl rfl ?_ | refine J.eqZ rfl rfl rfl ?_)
    refine J.nil (G.cT rfl (G.seq (G.region (J.move rfl rfl (J.move rfl rfl (J.eff (E.copy (xs := vs0) (ys := ys) (o := 0) (o2 := 0) (q := m + 2) rfl rfl rfl (Mem.t (Mem.t (Mem.t (Mem.t Mem.h)))) (Nat.min_self _) (by omega) (by omega) (Upd1.t Upd1.h)) rfl (J.nil (G.seq ?_))))))))
    refine G.region (J.move rfl rfl (J.move rfl rfl (J.lenS rfl rfl (J.slH rfl rfl rfl (by omega) (J.move rfl rfl (J.eff (E.copy (xs := List.replicate (mcap (T + (m + 1) + 1)) 0) (ys := xs) (o := 0) (o2 := 0) (q := T + (m + 1)) rfl rfl rfl (Mem.t (Mem.t (Mem.t Mem.h))) (Nat.min_self _) (by omega) (by omega) Upd1.h) rfl ?_))))))
    have hsl : (splice (List.replicate (mcap (T + (m + 1) + 1)) 0) 0 ((xs.drop 0).take (T + (m + 1)))).length = mcap (T + (m + 1) + 1) := by rw [splice_len _ _ _ (by rw [drop_take_len (by omega)]; omega), hrl]
    refine J.nil (G.prune [0, 1, 2, 3, 10, 11, 12, 13, 14, 15] rfl (G.region (J.move rfl rfl (J.move rfl rfl (J.lenS rfl rfl (J.ix rfl rfl rfl (J.eff (E.sc rfl rfl) rfl (J.nil ?_))))))))
    refine G.prune [0, 1, 2, 10, 11, 12, 13, 14, 15] rfl (G.seq (G.seq (G.region (J.move rfl rfl (J.move rfl rfl ?_)))))
    obtain ⟨hv, hve, hvl⟩ := DV.copy (vs := vs0) (by omega) hyk hvw0 hy
    have huz := UZ.mk' (l := T + (m + 1)) x1 x3
    generalize splice vs0 0 ((ys.drop 0).take (m + 2)) = vs at hv hve hvl ⊢
    generalize (splice (List.replicate (mcap (T + (m + 1) + 1)) 0) 0 ((xs.drop 0).take (T + (m + 1)))).set (0 + (T + (m + 1))) 0 = us at huz ⊢
    have hul := huz.l
    rw [← hul]
    refine J.sep 2 0 rfl rfl (by decide) (.inl rfl) fun hne => ?_
    simp only at hne
    refine J.eff (E.callP (alias_other (cs := cells .u64 zs) (cs2 := cells .u64 us) hne (by omega) (by omega)) [] [2, 0] rfl rfl rfl rfl rfl) rfl fun _ _ => ?_
    try simp only [apC, apN]
    refine J.nil (G.cF rfl ?_)
    apply G.join (σ := Nat × List Nat) (fun t => T ≤ t.2.length ∧ t.2.length < 9223372036854775808 ∧ Wd t.2) (fun t => [(1, .pointer (some ⟨sb, 0, none⟩)), (2, .slice (some ⟨ub, 0, none⟩) (T + (m + 2)) us.length), (10, .slice (some ⟨t.1, 0, none⟩) T t.2.length), (12, .int .i64 ((m + 2 : Nat) : Int)), (14, .int .u64 ((64 - 64 : Nat) : Int)), (15, .slice (some ⟨vb, 0, none⟩) (m + 2) (m + 2))]) (fun t => [⟨t.1, 162, cells .u64 t.2, true⟩, ⟨ub, 162, cells .u64 us, true⟩, ⟨vb, 162, cells .u64 vs, true⟩, ⟨sb, 240, [.pointer (some ⟨ib, 0, none⟩)], true⟩, ⟨ib, 286, [.slice (some ⟨vb, 0, none⟩) (r4 (m + 2)) vs0.length], true⟩])
    · intro hk
      refine G.skip (G.seq (G.region (J.move rfl rfl (J.move rfl rfl ?_))))
      (first | refine J.addI rfl rfl rfl (by omega) ?_ | refine J.addZ rfl rfl rfl (by omega) (by omega) ?_)
      rw [show T + (m + 1) - (m + 2) + 1 = T by omega]
      by_cases hf : T ≤ zs.length
      · skip
        refine J.eff (E.callP (make_fit hf) [] [] rfl rfl rfl rfl rfl) rfl fun _ _ => ?_
        try simp only [apC, apN]
        refine J.assign rfl rfl (J.nil (G.prune [1, 2, 10, 11, 12, 14, 15] rfl (G.seq (G.seq ?_))))
        exact G.wk [2, 0, 1, 5, 6] (hk (zb, zs) ⟨hf, by simp only; omega, z3⟩)
      · skip
        refine J.eff (E.callP (make_new (n := T) (by omega) (by omega)) [] [] rfl rfl rfl rfl rfl) rfl fun qg _ => ?_
        try simp only [apC, apN]
        refine J.assign rfl rfl (J.nil (G.prune [1, 2, 10, 11, 12, 14, 15] rfl (G.seq (G.seq ?_))))
        have hk' := hk (qg, List.replicate (mcap T) 0) ⟨by simp only; omega, by simp only; omega, Wd.rep _⟩
        simp only [hrq] at hk'
        exact G.wk [0, 1, 2, 6, 7] hk'
    rintro ⟨qb, qs⟩ ⟨hq1, hq2, hq3⟩
    simp only at hq1 hq2 hq3 ⊢
    refine G.region (J.move rfl rfl (J.loadGi 4 rfl rfl rfl rfl ?_))
    (first | refine J.ltN rfl rfl rfl ?_ | refine J.ltZ rfl rfl rfl ?_)
    refine J.nil (G.cT rfl (G.region (J.move rfl rfl (J.move rfl rfl (J.move rfl rfl (J.move rfl rfl ?_))))))
    have hU : rv us 0 (T + (m + 2)) = rv xs 0 (T + (m + 1)) := huz.e
    rw [← hvl]
    refine J.eff (E.callP (divBasicC (ib := ib) (L := r4 (m + 2)) (cq := qs.length) (cv := m + 2) hv (by omega) huz.w (by omega) (by omega) hq3 hq1 hT (by omega) (by omega) huz.z hr4 (by omega) (by omega) (by omega)) [0, 0, 2, 0] [0] rfl rfl rfl rfl rfl) rfl fun p hp => ?_
    try simp only [apC, apN]
    obtain ⟨qs', us', ba, bc⟩ := p
    obtain ⟨hd, hl1, hl2⟩ := hp
    simp only at hd hl1 hl2 ⊢
    have hfin := hd.fin
    rw [hU, hve] at hfin
    have hQ0 := divQ hfin (by have := hd.lt; rw [hve] at this; exact this) hXY
    refine J.nil (G.prune [2, 10, 11, 14] rfl (G.seq (G.region (J.move rfl rfl (J.eff (E.callP (norm_spec (o := 0) (len := T) (xs := qs') (by omega) (by omega) (by omega)) [] [0] rfl rfl rfl rfl rfl) rfl fun _ _ => ?_)))))
    try simp only [apC, apN]
    refine J.assign rfl rfl (J.nil (G.seq (G.seq (G.region (J.move rfl rfl ?_)))))
    (first | refine J.neN rfl rfl rfl ?_ | refine J.neZ rfl rfl rfl ?_)
    refine J.nil (G.cF rfl (G.skip (G.seq (G.region (J.move rfl rfl (J.eff (E.callP (norm_spec (o := 0) (len := T + (m + 2)) (xs := us') (by omega) (by omega) (by omega)) [] [1] rfl rfl rfl rfl rfl) rfl fun _ _ => ?_))))))
    try simp only [apC, apN]
    refine J.assign rfl rfl (J.nil (G.seq (G.region (J.move rfl rfl (J.move rfl rfl (J.assign rfl rfl (J.assign rfl rfl (J.nil ?_))))))))
    refine G.prune [10, 11] rfl (G.ret (hR _) ?_)
    rw [← hl1, ← hl2]
    refine GL.deferredP (restore_someD (V := V) (sb := sb) (ib := ib) (n := 0) (Nat.zero_le _)) [2] [2] rfl rfl rfl fun _ _ => ?_
    exact GL.done (⟨qb, nl qs' 0 T, qs'⟩, ⟨ub, nl us' 0 (T + (m + 2)), us'⟩, some (ib, ba, 0, bc)) rfl rfl ⟨⟨_, Res.norm (by omega) (by omega) hd.q rfl, hQ0⟩, nl_le _ _ _, show nl us' 0 (T + (m + 2)) ≤ us'.length from Nat.le_trans (nl_le _ _ _) (by omega)⟩ rfl [1, 2, 3, 0] rfl (by decide) (by simp [qrH, skR])
end
end Go.Proofs.YtfbbkngonohlkaaGreatDoor
