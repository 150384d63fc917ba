/- The way to the laws, part 6 of 6 (the engine of the walks; contracts of the functions that the laws reach), joined by a program of ours out of: C3 C4 L1 L2 L3 L4 L5 L6 -/
import Derived.Test.YtfbbkngonohlkaaGreatDoorZ05
namespace Go.Proofs.YtfbbkngonohlkaaGreatDoor
open Go
set_option linter.unusedVariables false
set_option linter.unusedSimpArgs false
set_option exponentiation.threshold 20000
section
set_option maxRecDepth 100000
set_option pp.deepTerms false
set_option maxHeartbeats 1000000
variable {V : Addr}
theorem wrow2_ro {a b : Option RS} : ∀ e ∈ wrow a ++ wrow b, e.wr = false := fun e he => by
  rcases List.mem_append.1 he with h | h
  · exact wrow_ro a e h
  · exact wrow_ro b e h
theorem wrow3_ro {a b c : Option RS} : ∀ e ∈ wrow a ++ (wrow b ++ wrow c), e.wr = false := fun e he => by
  rcases List.mem_append.1 he with h | h
  · exact wrow_ro a e h
  · exact wrow2_ro e h
theorem kind120_spec {v : Value} : Spec (cx V) 328 #[v] [] [] (fun _ : Unit => .int .i64 4) (fun _ => []) (fun _ => True) := by
  refine Spec.enter Tryz.func328 rfl Tryz.ntmps328 (by simp) [(0, v)] (by simp) ?_
  intro X hR
  try simp only [apC, apN]
  refine G.seq (G.region (J.eff (E.box rfl rfl) rfl fun g1 => J.assign rfl rfl (J.nil (G.seq (G.region (J.assign rfl rfl (J.nil ?_)))))))
  refine G.ret (hR _) ?_
  exact GL.done () rfl rfl trivial rfl [] rfl (by decide) (by simp)
theorem method_k120 (u : Value) (w : World) : (method ((cx V).P.types.size + Made.depth) 120 u "Kind").run (cx V).P w = .ok (328, u) w := by rfl
theorem built37 {i : Int} : (cx V).P.built 37 [(0, .int .i64 i)] = some [.int .i64 i, .bool false, .string ByteArray.empty, .bool false, .slice none 0 0, .slice none 0 0, .bool false, .slice none 0 0, .slice none 0 0].toArray := by kernel_rfl
theorem told_some {rb : Nat} {w d : RS} {n m : Nat} (hw : Res (some w) n) (hd : Res (some d) m) (hm : m ≠ 0) (hwl : zlen (some w) ≤ 200) (hdl : d.len ≤ 200) :
    SpecF (cx V) 22 #[rval rb] (⟨rb, 160, [.bool false, zv (some w), .bool false, zv (some d)], false⟩ :: ⟨d.b, 162, cells .u64 d.xs, false⟩ :: zh false (some w)) (fun t : Option RS × RS => tv4 t.1 t.2) (fun t => wrow (some t.2) ++ wrow t.1) (fun t => WO t.1 n ∧ zlen t.1 ≤ 200 ∧ WO (some t.2) m ∧ t.2.len ≤ 200) := by
  simp only [zh, rval]
  refine SpecF.enter Tryz.func22 rfl Tryz.ntmps22 (by simp) [(0, .iface 120 (.agg #[.pointer (some ⟨rb, 0, none⟩)]))] (by simp) ?_
  intro X hR
  try simp only [apC, apN]
  refine G.seq (G.region (J.eff (E.alloc rfl) rfl fun g2 => J.nil (G.seq (G.region (J.move rfl rfl ?_)))))
  refine J.own 0 rfl fun ho2 => ?_
  refine J.eff (E.inv0 kind120_spec [] [] (method_k120 _) rfl rfl rfl rfl rfl) rfl fun _ _ => ?_
  try simp only [List.nil_append]
  refine J.build rfl rfl built37 (J.eff (E.alloc rfl) rfl fun g3 => J.eff (E.storeL rfl rfl rfl) rfl (J.nil (G.prune [0, 2, 3] rfl (G.seq (G.seq (G.region (J.move rfl rfl ?_)))))))
  refine J.own 0 rfl fun ho3 => ?_
  refine J.sep 0 1 rfl rfl (by decide) (.inl rfl) fun hs => ?_
  simp only at hs
  have hs' := hs.symm
  refine J.eff (E.inv0 kind120_spec [] [] (method_k120 _) rfl rfl rfl rfl rfl) rfl fun _ _ => ?_
  try simp only [List.nil_append]
  refine J.nil (G.block (G.seq (G.region ?_)))
  (first | refine J.eqN rfl rfl rfl ?_ | refine J.eqZ rfl rfl rfl ?_)
  refine J.assign rfl rfl (J.nil (G.cF rfl (G.seq (G.region ?_))))
  (first | refine J.eqN rfl rfl rfl ?_ | refine J.eqZ rfl rfl rfl ?_)
  refine J.assign rfl rfl (J.nil (G.cF rfl (G.seq (G.region ?_))))
  (first | refine J.eqN rfl rfl rfl ?_ | refine J.eqZ rfl rfl rfl ?_)
  refine J.assign rfl rfl (J.nil (G.cF rfl (G.seq (G.region ?_))))
  (first | refine J.eqN rfl rfl rfl ?_ | refine J.eqZ rfl rfl rfl ?_)
  refine J.assign rfl rfl (J.nil (G.cT rfl (G.region (J.move rfl rfl ?_))))
  refine J.frz rfl ?_
  refine J.eff (E.callF (parts_some hw hd hm hwl hdl) [2, 3, 4] rfl rfl rfl (by first | exact fun _ => allRo_h rfl | exact wrow_ro | exact fun _ => wrow2_ro | exact fun _ => wrow3_ro) rfl) rfl fun t ht => ?_
  try simp only [apC, apN]
  obtain ⟨q1, q2⟩ := t
  simp only at ht ⊢
  rcases q1 with _ | q1
  · simp only [wrow, List.nil_append, List.cons_append]
    apply J.thaw (T := 37) ho3 (by repeat (first | exact Sep.nil | apply Thaw.h | (apply Thaw.t; exact Nat.ne_of_beq_eq_false rfl) | (apply Thaw.b; assumption) | (apply Sep.t; exact Nat.ne_of_beq_eq_false rfl) | (apply Sep.b; assumption)))
    apply J.thaw (T := 37) ho2 (by repeat (first | exact Sep.nil | apply Thaw.h | (apply Thaw.t; exact Nat.ne_of_beq_eq_false rfl) | (apply Thaw.b; assumption) | (apply Sep.t; exact Nat.ne_of_beq_eq_false rfl) | (apply Sep.b; assumption)))
    refine J.move rfl rfl (J.extractL rfl rfl rfl (J.extractL rfl rfl rfl (J.fieldAddr rfl rfl (J.eff (E.storeL rfl rfl rfl) rfl (J.fieldAddr rfl rfl (J.eff (E.si rfl rfl rfl rfl (by first | exact Nat.le_of_ble_eq_true rfl | omega)) rfl (J.nil (G.prune [2, 3] rfl ?_))))))))
    refine G.inBlock (G.seq (G.region (J.loadAI rfl rfl rfl rfl rfl (J.eff (E.storeL rfl rfl rfl) rfl (J.nil (G.retF (hR _) ?_))))))
    exact GLF.doneR (hR _) ((none, q2) : Option RS × RS) rfl (.cell rfl rfl rfl rfl .nil) ht rfl [0] rfl
  · simp only [wrow, List.nil_append, List.cons_append]
    apply J.thaw (T := 37) ho3 (by repeat (first | exact Sep.nil | apply Thaw.h | (apply Thaw.t; exact Nat.ne_of_beq_eq_false rfl) | (apply Thaw.b; assumption) | (apply Sep.t; exact Nat.ne_of_beq_eq_false rfl) | (apply Sep.b; assumption)))
    apply J.thaw (T := 37) ho2 (by repeat (first | exact Sep.nil | apply Thaw.h | (apply Thaw.t; exact Nat.ne_of_beq_eq_false rfl) | (apply Thaw.b; assumption) | (apply Sep.t; exact Nat.ne_of_beq_eq_false rfl) | (apply Sep.b; assumption)))
    refine J.move rfl rfl (J.extractL rfl rfl rfl (J.extractL rfl rfl rfl (J.fieldAddr rfl rfl (J.eff (E.storeL rfl rfl rfl) rfl (J.fieldAddr rfl rfl (J.eff (E.si rfl rfl rfl rfl (by first | exact Nat.le_of_ble_eq_true rfl | omega)) rfl (J.nil (G.prune [2, 3] rfl ?_))))))))
    refine G.inBlock (G.seq (G.region (J.loadAI rfl rfl rfl rfl rfl (J.eff (E.storeL rfl rfl rfl) rfl (J.nil (G.retF (hR _) ?_))))))
    exact GLF.doneR (hR _) ((some q1, q2) : Option RS × RS) rfl (.cell rfl rfl rfl rfl .nil) ht rfl [0, 1] rfl
theorem told_none {rb : Nat} {d : RS} {n m : Nat} (hw : Res none n) (hd : Res (some d) m) (hm : m ≠ 0) (hwl : zlen none ≤ 200) (hdl : d.len ≤ 200) :
    SpecF (cx V) 22 #[rval rb] (⟨rb, 160, [.bool false, zv none, .bool false, zv (some d)], false⟩ :: ⟨d.b, 162, cells .u64 d.xs, false⟩ :: zh false none) (fun t : Option RS × RS => tv4 t.1 t.2) (fun t => wrow (some t.2) ++ wrow t.1) (fun t => WO t.1 n ∧ zlen t.1 ≤ 200 ∧ WO (some t.2) m ∧ t.2.len ≤ 200) := by
  simp only [zh, rval]
  refine SpecF.enter Tryz.func22 rfl Tryz.ntmps22 (by simp) [(0, .iface 120 (.agg #[.pointer (some ⟨rb, 0, none⟩)]))] (by simp) ?_
  intro X hR
  try simp only [apC, apN]
  refine G.seq (G.region (J.eff (E.alloc rfl) rfl fun g2 => J.nil (G.seq (G.region (J.move rfl rfl ?_)))))
  refine J.own 0 rfl fun ho2 => ?_
  refine J.eff (E.inv0 kind120_spec [] [] (method_k120 _) rfl rfl rfl rfl rfl) rfl fun _ _ => ?_
  try simp only [List.nil_append]
  refine J.build rfl rfl built37 (J.eff (E.alloc rfl) rfl fun g3 => J.eff (E.storeL rfl rfl rfl) rfl (J.nil (G.prune [0, 2, 3] rfl (G.seq (G.seq (G.region (J.move rfl rfl ?_)))))))
  refine J.own 0 rfl fun ho3 => ?_
  refine J.sep 0 1 rfl rfl (by decide) (.inl rfl) fun hs => ?_
  simp only at hs
  have hs' := hs.symm
  refine J.eff (E.inv0 kind120_spec [] [] (method_k120 _) rfl rfl rfl rfl rfl) rfl fun _ _ => ?_
  try simp only [List.nil_append]
  refine J.nil (G.block (G.seq (G.region ?_)))
  (first | refine J.eqN rfl rfl rfl ?_ | refine J.eqZ rfl rfl rfl ?_)
  refine J.assign rfl rfl (J.nil (G.cF rfl (G.seq (G.region ?_))))
  (first | refine J.eqN rfl rfl rfl ?_ | refine J.eqZ rfl rfl rfl ?_)
  refine J.assign rfl rfl (J.nil (G.cF rfl (G.seq (G.region ?_))))
  (first | refine J.eqN rfl rfl rfl ?_ | refine J.eqZ rfl rfl rfl ?_)
  refine J.assign rfl rfl (J.nil (G.cF rfl (G.seq (G.region ?_))))
  (first | refine J.eqN rfl rfl rfl ?_ | refine J.eqZ rfl rfl rfl ?_)
  refine J.assign rfl rfl (J.nil (G.cT rfl (G.region (J.move rfl rfl ?_))))
  refine J.frz rfl ?_
  refine J.eff (E.callF (parts_none hw hd hm hwl hdl) [2, 3] rfl rfl rfl (by first | exact fun _ => allRo_h rfl | exact wrow_ro | exact fun _ => wrow2_ro | exact fun _ => wrow3_ro) rfl) rfl fun t ht => ?_
  try simp only [apC, apN]
  obtain ⟨q1, q2⟩ := t
  simp only at ht ⊢
  rcases q1 with _ | q1
  · simp only [wrow, List.nil_append, List.cons_append]
    apply J.thaw (T := 37) ho3 (by repeat (first | exact Sep.nil | apply Thaw.h | (apply Thaw.t; exact Nat.ne_of_beq_eq_false rfl) | (apply Thaw.b; assumption) | (apply Sep.t; exact Nat.ne_of_beq_eq_false rfl) | (apply Sep.b; assumption)))
    apply J.thaw (T := 37) ho2 (by repeat (first | exact Sep.nil | apply Thaw.h | (apply Thaw.t; exact Nat.ne_of_beq_eq_false rfl) | (apply Thaw.b; assumption) | (apply Sep.t; exact Nat.ne_of_beq_eq_false rfl) | (apply Sep.b; assumption)))
    refine J.move rfl rfl (J.extractL rfl rfl rfl (J.extractL rfl rfl rfl (J.fieldAddr rfl rfl (J.eff (E.storeL rfl rfl rfl) rfl (J.fieldAddr rfl rfl (J.eff (E.si rfl rfl rfl rfl (by first | exact Nat.le_of_ble_eq_true rfl | omega)) rfl (J.nil (G.prune [2, 3] rfl ?_))))))))
    refine G.inBlock (G.seq (G.region (J.loadAI rfl rfl rfl rfl rfl (J.eff (E.storeL rfl rfl rfl) rfl (J.nil (G.retF (hR _) ?_))))))
    exact GLF.doneR (hR _) ((none, q2) : Option RS × RS) rfl (.cell rfl rfl rfl rfl .nil) ht rfl [0] rfl
  · simp only [wrow, List.nil_append, List.cons_append]
    apply J.thaw (T := 37) ho3 (by repeat (first | exact Sep.nil | apply Thaw.h | (apply Thaw.t; exact Nat.ne_of_beq_eq_false rfl) | (apply Thaw.b; assumption) | (apply Sep.t; exact Nat.ne_of_beq_eq_false rfl) | (apply Sep.b; assumption)))
    apply J.thaw (T := 37) ho2 (by repeat (first | exact Sep.nil | apply Thaw.h | (apply Thaw.t; exact Nat.ne_of_beq_eq_false rfl) | (apply Thaw.b; assumption) | (apply Sep.t; exact Nat.ne_of_beq_eq_false rfl) | (apply Sep.b; assumption)))
    refine J.move rfl rfl (J.extractL rfl rfl rfl (J.extractL rfl rfl rfl (J.fieldAddr rfl rfl (J.eff (E.storeL rfl rfl rfl) rfl (J.fieldAddr rfl rfl (J.eff (E.si rfl rfl rfl rfl (by first | exact Nat.le_of_ble_eq_true rfl | omega)) rfl (J.nil (G.prune [2, 3] rfl ?_))))))))
    refine G.inBlock (G.seq (G.region (J.loadAI rfl rfl rfl rfl rfl (J.eff (E.storeL rfl rfl rfl) rfl (J.nil (G.retF (hR _) ?_))))))
    exact GLF.doneR (hR _) ((some q1, q2) : Option RS × RS) rfl (.cell rfl rfl rfl rfl .nil) ht rfl [0, 1] rfl
end
section
set_option maxRecDepth 100000
set_option pp.deepTerms false
set_option maxHeartbeats 1000000
variable {V : Addr}
theorem rrow_wr (t : Nat × Option RS × RS) : ∀ e ∈ rrow t, e.wr = true := fun e he => by
  unfold rrow at he
  rcases List.mem_cons.1 he with rfl | h
  · rfl
  · rcases List.mem_append.1 h with h | h
    · exact zh_wr _ e h
    · exact zh_wr _ e h
theorem mkLitF_spec {m : Nat} {ee : Int} {s : ByteArray} (T : Lit V s m ee) (T0 : Lit V (ByteArray.mk #[48]) 0 0) (hE1 : -324 ≤ ee) (hE2 : ee ≤ 324) :
    Spec (cx V) 23 #[.string s, .int .i64 6, .int .u64 0] [] [] (fun t : Nat × Option RS × RS => rval t.1) rrow (RQ m ee) := by
  refine Spec.enter Tryz.func23 rfl Tryz.ntmps23 (by simp) [(0, .string s), (1, .int .i64 6), (2, .int .u64 0)] (by simp) ?_
  intro X hR
  try simp only [apC, apN]
  refine G.seq (G.region (J.assign rfl rfl (J.nil (G.seq (G.seq (G.region (J.move rfl rfl ?_)))))))
  (first | refine J.neN rfl rfl rfl ?_ | refine J.neZ rfl rfl rfl ?_)
  refine J.nil (G.cF rfl (G.skip (G.seq (G.seq (G.region (J.move rfl rfl (J.nil (G.block ?_))))))))
  refine G.seq (G.region ?_)
  (first | refine J.eqN rfl rfl rfl ?_ | refine J.eqZ rfl rfl rfl ?_)
  refine J.assign rfl rfl (J.nil (G.cF rfl (G.seq (G.region ?_))))
  (first | refine J.eqN rfl rfl rfl ?_ | refine J.eqZ rfl rfl rfl ?_)
  refine J.assign rfl rfl (J.nil (G.cT rfl (G.seq (G.region (J.move rfl rfl (J.eff (E.callP (mkFloat_spec T T0 hE1 hE2) [] [] rfl rfl rfl rfl rfl) rfl fun t ht => ?_))))))
  try simp only [apC, apN]
  refine J.assign rfl rfl (J.nil (G.seq (G.region (J.move rfl rfl ?_))))
  (first | refine J.nilNilN rfl rfl ?_ | refine J.ifNilN rfl rfl ?_)
  refine J.nil (G.cT rfl (G.seq (G.region (J.move rfl rfl (J.assign rfl rfl (J.nil (G.ret (hR _) ?_)))))))
  exact GL.doneA (t : Nat × Option RS × RS) rfl rfl ht rfl [] (by simp) (rrow_wr _)
theorem litB1 {m v : Nat} {ee : Int} {g : Nat} (hm : m < 18446744073709551616) (hE : ee ≤ 324) (hv : v = m * 10 ^ ee.toNat) : v / g < 18446744073709551616 ^ 30 := by
  refine Nat.lt_of_le_of_lt (Nat.div_le_self _ _) ?_
  have h1 : 10 ^ ee.toNat ≤ 10 ^ 324 := Nat.pow_le_pow_right (by decide) (by omega)
  have h2 := Nat.mul_lt_mul_of_lt_of_le hm h1 (by decide)
  rw [hv]
  exact Nat.lt_trans h2 (by decide)
theorem litB2 {u : Nat} {ee : Int} {g : Nat} (hE : -324 ≤ ee) (hu : u = 10 ^ (-ee).toNat) : u / g < 18446744073709551616 ^ 30 := by
  refine Nat.lt_of_le_of_lt (Nat.div_le_self _ _) ?_
  rw [hu]
  exact Nat.lt_of_le_of_lt (Nat.pow_le_pow_right (by decide) (show (-ee).toNat ≤ 324 by omega)) (by decide)
theorem litF_spec {m : Nat} {ee : Int} {s : ByteArray} (T : Lit V s m ee) (T0 : Lit V (ByteArray.mk #[48]) 0 0) (hE1 : -324 ≤ ee) (hE2 : ee ≤ 324) :
    SpecF (cx V) 10 #[.string s, .int .i64 1] [] (fun t : Option RS × RS => tv4 t.1 t.2) (fun t => wrow (some t.2) ++ wrow t.1)
      (fun t => ∃ v u, v = m * 10 ^ ee.toNat ∧ u = 10 ^ (-ee).toNat ∧ WO t.1 (v / Nat.gcd v u) ∧ zlen t.1 ≤ 200 ∧ WO (some t.2) (u / Nat.gcd v u) ∧ t.2.len ≤ 200) := by
  refine SpecF.enter Tryz.func10 rfl Tryz.ntmps10 (by simp) [(0, .string s), (1, .int .i64 1)] (by simp) ?_
  intro X hR
  try simp only [apC, apN]
  refine G.seq (G.region (J.eff (E.alloc rfl) rfl fun g4 => J.nil (G.seq (G.region ?_))))
  refine J.own 0 rfl fun ho => ?_
  refine J.eff (E.slice5 (v0 := 5) (v1 := 6) (v2 := 7) (v3 := 8) (v4 := 9) rfl rfl rfl rfl rfl rfl) rfl fun g6 => J.assign rfl rfl (J.nil (G.seq (G.seq (G.region (J.move rfl rfl ?_)))))
  (first | refine J.ltN rfl rfl rfl ?_ | refine J.ltZ rfl rfl rfl ?_)
  refine J.move rfl rfl (J.wF rfl rfl (J.move rfl rfl (J.wF rfl rfl (J.move rfl rfl (J.wF rfl rfl (J.lenS rfl rfl (J.wF rfl rfl ?_)))))))
  (first | refine J.geN rfl rfl rfl ?_ | refine J.geZ rfl rfl rfl ?_)
  refine J.pF rfl rfl rfl (J.nil (G.prune [0, 1, 4, 5, 14] rfl (G.cF rfl (G.skip (G.seq (G.region (J.move rfl rfl (J.move rfl rfl ?_))))))))
  refine J.move rfl rfl (J.iz rfl rfl rfl (J.lc rfl rfl rfl (J.eff (E.callP (mkLitF_spec T T0 hE1 hE2) [] [] rfl rfl rfl rfl rfl) rfl fun t ht => ?_)))
  try simp only [apC, apN]
  obtain ⟨rb, a, d⟩ := t
  obtain ⟨v, u, hv, hu, ha, hd⟩ := ht
  have hu0 : u ≠ 0 := by rw [hu]; exact Nat.ne_of_gt (Nat.pow_pos (by decide))
  have hg0 := Nat.gcd_pos_of_pos_right v (Nat.pos_of_ne_zero hu0)
  have hm0 : u / Nat.gcd v u ≠ 0 := Nat.ne_of_gt (Nat.div_pos (Nat.le_of_dvd (Nat.pos_of_ne_zero hu0) (Nat.gcd_dvd_right v u)) hg0)
  have hal : zlen a ≤ 200 := Nat.le_trans (ha.len_le (k := 30) (litB1 T.mW hE2 hv)) (by decide)
  have hdl : d.len ≤ 200 := Nat.le_trans (hd.len_le (k := 30) (litB2 hE1 hu)) (by decide)
  simp only at ha hd
  simp only [rrow]
  rcases a with _ | w
  · simp only [zh, List.cons_append, List.nil_append]
    refine J.frz rfl ?_
    refine J.eff (E.callF (told_none ha hd hm0 hal hdl) [0, 1] rfl rfl rfl (by first | exact fun _ => allRo_h rfl | exact wrow_ro | exact fun _ => wrow2_ro | exact fun _ => wrow3_ro) rfl) rfl fun q hq => ?_
    try simp only [apC, apN]
    obtain ⟨q1, q2⟩ := q
    obtain ⟨y1, y2, y3, y4⟩ := hq
    simp only at y1 y2 y3 y4 ⊢
    rcases q1 with _ | q1
    · simp only [wrow, List.cons_append, List.nil_append]
      apply J.thaw (T := 37) ho (by repeat (first | exact Sep.nil | apply Thaw.h | (apply Thaw.t; exact Nat.ne_of_beq_eq_false rfl) | (apply Thaw.b; assumption) | (apply Sep.t; exact Nat.ne_of_beq_eq_false rfl) | (apply Sep.b; assumption)))
      refine J.eff (E.storeL rfl rfl rfl) rfl (J.nil (G.prune [4] rfl (G.retF (hR _) ?_)))
      exact GLF.doneR (hR _) ((none, q2) : Option RS × RS) rfl (.cell rfl rfl rfl rfl .nil) ⟨v, u, hv, hu, y1, y2, y3, y4⟩ rfl [0] rfl
    · simp only [wrow, List.cons_append, List.nil_append]
      apply J.thaw (T := 37) ho (by repeat (first | exact Sep.nil | apply Thaw.h | (apply Thaw.t; exact Nat.ne_of_beq_eq_false rfl) | (apply Thaw.b; assumption) | (apply Sep.t; exact Nat.ne_of_beq_eq_false rfl) | (apply Sep.b; assumption)))
      refine J.eff (E.storeL rfl rfl rfl) rfl (J.nil (G.prune [4] rfl (G.retF (hR _) ?_)))
      exact GLF.doneR (hR _) ((some q1, q2) : Option RS × RS) rfl (.cell rfl rfl rfl rfl .nil) ⟨v, u, hv, hu, y1, y2, y3, y4⟩ rfl [0, 1] rfl
  · simp only [zh, List.cons_append, List.nil_append]
    refine J.frz rfl ?_
    refine J.eff (E.callF (told_some ha hd hm0 hal hdl) [0, 1, 2] rfl rfl rfl (by first | exact fun _ => allRo_h rfl | exact wrow_ro | exact fun _ => wrow2_ro | exact fun _ => wrow3_ro) rfl) rfl fun q hq => ?_
    try simp only [apC, apN]
    obtain ⟨q1, q2⟩ := q
    obtain ⟨y1, y2, y3, y4⟩ := hq
    simp only at y1 y2 y3 y4 ⊢
    rcases q1 with _ | q1
    · simp only [wrow, List.cons_append, List.nil_append]
      apply J.thaw (T := 37) ho (by repeat (first | exact Sep.nil | apply Thaw.h | (apply Thaw.t; exact Nat.ne_of_beq_eq_false rfl) | (apply Thaw.b; assumption) | (apply Sep.t; exact Nat.ne_of_beq_eq_false rfl) | (apply Sep.b; assumption)))
      refine J.eff (E.storeL rfl rfl rfl) rfl (J.nil (G.prune [4] rfl (G.retF (hR _) ?_)))
      exact GLF.doneR (hR _) ((none, q2) : Option RS × RS) rfl (.cell rfl rfl rfl rfl .nil) ⟨v, u, hv, hu, y1, y2, y3, y4⟩ rfl [0] rfl
    · simp only [wrow, List.cons_append, List.nil_append]
      apply J.thaw (T := 37) ho (by repeat (first | exact Sep.nil | apply Thaw.h | (apply Thaw.t; exact Nat.ne_of_beq_eq_false rfl) | (apply Thaw.b; assumption) | (apply Sep.t; exact Nat.ne_of_beq_eq_false rfl) | (apply Sep.b; assumption)))
      refine J.eff (E.storeL rfl rfl rfl) rfl (J.nil (G.prune [4] rfl (G.retF (hR _) ?_)))
      exact GLF.doneR (hR _) ((some q1, q2) : Option RS × RS) rfl (.cell rfl rfl rfl rfl .nil) ⟨v, u, hv, hu, y1, y2, y3, y4⟩ rfl [0, 1] rfl
end
section
set_option maxRecDepth 100000
set_option pp.deepTerms false
set_option maxHeartbeats 1000000
variable {V : Addr}
theorem Byt.appL {s u : ByteArray} {i v : Nat} (h : Byt s i v) : Byt (s ++ u) i v := by
  have hlt := h.lt
  obtain ⟨c, hc, hv⟩ := h
  refine ⟨c, ?_, hv⟩
  rw [getElem?_pos _ _ (by rw [ByteArray.size_append]; omega), ByteArray.getElem_append_left hlt, ← getElem?_pos s i hlt]
  exact hc
theorem Byt.appR {s u : ByteArray} {i v : Nat} (h : Byt u i v) : Byt (s ++ u) (s.size + i) v := by
  have hlt := h.lt
  obtain ⟨c, hc, hv⟩ := h
  refine ⟨c, ?_, hv⟩
  rw [getElem?_pos _ _ (by rw [ByteArray.size_append]; omega), ByteArray.getElem_append_right (by omega)]
  have : s.size + i - s.size = i := by omega
  simp only [this]
  rw [← getElem?_pos u i hlt]
  exact hc
theorem Byt.appR' {s u : ByteArray} {i j v : Nat} (h : Byt u i v) (hj : j = s.size + i) : Byt (s ++ u) j v := hj ▸ h.appR
structure DS (s : ByteArray) (l : Nat) (dg : Nat → Nat) : Prop where
  sz : s.size = l
  d : ∀ j, j < l → Byt s j (48 + dg j)
  d9 : ∀ j, dg j ≤ 9
def dcons (d : Nat) (dg : Nat → Nat) : Nat → Nat
  | 0 => d
  | j + 1 => dg j
theorem dv_cons (d : Nat) (dg : Nat → Nat) (t : Nat) : dv (dcons d dg) (t + 1) = d * 10 ^ t + dv dg t := by
  induction t with
  | zero => simp [dv, dcons]
  | succ t ih =>
    rw [dv, ih, dv, Nat.pow_succ, Nat.add_mul, Nat.mul_assoc, show dcons d dg (t + 1) = dg t from rfl]
    omega
theorem DS.cons {s : ByteArray} {l d : Nat} {dg : Nat → Nat} (h : DS s l dg) (hd : d ≤ 9) : DS (bstr [48 + d] ++ s) (l + 1) (dcons d dg) := by
  have h1 : (bstr [48 + d]).size = 1 := bstr_size _
  refine ⟨by rw [ByteArray.size_append, h1, h.sz]; omega, fun j hj => ?_, fun j => ?_⟩
  · cases j with
    | zero => exact (Byt.ofList (ys := [48 + d]) rfl (by show 48 + d < 256; omega)).appL
    | succ j => exact (h.d j (by omega)).appR' (by rw [h1]; omega)
  · cases j with
    | zero => exact hd
    | succ j => exact h.d9 j
def DT (s : ByteArray) (n : Nat) : Prop := ∃ l dg, DS s l dg ∧ dv dg l = n ∧ 0 < l ∧ (l = 1 ∨ 10 ^ (l - 1) ≤ n)
theorem digits_spec {r : RS} {n : Nat} (hr : Nm r n) (hn : n < 10 ^ 20) (hl : r.len ≤ 900) : SpecF (cx V) 7 #[zv (some r)] [dr r] (fun s : ByteArray => .string s) (fun _ => []) (fun s => DT s n) := by
  refine SpecF.enter Tryz.func7 rfl Tryz.ntmps7 (by simp) [(0, zv (some r))] (by simp) ?_
  intro X hR
  try simp only [apC, apN]
  refine G.seq (G.region (J.assign rfl rfl (J.nil (G.seq (G.seq (G.region (J.move rfl rfl (J.lenS rfl rfl ?_))))))))
  (first | refine J.eqN rfl rfl rfl ?_ | refine J.eqZ rfl rfl rfl ?_)
  refine J.nil ?_
  by_cases h0 : r.len = 0
  · have hn0 := hr.zero.1 h0
    refine G.cT rfl (G.seq (G.region (J.assign rfl rfl (J.nil (G.retF (hR _) ?_)))))
    exact GLF.done (hR _) (ByteArray.mk #[48] : ByteArray) rfl rfl ⟨1, fun _ => 0, ⟨rfl, fun j hj => by
      obtain rfl : j = 0 := by omega
      exact Byt.lit0 48 [], fun _ => Nat.zero_le _⟩, by rw [hn0]; rfl, Nat.zero_lt_one, .inl rfl⟩ rfl [] rfl
  · have hn0 : n ≠ 0 := fun e => h0 (hr.zero.2 e)
    refine G.cF rfl (G.skip (G.seq (G.region (J.assign rfl rfl (J.nil (G.seq (G.block ?_)))))))
    refine G.loopW (σ := { t : RS × ByteArray × Nat // Nm t.1 (n / 10 ^ t.2.2) ∧ t.1.len ≤ 900 ∧ t.2.2 ≤ 20 ∧ (t.2.2 = 0 ∨ 10 ^ (t.2.2 - 1) ≤ n) ∧ ∃ dg, DS t.2.1 t.2.2 dg ∧ dv dg t.2.2 = n % 10 ^ t.2.2 })
      (fun t => [(0, zv (some t.1.1)), (3, .string t.1.2.1)]) (fun t => [dr t.1.1]) (fun t => 21 - t.1.2.2) ⟨(r, ByteArray.mk #[], 0), by simpa using hr, hl, Nat.zero_le _, .inl rfl, fun _ => 0, ⟨rfl, fun j hj => absurd hj (by simp), fun _ => Nat.zero_le _⟩, by simp [dv, Nat.mod_one]⟩ (by repeat (first | exact SubSlots.nil _ | refine SubSlots.cons rfl ?_)) [0] rfl (by decide) ?_
    rintro ⟨⟨q, out, t⟩, hq, hql, ht, htop, dg, hds, hdv⟩ ih
    simp only at ih hq hql ht htop hds hdv ⊢
    have hsz := hds.sz
    refine G.seq (G.seq (G.region (J.move rfl rfl (J.lenS rfl rfl ?_))))
    (first | refine J.gtN rfl rfl rfl ?_ | refine J.gtZ rfl rfl rfl ?_)
    refine J.nil ?_
    by_cases hz : q.len = 0
    · have e0 := hq.zero.1 hz
      have hlt : n < 10 ^ t := (Nat.div_eq_zero_iff_lt (Nat.pow_pos (by decide))).1 e0
      have ht0 : t ≠ 0 := by
        rintro rfl
        simp only [Nat.pow_zero] at hlt
        omega
      refine G.cF rfl (G.exit rfl (G.seq (G.region (J.move rfl rfl (J.assign rfl rfl (J.nil (G.retF (hR _) ?_)))))))
      exact GLF.done (hR _) (out : ByteArray) rfl rfl ⟨t, dg, hds, by rw [hdv, Nat.mod_eq_of_lt hlt], by omega, .inr (htop.resolve_left ht0)⟩ rfl [] rfl
    · have e0 : n / 10 ^ t ≠ 0 := fun e => hz (hq.zero.2 e)
      have hge : 10 ^ t ≤ n := by
        rcases Nat.lt_or_ge n (10 ^ t) with h | h
        · exact absurd (Nat.div_eq_of_lt h) e0
        · exact h
      have ht20 : t < 20 := (Nat.pow_lt_pow_iff_right (by decide : 1 < 10)).1 (Nat.lt_of_le_of_lt hge hn)
      refine G.cT rfl (G.skip (G.block (G.seq (G.region (J.move rfl rfl (J.eff (E.callF (byDigit_spec (d := 10) hq (by omega) (by decide) (by decide)) [0] rfl rfl rfl (by first | exact fun _ => allRo_h rfl | exact wrow_ro | exact fun _ => wrow2_ro | exact fun _ => wrow3_ro) rfl) rfl fun p hp => ?_))))))
      try simp only [apC, apN]
      obtain ⟨q2, d⟩ := p
      obtain ⟨hq2, rfl⟩ := hp
      have hd10 := Nat.mod_lt (n / 10 ^ t) (show 0 < 10 by decide)
      simp only at hq2 ⊢
      refine J.move rfl rfl (J.extractL rfl rfl rfl (J.extractL rfl rfl rfl (J.assign rfl rfl (J.assign rfl rfl (J.nil (G.prune [2, 3, 4, 5] rfl (G.seq (G.region ?_))))))))
      refine J.move rfl rfl ?_
      (first | refine J.addI rfl rfl rfl (by omega) ?_ | refine J.addZ rfl rfl rfl (by omega) (by omega) ?_)
      refine J.convN rfl rfl (by show _ < _; omega) (J.eff (E.slice1 rfl rfl) rfl fun g20 => ?_)
      have hb1 : (bstr [48 + n / 10 ^ t % 10]).size = 1 := bstr_size _
      refine J.strOf (ys := [48 + n / 10 ^ t % 10]) rfl rfl rfl rfl (by intro y hy; rw [List.mem_singleton] at hy; omega) (J.move rfl rfl (J.strAdd rfl rfl rfl (by omega) (J.assign rfl rfl (J.nil (G.prune [2, 3, 4, 5] rfl (G.region (J.move rfl rfl (J.assign rfl rfl ?_))))))))
      refine J.nil (G.inBlock ?_)
      have hl2 : q2.len ≤ q.len := hq2.len_le (Nat.lt_of_le_of_lt (Nat.div_le_self _ _) hq.lt)
      exact G.wk [1] (ih ⟨(q2, bstr [48 + n / 10 ^ t % 10] ++ out, t + 1), by simp only; rw [Nat.pow_succ, ← Nat.div_div_eq_div_mul]; exact hq2, by simp only; omega, by simp only; omega, .inr (by simp only [Nat.add_sub_cancel]; exact hge), _, hds.cons (by omega), by rw [dv_cons, hdv, Nat.pow_succ, Nat.mod_mul, Nat.mul_comm (n / 10 ^ t % 10), Nat.add_comm]⟩ (by simp only; omega))
end
section
set_option maxRecDepth 100000
set_option pp.deepTerms false
set_option maxHeartbeats 1000000
variable {V : Addr}
structure PT (u : ByteArray) (a b : Nat) (dg : Nat → Nat) : Prop where
  sz : u.size = a + b + 1
  ha : ∀ j, j < a → Byt u j (48 + dg j)
  dt : Byt u a 46
  hb : ∀ j, j < b → Byt u (a + 1 + j) (48 + dg (a + j))
  d9 : ∀ j, dg j ≤ 9
theorem DS.point {s : ByteArray} {l k : Nat} {dg : Nat → Nat} (h : DS s l dg) (hk : k ≤ l) : PT (s.extract 0 (s.size - k) ++ ⟨#[46]⟩ ++ s.extract (s.size - k) s.size) (l - k) k dg := by
  have hs := h.sz
  have e1 : (s.extract 0 (s.size - k)).size = l - k := by rw [ByteArray.size_extract]; omega
  have e2 : (s.extract (s.size - k) s.size).size = k := by rw [ByteArray.size_extract]; omega
  have e3 : (⟨#[46]⟩ : ByteArray).size = 1 := rfl
  refine ⟨by rw [ByteArray.size_append, ByteArray.size_append, e1, e2, e3]; omega, fun j hj => ?_, ?_, fun j hj => ?_, h.d9⟩
  · exact (((h.d j (by omega)).ext (j := 0) (k := s.size - k) (Nat.zero_le _) (by omega)).appL).appL
  · exact (Byt.appR' (Byt.lit0 46 []) (by rw [e1, Nat.add_zero])).appL
  · refine Byt.appR' ((h.d (l - k + j) (by omega)).ext (j := s.size - k) (k := s.size) (by omega) (by omega)) ?_
    rw [ByteArray.size_append, e1, e3]
    omega
theorem pointed_spec {s : ByteArray} {l k : Nat} {dg : Nat → Nat} (h : DS s l dg) (hl : l ≤ 30) (hk : k ≤ 30) :
    SpecF (cx V) 6 #[.string s, .int .i64 (k : Int)] [] (fun u : ByteArray => .string u) (fun _ => []) (fun u => ∃ a dg', PT u a k dg' ∧ dv dg' (a + k) = dv dg l ∧ a + k = max l k) := by
  refine SpecF.enter Tryz.func6 rfl Tryz.ntmps6 (by simp) [(0, .string s), (1, .int .i64 (k : Int))] (by simp) ?_
  intro X hR
  try simp only [apC, apN]
  refine G.seq (G.region (J.assign rfl rfl (J.nil (G.seq (G.block ?_)))))
  refine G.loopW (σ := { t : ByteArray × Nat // ∃ dg', DS t.1 t.2 dg' ∧ dv dg' t.2 = dv dg l ∧ (t.2 = l ∨ l < t.2 ∧ t.2 ≤ k) }) (fun t => [(0, .string t.1.1), (1, .int .i64 (k : Int))]) (fun _ => []) (fun t => k - t.1.2) ⟨(s, l), dg, h, rfl, .inl rfl⟩ (by repeat (first | exact SubSlots.nil _ | refine SubSlots.cons rfl ?_)) [] rfl (by decide) ?_
  rintro ⟨⟨s2, l2⟩, dg2, h2, hv, hll⟩ ih
  simp only at ih h2 hv hll ⊢
  have hs2 := h2.sz
  refine G.seq (G.seq (G.region (J.move rfl rfl (J.lenT rfl rfl (J.move rfl rfl ?_)))))
  (first | refine J.ltN rfl rfl rfl ?_ | refine J.ltZ rfl rfl rfl ?_)
  refine J.nil (G.prune [0, 1, 4, 8] rfl ?_)
  by_cases hlk : s2.size < k
  · have e3 : (⟨#[48]⟩ : ByteArray).size = 1 := rfl
    have h3 : DS (⟨#[48]⟩ ++ s2) (l2 + 1) (dcons 0 dg2) := h2.cons (Nat.zero_le 9)
    refine G.cT rfl (G.skip (G.block (G.region (J.move rfl rfl (J.strAdd rfl rfl rfl (by omega) (J.assign rfl rfl (J.nil (G.inBlock ?_))))))))
    exact G.wk [] (ih ⟨(⟨#[48]⟩ ++ s2, l2 + 1), dcons 0 dg2, h3, by rw [dv_cons, Nat.zero_mul, Nat.zero_add]; exact hv, by simp only; omega⟩ (by simp only; omega))
  · have hkl : k ≤ l2 := by omega
    have hp := h2.point hkl
    have e1 : (s2.extract 0 (s2.size - k)).size = l2 - k := by rw [ByteArray.size_extract]; omega
    have e2 : (s2.extract (s2.size - k) s2.size).size = k := by rw [ByteArray.size_extract]; omega
    have e3 : (⟨#[46]⟩ : ByteArray).size = 1 := rfl
    have e4 : (s2.extract 0 (s2.size - k) ++ (⟨#[46]⟩ : ByteArray)).size = l2 - k + 1 := by rw [ByteArray.size_append, e1, e3]
    refine G.cF rfl (G.exit rfl (G.seq (G.regionS [0, 1, 2, 3, 4, 5, 6, 7, 8, 9, 10, 11, 12, 13, 14] none none [] (by kernel_rfl) (SubH.of [] rfl) rfl (J.move rfl rfl (J.move rfl rfl (J.lenT rfl rfl (J.move rfl rfl ?_)))))))
    (first | refine J.subI rfl rfl rfl (by omega) (by omega) ?_ | refine J.subZ rfl rfl rfl (by omega) (by omega) ?_)
    refine J.strH rfl rfl rfl (by omega) (J.strAdd rfl rfl rfl (by omega) (J.move rfl rfl (J.move rfl rfl (J.lenT rfl rfl (J.move rfl rfl ?_)))))
    (first | refine J.subI rfl rfl rfl (by omega) (by omega) ?_ | refine J.subZ rfl rfl rfl (by omega) (by omega) ?_)
    refine J.strL rfl rfl rfl (by omega) (J.strAdd rfl rfl rfl (by omega) (J.assign rfl rfl (J.nil (G.prune [4] rfl (G.retF (hR _) ?_)))))
    exact GLF.done (hR _) (_ : ByteArray) rfl rfl ⟨l2 - k, dg2, hp, by rw [Nat.sub_add_cancel hkl]; exact hv, by omega⟩ rfl [] rfl
end
section
set_option maxRecDepth 100000
set_option pp.deepTerms false
set_option maxHeartbeats 1000000
variable {V : Addr}
theorem DT.size {s : ByteArray} {n : Nat} (h : DT s n) {k : Nat} (hk : n < 10 ^ k) (h0 : 0 < k) : s.size ≤ k := by
  obtain ⟨l, dg, hd, -, -, h1⟩ := h
  rw [hd.sz]
  rcases h1 with h1 | h1
  · omega
  · have := (Nat.pow_lt_pow_iff_right (by decide : 1 < 10)).1 (Nat.lt_of_le_of_lt h1 hk)
    omega
def XT (u letter : ByteArray) (e : Int) (plus : Bool) : Prop := ∃ ds, DT ds e.natAbs ∧ u = (if e < 0 then letter ++ ⟨#[45]⟩ ++ ds else if plus then letter ++ ⟨#[43]⟩ ++ ds else letter ++ ds)
theorem exponent_spec {letter : ByteArray} {e : Int} {plus : Bool} (hl : letter.size = 1) (he : -400 ≤ e ∧ e ≤ 400) :
    SpecF (cx V) 8 #[.string letter, .int .i64 e, .bool plus] [] (fun u : ByteArray => .string u) (fun _ => []) (fun u => XT u letter e plus) := by
  have h45 : (⟨#[45]⟩ : ByteArray).size = 1 := rfl
  have h43 : (⟨#[43]⟩ : ByteArray).size = 1 := rfl
  have e1 : (letter ++ (⟨#[45]⟩ : ByteArray)).size = 2 := by rw [ByteArray.size_append, hl, h45]
  have e2 : (letter ++ (⟨#[43]⟩ : ByteArray)).size = 2 := by rw [ByteArray.size_append, hl, h43]
  refine SpecF.enter Tryz.func8 rfl Tryz.ntmps8 (by simp) [(0, .string letter), (1, .int .i64 e), (2, .bool plus)] (by simp) ?_
  intro X hR
  try simp only [apC, apN]
  refine G.seq (G.region (J.assign rfl rfl (J.nil (G.seq (G.region (J.move rfl rfl (J.move rfl rfl (J.negZ rfl rfl (by omega) (by omega) ?_))))))))
  refine J.maxZ (r := (e.natAbs : Int)) rfl rfl rfl (by split <;> omega) (J.eff (E.callF (small_spec (n := e.natAbs) (Nat.lt_of_le_of_lt (show e.natAbs ≤ 400 by omega) (by decide))) [] rfl rfl rfl (by first | exact fun _ => allRo_h rfl | exact wrow_ro | exact fun _ => wrow2_ro | exact fun _ => wrow3_ro) rfl) rfl fun q hq => ?_)
  try simp only [apC, apN]
  have hql := hq.len_le (k := 1) (Nat.lt_of_le_of_lt (show e.natAbs ≤ 400 by omega) (by decide))
  refine J.eff (E.callF (digits_spec hq (Nat.lt_of_le_of_lt (show e.natAbs ≤ 400 by omega) (by decide)) (by omega)) [0] rfl rfl rfl (by first | exact fun _ => allRo_h rfl | exact wrow_ro | exact fun _ => wrow2_ro | exact fun _ => wrow3_ro) rfl) rfl fun ds hds => ?_
  try simp only [apC, apN]
  refine J.assign rfl rfl (J.nil (G.prune [0, 1, 2, 6, 7] rfl (G.seq (G.seq (G.region (J.move rfl rfl ?_))))))
  (first | refine J.ltN rfl rfl rfl ?_ | refine J.ltZ rfl rfl rfl ?_)
  refine J.nil ?_
  have hsz := hds.size (k := 3) (Nat.lt_of_le_of_lt (show e.natAbs ≤ 400 by omega) (by decide)) (by decide)
  by_cases h0 : e < 0
  · skip
    refine G.cT rfl (G.seq (G.region (J.move rfl rfl (J.strAdd rfl rfl rfl (by omega) (J.move rfl rfl (J.strAdd rfl rfl rfl (by omega) (J.assign rfl rfl (J.nil ?_))))))))
    refine G.prune [0, 2, 6, 7] rfl (G.retF (hR _) ?_)
    exact GLF.done (hR _) (_ : ByteArray) rfl rfl ⟨ds, hds, by rw [if_pos h0]⟩ rfl [] rfl
  · skip
    refine G.cF rfl (G.skip (G.seq (G.seq (G.region (J.move rfl rfl (J.nil ?_))))))
    cases plus
    · skip
      refine G.cF rfl (G.skip (G.seq (G.region (J.move rfl rfl (J.move rfl rfl (J.strAdd rfl rfl rfl (by omega) (J.assign rfl rfl (J.nil ?_))))))))
      refine G.prune [6] rfl (G.retF (hR _) ?_)
      exact GLF.done (hR _) (_ : ByteArray) rfl rfl ⟨ds, hds, by rw [if_neg h0]; rfl⟩ rfl [] rfl
    · skip
      refine G.cT rfl (G.seq (G.region (J.move rfl rfl (J.strAdd rfl rfl rfl (by omega) (J.move rfl rfl (J.strAdd rfl rfl rfl (by omega) (J.assign rfl rfl (J.nil ?_))))))))
      refine G.prune [0, 6, 7] rfl (G.retF (hR _) ?_)
      exact GLF.done (hR _) (_ : ByteArray) rfl rfl ⟨ds, hds, by rw [if_neg h0]; rfl⟩ rfl [] rfl
structure HS (s : ByteArray) (l : Nat) (hd hc : Nat → Nat) : Prop where
  sz : s.size = l
  d : ∀ j, j < l → Byt s j (hc j)
  v : ∀ j, hd j ≤ 15 ∧ (hd j ≤ 9 ∧ hc j = 48 + hd j ∨ 10 ≤ hd j ∧ (hc j = 87 + hd j ∨ hc j = 55 + hd j))
def HC (d c : Nat) : Prop := d ≤ 9 ∧ c = 48 + d ∨ 10 ≤ d ∧ (c = 87 + d ∨ c = 55 + d)
theorem HS.cons {s u : ByteArray} {l d c : Nat} {hd hc : Nat → Nat} (h : HS s l hd hc) (hu : u.size = 1) (hb : Byt u 0 c) (h15 : d ≤ 15) (hc' : HC d c) : HS (u ++ s) (l + 1) (dcons d hd) (dcons c hc) := by
  refine ⟨by rw [ByteArray.size_append, hu, h.sz]; omega, fun j hj => ?_, fun j => ?_⟩
  · cases j with
    | zero => exact hb.appL
    | succ j => exact (h.d j (by omega)).appR' (by rw [hu]; omega)
  · cases j with
    | zero => exact ⟨h15, hc'⟩
    | succ j => exact h.v j
def HTx (s : ByteArray) (n : Nat) : Prop := ∃ l hd hc, HS s l hd hc ∧ hv hd l = n ∧ 0 < l ∧ (l = 1 ∨ 16 ^ (l - 1) ≤ n)
end
section
set_option maxRecDepth 100000
set_option pp.deepTerms false
set_option maxHeartbeats 1000000
variable {V : Addr}
theorem Txt.lead {s : ByteArray} {a b : Nat} {dot : Bool} {dg : Nat → Nat} (T : Txt s a b dot dg) : 0 < s.size ∧ ∃ c : UInt8, s[0]? = some c ∧ c.toNat ≠ 45 ∧ c.toNat ≠ 43 ∧ c.toNat ≠ 73 ∧ c.toNat ≠ 105 := by
  have hab := T.ab
  have h0 : 0 < s.size := by
    rcases T.en with h | h | h
    · omega
    · have := h.lt; omega
    · have := h.lt; omega
  obtain ⟨v, hv⟩ := Byt.at h0
  have h9 := T.d9
  have key : v ≠ 45 ∧ v ≠ 43 ∧ v ≠ 73 ∧ v ≠ 105 := by
    rcases T.char (p := 0) (by omega) hv with ⟨h, rfl⟩ | ⟨h, h2, rfl⟩ | ⟨h, h2, h3, rfl⟩ | ⟨h, h2⟩
    · have := h9 0; omega
    · omega
    · have := h9 (0 - 1); omega
    · omega
  obtain ⟨c, hc, rfl⟩ := hv
  exact ⟨h0, c, hc, key⟩
theorem Txt.noSlash {s : ByteArray} {a b : Nat} {dot : Bool} {dg : Nat → Nat} (T : Txt s a b dot dg) {i : Nat} (hi : i ≤ a + b + dot.toNat) : ¬ Byt s i 47 := fun h => by
  have h9 := T.d9
  rcases T.char hi h with ⟨h1, h2⟩ | ⟨h1, h2, h3⟩ | ⟨h1, h2, h3, h4⟩ | ⟨h1, h2⟩
  · have := h9 i; omega
  · omega
  · have := h9 (i - 1); omega
  · omega
theorem litPlain {s : ByteArray} {a b m : Nat} {dot : Bool} {dg : Nat → Nat} {ee : Int} (T : Txt s a b dot dg) (hs : s.size = a + b + dot.toNat) (hv : dv dg (a + b) = m) (hm : m < 18446744073709551616) (he : ee = if dot then -(b : Int) else 0) : Lit V s m ee := by
  obtain ⟨h0, hc⟩ := T.lead
  have hab2 := T.ab2
  have hsz := T.sz
  refine ⟨h0, T.sz, fun i h => ?_, hc, hm, ?_, a + b + dot.toNat, 10, if dot then -(b : Int) else (a : Int), 0, ?_, ?_, by decide, by decide, .inl ⟨rfl, ?_⟩, fun rb => ?_, fun rb b1 b2 => ?_⟩
  · have := h.lt
    exact T.noSlash (by omega) h
  · rw [he]; split <;> omega
  · split <;> omega
  · split <;> omega
  · rw [he]
    cases dot
    · simp only [Bool.false_eq_true, if_false]; rw [if_neg (by omega)]; rfl
    · simp only [if_true]; split <;> omega
  · have := scan_spec (V := V) (rb := rb) T
    rw [hv] at this
    exact this
  · rw [← hs]; exact scanExp_none hsz
theorem litExp {s : ByteArray} {a b m q k sg : Nat} {dot : Bool} {dg dg' : Nat → Nat} {ee : Int} (T : Txt s a b dot dg) (E : Ex10 s (a + b + dot.toNat) q k sg dg') (hv : dv dg (a + b) = m) (hm : m < 18446744073709551616) (hx : dv dg' k ≤ 300)
    (he : ee = (if dot then -(b : Int) else 0) + (if sg = 45 then -((dv dg' k : Nat) : Int) else ((dv dg' k : Nat) : Int))) : Lit V s m ee := by
  obtain ⟨h0, hc⟩ := T.lead
  have hab2 := T.ab2
  have hsz := T.sz
  have h9 := E.d9
  refine ⟨h0, T.sz, fun i h => ?_, hc, hm, ?_, a + b + dot.toNat, 10, if dot then -(b : Int) else (a : Int), if sg = 45 then -((dv dg' k : Nat) : Int) else ((dv dg' k : Nat) : Int), ?_, ?_, ?_, ?_, .inl ⟨rfl, ?_⟩, fun rb => ?_, fun rb b1 b2 => scanExp_spec E⟩
  · have hlt := h.lt
    by_cases hi : i ≤ a + b + dot.toNat
    · exact T.noSlash hi h
    · have he := E.e
      have hd := E.d
      rcases E.sg with ⟨h1, h2⟩ | ⟨h1, h2, h3⟩
      · have := h.uniq (by have := hd (i - q) (by omega); rwa [show q + (i - q) = i by omega] at this)
        have := h9 (i - q)
        omega
      · by_cases h4 : i = a + b + dot.toNat + 1
        · subst h4
          have := h.uniq h3
          omega
        · have := h.uniq (by have := hd (i - q) (by omega); rwa [show q + (i - q) = i by omega] at this)
          have := h9 (i - q)
          omega
  · rw [he]; split <;> split <;> omega
  · split <;> omega
  · split <;> omega
  · split <;> omega
  · split <;> omega
  · rw [he]
    cases dot
    · simp only [Bool.false_eq_true, if_false]; rw [if_neg (show ¬ ((a : Int) < 0) by omega)]
    · simp only [if_true]
      congr 1
      split <;> omega
  · have := scan_spec (V := V) (rb := rb) T
    rw [hv] at this
    exact this
theorem litHex {s : ByteArray} {h m : Nat} {hd hc : Nat → Nat} (T : Hex s h hd hc) (hv' : hv hd h = m) (hm : m < 18446744073709551616) : Lit V s m 0 := by
  have hsz := T.sz
  have h16 := T.h16
  have h1 := T.h1
  obtain ⟨c, hc0, hc1⟩ := T.b0
  refine ⟨by omega, by omega, fun i h' => ?_, ⟨c, hc0, by omega, by omega, by omega, by omega⟩, hm, by decide, s.size, 16, (h : Int), 0, by omega, by omega, by decide, by decide, .inr ⟨rfl, by omega, rfl, rfl⟩, fun rb => ?_, fun rb b1 b2 => scanExp_none (by omega)⟩
  · have hlt := h'.lt
    have hv := T.v
    have hd' := T.d
    by_cases h0 : i = 0
    · subst h0
      have := h'.uniq T.b0
      omega
    · by_cases h2 : i = 1
      · subst h2
        have := h'.uniq T.b1
        omega
      · have := h'.uniq (by have := hd' (i - 2) (by omega); rwa [show 2 + (i - 2) = i by omega] at this)
        have := hv (i - 2)
        omega
  · have := hexScan_spec (V := V) (rb := rb) T
    rw [hv'] at this
    exact this
theorem lit0 : Lit V (ByteArray.mk #[48]) 0 0 := by
  have T : Txt (ByteArray.mk #[48]) 1 0 false (fun _ => 0) := ⟨fun _ => Nat.zero_le _, fun j hj => by
    obtain rfl : j = 0 := by omega
    exact Byt.lit0 48 [], fun h => (nomatch h), fun j hj => absurd hj (by omega), fun _ => rfl, by decide, by decide, by decide, .inl rfl⟩
  exact litPlain T rfl rfl (by decide) rfl
end
section
set_option maxRecDepth 100000
set_option pp.deepTerms false
set_option maxHeartbeats 1000000
variable {V : Addr}
theorem PT.lit {u : ByteArray} {a k n : Nat} {dg : Nat → Nat} (h : PT u a k dg) (hv : dv dg (a + k) = n) (h0 : 0 < a + k) (h25 : a + k ≤ 25) (hn : n < 18446744073709551616) : Lit V u n (0 - (k : Int)) := by
  have hs := h.sz
  refine litPlain (a := a) (b := k) (dot := true) (dg := dg) ⟨h.d9, h.ha, fun _ => h.dt, h.hb, fun e => (nomatch e), by omega, h0, h25, .inl (by simp [Bool.toNat]; omega)⟩ (by simp [Bool.toNat]; omega) hv hn (by simp)
theorem XT.ex {u X letter : ByteArray} {a k : Nat} {c : UInt8} {e : Int} {plus : Bool} (hu : u.size = a + k + 1) (hX : XT X letter e plus) (hl : letter = ⟨#[c]⟩) (hc : c.toNat = 101 ∨ c.toNat = 69) (he : -300 ≤ e ∧ e ≤ 300) (h25 : a + k ≤ 25) :
    Byt (u ++ X) (a + k + 1) c.toNat ∧ ∃ q l sg dg', Ex10 (u ++ X) (a + k + true.toNat) q l sg dg' ∧ dv dg' l ≤ 300 ∧ e = (if sg = 45 then -((dv dg' l : Nat) : Int) else ((dv dg' l : Nat) : Int)) := by
  obtain ⟨ds, ⟨l, dg', hd, hdv, hl0, hl1⟩, rfl⟩ := hX
  have hl3 : l ≤ 3 := by
    rcases hl1 with h | h
    · omega
    · have h3 : e.natAbs < 10 ^ 3 := Nat.lt_of_le_of_lt (show e.natAbs ≤ 300 by omega) (by decide)
      have := (Nat.pow_lt_pow_iff_right (by decide : 1 < 10)).1 (Nat.lt_of_le_of_lt h h3)
      omega
  have hds := hd.sz
  have hls : letter.size = 1 := by rw [hl]; rfl
  have hlb : Byt letter 0 c.toNat := by rw [hl]; exact Byt.lit0 c []
  have h45 : (⟨#[45]⟩ : ByteArray).size = 1 := rfl
  have h43 : (⟨#[43]⟩ : ByteArray).size = 1 := rfl
  have ht : true.toNat = 1 := rfl
  have hlet : ∀ w : ByteArray, Byt (u ++ (letter ++ w)) (a + k + 1) c.toNat := fun w => Byt.appR' hlb.appL (by omega)
  have hsz : ∀ w : ByteArray, (u ++ (letter ++ w)).size = a + k + 2 + w.size := fun w => by rw [ByteArray.size_append, ByteArray.size_append]; omega
  have hcc : ∀ w : ByteArray, Byt (u ++ (letter ++ w)) (a + k + true.toNat) 101 ∨ Byt (u ++ (letter ++ w)) (a + k + true.toNat) 69 := fun w => by
    have := hlet w
    rw [ht]
    rcases hc with h | h
    · rw [h] at this; exact .inl this
    · rw [h] at this; exact .inr this
  split
  · rename_i h0
    rw [ByteArray.append_assoc]
    have z := hsz (⟨#[45]⟩ ++ ds)
    have y : ((⟨#[45]⟩ : ByteArray) ++ ds).size = 1 + ds.size := by rw [ByteArray.size_append, h45]
    rw [y] at z
    refine ⟨hlet _, a + k + 3, l, 45, dg', ⟨hcc _, .inr ⟨.inr rfl, by omega, ?_⟩, fun j hj => ?_, by omega, hl0, by omega, hd.d9, by omega⟩, by omega, ?_⟩
    · refine Byt.appR' (Byt.appR' (Byt.appL (Byt.lit0 45 [])) rfl) (by omega)
    · refine Byt.appR' (Byt.appR' (Byt.appR' (hd.d j hj) rfl) rfl) (by omega)
    · rw [if_pos rfl, hdv]; omega
  · rename_i h0
    split
    · rw [ByteArray.append_assoc]
      have z := hsz (⟨#[43]⟩ ++ ds)
      have y : ((⟨#[43]⟩ : ByteArray) ++ ds).size = 1 + ds.size := by rw [ByteArray.size_append, h43]
      rw [y] at z
      refine ⟨hlet _, a + k + 3, l, 43, dg', ⟨hcc _, .inr ⟨.inl rfl, by omega, ?_⟩, fun j hj => ?_, by omega, hl0, by omega, hd.d9, by omega⟩, by omega, ?_⟩
      · refine Byt.appR' (Byt.appR' (Byt.appL (Byt.lit0 43 [])) rfl) (by omega)
      · refine Byt.appR' (Byt.appR' (Byt.appR' (hd.d j hj) rfl) rfl) (by omega)
      · rw [if_neg (by decide), hdv]; omega
    · have z := hsz ds
      refine ⟨hlet _, a + k + 2, l, 0, dg', ⟨hcc _, .inl ⟨rfl, by omega⟩, fun j hj => ?_, by omega, hl0, by omega, hd.d9, by omega⟩, by omega, ?_⟩
      · refine Byt.appR' (Byt.appR' (hd.d j hj) rfl) (by omega)
      · rw [if_neg (by decide), hdv]; omega
theorem PT.litE {u X letter : ByteArray} {a k n : Nat} {dg : Nat → Nat} {c : UInt8} {e : Int} {plus : Bool} (h : PT u a k dg) (hv : dv dg (a + k) = n) (h0 : 0 < a + k) (h25 : a + k ≤ 25) (hn : n < 18446744073709551616)
    (hX : XT X letter e plus) (hl : letter = ⟨#[c]⟩) (hc : c.toNat = 101 ∨ c.toNat = 69) (he : -300 ≤ e ∧ e ≤ 300) : Lit V (u ++ X) n (e - (k : Int)) := by
  obtain ⟨hb, q, l, sg, dg', hE, hle, hee⟩ := hX.ex h.sz hl hc he h25
  have hs := h.sz
  have hsz := hE.sz
  refine litExp (a := a) (b := k) (dot := true) (dg := dg) ⟨h.d9, fun j hj => (h.ha j hj).appL, fun _ => h.dt.appL, fun j hj => (h.hb j hj).appL, fun e => (nomatch e), hsz, h0, h25, ?_⟩ hE hv hn hle ?_
  · rcases hc with q | q
    · rw [q] at hb; exact .inr (.inl hb)
    · rw [q] at hb; exact .inr (.inr hb)
  · simp only [if_true]; rw [← hee]; omega
theorem DS.lit {s : ByteArray} {l n : Nat} {dg : Nat → Nat} (h : DS s l dg) (hv : dv dg l = n) (h0 : 0 < l) (h25 : l ≤ 25) (hn : n < 18446744073709551616) : Lit V s n 0 := by
  have hs := h.sz
  exact litPlain (a := l) (b := 0) (dot := false) (dg := dg) ⟨h.d9, h.d, fun e => (nomatch e), fun j hj => absurd hj (by omega), fun _ => rfl, by omega, by omega, by omega, .inl (by simp [Bool.toNat]; omega)⟩ (by simp [Bool.toNat]; omega) hv hn rfl
theorem HS.lit {s : ByteArray} {l n : Nat} {hd hc : Nat → Nat} (h : HS s l hd hc) (hv' : hv hd l = n) (h0 : 0 < l) (h16 : l ≤ 16) (hn : n < 18446744073709551616) : Lit V (⟨#[48, 120]⟩ ++ s) n 0 := by
  have hs := h.sz
  have h2 : (⟨#[48, 120]⟩ : ByteArray).size = 2 := rfl
  exact litHex (hd := hd) (hc := hc) (h := l) ⟨(Byt.lit0 48 [120]).appL, (show Byt (⟨#[48, 120]⟩ : ByteArray) 1 120 from ⟨120, rfl, rfl⟩).appL, fun j hj => Byt.appR' (h.d j hj) (by omega), h.v, by rw [ByteArray.size_append]; omega, h0, h16⟩ hv' hn
theorem HTx.len {s : ByteArray} {n : Nat} (h : HTx s n) (hn : n < 16 ^ 16) : ∃ l hd hc, HS s l hd hc ∧ hv hd l = n ∧ 0 < l ∧ l ≤ 16 := by
  obtain ⟨l, hd, hc, h1, h2, h3, h4⟩ := h
  refine ⟨l, hd, hc, h1, h2, h3, ?_⟩
  rcases h4 with h4 | h4
  · omega
  · have := (Nat.pow_lt_pow_iff_right (by decide : 1 < 16)).1 (Nat.lt_of_le_of_lt h4 hn)
    omega
theorem DT.len {s : ByteArray} {n : Nat} (h : DT s n) (hn : n < 10 ^ 20) : ∃ l dg, DS s l dg ∧ dv dg l = n ∧ 0 < l ∧ l ≤ 20 := by
  obtain ⟨l, dg, h1, h2, h3, h4⟩ := h
  refine ⟨l, dg, h1, h2, h3, ?_⟩
  rcases h4 with h4 | h4
  · omega
  · have := (Nat.pow_lt_pow_iff_right (by decide : 1 < 10)).1 (Nat.lt_of_le_of_lt h4 hn)
    omega
end
section
set_option maxRecDepth 100000
set_option pp.deepTerms false
set_option maxHeartbeats 1000000
variable {V : Addr}
theorem tmod301 (e : Int) : -300 ≤ e.tmod 301 ∧ e.tmod 301 ≤ 300 := by
  have h := Int.natAbs_tmod e 301
  have h2 := Nat.mod_lt e.natAbs (show 0 < 301 by decide)
  have h3 : (301 : Int).natAbs = 301 := rfl
  rw [h3] at h
  omega
theorem w30 : 18446744073709551616 ^ 30 = 65536 ^ 120 := by decide
theorem lawF_spec {n k f : Nat} {e : Int} (hn : n < 18446744073709551616) (hk : k < 256) (hf : f < 256) : SpecF (cx V) 3 #[.int .u64 n, .int .u8 k, .int .i16 e, .int .u8 f] [] (fun _ : Unit => .bool true) (fun _ => []) (fun _ => True) := by
  refine SpecF.enter Tryz.func3 rfl Tryz.ntmps3 (by simp) [(0, .int .u64 n), (1, .int .u8 k), (2, .int .i16 e), (3, .int .u8 f)] (by simp) ?_
  intro X hR
  try simp only [apC, apN]
  refine G.seq (G.region (J.assign rfl rfl (J.nil (G.seq (G.region (J.move rfl rfl (J.eff (E.slice1 rfl rfl) rfl fun g14 => ?_)))))))
  refine J.frz rfl ?_
  refine J.eff (E.callF (of_spec (r := ⟨g14, 1, [n]⟩) (by simp) (by simp) (fun j _ => Wd.one hn j)) [0] rfl rfl rfl (by first | exact fun _ => allRo_h rfl | exact wrow_ro | exact fun _ => wrow2_ro | exact fun _ => wrow3_ro) rfl) rfl fun q hq => ?_
  try simp only [apC, apN]
  refine J.assign rfl rfl (J.nil (G.prune [1, 2, 3, 8, 9] rfl (G.seq (G.region (J.move rfl rfl (J.remN rfl rfl rfl (by omega) ?_))))))
  have hq : Nm q n := by simpa [rv] using hq
  have hql : q.len ≤ 4 := hq.len_le hn
  refine J.convN rfl rfl (by show _ < _; omega) (J.move rfl rfl (J.remZ rfl rfl rfl (by decide) ?_))
  obtain ⟨hx1, hx2⟩ := tmod301 e
  generalize e.tmod 301 = x at hx1 hx2 ⊢
  refine J.conv64 rfl rfl (by omega) (by omega) (J.assign rfl rfl (J.assign rfl rfl (J.nil (G.prune [3, 8, 9, 10, 11] rfl (G.seq (G.region (J.move rfl rfl (J.eff (E.callF (digits_spec hq (Nat.lt_trans hn (by decide)) (by omega)) [0] rfl rfl rfl (by first | exact fun _ => allRo_h rfl | exact wrow_ro | exact fun _ => wrow2_ro | exact fun _ => wrow3_ro) rfl) rfl fun s hs => ?_))))))))
  try simp only [apC, apN]
  refine J.move rfl rfl ?_
  obtain ⟨l, dg, hds, hdv, hl0, hl20⟩ := hs.len (Nat.lt_trans hn (by decide))
  refine J.eff (E.callF (pointed_spec (k := k % 25) hds (by omega) (by omega)) [] rfl rfl rfl (by first | exact fun _ => allRo_h rfl | exact wrow_ro | exact fun _ => wrow2_ro | exact fun _ => wrow3_ro) rfl) rfl fun u hu => ?_
  try simp only [apC, apN]
  refine J.assign rfl rfl (J.nil (G.prune [3, 8, 9, 10, 11, 12] rfl (G.seq (G.seq (G.region (J.move rfl rfl (J.remN rfl rfl rfl (by omega) ?_)))))))
  (first | refine J.eqN rfl rfl rfl ?_ | refine J.eqZ rfl rfl rfl ?_)
  refine J.nil ?_
  obtain ⟨a, dg', hpt, hdv', hmx⟩ := hu
  rw [hdv] at hdv'
  have hus := hpt.sz
  apply G.join (σ := { t : ByteArray × Int // Lit V t.1 n (t.2 - ((k % 25 : Nat) : Int)) ∧ -300 ≤ t.2 ∧ t.2 ≤ 300 }) (fun _ => True) (fun t => [(9, zv (some q)), (10, .int .i64 ((k % 25 : Nat) : Int)), (11, .int .i64 t.1.2), (12, .string t.1.1)]) (fun _ => [dr q])
  · intro hk'
    by_cases h3 : f % 3 = 0
    · skip
      refine G.cT rfl (G.region (J.assign rfl rfl (J.nil (G.seq ?_))))
      exact G.wk [0] (hk' ⟨(u, 0), hpt.lit hdv' (by omega) (by omega) hn, by simp only; omega, by simp only; omega⟩ trivial)
    · skip
      refine G.cF rfl (G.region (J.move rfl rfl (J.eff (E.sliceS2 (s0 := ByteArray.mk #[101]) (s1 := ByteArray.mk #[69]) rfl rfl rfl) rfl fun g30 => J.move rfl rfl (J.remN rfl rfl rfl (by omega) (J.iz rfl rfl rfl ?_)))))
      have h101 : (ByteArray.mk #[101]).size = 1 := rfl
      have h69 : (ByteArray.mk #[69]).size = 1 := rfl
      rcases Nat.mod_two_eq_zero_or_one f with h2 | h2
      · rw [h2]
        refine J.loadI rfl rfl rfl rfl (J.move rfl rfl (J.move rfl rfl ?_))
        (first | refine J.gtN rfl rfl rfl ?_ | refine J.gtZ rfl rfl rfl ?_)
        refine J.frz rfl ?_
        refine J.eff (E.callF (exponent_spec (letter := ByteArray.mk #[101]) (e := x) (plus := decide (127 < f)) rfl (by omega)) [] rfl rfl rfl (by first | exact fun _ => allRo_h rfl | exact wrow_ro | exact fun _ => wrow2_ro | exact fun _ => wrow3_ro) rfl) rfl fun X hX => ?_
        try simp only [apC, apN]
        have hT := hpt.litE (V := V) hdv' (by omega) (by omega) hn hX rfl (by decide) ⟨hx1, hx2⟩
        have hsz := hT.sz
        rw [ByteArray.size_append] at hsz
        refine J.strAdd rfl rfl rfl (by omega) (J.assign rfl rfl (J.nil (G.prune [8, 9, 10, 11, 12] rfl (G.seq ?_))))
        exact G.wk [1] (hk' ⟨(u ++ X, x), hT, hx1, hx2⟩ trivial)
      · rw [h2]
        refine J.loadI rfl rfl rfl rfl (J.move rfl rfl (J.move rfl rfl ?_))
        (first | refine J.gtN rfl rfl rfl ?_ | refine J.gtZ rfl rfl rfl ?_)
        refine J.frz rfl ?_
        refine J.eff (E.callF (exponent_spec (letter := ByteArray.mk #[69]) (e := x) (plus := decide (127 < f)) rfl (by omega)) [] rfl rfl rfl (by first | exact fun _ => allRo_h rfl | exact wrow_ro | exact fun _ => wrow2_ro | exact fun _ => wrow3_ro) rfl) rfl fun X hX => ?_
        try simp only [apC, apN]
        have hT := hpt.litE (V := V) hdv' (by omega) (by omega) hn hX rfl (by decide) ⟨hx1, hx2⟩
        have hsz := hT.sz
        rw [ByteArray.size_append] at hsz
        refine J.strAdd rfl rfl rfl (by omega) (J.assign rfl rfl (J.nil (G.prune [8, 9, 10, 11, 12] rfl (G.seq ?_))))
        exact G.wk [1] (hk' ⟨(u ++ X, x), hT, hx1, hx2⟩ trivial)
  rintro ⟨⟨s, x⟩, hT, hx1, hx2⟩ -
  simp only at hT hx1 hx2 ⊢
  refine G.region (J.move rfl rfl (J.eff (E.callF (litF_spec hT lit0 (by omega) (by omega)) [] rfl rfl rfl (by first | exact fun _ => allRo_h rfl | exact wrow_ro | exact fun _ => wrow2_ro | exact fun _ => wrow3_ro) rfl) rfl fun t ht => ?_))
  try simp only [apC, apN]
  obtain ⟨w, d⟩ := t
  obtain ⟨v, y, hv, hy, y1, y2, y3, y4⟩ := ht
  simp only at y1 y2 y3 y4
  subst hv hy
  have hu0 : 10 ^ (-(x - ((k % 25 : Nat) : Int))).toNat ≠ 0 := Nat.ne_of_gt (Nat.pow_pos (by decide))
  have hg0 := Nat.gcd_pos_of_pos_right (n * 10 ^ (x - ((k % 25 : Nat) : Int)).toNat) (Nat.pos_of_ne_zero hu0)
  have hm0 := Nat.ne_of_gt (Nat.div_pos (Nat.le_of_dvd (Nat.pos_of_ne_zero hu0) (Nat.gcd_dvd_right (n * 10 ^ (x - ((k % 25 : Nat) : Int)).toNat) _)) hg0)
  have hco := Nat.coprime_div_gcd_div_gcd hg0
  have hv30 := litB1 (g := Nat.gcd (n * 10 ^ (x - ((k % 25 : Nat) : Int)).toNat) (10 ^ (-(x - ((k % 25 : Nat) : Int))).toNat)) hn (show x - ((k % 25 : Nat) : Int) ≤ 324 by omega) rfl
  have hy30 := litB2 (g := Nat.gcd (n * 10 ^ (x - ((k % 25 : Nat) : Int)).toNat) (10 ^ (-(x - ((k % 25 : Nat) : Int))).toNat)) (show -324 ≤ x - ((k % 25 : Nat) : Int) by omega) rfl
  rw [w30] at hv30 hy30
  rcases w with _ | w
  · simp only [wrow, List.cons_append, List.nil_append]
    refine J.move rfl rfl (J.eff (E.callF (whole_spec hq) [1] rfl rfl rfl (by first | exact fun _ => allRo_h rfl | exact wrow_ro | exact fun _ => wrow2_ro | exact fun _ => wrow3_ro) rfl) rfl fun p1 hp1 => ?_)
    try simp only [apC, apN]
    refine J.move rfl rfl (J.move rfl rfl ?_)
    (first | refine J.subI rfl rfl rfl (by omega) (by omega) ?_ | refine J.subZ rfl rfl rfl (by omega) (by omega) ?_)
    have a1 := hp1.n.len_le (k := 4) hn
    have a2 := hp1.d.len_le (k := 1) (by decide)
    simp only [rtr, List.cons_append, List.nil_append]
    refine J.eff (E.callF (powerOf_spec (e := x - ((k % 25 : Nat) : Int)) (by omega) (by omega)) [] rfl rfl rfl (by first | exact fun _ => allRo_h rfl | exact wrow_ro | exact fun _ => wrow2_ro | exact fun _ => wrow3_ro) rfl) rfl fun p2 hp2 => ?_
    try simp only [apC, apN]
    have a3 := hp2.n.len_le (p10_lt (by omega))
    have a4 := hp2.d.len_le (p10_lt (by omega))
    simp only [rtr, List.cons_append, List.nil_append]
    refine J.eff (E.callF (times_spec hp1 hp2 (by decide) hu0 (by omega) (by omega) (by omega) (by omega)) [2, 3, 0, 1] rfl rfl rfl (by first | exact fun _ => allRo_h rfl | exact wrow_ro | exact fun _ => wrow2_ro | exact fun _ => wrow3_ro) rfl) rfl fun p hp => ?_
    try simp only [apC, apN]
    rw [Nat.one_mul] at hp
    have a5 := hp.n.len_le hv30
    have a6 := hp.d.len_le hy30
    simp only [rtr, List.cons_append, List.nil_append]
    refine J.eff (E.callF (isFloat_none y1 y3 hm0 hco y2 y4 hp (by omega) (by omega)) [0, 1, 6] rfl rfl rfl (by first | exact fun _ => allRo_h rfl | exact wrow_ro | exact fun _ => wrow2_ro | exact fun _ => wrow3_ro) rfl) rfl fun _ _ => ?_
    try simp only [apC, apN]
    refine J.assign rfl rfl (J.nil (G.prune [8] rfl (G.retF (hR _) ?_)))
    exact GLF.done (hR _) () rfl rfl trivial rfl [] rfl
  · simp only [wrow, List.cons_append, List.nil_append]
    refine J.move rfl rfl (J.eff (E.callF (whole_spec hq) [2] rfl rfl rfl (by first | exact fun _ => allRo_h rfl | exact wrow_ro | exact fun _ => wrow2_ro | exact fun _ => wrow3_ro) rfl) rfl fun p1 hp1 => ?_)
    try simp only [apC, apN]
    refine J.move rfl rfl (J.move rfl rfl ?_)
    (first | refine J.subI rfl rfl rfl (by omega) (by omega) ?_ | refine J.subZ rfl rfl rfl (by omega) (by omega) ?_)
    have a1 := hp1.n.len_le (k := 4) hn
    have a2 := hp1.d.len_le (k := 1) (by decide)
    simp only [rtr, List.cons_append, List.nil_append]
    refine J.eff (E.callF (powerOf_spec (e := x - ((k % 25 : Nat) : Int)) (by omega) (by omega)) [] rfl rfl rfl (by first | exact fun _ => allRo_h rfl | exact wrow_ro | exact fun _ => wrow2_ro | exact fun _ => wrow3_ro) rfl) rfl fun p2 hp2 => ?_
    try simp only [apC, apN]
    have a3 := hp2.n.len_le (p10_lt (by omega))
    have a4 := hp2.d.len_le (p10_lt (by omega))
    simp only [rtr, List.cons_append, List.nil_append]
    refine J.eff (E.callF (times_spec hp1 hp2 (by decide) hu0 (by omega) (by omega) (by omega) (by omega)) [2, 3, 0, 1] rfl rfl rfl (by first | exact fun _ => allRo_h rfl | exact wrow_ro | exact fun _ => wrow2_ro | exact fun _ => wrow3_ro) rfl) rfl fun p hp => ?_
    try simp only [apC, apN]
    rw [Nat.one_mul] at hp
    have a5 := hp.n.len_le hv30
    have a6 := hp.d.len_le hy30
    simp only [rtr, List.cons_append, List.nil_append]
    refine J.eff (E.callF (isFloat_some y1 y3 hm0 hco y2 y4 hp (by omega) (by omega)) [0, 1, 6, 7] rfl rfl rfl (by first | exact fun _ => allRo_h rfl | exact wrow_ro | exact fun _ => wrow2_ro | exact fun _ => wrow3_ro) rfl) rfl fun _ _ => ?_
    try simp only [apC, apN]
    refine J.assign rfl rfl (J.nil (G.prune [8] rfl (G.retF (hR _) ?_)))
    exact GLF.done (hR _) () rfl rfl trivial rfl [] rfl
end
end Go.Proofs.YtfbbkngonohlkaaGreatDoor
