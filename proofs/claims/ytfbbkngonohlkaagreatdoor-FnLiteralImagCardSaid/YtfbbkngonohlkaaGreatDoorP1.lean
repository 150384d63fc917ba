/- What the rows ask of the package variables gives the walks what they lean on. -/
import Derived.Test.YtfbbkngonohlkaaGreatDoorRows
import Derived.Test.YtfbbkngonohlkaaGreatDoorZ06
import Derived.WalkKit
import Derived.ProofKit
import Derived.OpenVars
import Derived.OpenShut
import Derived.Lay
import Derived.MakeChecks
import Derived.Stop.LaidErr
import Derived.Lib.LaidU8
namespace Go.Proofs.YtfbbkngonohlkaaGreatDoor
open Go
set_option linter.unusedVariables false
set_option linter.unusedSimpArgs false
set_option maxRecDepth 100000
/-- The variables that the rows list. -/
def laids : List (String × DataW Unit) := Rows.fnLiteralFloatRow.laid
theorem laids_imag : Rows.fnLiteralImagRow.laid = laids := rfl
theorem star : "*errors.errorString" = "*" ++ "errors.errorString" := by decide
theorem type_err {u : TypeId} (h : Tryz.prog.typeName? 3 u = some "*errors.errorString") : u = 275 :=
  typeName_ptr_named (nm := "errors.errorString") (by rw [← star]; kernel_rfl) (by kernel_rfl) (by decide) u (by rw [← star]; exact h)
theorem cell_int {W : World} {n : String} {g t : Nat} {k : Int} (h : Lib.VarReads Tryz.prog W n (.lit (.int .i64 k))) (hg : Tryz.prog.globalNamed n = some g) (ht : (Tryz.prog.globals[g]?).map (·.type) = some t) (hu : Tryz.prog.underlying t = some (.int .i64)) : W.cell? ⟨g, 0, none⟩ = some (.int .i64 k) := by
  obtain ⟨g', t', cs, fuel, p, h1, h2, h3, h4⟩ := h
  obtain rfl := Option.some.inj (hg.symm.trans h1)
  obtain rfl := Option.some.inj (ht.symm.trans h2)
  obtain ⟨n', e1, e2, _⟩ := DataW.trod_int hu h4
  simp only [Prod.mk.injEq, DataW.lit.injEq, Lit.int.injEq, true_and] at e2
  rw [World.var?_cell hg h3 0, ← Array.getElem?_toList, e1, e2.1]
  rfl
theorem cell_tab {W : World} {n : String} {g t e m : Nat} {k : IntKind} {zs : List Int} (h : Lib.VarReads Tryz.prog W n (Lib.tabData k zs)) (hg : Tryz.prog.globalNamed n = some g) (ht : (Tryz.prog.globals[g]?).map (·.type) = some t) (hu : Tryz.prog.underlying t = some (.array m e)) (he : Tryz.prog.underlying e = some (.int k)) (hce : Tryz.prog.cellsOf e = 1) (hct : Tryz.prog.cellsOf t = m) :
    g < W.heap.size ∧ ∀ (i : Nat) z, zs[i]? = some z → W.cell? ⟨g, i, none⟩ = some (.int k z) := by
  obtain ⟨g', t', cs, fuel, p, h1, h2, h3, h4⟩ := h
  obtain rfl := Option.some.inj (hg.symm.trans h1)
  obtain rfl := Option.some.inj (ht.symm.trans h2)
  have hcs := Lib.cells_of_tab hu he hce hct h4
  refine ⟨?_, fun i z hz => ?_⟩
  · unfold World.var? at h3
    rw [hg] at h3
    simp only [Option.bind_some] at h3
    cases hh : W.heap[g]? with
    | none => rw [hh] at h3; cases h3
    | some o => exact (Array.getElem?_eq_some_iff.1 hh).1
  · rw [World.var?_cell hg h3 i, ← Array.getElem?_toList, hcs]
    simp [hz]
theorem var_lt {W : World} {n : String} {g : Nat} {d : DataW Unit} (h : Lib.VarReads Tryz.prog W n d) (hg : Tryz.prog.globalNamed n = some g) : g < W.heap.size := by
  obtain ⟨g', t', cs, fuel, p, h1, h2, h3, h4⟩ := h
  obtain rfl := Option.some.inj (hg.symm.trans h1)
  unfold World.var? at h3
  rw [hg] at h3
  simp only [Option.bind_some] at h3
  cases hh : W.heap[g]? with
  | none => rw [hh] at h3; cases h3
  | some o => exact (Array.getElem?_eq_some_iff.1 hh).1
theorem plain_laids : (laids.all fun x => x.2.handleName?.isNone) = true := by kernel_rfl
theorem eof_of {W : World} (h : laidMet Tryz.prog laids W) : ∃ E : Addr, W.cell? ⟨1, 0, none⟩ = some (.iface 275 (.pointer (some E))) := by
  have h1 := laidMet.tail h
  have h2 := laidMet.tail h1
  have h3 := laidMet.tail h2
  have h4 := laidMet.tail h3
  have h5 := laidMet.tail h4
  have h6 := laidMet.tail h5
  obtain ⟨a, s, hv, _⟩ := laid_sentinel (g := 1) (ti := 79) (tp := 275) (te := 277) (ts := 9) h6 (by kernel_rfl) (by kernel_rfl) Tryz.underlying79 (fun u hu => type_err hu) Tryz.underlying275 Tryz.underlying277 rfl rfl Tryz.underlying9 (by kernel_rfl) (by kernel_rfl)
  exact ⟨a, by simpa using World.var?_cell (P := Tryz.prog) (n := "io.EOF") (by kernel_rfl) hv 0⟩
theorem pow5_data : Rows.laid_loop_example_pub_g03237_pub_bigall_pow5tab = (Lib.tabData .u64 ((List.range 28).map fun i => ((5 ^ i : Nat) : Int)) : DataW Unit) := by kernel_rfl
theorem mem_laids {i : Nat} {x : String × DataW Unit} (h : laids[i]? = some x) : x ∈ laids := List.mem_of_getElem? h
/-- From the rows' condition to the walks' context. -/
theorem pre_of {W : World} (h : laidMetH Tryz.prog laids W) : ∃ E : Addr, Pre (cx E) [] [] W := by
  rw [MakeChecks.laidMetH_plain _ _ _ plain_laids] at h
  obtain ⟨E, hE⟩ := eof_of h
  have r5 := Lib.laidMet.reads h (mem_laids (i := 11) (x := ("loop.example/pub-g03237/pub/bigall.karatsubaThreshold", .lit (.int .i64 40))) rfl)
  have r8 := Lib.laidMet.reads h (mem_laids (i := 12) (x := ("loop.example/pub-g03237/pub/bigall.basicSqrThreshold", .lit (.int .i64 12))) rfl)
  have r9 := Lib.laidMet.reads h (mem_laids (i := 13) (x := ("loop.example/pub-g03237/pub/bigall.karatsubaSqrThreshold", .lit (.int .i64 80))) rfl)
  have r11 := Lib.laidMet.reads h (mem_laids (i := 10) (x := ("loop.example/pub-g03237/pub/bigall.divRecursiveThreshold", .lit (.int .i64 40))) rfl)
  have r12 := Lib.laidMet.reads h (mem_laids (i := 7) (x := ("loop.example/pub-g03237/pub/bigall.pow5tab", Rows.laid_loop_example_pub_g03237_pub_bigall_pow5tab)) rfl)
  have r15 := Lib.laidMet.reads h (mem_laids (i := 2) (x := ("internal/strconv.uint64pow10", Rows.laid_internal_strconv_uint64pow10)) rfl)
  rw [pow5_data] at r12
  have c5 := cell_int (g := 5) (t := 3) r5 (by kernel_rfl) (by kernel_rfl) Tryz.underlying3
  have c8 := cell_int (g := 8) (t := 3) r8 (by kernel_rfl) (by kernel_rfl) Tryz.underlying3
  have c9 := cell_int (g := 9) (t := 3) r9 (by kernel_rfl) (by kernel_rfl) Tryz.underlying3
  have c11 := cell_int (g := 11) (t := 3) r11 (by kernel_rfl) (by kernel_rfl) Tryz.underlying3
  have c12 := (cell_tab (g := 12) (t := 316) r12 (by kernel_rfl) (by kernel_rfl) Tryz.underlying316 Tryz.underlying22 (by kernel_rfl) (by kernel_rfl)).2
  have hs := var_lt (g := 15) r15 (by kernel_rfl)
  refine ⟨E, fun e he => (by cases he), List.Pairwise.nil, fun e he => (by cases he), fun e he => (by cases he), fun e he => ?_, hs⟩
  have he' : e ∈ gs E := he
  simp only [gs, List.mem_append, List.mem_cons, List.mem_nil_iff, or_false, List.mem_map, List.mem_range] at he'
  rcases he' with (rfl | rfl | rfl | rfl | rfl) | ⟨i, hi, rfl⟩
  · exact hE
  · exact c5
  · exact c8
  · exact c9
  · exact c11
  · exact c12 i _ (by simp [hi])
theorem Mut.keptBut {w w' : World} (h : Mut w w' (fun _ => False)) (may : MemPlace → Prop) : w.keptBut w' may := by
  refine ⟨h.os, h.out, fun i hi => ?_⟩
  rw [h.keep i hi (fun q => q)]
  exact (World.keptBut_refl w may).2.2 i hi
theorem Mut.below {w w' : World} (h : Mut w w' (fun _ => False)) : Go.RowKit.Below w.heap.size w w' := ⟨h.os, h.tape, h.out, h.size, fun k hk => h.keep k hk (fun q => q)⟩
theorem trodVars_len {H : Type} {enc : TypeId × Value → H} {P : Program} {w : World} {sp : Nat → Bool} : ∀ {ns : List String} {gs : List (DataW H)} {ps : List MemPlace}, DataW.TrodVars enc P w sp ns gs ps → gs.length = ns.length
  | [], [], _, _ => rfl
  | [], _ :: _, _, h => h.elim
  | _ :: _, [], _, h => h.elim
  | _ :: _, _ :: _, _, h => by
    obtain ⟨_, _, _, _, _, _, _, _, _, _, h, _⟩ := h
    simp [trodVars_len h]
theorem len7 {α : Type} {l : List α} (h : l.length = 7) : ∃ a b c d e f g, l = [a, b, c, d, e, f, g] := by
  match l, h with
  | [a, b, c, d, e, f, g], _ => exact ⟨a, b, c, d, e, f, g, rfl⟩
theorem own_knob : ownKnob Tryz.prog.godebug = none := by kernel_rfl
theorem laid_out : laidOutB Tryz.prog = true := by kernel_rfl
theorem lay_shape1 (os : Os) : (World.holding Tryz.prog os ⟨#[], #[], []⟩).layFits Tryz.prog laids [] = true := by kernel_rfl
theorem lay_shape2 (os : Os) : (World.holding Tryz.prog os ⟨#[], #[], []⟩).layIfaces Tryz.prog laids (World.laidAll Tryz.prog os laids) = true := by kernel_rfl
theorem laid_met (os : Os) (args : Array Value) : laidMetH Tryz.prog laids ((World.laidAll Tryz.prog os laids).forCall (fun _ _ => 0) ⟨#[], args, []⟩).memory := by
  rw [MakeChecks.laidMetH_plain _ _ _ plain_laids]
  exact laidMet_laidAll _ (lay_shape1 os) (lay_shape2 os)
end Go.Proofs.YtfbbkngonohlkaaGreatDoor
