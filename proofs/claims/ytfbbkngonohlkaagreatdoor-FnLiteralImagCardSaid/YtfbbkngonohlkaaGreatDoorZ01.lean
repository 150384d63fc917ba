/- The way to the laws, part 1 of 6 (the engine of the walks; contracts of the functions that the laws reach), joined by a program of ours out of: E1 E2 E3 E4 E5 E6 E7 E8 E9 E10 E11 E12 E13 E14 E15 E16 E17 E18 E19 E20 E21 N1 -/
import Derived.WalkKit
import Derived.Defers
import Derived.OrdersHeld
import Derived.WalkLawsBesides
import Derived.WalkSpells
import Derived.LaidEqlPtr
import Derived.Test.YtfbbkngonohlkaaGreatDoorChecked
import Derived.Laws.Externs
import Derived.LaidEql
import Derived.WideLaws
import Derived.Laws.IdiomStrings
namespace Go.Proofs.YtfbbkngonohlkaaGreatDoor
open Go
set_option linter.unusedVariables false
set_option linter.unusedSimpArgs false
set_option exponentiation.threshold 20000
theorem apC {α : Type} (a : α) (x y : List α) : a :: x ++ y = a :: (x ++ y) := rfl
theorem apN {α : Type} (x : List α) : [] ++ x = x := rfl
section
abbrev Slots := List (Nat × Value)
def sget : Slots → Nat → Option Value
  | [], _ => none
  | (t, v) :: r, n => bif Nat.beq t n then some v else sget r n
def opv (L : Slots) : Operand → Option Value
  | .tmp t => sget L t
  | .const v => some v
  | .global g => some (.pointer (some ⟨g, 0, none⟩))
  | .func f => some (.func (.func f) #[] #[])
structure Knows (N : Nat) (L : Slots) (a : Act) : Prop where
  size : a.tmps.size = N
  get : ∀ t v, sget L t = some v → a.tmps[t]? = some v
theorem Knows.eval {N : Nat} {L : Slots} {a : Act} (h : Knows N L a) {x : Operand} {v : Value} (e : opv L x = some v) : a.eval x = v := by
  cases x with
  | tmp t => simp [Act.eval, Array.getD_eq_getD_getElem?, h.get t v e]
  | const c => simpa [opv, Act.eval] using e
  | global g => simpa [opv, Act.eval] using e
  | func f => simpa [opv, Act.eval] using e
theorem Knows.put {N : Nat} {L : Slots} {a : Act} (h : Knows N L a) {d : Nat} (v : Value) (hd : Nat.blt d N = true) : Knows N ((d, v) :: L) (a.put (some d) v) := by
  have hd' : d < a.tmps.size := by rw [h.size]; exact Nat.ble_eq.mp hd
  refine ⟨by simp [Act.put, h.size], fun t u e => ?_⟩
  simp only [sget] at e
  by_cases ht : d = t
  · subst ht
    simp at e
    subst e
    simp [Act.put, hd']
  · have : Nat.beq d t = false := by
      cases hb : Nat.beq d t
      · rfl
      · exact absurd (Nat.eq_of_beq_eq_true hb) ht
    rw [this] at e
    simp only [cond_false] at e
    simp [Act.put, Array.getElem?_setIfInBounds_ne ht, h.get t u e]
def SubSlots (L L' : Slots) : Prop := ∀ p ∈ L, sget L' p.1 = some p.2
theorem SubSlots.nil (L' : Slots) : SubSlots [] L' := fun _ h => by cases h
theorem SubSlots.cons {L L' : Slots} {t : Nat} {v : Value} (h : sget L' t = some v) (r : SubSlots L L') : SubSlots ((t, v) :: L) L' := by
  intro p hp
  rcases List.mem_cons.1 hp with rfl | hp
  · exact h
  · exact r p hp
theorem sget_mem {L : Slots} {t : Nat} {v : Value} (h : sget L t = some v) : (t, v) ∈ L := by
  induction L with
  | nil => cases h
  | cons p r ih =>
    obtain ⟨q, u⟩ := p
    simp only [sget] at h
    by_cases e : q = t
    · have : Nat.beq q t = true := by simpa using e
      rw [this] at h
      simp at h
      subst h; subst e
      exact List.mem_cons_self
    · have : Nat.beq q t = false := by
        cases hb : Nat.beq q t
        · rfl
        · exact absurd (Nat.eq_of_beq_eq_true hb) e
      rw [this] at h
      exact List.mem_cons_of_mem _ (ih h)
theorem Knows.sub {N : Nat} {L L' : Slots} {a : Act} (h : Knows N L' a) (s : SubSlots L L') : Knows N L a :=
  ⟨h.size, fun t v e => h.get t v (s _ (sget_mem e))⟩
structure Ent where
  b : Nat
  T : TypeId
  cs : List Value
  wr : Bool
abbrev Hp := List Ent
def Ent.ok (e : Ent) (w : World) : Prop := w.heap[e.b]? = some (.cells e.cs.toArray e.T (0, 0))
def Holds (S : Hp) (w : World) : Prop := ∀ e ∈ S, e.ok w
def ND (S : Hp) : Prop := S.Pairwise fun e f => (e.wr = true ∨ f.wr = true) → e.b ≠ f.b
def blocks (S : Hp) (b : Nat) : Prop := ∃ e ∈ S, e.b = b
def Mem (b : Nat) (T : TypeId) (cs : List Value) (S : Hp) : Prop := ∃ e ∈ S, e.b = b ∧ e.T = T ∧ e.cs = cs
theorem Mem.h {b : Nat} {T : TypeId} {cs : List Value} {wr : Bool} {S : Hp} : Mem b T cs (⟨b, T, cs, wr⟩ :: S) := ⟨_, List.mem_cons_self, rfl, rfl, rfl⟩
theorem Mem.t {b : Nat} {T : TypeId} {cs : List Value} {e : Ent} {S : Hp} (h : Mem b T cs S) : Mem b T cs (e :: S) := by
  obtain ⟨f, hf, r⟩ := h
  exact ⟨f, List.mem_cons_of_mem _ hf, r⟩
theorem Mem.ok {b : Nat} {T : TypeId} {cs : List Value} {S : Hp} {w : World} (h : Mem b T cs S) (hw : Holds S w) : w.heap[b]? = some (.cells cs.toArray T (0, 0)) := by
  obtain ⟨e, he, rfl, rfl, rfl⟩ := h
  exact hw e he
def SubH (R S : Hp) : Prop := ∀ e ∈ R, Mem e.b e.T e.cs S
theorem SubH.nil (S : Hp) : SubH [] S := fun _ h => by cases h
theorem SubH.cons {R S : Hp} {e : Ent} (h : Mem e.b e.T e.cs S) (r : SubH R S) : SubH (e :: R) S := by
  intro f hf
  rcases List.mem_cons.1 hf with rfl | hf
  · exact h
  · exact r f hf
theorem SubH.holds {R S : Hp} {w : World} (h : SubH R S) (hw : Holds S w) : Holds R w := fun e he => (h e he).ok hw
theorem SubH.refl (S : Hp) : SubH S S := fun e he => ⟨e, he, rfl, rfl, rfl⟩
structure Mut (w w' : World) (M : Nat → Prop) : Prop where
  os : w'.os = w.os
  tape : w'.tape = w.tape
  out : w'.output = w.output
  size : w.heap.size ≤ w'.heap.size
  keep : ∀ b, b < w.heap.size → ¬ M b → w'.heap[b]? = w.heap[b]?
theorem Mut.refl (w : World) (M : Nat → Prop) : Mut w w M := ⟨rfl, rfl, rfl, Nat.le_refl _, fun _ _ _ => rfl⟩
theorem Mut.drew {w w' : World} {M : Nat → Prop} (h : Mut w w' M) : Mut w w'.drew M := ⟨h.os, h.tape, h.out, h.size, h.keep⟩
def GHolds (GS : List (Addr × Value)) (w : World) : Prop := ∀ e ∈ GS, w.cell? e.1 = some e.2
structure Cx where
  P : Program
  GS : List (Addr × Value)
  NG : Nat
  hGS : ∀ e ∈ GS, e.1.block < NG
  hm : P.follows .mixedOrders = true
structure Fx where
  Q : Act → World → Prop
  w0 : World
  Wp : Hp
structure Inv (C : Cx) (X : Fx) (S : Hp) (w : World) : Prop where
  mu : Mut X.w0 w (blocks X.Wp)
  holds : Holds S w
  nd : ND S
  own : ∀ e ∈ S, e.wr = true → C.NG ≤ e.b ∧ (blocks X.Wp e.b ∨ X.w0.heap.size ≤ e.b)
  glob : GHolds C.GS w
  size : C.NG ≤ w.heap.size
theorem Inv.drew {C : Cx} {X : Fx} {S : Hp} {w : World} (h : Inv C X S w) : Inv C X S w.drew := ⟨h.mu.drew, h.holds, h.nd, h.own, h.glob, h.size⟩
def pick (S : Hp) : List Nat → Option Hp
  | [] => some []
  | i :: r => match S[i]?, pick S r with
    | some e, some l => some (e :: l)
    | _, _ => none
theorem pick_mem {S : Hp} : ∀ {l : List Nat} {S' : Hp}, pick S l = some S' → ∀ e ∈ S', ∃ i ∈ l, S[i]? = some e
  | [], S', h, e, he => by simp [pick] at h; subst h; cases he
  | i :: r, S', h, e, he => by
    simp only [pick] at h
    split at h
    · rename_i f l hf hl
      simp at h
      subst h
      rcases List.mem_cons.1 he with rfl | he
      · exact ⟨i, List.mem_cons_self, hf⟩
      · obtain ⟨j, hj, hj'⟩ := pick_mem hl e he
        exact ⟨j, List.mem_cons_of_mem _ hj, hj'⟩
    · cases h
theorem pick_nd {S : Hp} (h : ND S) : ∀ {l : List Nat} {S' : Hp}, pick S l = some S' → l.Nodup → ND S'
  | [], S', hp, _ => by simp [pick] at hp; subst hp; exact List.Pairwise.nil
  | i :: r, S', hp, hn => by
    simp only [pick] at hp
    split at hp
    · rename_i f l hf hl
      simp at hp
      subst hp
      have hn' := List.nodup_cons.1 hn
      refine List.Pairwise.cons (fun e he hw => ?_) (pick_nd h hl hn'.2)
      obtain ⟨j, hj, hje⟩ := pick_mem hl e he
      have hij : i ≠ j := fun e => hn'.1 (e ▸ hj)
      have hi' : i < S.length := (List.getElem?_eq_some_iff.1 hf).1
      have hj' : j < S.length := (List.getElem?_eq_some_iff.1 hje).1
      have hfe : S[i] = f := (List.getElem?_eq_some_iff.1 hf).2
      have hee : S[j] = e := (List.getElem?_eq_some_iff.1 hje).2
      have hp := List.pairwise_iff_getElem.1 h
      rcases Nat.lt_or_gt_of_ne hij with hlt | hlt
      · have := hp i j hi' hj' hlt
        rw [hfe, hee] at this
        exact this hw
      · have := hp j i hj' hi' hlt
        rw [hfe, hee] at this
        exact fun q => this hw.symm q.symm
    · cases hp
theorem Inv.pick {C : Cx} {X : Fx} {S S' : Hp} {w : World} (h : Inv C X S w) {l : List Nat} (hp : pick S l = some S') (hn : l.Nodup) : Inv C X S' w := by
  have hm : ∀ e ∈ S', e ∈ S := fun e he => by
    obtain ⟨i, _, hi⟩ := pick_mem hp e he
    exact List.mem_of_getElem? hi
  exact ⟨h.mu, fun e he => h.holds e (hm e he), pick_nd h.nd hp hn, fun e he => h.own e (hm e he), h.glob, h.size⟩
def Goes (P : Program) (Q : Act → World → Prop) (k : List Item) (a : Act) (w : World) : Prop :=
  ∀ (b : Frame) (cs : List Frame), ∃ a' w' todo, Q a' w' ∧ Steps P (lone (b.at a k) cs w) (lone { b.at a' todo with mode := .returning } cs w')
theorem Goes.step {P : Program} {Q : Act → World → Prop} {k k' : List Item} {a : Act} {w : World}
    (hs : ∀ (b : Frame) (cs : List Frame), step P (lone (b.at a k) cs w) = .next (lone (b.at a k') cs w)) (h : Goes P Q k' a w) : Goes P Q k a w :=
  fun b cs => let ⟨a', w', todo, hq, hst⟩ := h b cs; ⟨a', w', todo, hq, .head (hs b cs) hst⟩
def QN (P : Program) (Q : Act → World → Prop) (k : List Item) : Exit → Act → World → Prop
  | .normal, a, w => Goes P Q k a w
  | _, _, _ => False
theorem Goes.of_wp {P : Program} {Q : Act → World → Prop} {k : List Item} {a : Act} {w : World} {c : Code} (h : c.wp P (QN P Q k) a w) : Goes P Q (.code c :: k) a w := by
  intro b cs
  obtain ⟨e, a₁, w₁, hq, harr⟩ := h b k cs
  cases e with
  | normal =>
    obtain ⟨a', w', todo, hq', hst⟩ := hq b cs
    exact ⟨a', w', todo, hq', Steps.trans harr hst⟩
  | _ => exact hq.elim
theorem Goes.ret {P : Program} {Q : Act → World → Prop} {k : List Item} {a : Act} {w : World} (h : Q a w) : Goes P Q (.code .ret :: k) a w :=
  fun b cs => ⟨a, w, _, h, .one step_ret⟩
theorem Goes.end_ {P : Program} {Q : Act → World → Prop} {a : Act} {w : World} (h : Q a w) : Goes P Q [] a w :=
  fun b cs => ⟨a, w, _, h, .one step_end⟩
def G (C : Cx) (N : Nat) (X : Fx) (k : List Item) (L : Slots) (D : List Deferred) (S : Hp) : Prop :=
  ∀ a w, Knows N L a → a.defers = D → Inv C X S w → Goes C.P X.Q k a w
section
variable {C : Cx} {N : Nat} {X : Fx} {k : List Item} {L : Slots} {D : List Deferred} {S : Hp}
theorem G.seq {x y : Code} (h : G C N X (.code x :: .code y :: k) L D S) : G C N X (.code (.seq x y) :: k) L D S :=
  fun a w h1 h2 h3 => (h a w h1 h2 h3).step fun _ _ => step_seq
theorem G.skip (h : G C N X k L D S) : G C N X (.code .skip :: k) L D S := fun a w h1 h2 h3 => (h a w h1 h2 h3).step fun _ _ => step_skip
theorem G.block {id : Nat} {c : Code} (h : G C N X (.code c :: .inBlock id :: k) L D S) : G C N X (.code (.block id c) :: k) L D S :=
  fun a w h1 h2 h3 => (h a w h1 h2 h3).step fun _ _ => step_block
theorem G.inBlock {id : Nat} (h : G C N X k L D S) : G C N X (.inBlock id :: k) L D S := fun a w h1 h2 h3 => (h a w h1 h2 h3).step fun _ _ => step_inBlock
theorem G.loop1 {c : Code} (h : G C N X (.code c :: .inLoop c :: k) L D S) : G C N X (.code (.loop c) :: k) L D S :=
  fun a w h1 h2 h3 => (h a w h1 h2 h3).step fun _ _ => step_loop
theorem G.inLoop {c : Code} (h : G C N X (.code c :: .inLoop c :: k) L D S) : G C N X (.inLoop c :: k) L D S :=
  fun a w h1 h2 h3 => (h a w h1 h2 h3).step fun _ _ => step_inLoop
theorem G.exit {id : Nat} {k' : List Item} (hk : exitTo id k = some k') (h : G C N X k' L D S) : G C N X (.code (.exit id) :: k) L D S :=
  fun a w h1 h2 h3 => (h a w h1 h2 h3).step fun _ _ => step_exit hk
theorem G.condB {c : Operand} {x y : Code} {t : Bool} (hc : opv L c = some (.bool t)) (h : G C N X (.code (if t then x else y) :: k) L D S) :
    G C N X (.code (.cond c x y) :: k) L D S := fun a w h1 h2 h3 => (h a w h1 h2 h3).step fun _ _ => step_cond (h1.eval hc)
theorem G.condT {c : Operand} {x y : Code} {t : Bool} (hc : opv L c = some (.bool t)) (ht : t = true) (h : G C N X (.code x :: k) L D S) :
    G C N X (.code (.cond c x y) :: k) L D S := G.condB hc (by rw [ht]; exact h)
theorem G.condF {c : Operand} {x y : Code} {t : Bool} (hc : opv L c = some (.bool t)) (ht : t = false) (h : G C N X (.code y :: k) L D S) :
    G C N X (.code (.cond c x y) :: k) L D S := G.condB hc (by rw [ht]; exact h)
theorem G.cond {c : Operand} {x y : Code} {t : Bool} (hc : opv L c = some (.bool t)) (ht : t = true → G C N X (.code x :: k) L D S) (hf : t = false → G C N X (.code y :: k) L D S) :
    G C N X (.code (.cond c x y) :: k) L D S := by
  cases t
  · exact G.condF hc rfl (hf rfl)
  · exact G.condT hc rfl (ht rfl)
theorem G.condP {c : Operand} {x y : Code} {p : Prop} [Decidable p] (hc : opv L c = some (.bool (decide p))) (ht : p → G C N X (.code x :: k) L D S) (hf : ¬ p → G C N X (.code y :: k) L D S) :
    G C N X (.code (.cond c x y) :: k) L D S :=
  G.cond hc (fun h => ht (of_decide_eq_true h)) (fun h => hf (of_decide_eq_false h))
theorem G.weak {L' : Slots} {S' : Hp} (hL : SubSlots L' L) (l : List Nat) (hp : pick S l = some S') (hn : l.Nodup) (h : G C N X k L' D S') : G C N X k L D S :=
  fun a w h1 h2 h3 => h a w (h1.sub hL) h2 (h3.pick hp hn)
theorem G.weakL {L' : Slots} (hL : SubSlots L' L) (h : G C N X k L' D S) : G C N X k L D S := fun a w h1 h2 h3 => h a w (h1.sub hL) h2 h3
theorem G.loop {c : Code} {σ : Type} (Lf : σ → Slots) (Sf : σ → Hp) (μ : σ → Nat) (s : σ)
    (h : ∀ s, (∀ s', μ s' < μ s → G C N X (.inLoop c :: k) (Lf s') D (Sf s')) → G C N X (.code c :: .inLoop c :: k) (Lf s) D (Sf s)) : G C N X (.code (.loop c) :: k) (Lf s) D (Sf s) := by
  have key : ∀ n s, μ s = n → G C N X (.inLoop c :: k) (Lf s) D (Sf s) := by
    intro n
    induction n using Nat.strongRecOn with
    | _ n ih => intro s hs; exact G.inLoop (h s fun s' hs' => ih (μ s') (by omega) s' rfl)
  exact G.loop1 (h s fun s' _ => key _ s' rfl)
end
end
section
variable {b : Nat} {T : TypeId} {cs : List Value} {wr : Bool} {S : Hp}
theorem M1 {e0 : Ent} : Mem b T cs (e0 :: ⟨b, T, cs, wr⟩ :: S) := Mem.t Mem.h
theorem M2 {e0 e1 : Ent} : Mem b T cs (e0 :: e1 :: ⟨b, T, cs, wr⟩ :: S) := Mem.t M1
theorem M3 {e0 e1 e2 : Ent} : Mem b T cs (e0 :: e1 :: e2 :: ⟨b, T, cs, wr⟩ :: S) := Mem.t M2
theorem M4 {e0 e1 e2 e3 : Ent} : Mem b T cs (e0 :: e1 :: e2 :: e3 :: ⟨b, T, cs, wr⟩ :: S) := Mem.t M3
theorem M5 {e0 e1 e2 e3 e4 : Ent} : Mem b T cs (e0 :: e1 :: e2 :: e3 :: e4 :: ⟨b, T, cs, wr⟩ :: S) := Mem.t M4
theorem M6 {e0 e1 e2 e3 e4 e5 : Ent} : Mem b T cs (e0 :: e1 :: e2 :: e3 :: e4 :: e5 :: ⟨b, T, cs, wr⟩ :: S) := Mem.t M5
theorem M7 {e0 e1 e2 e3 e4 e5 e6 : Ent} : Mem b T cs (e0 :: e1 :: e2 :: e3 :: e4 :: e5 :: e6 :: ⟨b, T, cs, wr⟩ :: S) := Mem.t M6
theorem M8 {e0 e1 e2 e3 e4 e5 e6 e7 : Ent} : Mem b T cs (e0 :: e1 :: e2 :: e3 :: e4 :: e5 :: e6 :: e7 :: ⟨b, T, cs, wr⟩ :: S) := Mem.t M7
theorem M9 {e0 e1 e2 e3 e4 e5 e6 e7 e8 : Ent} : Mem b T cs (e0 :: e1 :: e2 :: e3 :: e4 :: e5 :: e6 :: e7 :: e8 :: ⟨b, T, cs, wr⟩ :: S) := Mem.t M8
theorem M10 {e0 e1 e2 e3 e4 e5 e6 e7 e8 e9 : Ent} : Mem b T cs (e0 :: e1 :: e2 :: e3 :: e4 :: e5 :: e6 :: e7 :: e8 :: e9 :: ⟨b, T, cs, wr⟩ :: S) := Mem.t M9
theorem M11 {e0 e1 e2 e3 e4 e5 e6 e7 e8 e9 e10 : Ent} : Mem b T cs (e0 :: e1 :: e2 :: e3 :: e4 :: e5 :: e6 :: e7 :: e8 :: e9 :: e10 :: ⟨b, T, cs, wr⟩ :: S) := Mem.t M10
theorem M12 {e0 e1 e2 e3 e4 e5 e6 e7 e8 e9 e10 e11 : Ent} : Mem b T cs (e0 :: e1 :: e2 :: e3 :: e4 :: e5 :: e6 :: e7 :: e8 :: e9 :: e10 :: e11 :: ⟨b, T, cs, wr⟩ :: S) := Mem.t M11
theorem M13 {e0 e1 e2 e3 e4 e5 e6 e7 e8 e9 e10 e11 e12 : Ent} : Mem b T cs (e0 :: e1 :: e2 :: e3 :: e4 :: e5 :: e6 :: e7 :: e8 :: e9 :: e10 :: e11 :: e12 :: ⟨b, T, cs, wr⟩ :: S) := Mem.t M12
end
section
def isEff : Op → Bool
  | .move _ | .assign _ | .pick _ _ _ | .nilCheck _ | .binOp _ _ _ _ _ | .unOp _ _ _ | .convert _ _ _ | .makeInterface _ _ | .extract _ _ | .fieldAddr _ _ _ | .field _ _ _ | .indexAddr _ _ _ | .index _ _ _
  | .load _ _ | .slice _ _ _ _ _ | .build _ _ | .typeAssert _ _ _ _ => false
  | .call { callee := .builtin b, .. } => (match b with | .len | .cap | .max | .min => false | _ => true)
  | _ => true
def keeps (m : Option Nat) (r : List Oper) : Bool := match m with | none => true | some n => Nat.blt n r.length
def isMem (op : Op) : Bool := match op with
  | .move _ | .assign _ | .pick .. | .nilCheck _ | .fieldAddr .. | .extract .. | .makeInterface .. => false
  | _ => true
def keepsM (m : Option Nat) (r : List Oper) : Bool := match r with | [] => false | o :: r => keeps m (o :: r) && isMem o.op
def wpS (P : Program) (ops : Array Oper) (Q : Exit → Act → World → Prop) (Sw : World → Prop) (m : Option Nat) : List Oper → Act → World → Prop
  | [], a, w => Q .normal a w
  | o :: r, a, w =>
    if isEff o.op = true then
      if Region.wanted o (yielded ops a.tmps) then o.wp P a w (fun a' w' => (keeps m r = true → Sw w') ∧ wpS P ops Q Sw m r a' w') Q else (keeps m r = true → Sw w) ∧ wpS P ops Q Sw m r (a.put o.dst undef) w
    else ∃ v, YieldsIf P ops (fun w' => keepsM m (o :: r) = true → Sw w') o v a ∧ wpS P ops Q Sw m r (a.put o.dst v) w
section
variable {P : Program} {ops : Array Oper} {Q : Exit → Act → World → Prop} {Sw : World → Prop}
def stands (i0 : Option Nat) (listed : Array Bool) : Bool := match i0 with | none => true | some i => !listed.getD i true
def wpAnyB (P : Program) (ops : Array Oper) (Q : Exit → Act → World → Prop) (Sw : World → Prop) (i0 : Option Nat) : Nat → Array Bool → Act → World → Prop
  | 0, listed, a, w => Region.ready .any ops listed = [] ∧ Q .normal a w
  | fuel + 1, listed, a, w =>
    (Region.ready .any ops listed = [] → Q .normal a w) ∧
    ∀ i ∈ Region.ready .any ops listed, wpOp P ops Q i (fun a' w' => (stands i0 (listed.setIfInBounds i true) = true → Sw w') ∧ wpAnyB P ops Q Sw i0 fuel (listed.setIfInBounds i true) a' w') a w
theorem wpAny_of_B {i0 : Option Nat} : ∀ (fuel : Nat) (listed : Array Bool) (a : Act) (w : World), wpAnyB P ops Q Sw i0 fuel listed a w → wpAny P .any ops Q fuel listed a w
  | 0, _, _, _, h => h
  | fuel + 1, _, _, _, h => ⟨h.1, fun i hi => wpOp_mono (fun a' w' h' => wpAny_of_B fuel _ a' w' h'.2) (h.2 i hi)⟩
def Closed (ops : Array Oper) (listed : Array Bool) : Prop := ∀ k o, ops[k]? = some o → listed.getD k false = true → ∀ e ∈ o.after, Region.binds .any e = true → listed.getD e.on false = true
def waitsN (ops : Array Oper) : Nat → Nat → Nat → Bool
  | 0, _, _ => false
  | n + 1, k, i => match ops[k]? with
    | some o => (o.after.any fun e => Region.binds .any e && e.on == i) || (o.after.any fun e => Region.binds .any e && waitsN ops n e.on i)
    | none => false
def waitsB (ops : Array Oper) (i0 : Option Nat) (i : Nat) : Bool := match i0 with
  | none => true
  | some k => k != i && waitsN ops ops.size k i
theorem getD_ff {listed : Array Bool} {k : Nat} (h : listed.getD k true = false) : listed.getD k false ≠ true := by
  intro h2
  rcases Nat.lt_or_ge k listed.size with h' | h'
  · simp [h'] at h h2; rw [h] at h2; cases h2
  · simp [Array.getElem?_eq_none h'] at h
theorem waitsN_not {listed : Array Bool} (hcl : Closed ops listed) {i : Nat} (hi : listed.getD i false ≠ true) : ∀ (n k : Nat), waitsN ops n k i = true → listed.getD k false ≠ true ∧ k ∉ Region.ready .any ops listed
  | 0, k, h => by cases h
  | n + 1, k, h => by
    unfold waitsN at h
    cases ho : ops[k]? with
    | none => simp [ho] at h
    | some o =>
      simp only [ho, Bool.or_eq_true] at h
      have key : ∀ e ∈ o.after, Region.binds .any e = true → listed.getD e.on false ≠ true → listed.getD k false ≠ true ∧ k ∉ Region.ready .any ops listed := fun e he hb hn =>
        ⟨fun hk => hn (hcl k o ho hk e he hb), fun hr => by
          obtain ⟨_, o', ho', hall⟩ := mem_ready.1 hr
          rw [ho] at ho'; cases ho'
          exact hn (hall e he hb)⟩
      rcases h with h | h
      · obtain ⟨e, he, hb⟩ := Array.any_eq_true'.1 h
        simp only [Bool.and_eq_true, beq_iff_eq] at hb
        exact key e he hb.1 (by rw [hb.2]; exact hi)
      · obtain ⟨e, he, hb⟩ := Array.any_eq_true'.1 h
        simp only [Bool.and_eq_true] at hb
        exact key e he hb.1 (waitsN_not hcl hi n e.on hb.2).1
theorem waitsB_not_ready {i0 i : Nat} {listed : Array Bool} (hcl : Closed ops listed) (h : waitsB ops (some i0) i = true) (hr : i ∈ Region.ready .any ops listed) : i0 ∉ Region.ready .any ops listed := by
  simp only [waitsB, Bool.and_eq_true] at h
  exact (waitsN_not hcl (getD_ff (mem_ready.1 hr).1) _ _ h.2).2
theorem Closed.set {listed : Array Bool} (hcl : Closed ops listed) {j : Nat} (hj : j ∈ Region.ready .any ops listed) : Closed ops (listed.setIfInBounds j true) := by
  have up : ∀ k, listed.getD k false = true → (listed.setIfInBounds j true).getD k false = true := fun k hk => by
    rcases Nat.lt_or_ge k listed.size with h' | h'
    · by_cases hjk : j = k
      · subst hjk; simp [h']
      · simp [h'] at hk ⊢; rw [Array.getElem_setIfInBounds]; simp [hk]; exact h'
    · simp [Array.getElem?_eq_none h'] at hk
  intro k o ho hk e he hb
  by_cases hjk : j = k
  · subst hjk
    obtain ⟨_, o', ho', hall⟩ := mem_ready.1 hj
    rw [ho] at ho'; cases ho'
    exact up _ (hall e he hb)
  · refine up _ (hcl k o ho ?_ e he hb)
    rcases Nat.lt_or_ge k listed.size with h' | h'
    · simp [h'] at hk ⊢
      rw [Array.getElem_setIfInBounds] at hk
      simpa [hjk] using hk
    · have h2 : (listed.setIfInBounds j true)[k]? = none := Array.getElem?_eq_none (by simpa using h')
      simp only [Array.getD_eq_getD_getElem?, h2] at hk
      cases hk
theorem stands_set {i0 : Option Nat} {i j : Nat} {listed : Array Bool} (hcl : Closed ops listed) (hi : waitsB ops i0 i = true) (hr : i ∈ Region.ready .any ops listed) (hj : j ∈ Region.ready .any ops listed) :
    stands i0 (listed.setIfInBounds j true) = stands i0 listed := by
  cases i0 with
  | none => rfl
  | some k =>
    have hk : k ≠ j := fun e => waitsB_not_ready hcl hi hr (e ▸ hj)
    simp only [stands, getD_set_ne true (Ne.symm hk)]
theorem stands_same {i0 : Option Nat} {i : Nat} (listed : Array Bool) (hne : i0 ≠ some i) : stands i0 (listed.setIfInBounds i true) = stands i0 listed := by
  cases i0 with
  | none => rfl
  | some k => simp only [stands, getD_set_ne true (fun e => hne (by rw [e]) : i ≠ k)]
theorem wpAnyB_first {i0 : Option Nat} {i : Nat} {oi : Oper} {v : Value} (hi : ops[i]? = some oi) (hsel : ∀ (j : Nat) (o : Oper) cs b, ops[j]? = some o → o.op ≠ .select cs b)
    (hQ : ∀ c a w, Q (.panic c) (a.put oi.dst v) w → Q (.panic c) a w) (nf : Bool) (hw : nf = true → waitsB ops i0 i = true) (hne : i0 ≠ some i) :
    ∀ (fuel : Nat) (listed : Array Bool) (a : Act) (w : World),
      (∀ j oj, ops[j]? = some oj → j ≠ i → listed.getD j true = false → (∀ e ∈ oj.after, Region.binds .any e = true → e.on ≠ i) → oi.apart ops oj = true) →
      Closed ops listed → i ∈ Region.ready .any ops listed → YieldsIf P ops (fun w' => nf = true → Sw w') oi v a → (nf = true → stands i0 listed = true) → (stands i0 listed = true → Sw w) →
      wpAnyB P ops Q Sw i0 fuel (listed.setIfInBounds i true) (a.put oi.dst v) w → wpAnyB P ops Q Sw i0 (fuel + 1) listed a w := by
  intro fuel
  induction fuel with
  | zero =>
    intro listed a w _ hcl hr hy hst hS H
    refine ⟨fun h => (by rw [h] at hr; cases hr), fun j hj => ?_⟩
    by_cases hji : j = i
    · subst hji; exact hy.wpOp hi (fun hn => hS (hst hn)) ⟨fun h => hS (by rw [← stands_same listed hne]; exact h), H⟩
    · have := ready_mono hj hji
      rw [H.1] at this
      cases this
  | succ fuel ih =>
    intro listed a w hfree hcl hr hy hst hS H
    refine ⟨fun h => (by rw [h] at hr; cases hr), fun j hj => ?_⟩
    by_cases hji : j = i
    · subst hji; exact hy.wpOp hi (fun hn => hS (hst hn)) ⟨fun h => hS (by rw [← stands_same listed hne]; exact h), H⟩
    · have h1 := H.2 j (ready_mono hj hji)
      obtain ⟨hjun, oj, hoj, hall⟩ := mem_ready.1 hj
      have hnot : ∀ e ∈ oj.after, Region.binds .any e = true → e.on ≠ i := fun e he hb heq => by
        have h1 := hall e he hb
        have h0 := (mem_ready.1 hr).1
        rw [heq] at h1
        rcases Nat.lt_or_ge i listed.size with h' | h'
        · simp [h'] at h0 h1; rw [h0] at h1; cases h1
        · simp [Array.getElem?_eq_none h'] at h1
      have h2 := wpOp_putIf hoj (hfree j oj hoj hji hjun hnot) (fun cs b => hsel i oi cs b hi) (fun cs b => hsel j oj cs b hoj) hQ hy h1
      have hfree' : ∀ k ok, ops[k]? = some ok → k ≠ i → (listed.setIfInBounds j true).getD k true = false →
          (∀ e ∈ ok.after, Region.binds .any e = true → e.on ≠ i) → oi.apart ops ok = true := fun k ok hk hki hun hno => by
        refine hfree k ok hk hki ?_ hno
        by_cases hjk : j = k
        · subst hjk; exact hjun
        · rw [getD_set_ne true hjk] at hun; exact hun
      have hstj : nf = true → stands i0 (listed.setIfInBounds j true) = true := fun hn => by rw [stands_set hcl (hw hn) hr hj]; exact hst hn
      refine wpOp_mono (fun a' w' h3 => ?_) h2
      have hcomm : (listed.setIfInBounds i true).setIfInBounds j true = (listed.setIfInBounds j true).setIfInBounds i true := Array.setIfInBounds_comm _ _ (Ne.symm hji)
      have hSw0 : stands i0 (listed.setIfInBounds j true) = true → Sw w' := fun hs => h3.2.1 (by rw [hcomm, stands_same _ hne]; exact hs)
      exact ⟨hSw0, ih (listed.setIfInBounds j true) a' w' hfree' (hcl.set hj) (ready_mono hr (Ne.symm hji)) h3.1 hstj hSw0 (by rw [← hcomm]; exact h3.2.2)⟩
def chk (ops : Array Oper) (i0 m : Option Nat) : List Nat → Array Bool → Bool
  | [], listed => (Region.ready .any ops listed).isEmpty
  | i :: σ, listed => match ops[i]? with
    | none => false
    | some o =>
      (if isEff o.op then Region.ready .any ops listed == [i]
        else Region.free .any ops listed i && (Region.ready .any ops listed).contains i && i0 != some i && (!keepsM m (o :: σ.filterMap (ops[·]?)) || (waitsB ops i0 i && stands i0 listed))) &&
      (stands i0 (listed.setIfInBounds i true) == keeps m (σ.filterMap (ops[·]?))) && chk ops i0 m σ (listed.setIfInBounds i true)
theorem wpAnyB_of_S (hsel : Region.noSelect ops = true) (hQ : ∀ c (oi : Oper) v a w, Q (.panic c) (a.put oi.dst v) w → Q (.panic c) a w) (i0 m : Option Nat) :
    ∀ (σ : List Nat) (listed : Array Bool) (a : Act) (w : World), chk ops i0 m σ listed = true → Closed ops listed → (stands i0 listed = true → Sw w) → wpS P ops Q Sw m (σ.filterMap (ops[·]?)) a w →
      wpAnyB P ops Q Sw i0 σ.length listed a w
  | [], listed, a, w, hc, _, _, h => ⟨by simpa [chk] using hc, by simpa [wpS] using h⟩
  | i :: σ, listed, a, w, hc, hcl, hS, h => by
    simp only [chk] at hc
    cases ho : ops[i]? with
    | none => simp [ho] at hc
    | some o =>
      simp only [ho, Bool.and_eq_true, beq_iff_eq] at hc
      obtain ⟨⟨h1, hst⟩, hrest⟩ := hc
      simp only [List.filterMap_cons, ho, wpS] at h
      by_cases he : isEff o.op = true
      · simp only [he, if_true] at h h1
        have hr : Region.ready .any ops listed = [i] := by simpa using h1
        refine ⟨fun h0 => (by rw [hr] at h0; cases h0), fun j hj => ?_⟩
        rw [hr] at hj
        obtain rfl : j = i := by simpa using hj
        unfold wpOp
        simp only [ho]
        split
        · rename_i hwn
          simp only [hwn, if_true] at h
          refine .inl (Oper.wp_mono (fun a' w' h' => ?_) h)
          exact ⟨fun hs => h'.1 (by rw [← hst]; exact hs), wpAnyB_of_S hsel hQ i0 m σ _ a' w' hrest (hcl.set (by rw [hr]; simp)) (fun hs => h'.1 (by rw [← hst]; exact hs)) h'.2⟩
        · rename_i hwn
          simp only [hwn] at h
          have h' := h
          exact ⟨fun hs => h'.1 (by rw [← hst]; exact hs), wpAnyB_of_S hsel hQ i0 m σ _ _ w hrest (hcl.set (by rw [hr]; simp)) (fun hs => h'.1 (by rw [← hst]; exact hs)) h'.2⟩
      · simp only [he, if_false, Bool.false_eq_true, Bool.and_eq_true, bne_iff_ne, ne_eq, Bool.or_eq_true] at h h1
        obtain ⟨⟨⟨hfree, hready⟩, hne⟩, hk⟩ := h1
        obtain ⟨v, hy, hK⟩ := h
        have hSk : stands i0 (listed.setIfInBounds i true) = true → Sw w := fun hs => hS (by rw [← stands_same listed hne]; exact hs)
        refine wpAnyB_first ho (Region.noSelect_spec hsel) (fun c a w => hQ c o v a w) (keepsM m (o :: σ.filterMap (ops[·]?))) (fun hn => ?_) hne σ.length listed a w (Region.free_spec ho hfree) hcl (by simpa using hready) hy (fun hn => ?_) hS
          (wpAnyB_of_S hsel hQ i0 m σ _ _ w hrest (hcl.set (by simpa using hready)) hSk hK)
        · rcases hk with hk | hk
          · rw [hn] at hk; simp at hk
          · exact hk.1
        · rcases hk with hk | hk
          · rw [hn] at hk; simp at hk
          · exact hk.2
theorem wp_region_S {id : Nat} {a : Act} {w : World} {l : List Oper} (hm : P.follows .mixedOrders = true) (hQ : ∀ c (oi : Oper) v a w, Q (.panic c) (a.put oi.dst v) w → Q (.panic c) a w)
    (σ : List Nat) (i0 m : Option Nat) (hc : (Region.noSelect l.toArray && (σ.length == l.length) && chk l.toArray i0 m σ (Array.replicate l.length false)) = true) (hS : Sw w.drew)
    (h : wpS P l.toArray Q Sw m (σ.filterMap (l.toArray[·]?)) a w.drew) : (Code.region id l.toArray true).wp P Q a w := by
  simp only [Bool.and_eq_true, beq_iff_eq] at hc
  obtain ⟨⟨hsel, hlen⟩, hchk⟩ := hc
  refine wp_region_any hm (wpAny_of_B (Sw := Sw) (i0 := i0) _ _ _ _ ?_)
  have := wpAnyB_of_S (P := P) (Sw := Sw) hsel hQ i0 m σ (Array.replicate l.length false) a w.drew hchk (fun k o ho hk => by
      rcases Nat.lt_or_ge k (Array.replicate l.length false).size with h' | h'
      · have h'' : k < l.length := by simpa using h'
        simp [h''] at hk
      · have h'' : l.length ≤ k := by simpa using h'
        simp [h''] at hk) (fun _ => hS) h
  rw [hlen] at this
  simpa using this
end
end
section
def vheap (md : Option (Hp × Option Nat)) (rest : List Oper) (S : Hp) : Hp := match md with
  | none => S
  | some (R, m) => bif keepsM m rest then R else []
def vglob (C : Cx) (md : Option (Hp × Option Nat)) (rest : List Oper) : List (Addr × Value) := match md with
  | none => C.GS
  | some (R, m) => bif keepsM m rest then C.GS else []
def J (C : Cx) (N : Nat) (X : Fx) (k : List Item) (ops : Array Oper) (md : Option (Hp × Option Nat)) (rest : List Oper) (L : Slots) (D : List Deferred) (S : Hp) : Prop :=
  ∀ a w, Knows N L a → a.defers = D → Inv C X S w →
    match md with
    | none => wpList C.P ops (QN C.P X.Q k) rest a w
    | some (R, m) => wpS C.P ops (QN C.P X.Q k) (fun w => Holds R w ∧ GHolds C.GS w) m rest a w
def Val (P : Program) (ρ : Operand → Value) (w : World) (op : Op) (v : Value) : Prop :=
  ∀ (dst : Option Tmp) (ty : TypeId) (p : String) (af : Array Edge) (g : Option (Nat × Bool)), (execOp ρ ⟨dst, op, ty, p, af, g⟩).run P w = .ok (.value v) w
section
variable {C : Cx} {N : Nat} {X : Fx} {k : List Item} {ops : Array Oper} {md : Option (Hp × Option Nat)} {rest : List Oper} {L : Slots} {D : List Deferred} {S : Hp}
  {d : Nat} {op : Op} {ty : TypeId} {p : String} {af : Array Edge} {v : Value}
theorem J.nil (h : G C N X k L D S) : J C N X k ops md [] L D S := fun a w h1 h2 h3 => by
  have := h a w h1 h2 h3
  cases md with
  | none => exact wpList_nil this
  | some x => exact this
theorem J.val (hd : Nat.blt d N = true) (he : isEff op = false)
    (hv : ∀ ρ w, (∀ x u, opv L x = some u → ρ x = u) → Holds (vheap md (⟨some d, op, ty, p, af, none⟩ :: rest) S) w → GHolds (vglob C md (⟨some d, op, ty, p, af, none⟩ :: rest)) w → Val C.P ρ w op v)
    (h : J C N X k ops md rest ((d, v) :: L) D S) : J C N X k ops md (⟨some d, op, ty, p, af, none⟩ :: rest) L D S := by
  intro a w h1 h2 h3
  have hk := h (a.put (some d) v) w (h1.put v hd) (by simpa [Act.put] using h2) h3
  cases md with
  | none =>
    refine wpList_plain rfl fun K hK => ?_
    unfold Oper.wp
    rw [hv a.eval w (fun x u e => h1.eval e) h3.holds h3.glob]
    exact hK _ _ hk
  | some x =>
    obtain ⟨R, m⟩ := x
    simp only [wpS, he, Bool.false_eq_true, if_false]
    refine ⟨v, .inl ⟨by simp [Region.wanted], fun w' hw' => hv a.eval w' (fun x u e => h1.eval e) ?_ ?_ _ _ _ _ _⟩, hk⟩
    · simp only [vheap]
      cases hkp : keepsM m (⟨some d, op, ty, p, af, none⟩ :: rest) with
      | true => exact (hw' hkp).1
      | false => exact fun e h => by cases h
    · simp only [vglob]
      cases hkp : keepsM m (⟨some d, op, ty, p, af, none⟩ :: rest) with
      | true => exact (hw' hkp).2
      | false => exact fun e h => by cases h
theorem J.want {dst : Option Tmp} {j t : Nat} {b b' : Bool} (hj : ((ops[j]?).bind (·.dst)) = some t) (ht : sget L t = some (.bool b')) (hb : b' = b)
    (h : J C N X k ops md (⟨dst, op, ty, p, af, none⟩ :: rest) L D S) : J C N X k ops md (⟨dst, op, ty, p, af, some (j, b)⟩ :: rest) L D S := by
  intro a w h1 h2 h3
  have hk := h a w h1 h2 h3
  have hw : Region.wanted (⟨dst, op, ty, p, af, some (j, b)⟩ : Oper) (yielded ops a.tmps) = true := by
    simp [Region.wanted, yielded, hj, h1.get t _ ht, hb]
  have hw0 : Region.wanted (⟨dst, op, ty, p, af, none⟩ : Oper) (yielded ops a.tmps) = true := by simp [Region.wanted]
  cases md with
  | none =>
    simp only [wpList, hw, hw0, if_true] at hk ⊢
    exact hk
  | some x =>
    obtain ⟨R, m⟩ := x
    simp only [wpS, hw, hw0, if_true] at hk ⊢
    split
    · rename_i he; simp only [he, if_true] at hk; exact hk
    · rename_i he
      simp only [he] at hk
      obtain ⟨u, hy, hr⟩ := hk
      refine ⟨u, ?_, hr⟩
      rcases hy with ⟨_, hy⟩ | ⟨hn, _⟩
      · exact .inl ⟨hw, fun w' hw' => hy w' hw'⟩
      · rw [hw0] at hn; cases hn
theorem J.skip {j t : Nat} {b b' : Bool} (hd : Nat.blt d N = true) (he : isEff op = false) (hj : ((ops[j]?).bind (·.dst)) = some t) (ht : sget L t = some (.bool b')) (hb : b' = !b)
    (h : J C N X k ops md rest ((d, undef) :: L) D S) : J C N X k ops md (⟨some d, op, ty, p, af, some (j, b)⟩ :: rest) L D S := by
  intro a w h1 h2 h3
  have hk := h (a.put (some d) undef) w (h1.put undef hd) (by simpa [Act.put] using h2) h3
  have hw : Region.wanted (⟨some d, op, ty, p, af, some (j, b)⟩ : Oper) (yielded ops a.tmps) = false := by
    simp [Region.wanted, yielded, hj, h1.get t _ ht, hb]
  cases md with
  | none =>
    simp only [wpList, hw, Bool.false_eq_true, if_false]
    exact hk
  | some x =>
    obtain ⟨R, m⟩ := x
    simp only [wpS, he, Bool.false_eq_true, if_false]
    exact ⟨undef, .inr ⟨hw, rfl⟩, hk⟩
end
class Ty (C : Cx) (t : TypeId) (d : outParam TypeDesc) (n : outParam Nat) : Prop where
  u : C.P.underlying t = some d
  s : (C.P.info? t).map (·.size) = some n
class TyF (C : Cx) (s : TypeId) (f : Nat) (off : outParam Nat) : Prop where
  h : ∃ fs fd i, C.P.underlying s = some (.struct fs) ∧ fs[f]? = some fd ∧ fd.offset = off ∧ C.P.info? fd.type = some i ∧ i.size ≠ 0
theorem Ty.run_u {C : Cx} {t : TypeId} {d : TypeDesc} {n : Nat} (h : Ty C t d n) (w : World) : (underlying t).run C.P w = .ok d w := run_underlying h.u w
theorem Ty.run_s {C : Cx} {t : TypeId} {d : TypeDesc} {n : Nat} (h : Ty C t d n) (w : World) : (sizeOf t).run C.P w = .ok n w := by
  have hs := h.s
  cases hi : C.P.info? t with
  | none => simp [hi] at hs
  | some i =>
    simp [hi] at hs
    simp [sizeOf, typeInfo, hi, hs]
class NL (z : Int) (n : outParam Nat) : Prop where
  h : z = n
instance (n : Nat) : NL (n : Int) n := ⟨rfl⟩
instance : NL 0 0 := ⟨rfl⟩
instance : NL 1 1 := ⟨rfl⟩
instance : NL 2 2 := ⟨rfl⟩
instance : NL 3 3 := ⟨rfl⟩
instance : NL 4 4 := ⟨rfl⟩
instance : NL 5 5 := ⟨rfl⟩
instance : NL 6 6 := ⟨rfl⟩
instance : NL 7 7 := ⟨rfl⟩
instance : NL 8 8 := ⟨rfl⟩
instance : NL 9 9 := ⟨rfl⟩
instance : NL 10 10 := ⟨rfl⟩
instance : NL 11 11 := ⟨rfl⟩
instance : NL 12 12 := ⟨rfl⟩
instance : NL 13 13 := ⟨rfl⟩
instance : NL 14 14 := ⟨rfl⟩
instance : NL 15 15 := ⟨rfl⟩
instance : NL 16 16 := ⟨rfl⟩
instance : NL 17 17 := ⟨rfl⟩
instance : NL 18 18 := ⟨rfl⟩
instance : NL 19 19 := ⟨rfl⟩
instance : NL 20 20 := ⟨rfl⟩
instance : NL 21 21 := ⟨rfl⟩
instance : NL 22 22 := ⟨rfl⟩
instance : NL 23 23 := ⟨rfl⟩
instance : NL 24 24 := ⟨rfl⟩
instance : NL 25 25 := ⟨rfl⟩
instance : NL 26 26 := ⟨rfl⟩
instance : NL 27 27 := ⟨rfl⟩
instance : NL 28 28 := ⟨rfl⟩
instance : NL 29 29 := ⟨rfl⟩
instance : NL 30 30 := ⟨rfl⟩
instance : NL 31 31 := ⟨rfl⟩
instance : NL 32 32 := ⟨rfl⟩
instance : NL 37 37 := ⟨rfl⟩
instance : NL 48 48 := ⟨rfl⟩
instance : NL 57 57 := ⟨rfl⟩
instance : NL 63 63 := ⟨rfl⟩
instance : NL 64 64 := ⟨rfl⟩
instance : NL 70 70 := ⟨rfl⟩
instance : NL 85 85 := ⟨rfl⟩
instance : NL 97 97 := ⟨rfl⟩
instance : NL 512 512 := ⟨rfl⟩
instance : NL 4096 4096 := ⟨rfl⟩
instance : NL 65535 65535 := ⟨rfl⟩
instance : NL 65536 65536 := ⟨rfl⟩
instance : NL 32768 32768 := ⟨rfl⟩
def TypeDesc.plain : TypeDesc → Bool
  | .struct _ | .array _ _ => false
  | _ => true
section
variable {C : Cx} {N : Nat} {X : Fx} {k : List Item} {ops : Array Oper} {md : Option (Hp × Option Nat)} {rest : List Oper} {L : Slots} {D : List Deferred} {S : Hp}
  {d : Nat} {ty : TypeId} {p : String} {af : Array Edge}
theorem J.move {x : Operand} {v : Value} (hd : Nat.blt d N = true) (hx : opv L x = some v) (h : J C N X k ops md rest ((d, v) :: L) D S) : J C N X k ops md (⟨some d, .move x, ty, p, af, none⟩ :: rest) L D S :=
  J.val hd rfl (fun ρ w hρ _ _ _ _ _ _ _ => by simp [execOp, hρ _ _ hx]) h
theorem J.assign {x : Operand} {v : Value} (hd : Nat.blt d N = true) (hx : opv L x = some v) (h : J C N X k ops md rest ((d, v) :: L) D S) : J C N X k ops md (⟨some d, .assign x, ty, p, af, none⟩ :: rest) L D S :=
  J.val hd rfl (fun ρ w hρ _ _ _ _ _ _ _ => by simp [execOp, hρ _ _ hx]) h
theorem J.pickT {c x y : Operand} {v : Value} {b : Bool} (hd : Nat.blt d N = true) (hc : opv L c = some (.bool b)) (hb : b = true) (hx : opv L x = some v) (h : J C N X k ops md rest ((d, v) :: L) D S) :
    J C N X k ops md (⟨some d, .pick c x y, ty, p, af, none⟩ :: rest) L D S :=
  J.val hd rfl (fun ρ w hρ _ _ _ _ _ _ _ => by simp [execOp, hρ _ _ hc, hρ _ _ hx, hb, asBool]) h
theorem J.pickF {c x y : Operand} {v : Value} {b : Bool} (hd : Nat.blt d N = true) (hc : opv L c = some (.bool b)) (hb : b = false) (hx : opv L y = some v) (h : J C N X k ops md rest ((d, v) :: L) D S) :
    J C N X k ops md (⟨some d, .pick c x y, ty, p, af, none⟩ :: rest) L D S :=
  J.val hd rfl (fun ρ w hρ _ _ _ _ _ _ _ => by simp [execOp, hρ _ _ hc, hρ _ _ hx, hb, asBool]) h
theorem J.nilCheck {x : Operand} {a : Addr} (hd : Nat.blt d N = true) (hx : opv L x = some (.pointer (some a))) (h : J C N X k ops md rest ((d, .pointer (some a)) :: L) D S) :
    J C N X k ops md (⟨some d, .nilCheck x, ty, p, af, none⟩ :: rest) L D S :=
  J.val hd rfl (fun ρ w hρ _ _ _ _ _ _ _ => by simp [execOp, hρ _ _ hx]) h
theorem J.nilCheckI {x : Operand} {t : TypeId} {u : Value} (hd : Nat.blt d N = true) (hx : opv L x = some (.iface t u)) (h : J C N X k ops md rest ((d, .iface t u) :: L) D S) :
    J C N X k ops md (⟨some d, .nilCheck x, ty, p, af, none⟩ :: rest) L D S :=
  J.val hd rfl (fun ρ w hρ _ _ _ _ _ _ _ => by simp [execOp, hρ _ _ hx]) h
theorem J.extract {x : Operand} {i : Nat} {vs : Array Value} {v : Value} (hd : Nat.blt d N = true) (hx : opv L x = some (.tuple vs)) (hi : vs[i]? = some v) (h : J C N X k ops md rest ((d, v) :: L) D S) :
    J C N X k ops md (⟨some d, .extract x i, ty, p, af, none⟩ :: rest) L D S :=
  J.val hd rfl (fun ρ w hρ _ _ _ _ _ _ _ => by simp [execOp, hρ _ _ hx, Instr.extract, hi]) h
theorem J.iface {x : Operand} {t : TypeId} {v : Value} {ds : TypeDesc} {n : Nat} [ht : Ty C t ds n] (hd : Nat.blt d N = true) (hx : opv L x = some v) (hi : (match ds with | .interface _ => false | _ => true) = true)
    (h : J C N X k ops md rest ((d, .iface t v) :: L) D S) : J C N X k ops md (⟨some d, .makeInterface t x, ty, p, af, none⟩ :: rest) L D S :=
  J.val hd rfl (fun ρ w hρ _ _ _ _ _ _ _ => by
    simp only [execOp, hρ _ _ hx, Instr.makeInterface, Sem.run_bind, ht.run_u, Result.andThen_ok]
    cases ds <;> simp_all) h
theorem J.fieldAddr {x : Operand} {s f : Nat} {b o off : Nat} [ht : TyF C s f off] (hd : Nat.blt d N = true) (hx : opv L x = some (.pointer (some ⟨b, o, none⟩)))
    (h : J C N X k ops md rest ((d, .pointer (some ⟨b, o + off, none⟩)) :: L) D S) : J C N X k ops md (⟨some d, .fieldAddr s x f, ty, p, af, none⟩ :: rest) L D S := by
  obtain ⟨fs, fd, i, h1, h2, h3, h4, h5⟩ := ht.h
  exact J.val hd rfl (fun ρ w hρ _ _ _ _ _ _ _ => by
    simp [execOp, hρ _ _ hx, Instr.fieldAt, run_underlying h1, h2, Instr.sureAddr, fieldPlace, sizeOf, typeInfo, h4, h5, h3, Addr.add_lit]) h
theorem J.indexAddr {x y : Operand} {t e : TypeId} {b o len cap i n : Nat} {kk : IntKind} {q : Nat} [ht : Ty C t (.slice e) q] {de : TypeDesc} [he : Ty C e de n] (hd : Nat.blt d N = true)
    (hx : opv L x = some (.slice (some ⟨b, o, none⟩) len cap)) {i' : Int} (hy : opv L y = some (.int kk i')) [ni : NL i' i] (hi : i < len)
    (h : J C N X k ops md rest ((d, .pointer (some ⟨b, o + i * n, none⟩)) :: L) D S) : J C N X k ops md (⟨some d, .indexAddr t x y, ty, p, af, none⟩ :: rest) L D S := by
  obtain rfl := ni.h
  exact J.val hd rfl (fun ρ w hρ _ _ _ _ _ _ _ => by
    have h0 : (0 : Int) ≤ (i : Int) := by omega
    have h1 : (i : Int) < (len : Int) := by omega
    simp [execOp, hρ _ _ hx, hρ _ _ hy, Instr.indexAt, asIntOf, ht.run_u, he.run_s, hi, Addr.add_lit]) h
theorem J.load {x : Operand} {t : TypeId} {ds : TypeDesc} {n : Nat} {b o T : Nat} {cs : List Value} {v : Value} [ht : Ty C t ds n] (hd : Nat.blt d N = true) (hp : TypeDesc.plain ds = true)
    (hx : opv L x = some (.pointer (some ⟨b, o, none⟩))) (hm : Mem b T cs (vheap md (⟨some d, .load t x, ty, p, af, none⟩ :: rest) S)) (hv : cs[o]? = some v)
    (h : J C N X k ops md rest ((d, v) :: L) D S) : J C N X k ops md (⟨some d, .load t x, ty, p, af, none⟩ :: rest) L D S :=
  J.val hd rfl (fun ρ w hρ hS _ _ _ _ _ _ => by
    have hc : w.cell? ⟨b, o, none⟩ = some v := by simp [World.cell?, hm.ok hS, hv]
    simp only [execOp, hρ _ _ hx, Instr.loadAt, Instr.sureAddr, loadVar, isAgg, Sem.run_bind, Sem.run_pure, ht.run_u, Result.andThen_ok]
    cases ds <;> simp_all [TypeDesc.plain]) h
theorem J.loadG {x : Operand} {t : TypeId} {ds : TypeDesc} {n : Nat} {b o : Nat} {v : Value} [ht : Ty C t ds n] (hd : Nat.blt d N = true) (hp : TypeDesc.plain ds = true)
    (hx : opv L x = some (.pointer (some ⟨b, o, none⟩))) (hm : ((⟨b, o, none⟩ : Addr), v) ∈ vglob C md (⟨some d, .load t x, ty, p, af, none⟩ :: rest))
    (h : J C N X k ops md rest ((d, v) :: L) D S) : J C N X k ops md (⟨some d, .load t x, ty, p, af, none⟩ :: rest) L D S :=
  J.val hd rfl (fun ρ w hρ _ hS _ _ _ _ _ => by
    have hc : w.cell? ⟨b, o, none⟩ = some v := hS _ hm
    simp only [execOp, hρ _ _ hx, Instr.loadAt, Instr.sureAddr, loadVar, isAgg, Sem.run_bind, Sem.run_pure, ht.run_u, Result.andThen_ok]
    cases ds <;> simp_all [TypeDesc.plain]) h
theorem run_cells {P : Program} {w : World} {b o T : Nat} {cs : List Value} (hb : w.heap[b]? = some (.cells cs.toArray T (0, 0))) (vs : List Value) (hv : ∀ j v, vs[j]? = some v → cs[o + j]? = some v) :
    (loadCells ⟨b, o, none⟩ vs.length).run P w = .ok vs.toArray w :=
  run_loadCells_list w ⟨b, o, none⟩ vs fun j v hj => by simp [World.cell?, Addr.add_lit, hb, hv j v hj]
theorem J.loadA {x : Operand} {t : TypeId} {ds : TypeDesc} {n : Nat} {b o T : Nat} {cs vs : List Value} [ht : Ty C t ds n] (hd : Nat.blt d N = true) (hp : TypeDesc.plain ds = false)
    (hx : opv L x = some (.pointer (some ⟨b, o, none⟩))) (hm : Mem b T cs (vheap md (⟨some d, .load t x, ty, p, af, none⟩ :: rest) S)) (hv : (cs.drop o).take n = vs) (hn : vs.length = n)
    (h : J C N X k ops md rest ((d, .agg vs.toArray) :: L) D S) : J C N X k ops md (⟨some d, .load t x, ty, p, af, none⟩ :: rest) L D S :=
  J.val hd rfl (fun ρ w hρ hS _ _ _ _ _ _ => by
    have hc := run_cells (P := C.P) (o := o) (hm.ok hS) vs (fun j v hj => by
      rw [← hv, List.getElem?_take] at hj
      split at hj
      · simpa using hj
      · cases hj)
    rw [hn] at hc
    simp only [execOp, hρ _ _ hx, Instr.loadAt, Instr.sureAddr, loadVar, isAgg, Sem.run_bind, Sem.run_pure, ht.run_u, Result.andThen_ok]
    cases ds <;> simp_all [TypeDesc.plain, ht.run_s]) h
end
end
section
theorem wrap_i64_nat {m : Nat} (h : m < 9223372036854775808) : IntKind.i64.wrap (m : Int) = m := by rw [IntKind.wrap_i64]; omega
theorem wrap_i64_in {z : Int} (h : -9223372036854775808 ≤ z) (h' : z < 9223372036854775808) : IntKind.i64.wrap z = z := by rw [IntKind.wrap_i64]; omega
theorem wrap_i32_in {z : Int} (h : -2147483648 ≤ z) (h' : z < 2147483648) : IntKind.i32.wrap z = z := by rw [IntKind.wrap_i32]; omega
theorem wrap_u64_nat {m : Nat} (h : m < 18446744073709551616) : IntKind.u64.wrap (m : Int) = m := by rw [IntKind.wrap_u64]; omega
theorem wrap_u64_mod (m : Nat) : IntKind.u64.wrap (m : Int) = ((m % 18446744073709551616 : Nat) : Int) := by rw [IntKind.wrap_u64]; omega
theorem wrap_u64_sub {m n : Nat} (h : n < 18446744073709551616) : IntKind.u64.wrap ((m : Int) - n) = (((m + (18446744073709551616 - n)) % 18446744073709551616 : Nat) : Int) := by rw [IntKind.wrap_u64]; omega
theorem wrap_u32_nat {m : Nat} (h : m < 4294967296) : IntKind.u32.wrap (m : Int) = m := by rw [IntKind.wrap_u32]; omega
theorem wrap_u8_nat {m : Nat} (h : m < 256) : IntKind.u8.wrap (m : Int) = m := by rw [IntKind.wrap_u8]; omega
section
variable {C : Cx} {N : Nat} {X : Fx} {k : List Item} {ops : Array Oper} {md : Option (Hp × Option Nat)} {rest : List Oper} {L : Slots} {D : List Deferred} {S : Hp}
  {d : Nat} {ty : TypeId} {p : String} {af : Array Edge} {t t' : TypeId} {x y : Operand}
theorem J.arith {o : BinOp} {kk : IntKind} {a b r : Int} (hd : Nat.blt d N = true) (hx : opv L x = some (.int kk a)) (hy : opv L y = some (.int kk b))
    (hr : (match o with | .add => some (kk.wrap (a + b)) | .sub => some (kk.wrap (a - b)) | .mul => some (kk.wrap (a * b)) | _ => none) = some r)
    (h : J C N X k ops md rest ((d, .int kk r) :: L) D S) : J C N X k ops md (⟨some d, .binOp o t x y t', ty, p, af, none⟩ :: rest) L D S :=
  J.val hd rfl (fun ρ w hρ _ _ _ _ _ _ _ => by
    cases o <;> simp_all [execOp, hρ _ _ hx, hρ _ _ hy, eqGuard, binOp, Op.intArith]) h
theorem J.addI {a b : Nat} (hd : Nat.blt d N = true) {a' : Int} (hx : opv L x = some (.int .i64 a')) [na : NL a' a] {b' : Int} (hy : opv L y = some (.int .i64 b')) [nb : NL b' b] (hb : a + b < 9223372036854775808)
    (h : J C N X k ops md rest ((d, .int .i64 ((a + b : Nat) : Int)) :: L) D S) : J C N X k ops md (⟨some d, .binOp .add t x y t', ty, p, af, none⟩ :: rest) L D S := by
  obtain rfl := na.h
  obtain rfl := nb.h
  exact J.arith hd hx hy (by show some _ = some _; rw [← Int.natCast_add, wrap_i64_nat hb]) h
theorem J.subI {a b : Nat} (hd : Nat.blt d N = true) {a' : Int} (hx : opv L x = some (.int .i64 a')) [na : NL a' a] {b' : Int} (hy : opv L y = some (.int .i64 b')) [nb : NL b' b] (hb : b ≤ a) (ha : a < 9223372036854775808)
    (h : J C N X k ops md rest ((d, .int .i64 ((a - b : Nat) : Int)) :: L) D S) : J C N X k ops md (⟨some d, .binOp .sub t x y t', ty, p, af, none⟩ :: rest) L D S := by
  obtain rfl := na.h
  obtain rfl := nb.h
  exact J.arith hd hx hy (by show some _ = some _; rw [← Int.natCast_sub hb, wrap_i64_nat (by omega)]) h
theorem J.mulI {a b : Nat} (hd : Nat.blt d N = true) {a' : Int} (hx : opv L x = some (.int .i64 a')) [na : NL a' a] {b' : Int} (hy : opv L y = some (.int .i64 b')) [nb : NL b' b] (hb : a * b < 9223372036854775808)
    (h : J C N X k ops md rest ((d, .int .i64 ((a * b : Nat) : Int)) :: L) D S) : J C N X k ops md (⟨some d, .binOp .mul t x y t', ty, p, af, none⟩ :: rest) L D S := by
  obtain rfl := na.h
  obtain rfl := nb.h
  exact J.arith hd hx hy (by show some _ = some _; rw [← Int.natCast_mul, wrap_i64_nat hb]) h
theorem J.addZ {a b : Int} (hd : Nat.blt d N = true) (hx : opv L x = some (.int .i64 a)) (hy : opv L y = some (.int .i64 b)) (h1 : -9223372036854775808 ≤ a + b) (h2 : a + b < 9223372036854775808)
    (h : J C N X k ops md rest ((d, .int .i64 (a + b)) :: L) D S) : J C N X k ops md (⟨some d, .binOp .add t x y t', ty, p, af, none⟩ :: rest) L D S :=
  J.arith hd hx hy (by show some _ = some _; rw [wrap_i64_in h1 h2]) h
theorem J.subZ {a b : Int} (hd : Nat.blt d N = true) (hx : opv L x = some (.int .i64 a)) (hy : opv L y = some (.int .i64 b)) (h1 : -9223372036854775808 ≤ a - b) (h2 : a - b < 9223372036854775808)
    (h : J C N X k ops md rest ((d, .int .i64 (a - b)) :: L) D S) : J C N X k ops md (⟨some d, .binOp .sub t x y t', ty, p, af, none⟩ :: rest) L D S :=
  J.arith hd hx hy (by show some _ = some _; rw [wrap_i64_in h1 h2]) h
theorem J.mulZ {a b : Int} (hd : Nat.blt d N = true) (hx : opv L x = some (.int .i64 a)) (hy : opv L y = some (.int .i64 b)) (h1 : -9223372036854775808 ≤ a * b) (h2 : a * b < 9223372036854775808)
    (h : J C N X k ops md rest ((d, .int .i64 (a * b)) :: L) D S) : J C N X k ops md (⟨some d, .binOp .mul t x y t', ty, p, af, none⟩ :: rest) L D S :=
  J.arith hd hx hy (by show some _ = some _; rw [wrap_i64_in h1 h2]) h
theorem J.addU {a b : Nat} (hd : Nat.blt d N = true) {a' : Int} (hx : opv L x = some (.int .u64 a')) [na : NL a' a] {b' : Int} (hy : opv L y = some (.int .u64 b')) [nb : NL b' b] (hb : a + b < 18446744073709551616)
    (h : J C N X k ops md rest ((d, .int .u64 ((a + b : Nat) : Int)) :: L) D S) : J C N X k ops md (⟨some d, .binOp .add t x y t', ty, p, af, none⟩ :: rest) L D S := by
  obtain rfl := na.h
  obtain rfl := nb.h
  exact J.arith hd hx hy (by show some _ = some _; rw [← Int.natCast_add, wrap_u64_nat hb]) h
theorem J.subU {a b : Nat} (hd : Nat.blt d N = true) {a' : Int} (hx : opv L x = some (.int .u64 a')) [na : NL a' a] {b' : Int} (hy : opv L y = some (.int .u64 b')) [nb : NL b' b] (hb : b ≤ a) (ha : a < 18446744073709551616)
    (h : J C N X k ops md rest ((d, .int .u64 ((a - b : Nat) : Int)) :: L) D S) : J C N X k ops md (⟨some d, .binOp .sub t x y t', ty, p, af, none⟩ :: rest) L D S := by
  obtain rfl := na.h
  obtain rfl := nb.h
  exact J.arith hd hx hy (by show some _ = some _; rw [← Int.natCast_sub hb, wrap_u64_nat (by omega)]) h
theorem J.mulU {a b : Nat} (hd : Nat.blt d N = true) {a' : Int} (hx : opv L x = some (.int .u64 a')) [na : NL a' a] {b' : Int} (hy : opv L y = some (.int .u64 b')) [nb : NL b' b] (hb : a * b < 18446744073709551616)
    (h : J C N X k ops md rest ((d, .int .u64 ((a * b : Nat) : Int)) :: L) D S) : J C N X k ops md (⟨some d, .binOp .mul t x y t', ty, p, af, none⟩ :: rest) L D S := by
  obtain rfl := na.h
  obtain rfl := nb.h
  exact J.arith hd hx hy (by show some _ = some _; rw [← Int.natCast_mul, wrap_u64_nat hb]) h
theorem J.addUm {a b : Nat} (hd : Nat.blt d N = true) {a' : Int} (hx : opv L x = some (.int .u64 a')) [na : NL a' a] {b' : Int} (hy : opv L y = some (.int .u64 b')) [nb : NL b' b]
    (h : J C N X k ops md rest ((d, .int .u64 (((a + b) % 18446744073709551616 : Nat) : Int)) :: L) D S) : J C N X k ops md (⟨some d, .binOp .add t x y t', ty, p, af, none⟩ :: rest) L D S := by
  obtain rfl := na.h
  obtain rfl := nb.h
  exact J.arith hd hx hy (by show some _ = some _; rw [← Int.natCast_add, wrap_u64_mod]) h
theorem J.subUm {a b : Nat} (hd : Nat.blt d N = true) {a' : Int} (hx : opv L x = some (.int .u64 a')) [na : NL a' a] {b' : Int} (hy : opv L y = some (.int .u64 b')) [nb : NL b' b] (hb : b < 18446744073709551616)
    (h : J C N X k ops md rest ((d, .int .u64 (((a + (18446744073709551616 - b)) % 18446744073709551616 : Nat) : Int)) :: L) D S) : J C N X k ops md (⟨some d, .binOp .sub t x y t', ty, p, af, none⟩ :: rest) L D S := by
  obtain rfl := na.h
  obtain rfl := nb.h
  exact J.arith hd hx hy (by show some _ = some _; rw [wrap_u64_sub hb]) h
theorem J.mulUm {a b : Nat} (hd : Nat.blt d N = true) {a' : Int} (hx : opv L x = some (.int .u64 a')) [na : NL a' a] {b' : Int} (hy : opv L y = some (.int .u64 b')) [nb : NL b' b]
    (h : J C N X k ops md rest ((d, .int .u64 (((a * b) % 18446744073709551616 : Nat) : Int)) :: L) D S) : J C N X k ops md (⟨some d, .binOp .mul t x y t', ty, p, af, none⟩ :: rest) L D S := by
  obtain rfl := na.h
  obtain rfl := nb.h
  exact J.arith hd hx hy (by show some _ = some _; rw [← Int.natCast_mul, wrap_u64_mod]) h
theorem J.quoN {kk : IntKind} {a b : Nat} (hd : Nat.blt d N = true) {a' : Int} (hx : opv L x = some (.int kk a')) [na : NL a' a] {b' : Int} (hy : opv L y = some (.int kk b')) [nb : NL b' b] (hb : b ≠ 0) (hw : kk.wrap ((a / b : Nat) : Int) = ((a / b : Nat) : Int))
    (h : J C N X k ops md rest ((d, .int kk ((a / b : Nat) : Int)) :: L) D S) : J C N X k ops md (⟨some d, .binOp .quo t x y t', ty, p, af, none⟩ :: rest) L D S := by
  obtain rfl := na.h
  obtain rfl := nb.h
  exact J.val hd rfl (fun ρ w hρ _ _ _ _ _ _ _ => by
    have e : ((a : Int).tdiv b) = ((a / b : Nat) : Int) := rfl
    have hb' : (b : Int) ≠ 0 := by omega
    simp [execOp, hρ _ _ hx, hρ _ _ hy, eqGuard, binOp, Op.intDiv, hb', hb, e]
    simpa using hw) h
theorem J.remN {kk : IntKind} {a b : Nat} (hd : Nat.blt d N = true) {a' : Int} (hx : opv L x = some (.int kk a')) [na : NL a' a] {b' : Int} (hy : opv L y = some (.int kk b')) [nb : NL b' b] (hb : b ≠ 0)
    (h : J C N X k ops md rest ((d, .int kk ((a % b : Nat) : Int)) :: L) D S) : J C N X k ops md (⟨some d, .binOp .rem t x y t', ty, p, af, none⟩ :: rest) L D S := by
  obtain rfl := na.h
  obtain rfl := nb.h
  exact J.val hd rfl (fun ρ w hρ _ _ _ _ _ _ _ => by
    have e : ((a : Int).tmod b) = ((a % b : Nat) : Int) := rfl
    have hb' : (b : Int) ≠ 0 := by omega
    simp [execOp, hρ _ _ hx, hρ _ _ hy, eqGuard, binOp, Op.intDiv, hb', hb, e]) h
theorem J.quoI {a b : Nat} (hd : Nat.blt d N = true) {a' : Int} (hx : opv L x = some (.int .i64 a')) [na : NL a' a] {b' : Int} (hy : opv L y = some (.int .i64 b')) [nb : NL b' b] (hb : b ≠ 0) (ha : a < 9223372036854775808)
    (h : J C N X k ops md rest ((d, .int .i64 ((a / b : Nat) : Int)) :: L) D S) : J C N X k ops md (⟨some d, .binOp .quo t x y t', ty, p, af, none⟩ :: rest) L D S := by
  obtain rfl := na.h
  obtain rfl := nb.h
  exact J.quoN hd hx hy hb (wrap_i64_nat (Nat.lt_of_le_of_lt (Nat.div_le_self _ _) ha)) h
theorem J.quoU {a b : Nat} (hd : Nat.blt d N = true) {a' : Int} (hx : opv L x = some (.int .u64 a')) [na : NL a' a] {b' : Int} (hy : opv L y = some (.int .u64 b')) [nb : NL b' b] (hb : b ≠ 0) (ha : a < 18446744073709551616)
    (h : J C N X k ops md rest ((d, .int .u64 ((a / b : Nat) : Int)) :: L) D S) : J C N X k ops md (⟨some d, .binOp .quo t x y t', ty, p, af, none⟩ :: rest) L D S := by
  obtain rfl := na.h
  obtain rfl := nb.h
  exact J.quoN hd hx hy hb (wrap_u64_nat (Nat.lt_of_le_of_lt (Nat.div_le_self _ _) ha)) h
theorem J.shlU {kk : IntKind} {a s : Nat} (hd : Nat.blt d N = true) {a' : Int} (hx : opv L x = some (.int .u64 a')) [na : NL a' a] {s' : Int} (hy : opv L y = some (.int kk s')) [ns : NL s' s]
    (h : J C N X k ops md rest ((d, .int .u64 ((a * 2 ^ s % 18446744073709551616 : Nat) : Int)) :: L) D S) : J C N X k ops md (⟨some d, .binOp .shl t x y t', ty, p, af, none⟩ :: rest) L D S := by
  obtain rfl := na.h
  obtain rfl := ns.h
  exact J.val hd rfl (fun ρ w hρ _ _ _ _ _ _ _ => by
    have h0 : ¬ ((s : Int) < 0) := by omega
    have e : IntKind.u64.wrap ((a : Int) * 2 ^ min s 64) = ((a * 2 ^ s % 18446744073709551616 : Nat) : Int) := by
      have e1 : (a : Int) * 2 ^ min s 64 = ((a * 2 ^ min s 64 : Nat) : Int) := by simp
      rw [e1, wrap_u64_mod]
      congr 1
      rcases Nat.lt_or_ge s 64 with hs | hs
      · rw [Nat.min_eq_left (by omega)]
      · rw [Nat.min_eq_right hs]
        obtain ⟨q, rfl⟩ : ∃ q, s = 64 + q := ⟨s - 64, by omega⟩
        rw [Nat.pow_add, ← Nat.mul_assoc]
        have : (18446744073709551616 : Nat) = 2 ^ 64 := by decide
        rw [this, Nat.mul_mod_left, Nat.mul_assoc, Nat.mul_comm (2 ^ 64), ← Nat.mul_assoc, Nat.mul_mod_left]
    simp [execOp, hρ _ _ hx, hρ _ _ hy, eqGuard, binOp, Op.shift, h0, IntKind.bits]
    simpa using e) h
theorem J.shrU {kk : IntKind} {a s : Nat} (hd : Nat.blt d N = true) {a' : Int} (hx : opv L x = some (.int .u64 a')) [na : NL a' a] {s' : Int} (hy : opv L y = some (.int kk s')) [ns : NL s' s] (ha : a < 18446744073709551616)
    (h : J C N X k ops md rest ((d, .int .u64 ((a / 2 ^ s : Nat) : Int)) :: L) D S) : J C N X k ops md (⟨some d, .binOp .shr t x y t', ty, p, af, none⟩ :: rest) L D S := by
  obtain rfl := na.h
  obtain rfl := ns.h
  exact J.val hd rfl (fun ρ w hρ _ _ _ _ _ _ _ => by
    have h0 : ¬ ((s : Int) < 0) := by omega
    have e : (a : Int).fdiv (2 ^ min s 64) = ((a / 2 ^ s : Nat) : Int) := by
      have e1 : ((2 : Int) ^ min s 64) = ((2 ^ min s 64 : Nat) : Int) := by simp
      rw [e1, Int.fdiv_eq_ediv_of_nonneg _ (Int.natCast_nonneg _), ← Int.natCast_ediv]
      congr 1
      rcases Nat.lt_or_ge s 64 with hs | hs
      · rw [Nat.min_eq_left (by omega)]
      · rw [Nat.min_eq_right hs, Nat.div_eq_of_lt (by simpa using ha), Nat.div_eq_of_lt (Nat.lt_of_lt_of_le ha (by
          have : 2 ^ 64 ≤ 2 ^ s := Nat.pow_le_pow_right (by omega) hs
          simpa using this))]
    simp [execOp, hρ _ _ hx, hρ _ _ hy, eqGuard, binOp, Op.shift, h0, IntKind.bits]
    simpa using e) h
theorem J.shrI {kk : IntKind} {a s : Nat} (hd : Nat.blt d N = true) {a' : Int} (hx : opv L x = some (.int .i64 a')) [na : NL a' a] {s' : Int} (hy : opv L y = some (.int kk s')) [ns : NL s' s] (ha : a < 9223372036854775808)
    (h : J C N X k ops md rest ((d, .int .i64 ((a / 2 ^ s : Nat) : Int)) :: L) D S) : J C N X k ops md (⟨some d, .binOp .shr t x y t', ty, p, af, none⟩ :: rest) L D S := by
  obtain rfl := na.h
  obtain rfl := ns.h
  exact J.val hd rfl (fun ρ w hρ _ _ _ _ _ _ _ => by
    have h0 : ¬ ((s : Int) < 0) := by omega
    have e : (a : Int).fdiv (2 ^ min s 64) = ((a / 2 ^ s : Nat) : Int) := by
      have e1 : ((2 : Int) ^ min s 64) = ((2 ^ min s 64 : Nat) : Int) := by simp
      rw [e1, Int.fdiv_eq_ediv_of_nonneg _ (Int.natCast_nonneg _), ← Int.natCast_ediv]
      congr 1
      rcases Nat.lt_or_ge s 64 with hs | hs
      · rw [Nat.min_eq_left (by omega)]
      · rw [Nat.min_eq_right hs, Nat.div_eq_of_lt (by have : (2:Nat)^64 = 18446744073709551616 := by decide
                                                      omega), Nat.div_eq_of_lt (Nat.lt_of_lt_of_le (show a < 2 ^ 64 by have : (2:Nat)^64 = 18446744073709551616 := by decide
                                                                                                                       omega) (Nat.pow_le_pow_right (by omega) hs))]
    simp [execOp, hρ _ _ hx, hρ _ _ hy, eqGuard, binOp, Op.shift, h0, IntKind.bits]
    simpa using e) h
theorem ofInt_nat (n a : Nat) : (BitVec.ofInt n (a : Int)).toNat = a % 2 ^ n := by simp
theorem J.bitsU {o : BinOp} {a b r : Nat} (hd : Nat.blt d N = true) {a' : Int} (hx : opv L x = some (.int .u64 a')) [na : NL a' a] {b' : Int} (hy : opv L y = some (.int .u64 b')) [nb : NL b' b] (ha : a < 18446744073709551616) (hb : b < 18446744073709551616)
    (hr : (match o with | .and => some (a &&& b) | .or => some (a ||| b) | .xor => some (a ^^^ b) | _ => none) = some r)
    (h : J C N X k ops md rest ((d, .int .u64 (r : Int)) :: L) D S) : J C N X k ops md (⟨some d, .binOp o t x y t', ty, p, af, none⟩ :: rest) L D S := by
  obtain rfl := na.h
  obtain rfl := nb.h
  exact J.val hd rfl (fun ρ w hρ _ _ _ _ _ _ _ => by
    have e64 : (2 : Nat) ^ 64 = 18446744073709551616 := by decide
    have ea : (BitVec.ofInt 64 (a : Int)).toNat = a := by rw [ofInt_nat, e64, Nat.mod_eq_of_lt ha]
    have eb : (BitVec.ofInt 64 (b : Int)).toNat = b := by rw [ofInt_nat, e64, Nat.mod_eq_of_lt hb]
    have key : ∀ (z : BitVec 64) (q : Nat), z.toNat = q → IntKind.u64.wrap (z.toNat : Int) = (q : Int) := fun z q hq => by
      have := z.isLt
      rw [e64] at this
      rw [wrap_u64_nat this, hq]
    cases o <;> simp at hr <;> subst hr
    · have e := key (BitVec.ofInt 64 (a : Int) &&& BitVec.ofInt 64 (b : Int)) (a &&& b) (by rw [BitVec.toNat_and, ea, eb])
      simp only [execOp, hρ _ _ hx, hρ _ _ hy, eqGuard_and, binOp, Op.intBits, IntKind.bits]
      simp only [ne_eq, not_true_eq_false, if_false, Sem.run_bind, Sem.run_pure, Result.andThen_ok]
      exact congrArg (fun z => Result.ok (Next.value (Value.int .u64 z)) w) e
    · have e := key (BitVec.ofInt 64 (a : Int) ||| BitVec.ofInt 64 (b : Int)) (a ||| b) (by rw [BitVec.toNat_or, ea, eb])
      simp only [execOp, hρ _ _ hx, hρ _ _ hy, eqGuard_or, binOp, Op.intBits, IntKind.bits]
      simp only [ne_eq, not_true_eq_false, if_false, Sem.run_bind, Sem.run_pure, Result.andThen_ok]
      exact congrArg (fun z => Result.ok (Next.value (Value.int .u64 z)) w) e
    · have e := key (BitVec.ofInt 64 (a : Int) ^^^ BitVec.ofInt 64 (b : Int)) (a ^^^ b) (by rw [BitVec.toNat_xor, ea, eb])
      simp only [execOp, hρ _ _ hx, hρ _ _ hy, eqGuard_xor, binOp, Op.intBits, IntKind.bits]
      simp only [ne_eq, not_true_eq_false, if_false, Sem.run_bind, Sem.run_pure, Result.andThen_ok]
      exact congrArg (fun z => Result.ok (Next.value (Value.int .u64 z)) w) e) h
theorem J.andU {a b : Nat} (hd : Nat.blt d N = true) {a' : Int} (hx : opv L x = some (.int .u64 a')) [na : NL a' a] {b' : Int} (hy : opv L y = some (.int .u64 b')) [nb : NL b' b] (ha : a < 18446744073709551616) (hb : b < 18446744073709551616)
    (h : J C N X k ops md rest ((d, .int .u64 ((a &&& b : Nat) : Int)) :: L) D S) : J C N X k ops md (⟨some d, .binOp .and t x y t', ty, p, af, none⟩ :: rest) L D S := by
  obtain rfl := na.h
  obtain rfl := nb.h
  exact J.bitsU hd hx hy ha hb rfl h
theorem J.orU {a b : Nat} (hd : Nat.blt d N = true) {a' : Int} (hx : opv L x = some (.int .u64 a')) [na : NL a' a] {b' : Int} (hy : opv L y = some (.int .u64 b')) [nb : NL b' b] (ha : a < 18446744073709551616) (hb : b < 18446744073709551616)
    (h : J C N X k ops md rest ((d, .int .u64 ((a ||| b : Nat) : Int)) :: L) D S) : J C N X k ops md (⟨some d, .binOp .or t x y t', ty, p, af, none⟩ :: rest) L D S := by
  obtain rfl := na.h
  obtain rfl := nb.h
  exact J.bitsU hd hx hy ha hb rfl h
theorem J.cmp {o : BinOp} {kk : IntKind} {a b : Int} {r : Bool} (hd : Nat.blt d N = true) (hx : opv L x = some (.int kk a)) (hy : opv L y = some (.int kk b))
    (hr : (match o with | .eql => some (a == b) | .neq => some (a != b) | .lss => some (decide (a < b)) | .leq => some (decide (a ≤ b)) | .gtr => some (decide (a > b)) | .geq => some (decide (a ≥ b)) | _ => none) = some r)
    (h : J C N X k ops md rest ((d, .bool r) :: L) D S) : J C N X k ops md (⟨some d, .binOp o t x y t', ty, p, af, none⟩ :: rest) L D S :=
  J.val hd rfl (fun ρ w hρ _ _ _ _ _ _ _ => by
    cases o <;> simp_all [execOp, hρ _ _ hx, hρ _ _ hy, eqGuard, binOp, Op.intCmp]) h
theorem J.eqN {kk : IntKind} {a b : Nat} (hd : Nat.blt d N = true) {a' : Int} (hx : opv L x = some (.int kk a')) [na : NL a' a] {b' : Int} (hy : opv L y = some (.int kk b')) [nb : NL b' b]
    (h : J C N X k ops md rest ((d, .bool (decide (a = b))) :: L) D S) : J C N X k ops md (⟨some d, .binOp .eql t x y t', ty, p, af, none⟩ :: rest) L D S := by
  obtain rfl := na.h
  obtain rfl := nb.h
  exact J.cmp hd hx hy (by simp; rw [Bool.eq_iff_iff]; simp; omega) h
theorem J.neN {kk : IntKind} {a b : Nat} (hd : Nat.blt d N = true) {a' : Int} (hx : opv L x = some (.int kk a')) [na : NL a' a] {b' : Int} (hy : opv L y = some (.int kk b')) [nb : NL b' b]
    (h : J C N X k ops md rest ((d, .bool (decide (a ≠ b))) :: L) D S) : J C N X k ops md (⟨some d, .binOp .neq t x y t', ty, p, af, none⟩ :: rest) L D S := by
  obtain rfl := na.h
  obtain rfl := nb.h
  exact J.cmp hd hx hy (by simp; rw [Bool.eq_iff_iff]; simp; omega) h
theorem J.ltN {kk : IntKind} {a b : Nat} (hd : Nat.blt d N = true) {a' : Int} (hx : opv L x = some (.int kk a')) [na : NL a' a] {b' : Int} (hy : opv L y = some (.int kk b')) [nb : NL b' b]
    (h : J C N X k ops md rest ((d, .bool (decide (a < b))) :: L) D S) : J C N X k ops md (⟨some d, .binOp .lss t x y t', ty, p, af, none⟩ :: rest) L D S := by
  obtain rfl := na.h
  obtain rfl := nb.h
  exact J.cmp hd hx hy (by simp) h
theorem J.leN {kk : IntKind} {a b : Nat} (hd : Nat.blt d N = true) {a' : Int} (hx : opv L x = some (.int kk a')) [na : NL a' a] {b' : Int} (hy : opv L y = some (.int kk b')) [nb : NL b' b]
    (h : J C N X k ops md rest ((d, .bool (decide (a ≤ b))) :: L) D S) : J C N X k ops md (⟨some d, .binOp .leq t x y t', ty, p, af, none⟩ :: rest) L D S := by
  obtain rfl := na.h
  obtain rfl := nb.h
  exact J.cmp hd hx hy (by simp) h
theorem J.gtN {kk : IntKind} {a b : Nat} (hd : Nat.blt d N = true) {a' : Int} (hx : opv L x = some (.int kk a')) [na : NL a' a] {b' : Int} (hy : opv L y = some (.int kk b')) [nb : NL b' b]
    (h : J C N X k ops md rest ((d, .bool (decide (b < a))) :: L) D S) : J C N X k ops md (⟨some d, .binOp .gtr t x y t', ty, p, af, none⟩ :: rest) L D S := by
  obtain rfl := na.h
  obtain rfl := nb.h
  exact J.cmp hd hx hy (by simp) h
theorem J.geN {kk : IntKind} {a b : Nat} (hd : Nat.blt d N = true) {a' : Int} (hx : opv L x = some (.int kk a')) [na : NL a' a] {b' : Int} (hy : opv L y = some (.int kk b')) [nb : NL b' b]
    (h : J C N X k ops md rest ((d, .bool (decide (b ≤ a))) :: L) D S) : J C N X k ops md (⟨some d, .binOp .geq t x y t', ty, p, af, none⟩ :: rest) L D S := by
  obtain rfl := na.h
  obtain rfl := nb.h
  exact J.cmp hd hx hy (by simp) h
theorem J.eqZ {kk : IntKind} {a b : Int} (hd : Nat.blt d N = true) (hx : opv L x = some (.int kk a)) (hy : opv L y = some (.int kk b))
    (h : J C N X k ops md rest ((d, .bool (decide (a = b))) :: L) D S) : J C N X k ops md (⟨some d, .binOp .eql t x y t', ty, p, af, none⟩ :: rest) L D S :=
  J.cmp hd hx hy (by simp; rw [Bool.eq_iff_iff]; simp) h
theorem J.neZ {kk : IntKind} {a b : Int} (hd : Nat.blt d N = true) (hx : opv L x = some (.int kk a)) (hy : opv L y = some (.int kk b))
    (h : J C N X k ops md rest ((d, .bool (decide (a ≠ b))) :: L) D S) : J C N X k ops md (⟨some d, .binOp .neq t x y t', ty, p, af, none⟩ :: rest) L D S :=
  J.cmp hd hx hy (by simp; rw [Bool.eq_iff_iff]; simp) h
theorem J.ltZ {kk : IntKind} {a b : Int} (hd : Nat.blt d N = true) (hx : opv L x = some (.int kk a)) (hy : opv L y = some (.int kk b))
    (h : J C N X k ops md rest ((d, .bool (decide (a < b))) :: L) D S) : J C N X k ops md (⟨some d, .binOp .lss t x y t', ty, p, af, none⟩ :: rest) L D S :=
  J.cmp hd hx hy (by simp) h
theorem J.leZ {kk : IntKind} {a b : Int} (hd : Nat.blt d N = true) (hx : opv L x = some (.int kk a)) (hy : opv L y = some (.int kk b))
    (h : J C N X k ops md rest ((d, .bool (decide (a ≤ b))) :: L) D S) : J C N X k ops md (⟨some d, .binOp .leq t x y t', ty, p, af, none⟩ :: rest) L D S :=
  J.cmp hd hx hy (by simp) h
theorem J.gtZ {kk : IntKind} {a b : Int} (hd : Nat.blt d N = true) (hx : opv L x = some (.int kk a)) (hy : opv L y = some (.int kk b))
    (h : J C N X k ops md rest ((d, .bool (decide (b < a))) :: L) D S) : J C N X k ops md (⟨some d, .binOp .gtr t x y t', ty, p, af, none⟩ :: rest) L D S :=
  J.cmp hd hx hy (by simp) h
theorem J.geZ {kk : IntKind} {a b : Int} (hd : Nat.blt d N = true) (hx : opv L x = some (.int kk a)) (hy : opv L y = some (.int kk b))
    (h : J C N X k ops md rest ((d, .bool (decide (b ≤ a))) :: L) D S) : J C N X k ops md (⟨some d, .binOp .geq t x y t', ty, p, af, none⟩ :: rest) L D S :=
  J.cmp hd hx hy (by simp) h
theorem J.eqB {a b : Bool} {n : Nat} [ht : Ty C t .bool n] (hd : Nat.blt d N = true) (hx : opv L x = some (.bool a)) (hy : opv L y = some (.bool b))
    (h : J C N X k ops md rest ((d, .bool (a == b)) :: L) D S) : J C N X k ops md (⟨some d, .binOp .eql t x y t', ty, p, af, none⟩ :: rest) L D S :=
  J.val hd rfl (fun ρ w hρ _ _ _ _ _ _ _ => by simp [execOp, hρ _ _ hx, hρ _ _ hy, eqGuard_at_bool, run_eql_bool w t a b ht.u]) h
theorem J.neB {a b : Bool} {n : Nat} [ht : Ty C t .bool n] (hd : Nat.blt d N = true) (hx : opv L x = some (.bool a)) (hy : opv L y = some (.bool b))
    (h : J C N X k ops md rest ((d, .bool (!(a == b))) :: L) D S) : J C N X k ops md (⟨some d, .binOp .neq t x y t', ty, p, af, none⟩ :: rest) L D S :=
  J.val hd rfl (fun ρ w hρ _ _ _ _ _ _ _ => by simp [execOp, hρ _ _ hx, hρ _ _ hy, eqGuard_at_bool, run_neq_bool w t a b ht.u]) h
theorem J.not {a : Bool} (hd : Nat.blt d N = true) (hx : opv L x = some (.bool a))
    (h : J C N X k ops md rest ((d, .bool (!a)) :: L) D S) : J C N X k ops md (⟨some d, .unOp .not t x, ty, p, af, none⟩ :: rest) L D S :=
  J.val hd rfl (fun ρ w hρ _ _ _ _ _ _ _ => by simp [execOp, hρ _ _ hx, Op.unary]) h
theorem J.negZ {a : Int} (hd : Nat.blt d N = true) (hx : opv L x = some (.int .i64 a)) (h1 : -9223372036854775808 < a) (h2 : a ≤ 9223372036854775808)
    (h : J C N X k ops md rest ((d, .int .i64 (-a)) :: L) D S) : J C N X k ops md (⟨some d, .unOp .neg t x, ty, p, af, none⟩ :: rest) L D S :=
  J.val hd rfl (fun ρ w hρ _ _ _ _ _ _ _ => by
    have e : IntKind.i64.wrap (0 - a) = -a := by rw [wrap_i64_in (by omega) (by omega)]; omega
    simp [execOp, hρ _ _ hx, Op.unary, Op.intArith]
    simpa using e) h
theorem J.conv {kk kk' : IntKind} {a r : Int} {n n' : Nat} {ds : TypeDesc} [hs : Ty C t ds n'] [ht : Ty C t' (.int kk) n] (hd : Nat.blt d N = true) (hx : opv L x = some (.int kk' a)) (hr : kk.wrap a = r)
    (h : J C N X k ops md rest ((d, .int kk r) :: L) D S) : J C N X k ops md (⟨some d, .convert t t' x, ty, p, af, none⟩ :: rest) L D S :=
  J.val hd rfl (fun ρ w hρ _ _ _ _ _ _ _ => by
    simp only [execOp, hρ _ _ hx, convert, Sem.run_bind, ht.run_u, hs.run_u, Result.andThen_ok]
    cases ds <;> simp [Conv.intToInt, hr]) h
theorem J.lenS {a : Option Addr} {n c m : Nat} {e : TypeId} [ht : Ty C t (.slice e) m] (hd : Nat.blt d N = true) (hx : opv L x = some (.slice a n c))
    (h : J C N X k ops md rest ((d, .int .i64 (n : Int)) :: L) D S) : J C N X k ops md (⟨some d, .call { callee := .builtin .len, args := #[x], argTypes := #[t] }, ty, p, af, none⟩ :: rest) L D S :=
  J.val hd rfl (fun ρ w hρ _ _ _ _ _ _ _ => by
    simp [execOp, resolve, invoke, builtin, hρ _ _ hx, Builtin.len_, ht.run_u, goInt]) h
theorem J.capS {a : Option Addr} {n c m : Nat} {e : TypeId} [ht : Ty C t (.slice e) m] (hd : Nat.blt d N = true) (hx : opv L x = some (.slice a n c))
    (h : J C N X k ops md rest ((d, .int .i64 (c : Int)) :: L) D S) : J C N X k ops md (⟨some d, .call { callee := .builtin .cap, args := #[x], argTypes := #[t] }, ty, p, af, none⟩ :: rest) L D S :=
  J.val hd rfl (fun ρ w hρ _ _ _ _ _ _ _ => by
    simp [execOp, resolve, invoke, builtin, hρ _ _ hx, Builtin.cap_, ht.run_u, goInt]) h
theorem J.lenT {s : ByteArray} {m : Nat} [ht : Ty C t .string m] (hd : Nat.blt d N = true) (hx : opv L x = some (.string s))
    (h : J C N X k ops md rest ((d, .int .i64 (s.size : Int)) :: L) D S) : J C N X k ops md (⟨some d, .call { callee := .builtin .len, args := #[x], argTypes := #[t] }, ty, p, af, none⟩ :: rest) L D S :=
  J.val hd rfl (fun ρ w hρ _ _ _ _ _ _ _ => by
    simp [execOp, resolve, invoke, builtin, hρ _ _ hx, Builtin.len_, ht.run_u, goInt]) h
theorem J.slLH {kl kh : IntKind} {b o len cap l hh m n : Nat} {e : TypeId} [ht : Ty C t (.slice e) m] {de : TypeDesc} [he : Ty C e de n] {lo hi : Operand} (hd : Nat.blt d N = true)
    (hx : opv L x = some (.slice (some ⟨b, o, none⟩) len cap)) {l' : Int} (hl : opv L lo = some (.int kl l')) [nl : NL l' l] {hh' : Int} (hhi : opv L hi = some (.int kh hh')) [nhh : NL hh' hh] (h1 : l ≤ hh) (h2 : hh ≤ cap) (h3 : l < cap ∨ l = 0)
    (h : J C N X k ops md rest ((d, .slice (some ⟨b, o + l * n, none⟩) (hh - l) (cap - l)) :: L) D S) : J C N X k ops md (⟨some d, .slice t x (some lo) (some hi) none, ty, p, af, none⟩ :: rest) L D S := by
  obtain rfl := nl.h
  obtain rfl := nhh.h
  exact J.val hd rfl (fun ρ w hρ _ _ _ _ _ _ _ => by
    have g1 : ((l : Int) ≤ (hh : Int)) := by omega
    have g2 : ((hh : Int) ≤ (cap : Int)) := by omega
    have g3 : (if cap = l then some (⟨b, o, none⟩ : Addr) else some (Addr.add ⟨b, o, none⟩ (l * n))) = some ⟨b, o + l * n, none⟩ := by
      split
      · have : l = 0 := by omega
        subst this; simp
      · rw [Addr.add_lit]
    simp [execOp, hρ _ _ hx, hρ _ _ hl, hρ _ _ hhi, Instr.sliceAt, Instr.slice, ht.run_u, he.run_s, Instr.sliceBounds, Instr.sliceBound, asIntOf, g1, g2, h1, h2]
    simpa using g3) h
theorem J.slH {kh : IntKind} {a : Option Addr} {len cap hh m n : Nat} {e : TypeId} [ht : Ty C t (.slice e) m] {de : TypeDesc} [he : Ty C e de n] {hi : Operand} (hd : Nat.blt d N = true)
    (hx : opv L x = some (.slice a len cap)) {hh' : Int} (hhi : opv L hi = some (.int kh hh')) [nhh : NL hh' hh] (h2 : hh ≤ cap)
    (h : J C N X k ops md rest ((d, .slice a hh cap) :: L) D S) : J C N X k ops md (⟨some d, .slice t x none (some hi) none, ty, p, af, none⟩ :: rest) L D S := by
  obtain rfl := nhh.h
  exact J.val hd rfl (fun ρ w hρ _ _ _ _ _ _ _ => by
    have g2 : ((hh : Int) ≤ (cap : Int)) := by omega
    cases a <;> simp [execOp, hρ _ _ hx, hρ _ _ hhi, Instr.sliceAt, Instr.slice, ht.run_u, he.run_s, Instr.sliceBounds, Instr.sliceBound, asIntOf, g2, h2, Addr.add]) h
theorem J.slLHnil {kl kh : IntKind} {len cap m n : Nat} {e : TypeId} [ht : Ty C t (.slice e) m] {de : TypeDesc} [he : Ty C e de n] {lo hi : Operand} {l hh : Nat} (hd : Nat.blt d N = true)
    (hx : opv L x = some (.slice none len cap)) {l' : Int} (hl : opv L lo = some (.int kl l')) [nl : NL l' l] {hh' : Int} (hhi : opv L hi = some (.int kh hh')) [nhh : NL hh' hh] (h1 : l ≤ hh) (h2 : hh ≤ cap)
    (h : J C N X k ops md rest ((d, .slice none (hh - l) (cap - l)) :: L) D S) : J C N X k ops md (⟨some d, .slice t x (some lo) (some hi) none, ty, p, af, none⟩ :: rest) L D S := by
  obtain rfl := nl.h
  obtain rfl := nhh.h
  exact J.val hd rfl (fun ρ w hρ _ _ _ _ _ _ _ => by
    have g1 : ((l : Int) ≤ (hh : Int)) := by omega
    have g2 : ((hh : Int) ≤ (cap : Int)) := by omega
    simp [execOp, hρ _ _ hx, hρ _ _ hl, hρ _ _ hhi, Instr.sliceAt, Instr.slice, ht.run_u, he.run_s, Instr.sliceBounds, Instr.sliceBound, asIntOf, g1, g2, h1, h2]) h
theorem J.slL {kl : IntKind} {b o len cap l m n : Nat} {e : TypeId} [ht : Ty C t (.slice e) m] {de : TypeDesc} [he : Ty C e de n] {lo : Operand} (hd : Nat.blt d N = true)
    (hx : opv L x = some (.slice (some ⟨b, o, none⟩) len cap)) {l' : Int} (hl : opv L lo = some (.int kl l')) [nl : NL l' l] (h1 : l ≤ len) (h3 : l < cap ∨ l = 0)
    (h : J C N X k ops md rest ((d, .slice (some ⟨b, o + l * n, none⟩) (len - l) (cap - l)) :: L) D S) : J C N X k ops md (⟨some d, .slice t x (some lo) none none, ty, p, af, none⟩ :: rest) L D S := by
  obtain rfl := nl.h
  exact J.val hd rfl (fun ρ w hρ _ _ _ _ _ _ _ => by
    have g1 : ((l : Int) ≤ (len : Int)) := by omega
    have g3 : (if cap = l then some (⟨b, o, none⟩ : Addr) else some (Addr.add ⟨b, o, none⟩ (l * n))) = some ⟨b, o + l * n, none⟩ := by
      split
      · have : l = 0 := by omega
        subst this; simp
      · rw [Addr.add_lit]
    simp [execOp, hρ _ _ hx, hρ _ _ hl, Instr.sliceAt, Instr.slice, ht.run_u, he.run_s, Instr.sliceBounds, Instr.sliceBound, asIntOf, g1, h1]
    simpa using g3) h
theorem J.strH {kh : IntKind} {s : ByteArray} {hh m : Nat} [ht : Ty C t .string m] {hi : Operand} (hd : Nat.blt d N = true) (hx : opv L x = some (.string s)) {hh' : Int} (hhi : opv L hi = some (.int kh hh')) [nhh : NL hh' hh] (h2 : hh ≤ s.size)
    (h : J C N X k ops md rest ((d, .string (s.extract 0 hh)) :: L) D S) : J C N X k ops md (⟨some d, .slice t x none (some hi) none, ty, p, af, none⟩ :: rest) L D S := by
  obtain rfl := nhh.h
  exact J.val hd rfl (fun ρ w hρ _ _ _ _ _ _ _ => by
    have g2 : ((hh : Int) ≤ (s.size : Int)) := by omega
    simp [execOp, hρ _ _ hx, hρ _ _ hhi, Instr.sliceAt, Instr.slice, ht.run_u, Instr.sliceBounds, Instr.sliceBound, asIntOf, g2, h2]) h
theorem J.strL {kl : IntKind} {s : ByteArray} {l m : Nat} [ht : Ty C t .string m] {lo : Operand} (hd : Nat.blt d N = true) (hx : opv L x = some (.string s)) {l' : Int} (hl : opv L lo = some (.int kl l')) [nl : NL l' l] (h2 : l ≤ s.size)
    (h : J C N X k ops md rest ((d, .string (s.extract l s.size)) :: L) D S) : J C N X k ops md (⟨some d, .slice t x (some lo) none none, ty, p, af, none⟩ :: rest) L D S := by
  obtain rfl := nl.h
  exact J.val hd rfl (fun ρ w hρ _ _ _ _ _ _ _ => by
    have g2 : ((l : Int) ≤ (s.size : Int)) := by omega
    simp [execOp, hρ _ _ hx, hρ _ _ hl, Instr.sliceAt, Instr.slice, ht.run_u, Instr.sliceBounds, Instr.sliceBound, asIntOf, g2, h2]) h
theorem J.strLH {kl kh : IntKind} {s : ByteArray} {l hh m : Nat} [ht : Ty C t .string m] {lo hi : Operand} (hd : Nat.blt d N = true) (hx : opv L x = some (.string s)) {l' : Int} (hl : opv L lo = some (.int kl l')) [nl : NL l' l] {hh' : Int} (hhi : opv L hi = some (.int kh hh')) [nhh : NL hh' hh]
    (h1 : l ≤ hh) (h2 : hh ≤ s.size) (h : J C N X k ops md rest ((d, .string (s.extract l hh)) :: L) D S) : J C N X k ops md (⟨some d, .slice t x (some lo) (some hi) none, ty, p, af, none⟩ :: rest) L D S := by
  obtain rfl := nl.h
  obtain rfl := nhh.h
  exact J.val hd rfl (fun ρ w hρ _ _ _ _ _ _ _ => by
    have g1 : ((l : Int) ≤ (hh : Int)) := by omega
    have g2 : ((hh : Int) ≤ (s.size : Int)) := by omega
    simp [execOp, hρ _ _ hx, hρ _ _ hl, hρ _ _ hhi, Instr.sliceAt, Instr.slice, ht.run_u, Instr.sliceBounds, Instr.sliceBound, asIntOf, g1, g2, h1, h2]) h
theorem J.strAt {kl : IntKind} {s : ByteArray} {i m : Nat} [ht : Ty C t .string m] {c : UInt8} (hd : Nat.blt d N = true) (hx : opv L x = some (.string s)) {i' : Int} (hy : opv L y = some (.int kl i')) [ni : NL i' i] (hc : s[i]? = some c)
    (h : J C N X k ops md rest ((d, .int .u8 (c.toNat : Int)) :: L) D S) : J C N X k ops md (⟨some d, .index t x y, ty, p, af, none⟩ :: rest) L D S := by
  obtain rfl := ni.h
  exact J.val hd rfl (fun ρ w hρ _ _ _ _ _ _ _ => by
    simp [execOp, hρ _ _ hx, hρ _ _ hy, Instr.index, ht.run_u, asIntOf, hc]) h
theorem J.strAdd {s u : ByteArray} (hd : Nat.blt d N = true) (hx : opv L x = some (.string s)) (hy : opv L y = some (.string u)) (hl : s.size + u.size < 9223372036854775808)
    (h : J C N X k ops md rest ((d, .string (s ++ u)) :: L) D S) : J C N X k ops md (⟨some d, .binOp .add t x y t', ty, p, af, none⟩ :: rest) L D S :=
  J.val hd rfl (fun ρ w hρ _ _ _ _ _ _ _ => by
    have h0 : ¬ ((s.size + u.size : Nat) : Int) > IntKind.i64.max := by rw [IntKind.max_i64]; omega
    simp [execOp, hρ _ _ hx, hρ _ _ hy, eqGuard_at_string, binOp, Op.stringOp]
    omega) h
theorem J.strEq {s u : ByteArray} (hd : Nat.blt d N = true) (hx : opv L x = some (.string s)) (hy : opv L y = some (.string u))
    (h : J C N X k ops md rest ((d, .bool (s.toList == u.toList)) :: L) D S) : J C N X k ops md (⟨some d, .binOp .eql t x y t', ty, p, af, none⟩ :: rest) L D S :=
  J.val hd rfl (fun ρ w hρ _ _ _ _ _ _ _ => by
    simp [execOp, hρ _ _ hx, hρ _ _ hy, eqGuard_at_string, binOp, Op.stringOp]) h
end
end
section
theorem ND.perm {S S' : Hp} (h : ND S) (p : S.Perm S') : ND S' := by
  refine (p.pairwise_iff (fun {x y} hxy hw => ?_)).1 h
  exact fun e => hxy hw.symm e.symm
def Del (e : Ent) (S S' : Hp) : Prop := S.Perm (e :: S')
theorem Del.h {e : Ent} {S : Hp} : Del e (e :: S) S := List.Perm.refl _
theorem Del.t {e f : Ent} {S S' : Hp} (h : Del e S S') : Del e (f :: S) (f :: S') := (List.Perm.cons f h).trans (List.Perm.swap e f S')
def Dels (W S S' : Hp) : Prop := S.Perm (W ++ S')
theorem Dels.nil {S : Hp} : Dels [] S S := List.Perm.refl _
theorem Dels.cons {e : Ent} {W S S1 S2 : Hp} (h : Del e S S1) (r : Dels W S1 S2) : Dels (e :: W) S S2 := List.Perm.trans h (List.Perm.cons e r)
def App (A B S' : Hp) : Prop := S' = A ++ B
theorem App.nil {B : Hp} : App [] B B := rfl
theorem App.cons {e : Ent} {A B S' : Hp} (h : App A B S') : App (e :: A) B (e :: S') := by unfold App at *; rw [h]; rfl
def Upd1 (b : Nat) (T : TypeId) (cs cs' : List Value) (S S' : Hp) : Prop := ∃ pre post, S = pre ++ ⟨b, T, cs, true⟩ :: post ∧ S' = pre ++ ⟨b, T, cs', true⟩ :: post
theorem Upd1.h {b : Nat} {T : TypeId} {cs cs' : List Value} {S : Hp} : Upd1 b T cs cs' (⟨b, T, cs, true⟩ :: S) (⟨b, T, cs', true⟩ :: S) := ⟨[], S, rfl, rfl⟩
theorem Upd1.t {b : Nat} {T : TypeId} {cs cs' : List Value} {e : Ent} {S S' : Hp} (h : Upd1 b T cs cs' S S') : Upd1 b T cs cs' (e :: S) (e :: S') := by
  obtain ⟨pre, post, rfl, rfl⟩ := h
  exact ⟨e :: pre, post, rfl, rfl⟩
theorem Holds.lt {S : Hp} {w : World} (h : Holds S w) {e : Ent} (he : e ∈ S) : e.b < w.heap.size := by
  have := h e he
  unfold Ent.ok at this
  exact (Array.getElem?_eq_some_iff.1 this).1
theorem Inv.write {C : Cx} {X : Fx} {S S' : Hp} {w w' : World} {b T : Nat} {cs cs' : List Value} (h : Inv C X S w) (hu : Upd1 b T cs cs' S S')
    (hos : w'.os = w.os) (ht : w'.tape = w.tape) (hout : w'.output = w.output) (hs : w'.heap.size = w.heap.size)
    (hb : w'.heap[b]? = some (.cells cs'.toArray T (0, 0))) (ho : ∀ b', b' ≠ b → w'.heap[b']? = w.heap[b']?) : Inv C X S' w' := by
  obtain ⟨pre, post, rfl, rfl⟩ := hu
  have hmem : (⟨b, T, cs, true⟩ : Ent) ∈ pre ++ ⟨b, T, cs, true⟩ :: post := by simp
  have hown := h.own _ hmem rfl
  have hnd := List.pairwise_append.1 h.nd
  have hnd2 := List.pairwise_cons.1 hnd.2.1
  have hpre : ∀ e ∈ pre, e.b ≠ b := fun e he => hnd.2.2 e he ⟨b, T, cs, true⟩ (by simp) (.inr rfl)
  have hpost : ∀ e ∈ post, e.b ≠ b := fun e he => fun q => hnd2.1 e he (.inl rfl) q.symm
  refine ⟨⟨hos.trans h.mu.os, ht.trans h.mu.tape, hout.trans h.mu.out, by rw [hs]; exact h.mu.size, fun b' hb' hM => ?_⟩, ?_, ?_, ?_, ?_, by rw [hs]; exact h.size⟩
  · have hne : b' ≠ b := by
      rintro rfl
      rcases hown.2 with q | q
      · exact hM q
      · simp only at q; omega
    rw [ho b' hne]
    exact h.mu.keep b' hb' hM
  · intro e he
    rcases List.mem_append.1 he with he | he
    · show w'.heap[e.b]? = _
      rw [ho e.b (hpre e he)]
      exact h.holds e (by simp [he])
    · rcases List.mem_cons.1 he with rfl | he
      · exact hb
      · show w'.heap[e.b]? = _
        rw [ho e.b (hpost e he)]
        exact h.holds e (by simp [he])
  · refine List.pairwise_append.2 ⟨hnd.1, List.pairwise_cons.2 ⟨fun e he hw => hnd2.1 e he hw, hnd2.2⟩, fun e he f hf hw => ?_⟩
    rcases List.mem_cons.1 hf with rfl | hf
    · exact hpre e he
    · exact hnd.2.2 e he f (List.mem_cons_of_mem _ hf) hw
  · intro e he hw
    rcases List.mem_append.1 he with he | he
    · exact h.own e (by simp [he]) hw
    · rcases List.mem_cons.1 he with rfl | he
      · exact hown
      · exact h.own e (by simp [he]) hw
  · intro e he
    have hne : e.1.block ≠ b := by
      have := C.hGS e he
      have := hown.1
      simp only at this
      omega
    exact (World.cell?_of_block (ho e.1.block hne)).trans (h.glob e he)
theorem Inv.new {C : Cx} {X : Fx} {S : Hp} {w w' : World} {T : Nat} {cs : List Value} (h : Inv C X S w)
    (hos : w'.os = w.os) (ht : w'.tape = w.tape) (hout : w'.output = w.output) (hh : w'.heap = w.heap.push (.cells cs.toArray T (0, 0))) : Inv C X (⟨w.heap.size, T, cs, true⟩ :: S) w' := by
  have ho : ∀ b', b' < w.heap.size → w'.heap[b']? = w.heap[b']? := fun b' hb' => by rw [hh, Array.getElem?_push, if_neg (by omega)]
  refine ⟨⟨hos.trans h.mu.os, ht.trans h.mu.tape, hout.trans h.mu.out, by rw [hh]; simp; have := h.mu.size; omega, fun b' hb' hM => ?_⟩, ?_, ?_, ?_, ?_, by rw [hh]; simp; have := h.size; omega⟩
  · rw [ho b' (Nat.lt_of_lt_of_le hb' h.mu.size)]
    exact h.mu.keep b' hb' hM
  · intro e he
    rcases List.mem_cons.1 he with rfl | he
    · show w'.heap[w.heap.size]? = _
      rw [hh]; simp
    · show w'.heap[e.b]? = _
      rw [ho e.b (h.holds.lt he)]
      exact h.holds e he
  · refine List.pairwise_cons.2 ⟨fun e he _ => ?_, h.nd⟩
    have := h.holds.lt he
    simp only
    omega
  · intro e he hw
    rcases List.mem_cons.1 he with rfl | he
    · exact ⟨h.size, .inr h.mu.size⟩
    · exact h.own e he hw
  · intro e he
    exact (World.cell?_of_block (ho e.1.block (Nat.lt_of_lt_of_le (C.hGS e he) h.size))).trans (h.glob e he)
structure Pre (C : Cx) (Wp Rp : Hp) (w : World) : Prop where
  holds : Holds (Wp ++ Rp) w
  nd : ND (Wp ++ Rp)
  wr : ∀ e ∈ Wp, e.wr = true ∧ C.NG ≤ e.b
  rd : ∀ e ∈ Rp, e.wr = false
  glob : GHolds C.GS w
  size : C.NG ≤ w.heap.size
structure Post (C : Cx) (w w' : World) (Wp Wq : Hp) : Prop where
  mu : Mut w w' (blocks Wp)
  holds : Holds Wq w'
  nd : ND Wq
  wr : ∀ e ∈ Wq, e.wr = true ∧ C.NG ≤ e.b ∧ (blocks Wp e.b ∨ w.heap.size ≤ e.b)
def Spec (C : Cx) (g : FuncId) (vs : Array Value) (Wp Rp : Hp) {τ : Type} (val : τ → Value) (Wq : τ → Hp) (φ : τ → Prop) : Prop :=
  ∀ w, Pre C Wp Rp w → Calls C.P g vs w fun e w' => ∃ x, φ x ∧ e = .returned (val x) ∧ Post C w w' Wp (Wq x)
def SpecD (C : Cx) (g : FuncId) (vs : Array Value) (Wp Rp : Hp) {τ : Type} (Wq : τ → Hp) (φ : τ → Prop) : Prop :=
  ∀ w u, Pre C Wp Rp w → CallsD C.P g vs u w fun e u' w' => u' = u ∧ ∃ x, φ x ∧ (∃ v, e = .returned v) ∧ Post C w w' Wp (Wq x)
theorem Inv.pre {C : Cx} {X : Fx} {S S1 Wp Rp : Hp} {w : World} (h : Inv C X S w) (hd : Dels Wp S S1) (hw : ∀ e ∈ Wp, e.wr = true) (hr : ∀ e ∈ Rp, e.wr = false) (hs : SubH Rp S1) : Pre C Wp Rp w := by
  have hmem : ∀ e, e ∈ Wp → e ∈ S := fun e he => hd.symm.subset (by simp [he])
  have hmem1 : ∀ e, e ∈ S1 → e ∈ S := fun e he => hd.symm.subset (by simp [he])
  have hnd := List.pairwise_append.1 (h.nd.perm hd)
  have h1 : Holds S1 w := fun e he => h.holds e (hmem1 e he)
  refine ⟨fun e he => ?_, List.pairwise_append.2 ⟨hnd.1, ?_, ?_⟩, fun e he => ⟨hw e he, (h.own e (hmem e he) (hw e he)).1⟩, hr, h.glob, h.size⟩
  · rcases List.mem_append.1 he with he | he
    · exact h.holds e (hmem e he)
    · exact hs.holds h1 e he
  · refine List.pairwise_iff_forall_sublist.2 fun {a b} hab hwab => ?_
    have ha := hr a (hab.subset (by simp))
    have hb := hr b (hab.subset (by simp))
    rw [ha, hb] at hwab
    simp at hwab
  · intro e he f hf hwef
    obtain ⟨f', hf', hb, _, _⟩ := hs f hf
    rw [← hb]
    exact hnd.2.2 e he f' hf' (.inl (hw e he))
theorem Inv.post {C : Cx} {X : Fx} {S S1 S' Wp Wq : Hp} {w w' : World} (h : Inv C X S w) (hd : Dels Wp S S1) (hw : ∀ e ∈ Wp, e.wr = true) (hp : Post C w w' Wp Wq) (ha : App Wq S1 S') : Inv C X S' w' := by
  unfold App at ha
  subst ha
  have hmem : ∀ e, e ∈ Wp → e ∈ S := fun e he => hd.symm.subset (by simp [he])
  have hmem1 : ∀ e, e ∈ S1 → e ∈ S := fun e he => hd.symm.subset (by simp [he])
  have hnd := List.pairwise_append.1 (h.nd.perm hd)
  have hownW : ∀ b, blocks Wp b → C.NG ≤ b ∧ (blocks X.Wp b ∨ X.w0.heap.size ≤ b) := fun b ⟨e, he, hb⟩ => hb ▸ h.own e (hmem e he) (hw e he)
  have hsep : ∀ f ∈ S1, ¬ blocks Wp f.b := fun f hf ⟨e, he, hb⟩ => hnd.2.2 e he f hf (.inl (hw e he)) hb
  refine ⟨⟨hp.mu.os.trans h.mu.os, hp.mu.tape.trans h.mu.tape, hp.mu.out.trans h.mu.out, Nat.le_trans h.mu.size hp.mu.size, fun b hb hM => ?_⟩, ?_, ?_, ?_, ?_, Nat.le_trans h.size hp.mu.size⟩
  · rw [hp.mu.keep b (Nat.lt_of_lt_of_le hb h.mu.size) (fun q => ?_)]
    · exact h.mu.keep b hb hM
    · rcases (hownW b q).2 with r | r
      · exact hM r
      · omega
  · intro e he
    rcases List.mem_append.1 he with he | he
    · exact hp.holds e he
    · have hh := h.holds e (hmem1 e he)
      show w'.heap[e.b]? = _
      rw [hp.mu.keep e.b (h.holds.lt (hmem1 e he)) (hsep e he)]
      exact hh
  · refine List.pairwise_append.2 ⟨hp.nd, hnd.2.1, fun e he f hf _ => ?_⟩
    rcases (hp.wr e he).2.2 with q | q
    · exact fun r => hsep f hf (r ▸ q)
    · have := h.holds.lt (hmem1 f hf)
      omega
  · intro e he hwe
    rcases List.mem_append.1 he with he | he
    · obtain ⟨_, hn, q⟩ := hp.wr e he
      rcases q with q | q
      · exact hownW e.b q
      · exact ⟨hn, .inr (Nat.le_trans h.mu.size q)⟩
    · exact h.own e (hmem1 e he) hwe
  · intro e he
    exact (World.cell?_of_block (hp.mu.keep e.1.block (Nat.lt_of_lt_of_le (C.hGS e he) h.size) (fun q => by have := (hownW e.1.block q).1; have := C.hGS e he; omega))).trans (h.glob e he)
@[irreducible] def EffOK (C : Cx) (N : Nat) (X : Fx) (o : Oper) (L : Slots) (D : List Deferred) (S : Hp) (T : (Slots → List Deferred → Hp → Prop) → Prop) : Prop :=
  ∀ cont, T cont → ∀ a w (K : Act → World → Prop) (Q : Exit → Act → World → Prop), Knows N L a → a.defers = D → Inv C X S w →
    (∀ L' D' S', cont L' D' S' → ∀ a' w', Knows N L' a' → a'.defers = D' → Inv C X S' w' → K a' w') → o.wp C.P a w K Q
section
variable {C : Cx} {N : Nat} {X : Fx} {k : List Item} {ops : Array Oper} {rest : List Oper} {L : Slots} {D : List Deferred} {S : Hp} {o : Oper} {T : (Slots → List Deferred → Hp → Prop) → Prop}
theorem EffOK.mono {T' : (Slots → List Deferred → Hp → Prop) → Prop} (h : EffOK C N X o L D S T) (hT : ∀ cont, T' cont → T cont) : EffOK C N X o L D S T' := by
  unfold EffOK at *
  exact fun cont h' => h cont (hT cont h')
theorem J.eff (E : EffOK C N X o L D S T) (hg : o.guard = none) (h : T fun L' D' S' => J C N X k ops none rest L' D' S') : J C N X k ops none (o :: rest) L D S := by
  intro a w h1 h2 h3
  unfold EffOK at E
  exact wpList_plain hg fun K hK => E _ h a w K _ h1 h2 h3 fun L' D' S' hc a' w' k1 k2 k3 => hK _ _ (hc a' w' k1 k2 k3)
theorem J.effH {R : Hp} {m : Option Nat} (E : EffOK C N X o L D S T) (hg : o.guard = none) (he : isEff o.op = true)
    (h : T fun L' D' S' => (keeps m rest = true → SubH R S') ∧ J C N X k ops (some (R, m)) rest L' D' S') : J C N X k ops (some (R, m)) (o :: rest) L D S := by
  intro a w h1 h2 h3
  unfold EffOK at E
  simp only [wpS, he, if_true]
  rw [if_pos (by simp [Region.wanted, hg])]
  exact E _ h a w _ _ h1 h2 h3 fun L' D' S' hc a' w' k1 k2 k3 => ⟨fun hk => ⟨(hc.1 hk).holds k3.holds, k3.glob⟩, hc.2 a' w' k1 k2 k3⟩
theorem G.region {id : Nat} {l : List Oper} (h : J C N X k l.toArray none l L D S) : G C N X (.code (.region id l.toArray false) :: k) L D S :=
  fun a w h1 h2 h3 => Goes.of_wp (wp_region_lit (h a w h1 h2 h3))
theorem G.regionS {id : Nat} {l : List Oper} (σ : List Nat) (i0 m : Option Nat) (R : Hp)
    (hc : (Region.noSelect l.toArray && (σ.length == l.length) && chk l.toArray i0 m σ (Array.replicate l.length false)) = true) (hR : SubH R S) {l' : List Oper} (hl : σ.filterMap (l.toArray[·]?) = l')
    (h : J C N X k l.toArray (some (R, m)) l' L D S) : G C N X (.code (.region id l.toArray true) :: k) L D S := by
  intro a w h1 h2 h3
  subst hl
  exact Goes.of_wp (wp_region_S C.hm (fun c oi v a w q => q) σ i0 m hc ⟨hR.holds h3.drew.holds, h3.drew.glob⟩ (h a w.drew h1 h2 h3.drew))
def opvs (L : Slots) : List Operand → Option (List Value)
  | [] => some []
  | x :: r => match opv L x with
    | some v => (opvs L r).map (v :: ·)
    | none => none
theorem opvs_eval {a : Act} (h : Knows N L a) : ∀ {l : List Operand} {vs : List Value}, opvs L l = some vs → l.map a.eval = vs
  | [], vs, e => by simp [opvs] at e; subst e; rfl
  | x :: r, vs, e => by
    simp only [opvs] at e
    cases hx : opv L x with
    | none => simp [hx] at e
    | some v =>
      simp only [hx] at e
      cases hr : opvs L r with
      | none => simp [hr] at e
      | some us =>
        simp only [hr, Option.map_some, Option.some.injEq] at e
        subst e
        simp [h.eval hx, opvs_eval h hr]
class Fn1 (C : Cx) (g : FuncId) : Prop where
  h : ∃ fn, C.P.funcs[g]? = some fn ∧ (fn.name == "runtime.NumGoroutine") = false ∧ fn.body.isNone = false
theorem run_callFunc {g : FuncId} (hf : Fn1 C g) (args : Array Value) (w : World) : (callFunc g args).run C.P w = .ok (.enter g args) w := by
  obtain ⟨fn, h1, h2, h3⟩ := hf.h
  simp only [callFunc, Sem.run_bind, run_program, Result.andThen_ok, h1]
  simp [h2, h3]
theorem E.call {d : Nat} {g : FuncId} {args : List Operand} {ats : Array TypeId} {ty : TypeId} {p : String} {af : Array Edge} {vs : List Value} {Wp Rp S1 : Hp} {τ : Type} {val : τ → Value} {Wq : τ → Hp} {φ : τ → Prop}
    [hf : Fn1 C g] (hs : Spec C g vs.toArray Wp Rp val Wq φ) (hd : Nat.blt d N = true) (ha : opvs L args = some vs) (hdel : Dels Wp S S1) (hw : ∀ e ∈ Wp, e.wr = true) (hr : ∀ e ∈ Rp, e.wr = false) (hsub : SubH Rp S1) :
    EffOK C N X ⟨some d, .call { callee := .value (.func g), args := args.toArray, argTypes := ats }, ty, p, af, none⟩ L D S (fun cont => ∀ x, φ x → ∃ S', App (Wq x) S1 S' ∧ cont ((d, val x) :: L) D S') := by
  unfold EffOK; intro cont hT a w K Q h1 h2 h3 hK
  have he := opvs_eval h1 ha
  unfold Oper.wp
  simp only [execOp, resolve, Sem.run_bind, List.map_toArray, he, Act.eval, Deferred.ofValue, Sem.run_pure, Result.andThen_ok, invoke, run_callFunc hf, Oper.upon]
  simp only [Array.append_empty, Array.empty_append, List.append_toArray, List.nil_append]
  refine (hs w (h3.pre hdel hw hr hsub)).mono fun e w' ⟨x, hx, hev, hp⟩ => ?_
  subst hev
  obtain ⟨S', hS', hc⟩ := hT x hx
  exact hK _ _ _ hc _ _ (h1.put _ hd) (by simpa [Act.put] using h2) (h3.post hdel hw hp hS')
theorem E.invoke {d : Nat} {g : FuncId} {x0 : Operand} {nm : String} {args : List Operand} {ats : Array TypeId} {ty : TypeId} {p : String} {af : Array Edge} {vs : List Value} {t : TypeId} {u u' : Value} {Wp Rp S1 : Hp} {τ : Type} {val : τ → Value} {Wq : τ → Hp} {φ : τ → Prop}
    [hf : Fn1 C g] (hs : Spec C g (#[u'] ++ vs.toArray) Wp Rp val Wq φ) (hd : Nat.blt d N = true) (hx : opv L x0 = some (.iface t u)) (hm : ∀ w, (method (C.P.types.size + Made.depth) t u nm).run C.P w = .ok (g, u') w)
    (ha : opvs L args = some vs) (hdel : Dels Wp S S1) (hw : ∀ e ∈ Wp, e.wr = true) (hr : ∀ e ∈ Rp, e.wr = false) (hsub : SubH Rp S1) :
    EffOK C N X ⟨some d, .call { callee := .invoke x0 nm, args := args.toArray, argTypes := ats }, ty, p, af, none⟩ L D S (fun cont => ∀ x, φ x → ∃ S', App (Wq x) S1 S' ∧ cont ((d, val x) :: L) D S') := by
  unfold EffOK; intro cont hT a w K Q h1 h2 h3 hK
  have he := opvs_eval h1 ha
  unfold Oper.wp
  simp only [execOp, resolve, Sem.run_bind, List.map_toArray, he, h1.eval hx, Sem.run_pure, Result.andThen_ok, Go.invoke]
  have e0 : (#[(Value.iface t u)] ++ vs.toArray)[0]? = some (Value.iface t u) := by simp
  have e1 : (#[(Value.iface t u)] ++ vs.toArray).extract 1 (#[(Value.iface t u)] ++ vs.toArray).size = vs.toArray := by simp
  simp only [e0, e1, callMethod, Sem.run_bind, run_program, Result.andThen_ok, hm, run_callFunc hf, Oper.upon]
  refine (hs w (h3.pre hdel hw hr hsub)).mono fun e w' ⟨x, hx, hev, hp⟩ => ?_
  subst hev
  obtain ⟨S', hS', hc⟩ := hT x hx
  exact hK _ _ _ hc _ _ (h1.put _ hd) (by simpa [Act.put] using h2) (h3.post hdel hw hp hS')
theorem E.defer {g : FuncId} {args : List Operand} {ats : Array TypeId} {ty : TypeId} {p : String} {af : Array Edge} {vs : List Value} (ha : opvs L args = some vs) :
    EffOK C N X ⟨none, .defer { callee := .value (.func g), args := args.toArray, argTypes := ats }, ty, p, af, none⟩ L D S (fun cont => cont L ({ target := .fn (.func g) #[], args := vs.toArray } :: D) S) := by
  unfold EffOK; intro cont hT a w K Q h1 h2 h3 hK
  have he := opvs_eval h1 ha
  unfold Oper.wp
  simp only [execOp, resolve, Sem.run_bind, List.map_toArray, he, Act.eval, Deferred.ofValue, Sem.run_pure, Result.andThen_ok, Oper.upon, Array.empty_append, List.append_toArray, List.nil_append]
  exact hK _ _ _ hT _ _ ⟨h1.size, h1.get⟩ (by simp [Act.put, h2]) h3
end
def GL (C : Cx) (N : Nat) (fn : Func) (X : Fx) {τ : Type} (val : τ → Value) (Wq : τ → Hp) (φ : τ → Prop) (L : Slots) (D : List Deferred) (S : Hp) : Prop :=
  ∀ a w, Knows N L a → Inv C X S w → Leaves C.P fn a.tmps (fun e w' => ∃ x, φ x ∧ e = .returned (val x) ∧ Post C X.w0 w' X.Wp (Wq x)) D .returning w
def RetOK (C : Cx) (fn : Func) (X : Fx) {τ : Type} (val : τ → Value) (Wq : τ → Hp) (φ : τ → Prop) (D : List Deferred) : Prop :=
  ∀ a w, a.defers = D → Leaves C.P fn a.tmps (fun e w' => ∃ x, φ x ∧ e = .returned (val x) ∧ Post C X.w0 w' X.Wp (Wq x)) D .returning w → X.Q a w
section
variable {C : Cx} {N : Nat} {X : Fx} {fn : Func} {k : List Item} {L : Slots} {D : List Deferred} {S : Hp} {τ : Type} {val : τ → Value} {Wq : τ → Hp} {φ : τ → Prop}
theorem G.loopW {c : Code} {σ : Type} (Lf : σ → Slots) (Sf : σ → Hp) (μ : σ → Nat) (s : σ) (hL : SubSlots (Lf s) L) (l : List Nat) (hp : pick S l = some (Sf s)) (hn : l.Nodup)
    (h : ∀ s, (∀ s', μ s' < μ s → G C N X (.inLoop c :: k) (Lf s') D (Sf s')) → G C N X (.code c :: .inLoop c :: k) (Lf s) D (Sf s)) : G C N X (.code (.loop c) :: k) L D S :=
  G.weak hL l hp hn (G.loop Lf Sf μ s h)
theorem G.ret (hR : RetOK C fn X val Wq φ D) (h : GL C N fn X val Wq φ L D S) : G C N X (.code .ret :: k) L D S :=
  fun a w h1 h2 h3 => Goes.ret (hR a w h2 (h a w h1 h3))
theorem G.fall (hR : RetOK C fn X val Wq φ D) (h : GL C N fn X val Wq φ L D S) : G C N X [] L D S :=
  fun a w h1 h2 h3 => Goes.end_ (hR a w h2 (h a w h1 h3))
def resv (L : Slots) : List ResultVar → Option (List Value)
  | [] => some []
  | .tmp t :: r => match sget L t with
    | some v => (resv L r).map (v :: ·)
    | none => none
  | .cell _ _ :: _ => none
def tup (vs : List Value) : Value := match vs with
  | [v] => v
  | vs => .tuple vs.toArray
theorem run_results {a : Act} (h : Knows N L a) {rs : List ResultVar} {vs : List Value} (hf : fn.results = rs.toArray) (hv : resv L rs = some vs) (w : World) : (results fn a.tmps).run C.P w = .ok (tup vs) w := by
  have key : ∀ (f : ResultVar → Sem Value), (∀ t, f (.tmp t) = pure (a.tmps.getD t undef)) → ∀ (rs : List ResultVar) (vs : List Value), resv L rs = some vs →
      (List.mapM f rs).run C.P w = .ok vs w := by
    intro f hft
    intro rs
    induction rs with
    | nil => intro vs e; simp [resv] at e; subst e; simp
    | cons r rs ih =>
      intro vs e
      cases r with
      | cell x t => simp [resv] at e
      | tmp t =>
        simp only [resv] at e
        cases ht : sget L t with
        | none => simp [ht] at e
        | some v =>
          simp only [ht] at e
          cases hr : resv L rs with
          | none => simp [hr] at e
          | some us =>
            simp only [hr, Option.map_some, Option.some.injEq] at e
            subst e
            have hg : a.tmps.getD t undef = v := by simp [Array.getD_eq_getD_getElem?, h.get t v ht]
            simp only [List.mapM_cons, Sem.run_bind, hft, Sem.run_pure, Result.andThen_ok, hg, ih us hr]
  unfold results
  rw [hf]
  simp only [Sem.run_bind, List.mapM_toArray, Sem.run_map]
  rw [key _ (fun t => rfl) rs vs hv]
  simp only [Result.andThen_ok, Sem.run_pure]
  congr 1
  match vs with
  | [] => rfl
  | [v] => rfl
  | v :: u :: r => rfl
theorem GL.done (x : τ) {rs : List ResultVar} {vs : List Value} (hf : fn.results = rs.toArray) (hv : resv L rs = some vs) (hx : φ x) (hval : val x = tup vs) (l : List Nat) (hp : pick S l = some (Wq x)) (hn : l.Nodup) (hw : ∀ e ∈ Wq x, e.wr = true) :
    GL C N fn X val Wq φ L [] S := by
  intro a w h1 h3
  refine ⟨tup vs, run_results h1 hf hv w, x, hx, by rw [hval], ?_⟩
  have h4 := h3.pick hp hn
  exact ⟨h4.mu, h4.holds, h4.nd, fun e he => ⟨hw e he, (h4.own e he (hw e he)).1, (h4.own e he (hw e he)).2⟩⟩
theorem GL.deferred {g : FuncId} {vs : Array Value} {Wp Rp S1 : Hp} {τ' : Type} {Wq' : τ' → Hp} {φ' : τ' → Prop} [hf : Fn1 C g] (hs : SpecD C g vs Wp Rp Wq' φ') (hdel : Dels Wp S S1) (hw : ∀ e ∈ Wp, e.wr = true) (hr : ∀ e ∈ Rp, e.wr = false) (hsub : SubH Rp S1)
    (h : ∀ x, φ' x → ∃ S', App (Wq' x) S1 S' ∧ GL C N fn X val Wq φ L D S') : GL C N fn X val Wq φ L ({ target := .fn (.func g) #[], args := vs } :: D) S := by
  intro a w h1 h3
  refine ⟨by simp, .func g, #[], g, vs, rfl, by simp [invoke, run_callFunc hf], ?_⟩
  refine (hs w .returning (h3.pre hdel hw hr hsub)).mono fun e u' w' ⟨hu, x, hx, ⟨v, hv⟩, hp⟩ => ?_
  subst hv; subst hu
  obtain ⟨S', hS', hg⟩ := h x hx
  exact hg a w' h1 (h3.post hdel hw hp hS')
end
theorem knows_enter (N : Nat) (args : Array Value) (h : args.size ≤ N) (L : Slots) (hL : ∀ p ∈ L, args[p.1]? = some p.2) :
    Knows N L { tmps := args ++ Array.replicate (N - args.size) undef, defers := [] } := by
  refine ⟨by simp; omega, fun t v e => ?_⟩
  have := hL _ (sget_mem e)
  simp only at this
  have hlt : t < args.size := (Array.getElem?_eq_some_iff.1 this).1
  rw [Array.getElem?_append_left hlt]
  exact this
theorem goes_calls {P : Program} {f : FuncId} {fn : Func} {c : Code} {args : Array Value} {w : World} {R : Ending → World → Prop} (hf : P.funcs[f]? = some fn) (hb : fn.body = some c)
    (h : Goes P (fun a w => Leaves P fn a.tmps R a.defers .returning w) [.code c] { tmps := args ++ Array.replicate (fn.ntmps - args.size) undef, defers := [] } w) : Calls P f args w R := by
  intro cs
  let b : Frame := { (default : Frame) with fn := f, kind := .normal }
  have henter : Frame.enter P f args .normal = b.at { tmps := args ++ Array.replicate (fn.ntmps - args.size) undef, defers := [] } [.code c] := by
    simp [Frame.enter, Frame.at, hf, hb, b]
  obtain ⟨a', w', todo, hq, hst⟩ := h b cs
  rw [← henter] at hst
  obtain ⟨e', w'', fr', hR, hs, hfn, hl⟩ := leaves_steps a'.defers .returning w' { b.at a' todo with mode := .returning } cs rfl rfl rfl hf rfl hq
  exact ⟨e', w'', fr', hR, Comes.of_steps hst hs, hfn, hl⟩
theorem goes_callsD {P : Program} {f : FuncId} {fn : Func} {c : Code} {args : Array Value} {u : FrameMode} {w : World} {R : Value → World → Prop} (hf : P.funcs[f]? = some fn) (hb : fn.body = some c)
    (h : Goes P (fun a w => a.defers = [] ∧ ∃ v, (results fn a.tmps).run P w = .ok v w ∧ R v w) [.code c] { tmps := args ++ Array.replicate (fn.ntmps - args.size) undef, defers := [] } w) :
    CallsD P f args u w fun e u' w' => u' = u ∧ ∃ v, e = .returned v ∧ R v w' := by
  intro c₀ cs hu
  let b : Frame := { (default : Frame) with fn := f, kind := .deferred }
  have henter : Frame.enter P f args .deferred = b.at { tmps := args ++ Array.replicate (fn.ntmps - args.size) undef, defers := [] } [.code c] := by
    simp [Frame.enter, Frame.at, hf, hb, b]
  have hc : ({ c₀ with mode := u } : Frame) = c₀ := by subst hu; rfl
  obtain ⟨a', w', todo, ⟨hd, v, hr, hR⟩, hst⟩ := h b (c₀ :: cs)
  rw [← henter] at hst
  exact ⟨.returned v, u, w', _, ⟨rfl, v, rfl, hR⟩, (by rw [hc]; exact hst), rfl, rfl, hd, fn, hf, hr⟩
theorem Pre.inv {C : Cx} {Wp Rp : Hp} {w : World} (h : Pre C Wp Rp w) {X : Fx} (hw : X.w0 = w) (hX : X.Wp = Wp) : Inv C X (Wp ++ Rp) w := by
  subst hw; subst hX
  refine ⟨Mut.refl _ _, h.holds, h.nd, fun e he hwe => ?_, h.glob, h.size⟩
  rcases List.mem_append.1 he with he | he
  · exact ⟨(h.wr e he).2, .inl ⟨e, he, rfl⟩⟩
  · rw [h.rd e he] at hwe; cases hwe
theorem Spec.enter {C : Cx} {g : FuncId} {vs : Array Value} {Wp Rp : Hp} {τ : Type} {val : τ → Value} {Wq : τ → Hp} {φ : τ → Prop} {fn : Func} {c : Code} {N : Nat} (hf : C.P.funcs[g]? = some fn) (hb : fn.body = some c) (hN : fn.ntmps = N) (hn : vs.size ≤ N)
    (L : Slots) (hL : ∀ p ∈ L, vs[p.1]? = some p.2)
    (h : ∀ X : Fx, (∀ D, RetOK C fn X val Wq φ D) → G C N X [.code c] L [] (Wp ++ Rp)) : Spec C g vs Wp Rp val Wq φ := by
  intro w hp
  subst hN
  refine goes_calls hf hb ?_
  let X : Fx := { Q := fun a w' => Leaves C.P fn a.tmps (fun e w' => ∃ x, φ x ∧ e = .returned (val x) ∧ Post C w w' Wp (Wq x)) a.defers .returning w', w0 := w, Wp := Wp }
  exact h X (fun D a w' hD hl => by show Leaves _ _ _ _ a.defers _ _; rw [hD]; exact hl) _ w (knows_enter _ _ hn L hL) rfl (hp.inv (X := X) rfl rfl)
theorem SpecD.enter {C : Cx} {g : FuncId} {vs : Array Value} {Wp Rp : Hp} {τ : Type} {val : τ → Value} {Wq : τ → Hp} {φ : τ → Prop} {fn : Func} {c : Code} {N : Nat} (hf : C.P.funcs[g]? = some fn) (hb : fn.body = some c) (hN : fn.ntmps = N) (hn : vs.size ≤ N)
    (L : Slots) (hL : ∀ p ∈ L, vs[p.1]? = some p.2)
    (h : ∀ X : Fx, (RetOK C fn X val Wq φ []) → G C N X [.code c] L [] (Wp ++ Rp)) : SpecD C g vs Wp Rp Wq φ := by
  intro w u hp
  subst hN
  let X : Fx := { Q := fun a w' => a.defers = [] ∧ ∃ v, (results fn a.tmps).run C.P w' = .ok v w' ∧ ∃ x, φ x ∧ Post C w w' Wp (Wq x), w0 := w, Wp := Wp }
  have key := goes_callsD (u := u) (R := fun v w' => ∃ x, φ x ∧ Post C w w' Wp (Wq x)) hf hb
    (h X (fun a w' hD ⟨v, hr, x, hx, _, hp⟩ => ⟨hD, v, hr, x, hx, hp⟩) _ w (knows_enter _ _ hn L hL) rfl (hp.inv (X := X) rfl rfl))
  exact key.mono fun e u' w' ⟨hu, v, hv, x, hx, hp⟩ => ⟨hu, x, hx, ⟨v, hv⟩, hp⟩
end
section
class TyZ (C : Cx) (t : TypeId) (z : outParam Value) : Prop where
  h : ∃ i, C.P.info? t = some i ∧ i.zero = some z
theorem TyZ.of {C : Cx} {t : TypeId} {z : Value} (h : (C.P.info? t).bind (·.zero) = some z) : TyZ C t z := by
  cases hi : C.P.info? t with
  | none => simp [hi] at h
  | some i => simp [hi] at h; exact ⟨i, hi, h⟩
class TyW (C : Cx) (e : TypeId) (k : outParam IntKind) (bytes : outParam Nat) : Prop where
  u : C.P.underlying e = some (.int k)
  h : ∃ i, C.P.info? e = some i ∧ i.zero = some (.int k 0) ∧ i.size = 1 ∧ i.bytes = bytes
theorem TyW.of {C : Cx} {e : TypeId} {k : IntKind} {bytes : Nat} (hu : C.P.underlying e = some (.int k)) (h : (C.P.info? e).map (fun i => (i.zero, i.size, i.bytes)) = some (some (.int k 0), 1, bytes)) : TyW C e k bytes := by
  cases hi : C.P.info? e with
  | none => simp [hi] at h
  | some i =>
    simp [hi] at h
    exact ⟨hu, i, hi, h.1, h.2.1, h.2.2⟩
theorem TyF.of {C : Cx} {s : TypeId} {f off : Nat} {fs : Array Field} {fd : Field} (hu : C.P.underlying s = some (.struct fs)) (h1 : fs[f]? = some fd) (h2 : fd.offset = off)
    (h3 : ((C.P.info? fd.type).map fun i => decide (i.size ≠ 0)) = some true) : TyF C s f off := by
  cases hi : C.P.info? fd.type with
  | none => simp [hi] at h3
  | some i =>
    simp [hi] at h3
    exact ⟨fs, fd, i, hu, h1, h2, hi, h3⟩
def cells (k : IntKind) (xs : List Nat) : List Value := xs.map fun (n : Nat) => Value.int k n
theorem cells_len (k : IntKind) (xs : List Nat) : (cells k xs).length = xs.length := by simp [cells]
theorem cells_get {k : IntKind} {xs : List Nat} {i : Nat} (h : i < xs.length) : (cells k xs)[i]? = some (.int k (xs.getD i 0 : Nat)) := by
  simp [cells, h]
theorem cells_set (k : IntKind) (xs : List Nat) (i v : Nat) : (cells k xs).set i (.int k v) = cells k (xs.set i v) := by
  simp [cells, List.map_set]
theorem cells_one (k : IntKind) (xs : List Nat) : ∀ v ∈ cells k xs, v.oneCell' = true := by
  intro v hv
  simp only [cells, List.mem_map] at hv
  obtain ⟨n, _, rfl⟩ := hv
  rfl
theorem cells_app (k : IntKind) (xs ys : List Nat) : cells k (xs ++ ys) = cells k xs ++ cells k ys := by simp [cells]
theorem cells_take (k : IntKind) (xs : List Nat) (n : Nat) : cells k (xs.take n) = (cells k xs).take n := by simp [cells, List.map_take]
theorem cells_drop (k : IntKind) (xs : List Nat) (n : Nat) : cells k (xs.drop n) = (cells k xs).drop n := by simp [cells, List.map_drop]
theorem cells_rep (k : IntKind) (n v : Nat) : cells k (List.replicate n v) = List.replicate n (.int k v) := by simp [cells]
def splice {α : Type} (xs : List α) (o : Nat) (ys : List α) : List α := xs.take o ++ ys ++ xs.drop (o + ys.length)
theorem splice_len {α : Type} (xs : List α) (o : Nat) (ys : List α) (h : o + ys.length ≤ xs.length) : (splice xs o ys).length = xs.length := by
  simp [splice]; omega
theorem cells_splice (k : IntKind) (xs : List Nat) (o : Nat) (ys : List Nat) : cells k (splice xs o ys) = splice (cells k xs) o (cells k ys) := by
  simp [splice, cells_app, cells_take, cells_drop, cells_len]
section
variable {C : Cx} {N : Nat} {X : Fx} {k : List Item} {ops : Array Oper} {md : Option (Hp × Option Nat)} {rest : List Oper} {L : Slots} {D : List Deferred} {S : Hp}
  {d : Nat} {dst : Option Nat} {ty : TypeId} {p : String} {af : Array Edge} {t : TypeId} {x y : Operand}
def lput (L : Slots) (dst : Option Nat) (v : Value) : Slots := match dst with | some d => (d, v) :: L | none => L
theorem Knows.lput {a : Act} (h : Knows N L a) (v : Value) (hd : dst.all (fun d => Nat.blt d N) = true) : Knows N (lput L dst v) (a.put dst v) := by
  cases dst with
  | none => exact h
  | some d => exact h.put v (by simpa using hd)
theorem put_def (a : Act) (v : Value) : (a.put dst v).defers = a.defers := by cases dst <;> rfl
theorem run_setRow {w : World} {b o T : Nat} {cs vs : List Value} (hb : w.heap[b]? = some (.cells cs.toArray T (0, 0))) (hl : o + vs.length ≤ cs.length) (h1 : ∀ v ∈ vs, v.oneCell' = true) (P : Program) :
    (storeCells ⟨b, o, none⟩ vs).run P w = .ok () (w.setRow b (splice cs o vs).toArray) := by
  have := run_storeCells_at P b o T vs 0 cs.toArray w hb (by simpa using hl) h1
  simpa [splice] using this
theorem Inv.setRow {b T : Nat} {cs cs' : List Value} {S' : Hp} {w : World} (h : Inv C X S w) (hu : Upd1 b T cs cs' S S') : Inv C X S' (w.setRow b cs'.toArray) := by
  have hb : w.heap[b]? = some (.cells cs.toArray T (0, 0)) := by
    obtain ⟨pre, post, rfl, rfl⟩ := hu
    exact h.holds ⟨b, T, cs, true⟩ (by simp)
  exact h.write hu rfl rfl rfl (by simp) (setRow_heap w b _ _ T (0, 0) hb) (fun b' hb' => setRow_other w b b' _ hb')
theorem Upd1.mem {b T : Nat} {cs cs' : List Value} {S' : Hp} (hu : Upd1 b T cs cs' S S') : Mem b T cs S := by
  obtain ⟨pre, post, rfl, rfl⟩ := hu
  exact ⟨⟨b, T, cs, true⟩, by simp, rfl, rfl, rfl⟩
theorem cells_oneCell {v : Value} (h : v.oneCell' = true) : v.cells = #[v] := by cases v <;> first | rfl | (simp [Value.oneCell'] at h)
theorem splice_one {cs : List Value} {o : Nat} {v : Value} (h : o < cs.length) : splice cs o [v] = cs.set o v := by
  simp [splice, List.set_eq_take_append_cons_drop, h]
theorem E.store {b o T : Nat} {cs : List Value} {v : Value} {S' : Hp} {ds : TypeDesc} [ht : Ty C t ds 1] (hx : opv L x = some (.pointer (some ⟨b, o, none⟩))) (hy : opv L y = some v) (h1 : v.oneCell' = true) (ho : o < cs.length) (hu : Upd1 b T cs (cs.set o v) S S') :
    EffOK C N X ⟨none, .store t x y, ty, p, af, none⟩ L D S (fun cont => cont L D S') := by
  unfold EffOK; intro cont hT a w K Q k1 k2 k3 hK
  have hr := run_setRow (o := o) (vs := [v]) (hu.mem.ok k3.holds) (by simp; omega) (by simpa using h1) C.P
  rw [splice_one ho] at hr
  unfold Oper.wp
  simp only [execOp, k1.eval hx, k1.eval hy, Instr.storeAt, Instr.sureAddr, storeVar, Sem.run_bind, Sem.run_pure, Result.andThen_ok, cells_oneCell h1, ht.run_s]
  simp only [List.size_toArray, List.length_cons, List.length_nil, ne_eq, not_true_eq_false, if_false, hr, Result.andThen_ok, Oper.upon]
  exact hK _ _ _ hT _ _ k1 k2 (k3.setRow hu)
theorem E.storeC {b o T v : Nat} {kk : IntKind} {xs : List Nat} {S' : Hp} {ds : TypeDesc} [ht : Ty C t ds 1] (hx : opv L x = some (.pointer (some ⟨b, o, none⟩))) {v' : Int} (hy : opv L y = some (.int kk v')) [nv : NL v' v] (ho : o < xs.length) (hu : Upd1 b T (cells kk xs) (cells kk (xs.set o v)) S S') :
    EffOK C N X ⟨none, .store t x y, ty, p, af, none⟩ L D S (fun cont => cont L D S') := by
  obtain rfl := nv.h
  exact E.store (cs := cells kk xs) hx hy rfl (by rw [cells_len]; exact ho) (by rw [cells_set]; exact hu)
theorem E.storeA {b o T n : Nat} {cs vs : List Value} {S' : Hp} {ds : TypeDesc} [ht : Ty C t ds n] (hx : opv L x = some (.pointer (some ⟨b, o, none⟩))) (hy : opv L y = some (.agg vs.toArray)) (hn : vs.length = n) (h1 : ∀ v ∈ vs, v.oneCell' = true) (ho : o + n ≤ cs.length) {cs' : List Value} (hcs : splice cs o vs = cs') (hu : Upd1 b T cs cs' S S') :
    EffOK C N X ⟨none, .store t x y, ty, p, af, none⟩ L D S (fun cont => cont L D S') := by
  unfold EffOK; intro cont hT a w K Q k1 k2 k3 hK
  subst hcs
  have hr := run_setRow (o := o) (vs := vs) (hu.mem.ok k3.holds) (by rw [hn]; exact ho) h1 C.P
  unfold Oper.wp
  simp only [execOp, k1.eval hx, k1.eval hy, Instr.storeAt, Instr.sureAddr, storeVar, Sem.run_bind, Sem.run_pure, Result.andThen_ok, Value.cells, ht.run_s]
  simp only [List.size_toArray, hn, ne_eq, not_true_eq_false, if_false, hr, Result.andThen_ok, Oper.upon]
  exact hK _ _ _ hT _ _ k1 k2 (k3.setRow hu)
theorem Inv.alloc {T : Nat} {cs : List Value} {w : World} (h : Inv C X S w) : Inv C X (⟨w.heap.size, T, cs, true⟩ :: S) (w.alloc (.cells cs.toArray T)) := h.new rfl rfl rfl rfl
theorem E.alloc {z : Value} [hz : TyZ C t z] (hd : Nat.blt d N = true) : EffOK C N X ⟨some d, .alloc t, ty, p, af, none⟩ L D S (fun cont => ∀ g, cont ((d, .pointer (some ⟨g, 0, none⟩)) :: L) D (⟨g, t, z.cells.toList, true⟩ :: S)) := by
  unfold EffOK; intro cont hT a w K Q k1 k2 k3 hK
  obtain ⟨i, h1, h2⟩ := hz.h
  unfold Oper.wp
  simp only [execOp, Instr.alloc, zeroValue, typeInfo, Sem.run_bind, run_program, Result.andThen_ok, h1, h2, Sem.run_pure, newVar, newRow, run_newObj, Oper.upon]
  exact hK _ _ _ (hT w.heap.size) _ _ (k1.put _ hd) (by simpa [Act.put] using k2) (by simpa using k3.alloc (T := t) (cs := z.cells.toList))
theorem E.box {v : Value} (hd : Nat.blt d N = true) (hx : opv L x = some v) : EffOK C N X ⟨some d, .box t x, ty, p, af, none⟩ L D S (fun cont => ∀ g, cont ((d, .pointer (some ⟨g, 0, none⟩)) :: L) D (⟨g, t, v.cells.toList, true⟩ :: S)) := by
  unfold EffOK; intro cont hT a w K Q k1 k2 k3 hK
  unfold Oper.wp
  simp only [execOp, k1.eval hx, Instr.box, Sem.run_bind, run_program, Result.andThen_ok, Sem.run_pure, newVar, newRow, run_newObj, Oper.upon]
  exact hK _ _ _ (hT w.heap.size) _ _ (k1.put _ hd) (by simpa [Act.put] using k2) (by simpa using k3.alloc (T := t) (cs := v.cells.toList))
theorem E.slice0 {e m by_ : Nat} {kk : IntKind} [ht : Ty C t (.slice e) m] [hw : TyW C e kk by_] (hd : Nat.blt d N = true) :
    EffOK C N X ⟨some d, .buildSlice t 0 #[], ty, p, af, none⟩ L D S (fun cont => ∀ g, cont ((d, .slice (some ⟨g, 0, none⟩) 0 0) :: L) D (⟨g, e, cells kk [], true⟩ :: S)) := by
  unfold EffOK; intro cont hT a w K Q k1 k2 k3 hK
  obtain ⟨i, h1, h2, h3, h4⟩ := hw.h
  unfold Oper.wp
  simp [execOp, Instr.buildSlice, ht.run_u, sizeOf, typeInfo, h1, h2, h3, Instr.fill, newRow, Oper.upon, Array.range_zero']
  exact hK _ _ _ (hT w.heap.size) _ _ (k1.put _ hd) (by simpa [Act.put] using k2) (by simpa [cells] using k3.alloc (T := e) (cs := cells kk []))
theorem E.slice1 {e m by_ v : Nat} {kk : IntKind} [ht : Ty C t (.slice e) m] [hw : TyW C e kk by_] (hd : Nat.blt d N = true) {v' : Int} (hx : opv L x = some (.int kk v')) [nv : NL v' v] :
    EffOK C N X ⟨some d, .buildSlice t 1 #[(0, x)], ty, p, af, none⟩ L D S (fun cont => ∀ g, cont ((d, .slice (some ⟨g, 0, none⟩) 1 1) :: L) D (⟨g, e, cells kk [v], true⟩ :: S)) := by
  obtain rfl := nv.h
  unfold EffOK; intro cont hT a w K Q k1 k2 k3 hK
  obtain ⟨i, h1, h2, h3, h4⟩ := hw.h
  unfold Oper.wp
  simp [execOp, Instr.buildSlice, ht.run_u, sizeOf, typeInfo, zeroValue, h1, h2, h3, Instr.fill, newRow, Oper.upon, k1.eval hx, Value.cells, Array.range_succ, Array.range_zero']
  exact hK _ _ _ (hT w.heap.size) _ _ (k1.put _ hd) (by simpa [Act.put] using k2) (by simpa [cells] using k3.alloc (T := e) (cs := cells kk [v]))
theorem make_cells (n : Nat) (z : Value) : ((Array.range n).map (fun i => #[z][i % #[z].size]!)) = (List.replicate n z).toArray := by
  apply Array.ext
  · simp
  · intro i h1 h2
    simp [Nat.mod_one]
theorem E.make {e m by_ l c : Nat} {kk kl kc : IntKind} [ht : Ty C t (.slice e) m] [hw : TyW C e kk by_] (hd : Nat.blt d N = true) {l' : Int} (hx : opv L x = some (.int kl l')) [nl : NL l' l] {c' : Int} (hy : opv L y = some (.int kc c')) [nc : NL c' c] (hlc : l ≤ c) (hb : by_ * c ≤ 140737488355328) (hc : c < 9223372036854775808) :
    EffOK C N X ⟨some d, .makeSlice t x y, ty, p, af, none⟩ L D S (fun cont => ∀ g, cont ((d, .slice (some ⟨g, 0, none⟩) l c) :: L) D (⟨g, e, cells kk (List.replicate c 0), true⟩ :: S)) := by
  obtain rfl := nl.h
  obtain rfl := nc.h
  unfold EffOK; intro cont hT a w K Q k1 k2 k3 hK
  obtain ⟨i, h1, h2, h3, h4⟩ := hw.h
  have w1 : IntKind.i64.wrap (l : Int) = l := wrap_i64_nat (by omega)
  have w2 : IntKind.i64.wrap (c : Int) = c := wrap_i64_nat hc
  have e1 : ¬ ((c : Int) < 0) := by omega
  have e2 : ¬ (281474976710656 < (by_ : Int) * (c : Int)) := by
    have : ((by_ : Int) * (c : Int)) = ((by_ * c : Nat) : Int) := by simp
    rw [this]; omega
  have e3 : ¬ ((l : Int) < 0) := by omega
  have e4 : ¬ (c < l) := by omega
  unfold Oper.wp
  simp only [execOp, Instr.makeSlice, k1.eval hx, k1.eval hy, ht.run_u, Sem.run_bind, Result.andThen_ok, asInt, asIntOf, Sem.run_pure, typeInfo, run_program, h1, h4, w1, w2]
  simp only [sizeOf, typeInfo, Sem.run_bind, run_program, Result.andThen_ok, h1, Sem.run_pure, h3, Nat.mul_one, Int.toNat_natCast, gt_iff_lt, Int.ofNat_lt, e4, decide_false, Bool.or_false]
  rw [if_neg (by
    simp only [Bool.or_eq_true, decide_eq_true_eq]
    have : ((by_ : Int) * (c : Int)) = ((by_ * c : Nat) : Int) := by simp
    rw [this]
    omega)]
  simp only [Sem.run_bind, run_askRoom, Result.andThen_ok, sizeOf, typeInfo, run_program, h1, Sem.run_pure, h3, Nat.mul_one]
  have hfin : ∀ zc : Array Value, (c ≠ 0 → zc = #[Value.int kk 0]) → ((Array.range c).map (fun i => zc[i % zc.size]!)) = (cells kk (List.replicate c 0)).toArray := by
    intro zc hzc
    rw [cells_rep]
    by_cases h0 : c = 0
    · subst h0; simp
    · rw [hzc h0]; exact make_cells c _
  by_cases h0 : c = 0
  · simp only [h0, if_true, Sem.run_pure, Result.andThen_ok, newRow, Sem.run_bind, run_newObj, Oper.upon]
    have hl0 : l = 0 := by omega
    have := hfin #[] (fun h => absurd h0 h)
    rw [h0] at this
    rw [this]
    subst h0
    exact hK _ _ _ (hT w.heap.size) _ _ (k1.put _ hd) (by simpa [Act.put] using k2) (by simpa using k3.alloc (T := e) (cs := cells kk (List.replicate 0 0)))
  · simp only [h0, if_false, zeroValue, typeInfo, Sem.run_bind, run_program, Result.andThen_ok, h1, h2, Sem.run_pure, newRow, run_newObj, Oper.upon, Value.cells]
    rw [hfin #[Value.int kk 0] (fun _ => rfl)]
    exact hK _ _ _ (hT w.heap.size) _ _ (k1.put _ hd) (by simpa [Act.put] using k2) (by simpa using k3.alloc (T := e) (cs := cells kk (List.replicate c 0)))
theorem zero_cells (kk : IntKind) (n : Nat) : Builtin.zeroCells #[Value.int kk 0] n = (cells kk (List.replicate n 0)).toArray := by
  rw [cells_rep]
  apply Array.ext
  · simp [Builtin.zeroCells]
  · intro i h1 h2
    simp [Builtin.zeroCells, Nat.mod_one]
theorem Inv.drewAlloc {T : Nat} {cs : List Value} {w : World} (h : Inv C X S w) : Inv C X (⟨w.heap.size, T, cs, true⟩ :: S) (w.drew.alloc (.cells cs.toArray T)) := h.drew.alloc
theorem Inv.del {e : Ent} {S' : Hp} {w : World} (h : Inv C X S w) (hd : Del e S S') : Inv C X S' w := by
  have hm : ∀ f, f ∈ S' → f ∈ S := fun f hf => hd.symm.subset (by simp [hf])
  exact ⟨h.mu, fun f hf => h.holds f (hm f hf), (List.pairwise_cons.1 (h.nd.perm hd)).2, fun f hf => h.own f (hm f hf), h.glob, h.size⟩
theorem Inv.swap {b T : Nat} {cs cs' : List Value} {S' : Hp} {w : World} (h : Inv C X S w) (hd : Del ⟨b, T, cs, true⟩ S S') : Inv C X (⟨b, T, cs', true⟩ :: S') (w.setRow b cs'.toArray) := by
  have h1 : Inv C X (⟨b, T, cs, true⟩ :: S') w := ⟨h.mu, fun f hf => h.holds f (hd.symm.subset hf), h.nd.perm hd, fun f hf => h.own f (hd.symm.subset hf), h.glob, h.size⟩
  exact h1.setRow Upd1.h
theorem E.append1 {e m by_ v n cap b b2 : Nat} {kk : IntKind} {xs : List Nat} {S' : Hp} [ht : Ty C t (.slice e) m] [hw : TyW C e kk by_] (hd : Nat.blt d N = true)
    (hx : opv L x = some (.slice (some ⟨b, 0, none⟩) n cap)) (hy : opv L y = some (.slice (some ⟨b2, 0, none⟩) 1 1)) (hdel : Del ⟨b, e, cells kk xs, true⟩ S S') (hm2 : Mem b2 e (cells kk [v]) S)
    (hlen : xs.length = cap) (hn : n ≤ cap) (hby : (n + 1) * by_ ≤ 140737488355328) (h63 : n + 1 < 9223372036854775808) (hcap : cap < 9223372036854775808) :
    EffOK C N X ⟨some d, .call { callee := .builtin .append, args := #[x, y], argTypes := #[t, t] }, ty, p, af, none⟩ L D S
      (fun cont => ∀ g cap' xs', xs'.length = cap' → xs'.take (n + 1) = xs.take n ++ [v] → n + 1 ≤ cap' → cap' < 9223372036854775808 → cont ((d, .slice (some ⟨g, 0, none⟩) (n + 1) cap') :: L) D (⟨g, e, cells kk xs', true⟩ :: S')) := by
  unfold EffOK; intro cont hT a w K Q k1 k2 k3 hK
  obtain ⟨i, h1, h2, h3, h4⟩ := hw.h
  have hb : w.heap[b]? = some (.cells (cells kk xs).toArray e (0, 0)) := k3.holds _ (hdel.symm.subset List.mem_cons_self)
  have hb2 := hm2.ok k3.holds
  have hnews : ∀ j u, [Value.int kk v][j]? = some u → w.cell? ((⟨b2, 0, none⟩ : Addr).add j) = some u := by
    intro j u hu
    have : j = 0 := by
      rcases Nat.eq_zero_or_pos j with h | h
      · exact h
      · rw [List.getElem?_eq_none (by simp; omega)] at hu; cases hu
    subst this
    simp at hu; subst hu
    simp [World.cell?, hb2, cells, Addr.add_lit]
  unfold Oper.wp
  simp only [execOp, resolve, Go.invoke, builtin, Sem.run_bind, Sem.run_pure, Result.andThen_ok, List.map_toArray, List.map_cons, List.map_nil, k1.eval hx, k1.eval hy]
  by_cases hroom : n + 1 ≤ cap
  · have hr := run_append_room (P := C.P) w t ty e i ht.u h1 b n cap (cells kk xs).toArray hb ⟨b2, 0, none⟩ 1 1 [.int kk v] (by simp [h3]) hnews (by simp [Value.oneCell']) hroom (by simp [h3, cells_len]; omega)
    rw [hr]
    simp only [Result.andThen_ok, Oper.upon]
    have heq : (((cells kk xs).toArray.toList.take (n * i.size) ++ [Value.int kk v] ++ (cells kk xs).toArray.toList.drop (n * i.size + [Value.int kk v].length))) = cells kk (xs.take n ++ [v] ++ xs.drop (n + 1)) := by
      simp [h3, cells, List.map_take, List.map_drop]
    rw [heq]
    refine hK _ _ _ (hT b cap (xs.take n ++ [v] ++ xs.drop (n + 1)) (by simp; omega) ?_ hroom (by omega)) _ _ (k1.put _ hd) (by simpa [Act.put] using k2) (k3.swap hdel)
    rw [List.take_append_of_le_length (by simp; omega), List.take_of_length_le (by simp; omega)]
  · have hnc : n = cap := by omega
    have holds : ∀ j u, (cells kk (xs.take n))[j]? = some u → w.cell? ((⟨b, 0, none⟩ : Addr).add j) = some u := by
      intro j u hu
      rw [cells_take, List.getElem?_take] at hu
      split at hu
      · simpa [World.cell?, hb, Addr.add_lit] using hu
      · cases hu
    have hr := run_append_grow (P := C.P) w t ty e i (.int kk 0) ht.u h1 h2 ⟨b, 0, none⟩ n cap (cells kk (xs.take n)) (by simp [h3, cells_len]; omega) holds ⟨b2, 0, none⟩ 1 1 [.int kk v] (by simp [h3]) hnews (by omega) (by omega) (by rw [h4]; exact growslice_fits (by omega) hby)
    rw [hr]
    simp only [Result.andThen_ok, Oper.upon, Value.cells, zero_cells]
    have hge := grownCap_ge w (n + 1) cap e
    have hle := grownCap_le_maxLen w (n + 1) cap e (by simp only [maxLen]; omega)
    have heq : (cells kk (xs.take n)).toArray ++ [Value.int kk v].toArray ++ (cells kk (List.replicate (grownCap w (n + 1) cap e - (n + 1)) 0)).toArray = (cells kk (xs.take n ++ [v] ++ List.replicate (grownCap w (n + 1) cap e - (n + 1)) 0)).toArray := by
      simp [cells]
    rw [heq]
    refine hK _ _ _ (hT w.heap.size (grownCap w (n + 1) cap e) (xs.take n ++ [v] ++ List.replicate (grownCap w (n + 1) cap e - (n + 1)) 0) (by simp; omega) ?_ hge (by simp only [maxLen] at hle; omega)) _ _ (k1.put _ hd) (by simpa [Act.put] using k2) ((k3.del hdel).drewAlloc)
    rw [List.take_append_of_le_length (by simp; omega), List.take_of_length_le (by simp; omega)]
theorem E.append1nil {e m by_ v b2 : Nat} {kk : IntKind} [ht : Ty C t (.slice e) m] [hw : TyW C e kk by_] (hd : Nat.blt d N = true)
    (hx : opv L x = some (.slice none 0 0)) (hy : opv L y = some (.slice (some ⟨b2, 0, none⟩) 1 1)) (hm2 : Mem b2 e (cells kk [v]) S) (hby : by_ ≤ 140737488355328) :
    EffOK C N X ⟨some d, .call { callee := .builtin .append, args := #[x, y], argTypes := #[t, t] }, ty, p, af, none⟩ L D S
      (fun cont => ∀ g cap' xs', xs'.length = cap' → xs'.take 1 = [v] → 1 ≤ cap' → cap' < 9223372036854775808 → cont ((d, .slice (some ⟨g, 0, none⟩) 1 cap') :: L) D (⟨g, e, cells kk xs', true⟩ :: S)) := by
  unfold EffOK; intro cont hT a w K Q k1 k2 k3 hK
  obtain ⟨i, h1, h2, h3, h4⟩ := hw.h
  have hb2 := hm2.ok k3.holds
  have hnews : ∀ j u, [Value.int kk v][j]? = some u → w.cell? ((⟨b2, 0, none⟩ : Addr).add j) = some u := by
    intro j u hu
    have : j = 0 := by
      rcases Nat.eq_zero_or_pos j with h | h
      · exact h
      · rw [List.getElem?_eq_none (by simp; omega)] at hu; cases hu
    subst this
    simp at hu; subst hu
    simp [World.cell?, hb2, cells, Addr.add_lit]
  unfold Oper.wp
  simp only [execOp, resolve, Go.invoke, builtin, Sem.run_bind, Sem.run_pure, Result.andThen_ok, List.map_toArray, List.map_cons, List.map_nil, k1.eval hx, k1.eval hy]
  have hr := run_append_nil (P := C.P) w t ty e i (.int kk 0) ht.u h1 h2 ⟨b2, 0, none⟩ 1 1 [.int kk v] (by simp [h3]) hnews (by omega) (by omega) (by rw [h4]; omega)
  rw [hr]
  simp only [Result.andThen_ok, Oper.upon, Value.cells, zero_cells]
  have hge := grownCap_ge w 1 0 e
  have hle := grownCap_le_maxLen w 1 0 e (by simp only [maxLen]; omega)
  have heq : [Value.int kk v].toArray ++ (cells kk (List.replicate (grownCap w 1 0 e - 1) 0)).toArray = (cells kk ([v] ++ List.replicate (grownCap w 1 0 e - 1) 0)).toArray := by
    simp [cells]
  rw [heq]
  exact hK _ _ _ (hT w.heap.size (grownCap w 1 0 e) ([v] ++ List.replicate (grownCap w 1 0 e - 1) 0) (by simp; omega) (by simp) hge (by simp only [maxLen] at hle; omega)) _ _ (k1.put _ hd) (by simpa [Act.put] using k2) (k3.drewAlloc)
theorem E.copy {e e' m by_ b o n c b2 o2 n2 c2 T2 q : Nat} {kk : IntKind} {xs ys : List Nat} {S' : Hp} {t2 : TypeId} [ht : Ty C t (.slice e) m] [hw : TyW C e kk by_] (hd : dst.all (fun d => Nat.blt d N) = true)
    (hx : opv L x = some (.slice (some ⟨b, o, none⟩) n c)) (hy : opv L y = some (.slice (some ⟨b2, o2, none⟩) n2 c2)) (hm2 : Mem b2 T2 (cells kk ys) S) (hq : Nat.min n2 n = q) (h2 : o2 + q ≤ ys.length) (h1 : o + q ≤ xs.length)
    (hu : Upd1 b e' (cells kk xs) (cells kk (splice xs o ((ys.drop o2).take q))) S S') :
    EffOK C N X ⟨dst, .call { callee := .builtin .copy, args := #[x, y], argTypes := #[t, t2] }, ty, p, af, none⟩ L D S (fun cont => cont (lput L dst (.int .i64 q)) D S') := by
  unfold EffOK; intro cont hT a w K Q k1 k2 k3 hK
  subst hq
  obtain ⟨i, g1, g2, g3, g4⟩ := hw.h
  have hb := hu.mem.ok k3.holds
  have hb2 := hm2.ok k3.holds
  have hql : (cells kk ((ys.drop o2).take (Nat.min n2 n))).length = Nat.min n2 n := by rw [cells_len, List.length_take, List.length_drop]; exact Nat.min_eq_left (by omega)
  have hr := run_copy_row C.P w t t2 ty e b o n c ⟨b2, o2, none⟩ n2 c2 (cells kk xs).toArray e' (cells kk ((ys.drop o2).take (Nat.min n2 n))) ht.u (by simp [g1, g3]) hb hql
    (fun j v hj => by
      rw [cells_take, cells_drop, List.getElem?_take] at hj
      split at hj
      · simpa [World.cell?, hb2, Addr.add_lit] using hj
      · cases hj) (by rw [hql]; simp [cells_len]; exact h1) (cells_one _ _)
  unfold Oper.wp
  simp only [execOp, resolve, Go.invoke, builtin, Sem.run_bind, Sem.run_pure, Result.andThen_ok, List.map_toArray, List.map_cons, List.map_nil, k1.eval hx, k1.eval hy, hr, Oper.upon]
  rw [cells_splice] at hu
  refine hK _ _ _ hT _ _ ?_ (by rw [put_def]; exact k2) (k3.setRow (cs' := splice (cells kk xs) o (cells kk ((ys.drop o2).take (Nat.min n2 n)))) hu)
  have := k1.lput (.int .i64 ((Nat.min n2 n : Nat) : Int)) hd
  rw [hql]
  exact this
theorem E.clear {e e' m by_ b o n c : Nat} {kk : IntKind} {xs : List Nat} {S' : Hp} [ht : Ty C t (.slice e) m] [hw : TyW C e kk by_] (hd : dst.all (fun d => Nat.blt d N) = true)
    (hx : opv L x = some (.slice (some ⟨b, o, none⟩) n c)) (h1 : o + n ≤ xs.length) (hu : Upd1 b e' (cells kk xs) (cells kk (splice xs o (List.replicate n 0))) S S') :
    EffOK C N X ⟨dst, .call { callee := .builtin .clear, args := #[x], argTypes := #[t] }, ty, p, af, none⟩ L D S (fun cont => cont (lput L dst (.tuple #[])) D S') := by
  unfold EffOK; intro cont hT a w K Q k1 k2 k3 hK
  obtain ⟨i, g1, g2, g3, g4⟩ := hw.h
  have hb := hu.mem.ok k3.holds
  have hfin : (Builtin.clear_ #[t] ty #[.slice (some ⟨b, o, none⟩) n c]).run C.P w = .ok (.tuple #[]) (w.setRow b (splice (cells kk xs) o (cells kk (List.replicate n 0))).toArray) := by
    by_cases h0 : n = 0
    · subst h0
      have : splice (cells kk xs) o (cells kk (List.replicate 0 0)) = cells kk xs := by simp [splice, cells]
      rw [this, setRow_self w b _ e' (0, 0) hb]
      simp [Builtin.clear_, ht.run_u]
    · have hr := run_setRow (o := o) (vs := cells kk (List.replicate n 0)) hb (by simp [cells_len]; exact h1) (cells_one _ _) C.P
      obtain ⟨n', rfl⟩ : ∃ n', n = n' + 1 := ⟨n - 1, by omega⟩
      simp only [Builtin.clear_, List.getElem?_toArray, List.getElem?_cons_zero, Sem.run_bind, ht.run_u, Result.andThen_ok, zeroValue, typeInfo, run_program, g1, g2, Sem.run_pure, Value.cells, zero_cells, hr]
  unfold Oper.wp
  simp only [execOp, resolve, Go.invoke, builtin, Sem.run_bind, Sem.run_pure, Result.andThen_ok, List.map_toArray, List.map_cons, List.map_nil, k1.eval hx, hfin, Oper.upon]
  rw [cells_splice] at hu
  exact hK _ _ _ hT _ _ (k1.lput _ hd) (by rw [put_def]; exact k2) (k3.setRow hu)
theorem J.loadC {ds : TypeDesc} {n b o T : Nat} {kk : IntKind} {xs : List Nat} [ht : Ty C t ds n] (hd : Nat.blt d N = true) (hp : TypeDesc.plain ds = true)
    (hx : opv L x = some (.pointer (some ⟨b, o, none⟩))) (hm : Mem b T (cells kk xs) (vheap md (⟨some d, .load t x, ty, p, af, none⟩ :: rest) S)) (ho : o < xs.length)
    (h : J C N X k ops md rest ((d, .int kk ((xs.getD o 0 : Nat) : Int)) :: L) D S) : J C N X k ops md (⟨some d, .load t x, ty, p, af, none⟩ :: rest) L D S :=
  J.load hd hp hx hm (cells_get ho) h
theorem G.sep {e f : Ent} (i j : Nat) (hi : S[i]? = some e) (hj : S[j]? = some f) (hij : i ≠ j) (hw : e.wr = true ∨ f.wr = true) (h : e.b ≠ f.b → G C N X k L D S) : G C N X k L D S := by
  intro a w h1 h2 h3
  have hp := List.pairwise_iff_getElem.1 h3.nd
  have hi' : i < S.length := (List.getElem?_eq_some_iff.1 hi).1
  have hj' : j < S.length := (List.getElem?_eq_some_iff.1 hj).1
  have hie : S[i] = e := (List.getElem?_eq_some_iff.1 hi).2
  have hje : S[j] = f := (List.getElem?_eq_some_iff.1 hj).2
  refine h ?_ a w h1 h2 h3
  rcases Nat.lt_or_gt_of_ne hij with q | q
  · have := hp i j hi' hj' q; rw [hie, hje] at this; exact this hw
  · have := hp j i hj' hi' q; rw [hie, hje] at this; exact fun r => this hw.symm r.symm
theorem J.ptrSame {te : TypeId} {n n' : Nat} {de : TypeDesc} {b o o' T : Nat} {cs : List Value} {t' : TypeId} [ht : Ty C t (.pointer te) n] [he : Ty C te de (n' + 1)] (hd : Nat.blt d N = true)
    (hx : opv L x = some (.pointer (some ⟨b, o, none⟩))) (hy : opv L y = some (.pointer (some ⟨b, o', none⟩))) (hm : Mem b T cs (vheap md (⟨some d, .binOp .eql t x y t', ty, p, af, none⟩ :: rest) S))
    (h : J C N X k ops md rest ((d, .bool (decide (o = o'))) :: L) D S) : J C N X k ops md (⟨some d, .binOp .eql t x y t', ty, p, af, none⟩ :: rest) L D S := by
  have hs := he.s
  cases hi : C.P.info? te with
  | none => simp [hi] at hs
  | some i =>
    simp [hi] at hs
    refine J.val hd rfl (fun ρ w hρ hS _ _ _ _ _ _ => ?_) h
    simp only [execOp, hρ _ _ hx, hρ _ _ hy, eqGuard_at_pointer, Sem.run_bind, Sem.run_pure, Result.andThen_ok]
    by_cases ho : o = o'
    · subst ho
      simp [run_eql_ptr_same w _ ht.u hi]
    · have hb := hm.ok hS
      rw [run_eql_ptr_other w ht.u hi (by omega) (fun e => ho (by injection e)) hb hb]
      simp [ho]
theorem J.ptrOther {te : TypeId} {n n' : Nat} {de : TypeDesc} {b o b' o' T T' : Nat} {cs cs' : List Value} {t' : TypeId} [ht : Ty C t (.pointer te) n] [he : Ty C te de (n' + 1)] (hd : Nat.blt d N = true)
    (hx : opv L x = some (.pointer (some ⟨b, o, none⟩))) (hy : opv L y = some (.pointer (some ⟨b', o', none⟩))) (hne : b ≠ b') (hm : Mem b T cs (vheap md (⟨some d, .binOp .eql t x y t', ty, p, af, none⟩ :: rest) S)) (hm' : Mem b' T' cs' (vheap md (⟨some d, .binOp .eql t x y t', ty, p, af, none⟩ :: rest) S))
    (h : J C N X k ops md rest ((d, .bool false) :: L) D S) : J C N X k ops md (⟨some d, .binOp .eql t x y t', ty, p, af, none⟩ :: rest) L D S := by
  have hs := he.s
  cases hi : C.P.info? te with
  | none => simp [hi] at hs
  | some i =>
    simp [hi] at hs
    refine J.val hd rfl (fun ρ w hρ hS _ _ _ _ _ _ => ?_) h
    simp only [execOp, hρ _ _ hx, hρ _ _ hy, eqGuard_at_pointer, Sem.run_bind, Sem.run_pure, Result.andThen_ok]
    rw [run_eql_ptr_other w ht.u hi (by omega) (fun e => hne (by injection e)) (hm.ok hS) (hm'.ok hS)]
    rfl
end
end
section
set_option maxRecDepth 100000
def gs (E : Addr) : List (Addr × Value) :=
  [((⟨1, 0, none⟩ : Addr), .iface 275 (.pointer (some E))), (⟨5, 0, none⟩, .int .i64 40), (⟨8, 0, none⟩, .int .i64 12), (⟨9, 0, none⟩, .int .i64 80), (⟨11, 0, none⟩, .int .i64 40)] ++
  (List.range 28).map fun i => (⟨12, i, none⟩, .int .u64 ((5 ^ i : Nat) : Int))
theorem gs_lt (E : Addr) : ∀ e ∈ gs E, e.1.block < 16 := by
  intro e he
  simp only [gs, List.mem_append, List.mem_cons, List.mem_nil_iff, or_false, List.mem_map] at he
  rcases he with (rfl | rfl | rfl | rfl | rfl) | ⟨i, _, rfl⟩ <;> simp
theorem follows_mixed : Tryz.prog.follows .mixedOrders = true := by kernel_rfl
noncomputable def cx (E : Addr) : Cx := { P := Tryz.prog, GS := gs E, NG := 16, hGS := gs_lt E, hm := follows_mixed }
instance (E : Addr) : Ty (cx E) 2 (Go.TypeDesc.int Go.IntKind.i64) 1 := ⟨Tryz.underlying2, by kernel_rfl⟩
instance (E : Addr) : Ty (cx E) 3 (Go.TypeDesc.int Go.IntKind.i64) 1 := ⟨Tryz.underlying3, by kernel_rfl⟩
instance (E : Addr) : Ty (cx E) 4 Go.TypeDesc.bool 1 := ⟨Tryz.underlying4, by kernel_rfl⟩
instance (E : Addr) : Ty (cx E) 5 (Go.TypeDesc.int Go.IntKind.u8) 1 := ⟨Tryz.underlying5, by kernel_rfl⟩
instance (E : Addr) : Ty (cx E) 9 Go.TypeDesc.string 1 := ⟨Tryz.underlying9, by kernel_rfl⟩
instance (E : Addr) : Ty (cx E) 20 (Go.TypeDesc.interface #[]) 1 := ⟨Tryz.underlying20, by kernel_rfl⟩
instance (E : Addr) : Ty (cx E) 21 (Go.TypeDesc.int Go.IntKind.i32) 1 := ⟨Tryz.underlying21, by kernel_rfl⟩
instance (E : Addr) : Ty (cx E) 22 (Go.TypeDesc.int Go.IntKind.u64) 1 := ⟨Tryz.underlying22, by kernel_rfl⟩
instance (E : Addr) : Ty (cx E) 23 (Go.TypeDesc.int Go.IntKind.i16) 1 := ⟨Tryz.underlying23, by kernel_rfl⟩
instance (E : Addr) : Ty (cx E) 25 (Go.TypeDesc.slice 3) 1 := ⟨Tryz.underlying25, by kernel_rfl⟩
instance (E : Addr) : Ty (cx E) 27 (Go.TypeDesc.int Go.IntKind.u64) 1 := ⟨Tryz.underlying27, by kernel_rfl⟩
instance (E : Addr) : Ty (cx E) 28 (Go.TypeDesc.slice 27) 1 := ⟨Tryz.underlying28, by kernel_rfl⟩
instance (E : Addr) : Ty (cx E) 32 (Go.TypeDesc.slice 9) 1 := ⟨Tryz.underlying32, by kernel_rfl⟩
instance (E : Addr) : Ty (cx E) 35 (Go.TypeDesc.struct #[{ name := "Neg", type := 4, offset := 0, embedded := false, tag := "", pkgPath := "", byteOffset := 0 }, { name := "Words", type := 28, offset := 1, embedded := false, tag := "", pkgPath := "", byteOffset := 8 }]) 2 := ⟨Tryz.underlying35, by kernel_rfl⟩
instance (E : Addr) : Ty (cx E) 37 (Go.TypeDesc.struct #[{ name := "Kind", type := 3, offset := 0, embedded := false, tag := "", pkgPath := "", byteOffset := 0 }, { name := "Truth", type := 4, offset := 1, embedded := false, tag := "", pkgPath := "", byteOffset := 8 }, { name := "Text", type := 9, offset := 2, embedded := false, tag := "", pkgPath := "", byteOffset := 16 }, { name := "Num", type := 35, offset := 3, embedded := false, tag := "", pkgPath := "", byteOffset := 32 }, { name := "Den", type := 28, offset := 5, embedded := false, tag := "", pkgPath := "", byteOffset := 64 }, { name := "ImNum", type := 35, offset := 6, embedded := false, tag := "", pkgPath := "", byteOffset := 88 }, { name := "ImDen", type := 28, offset := 8, embedded := false, tag := "", pkgPath := "", byteOffset := 120 }]) 9 := ⟨Tryz.underlying37, by kernel_rfl⟩
instance (E : Addr) : Ty (cx E) 40 (Go.TypeDesc.struct #[{ name := "Neg", type := 4, offset := 0, embedded := false, tag := "", pkgPath := "", byteOffset := 0 }, { name := "Num", type := 25, offset := 1, embedded := false, tag := "", pkgPath := "", byteOffset := 8 }, { name := "Den", type := 25, offset := 2, embedded := false, tag := "", pkgPath := "", byteOffset := 32 }]) 3 := ⟨Tryz.underlying40, by kernel_rfl⟩
instance (E : Addr) : Ty (cx E) 52 (Go.TypeDesc.slice 5) 1 := ⟨Tryz.underlying52, by kernel_rfl⟩
instance (E : Addr) : Ty (cx E) 57 (Go.TypeDesc.int Go.IntKind.i64) 1 := ⟨Tryz.underlying57, by kernel_rfl⟩
instance (E : Addr) : Ty (cx E) 58 (Go.TypeDesc.slice 57) 1 := ⟨Tryz.underlying58, by kernel_rfl⟩
instance (E : Addr) : Ty (cx E) 61 (Go.TypeDesc.interface #[("ExactString", 104), ("Kind", 72), ("String", 104), ("loop.example/pub-g03237/pub/constant.implementsValue", 1)]) 1 := ⟨Tryz.underlying61, by kernel_rfl⟩
instance (E : Addr) : Ty (cx E) 71 (Go.TypeDesc.int Go.IntKind.i64) 1 := ⟨Tryz.underlying71, by kernel_rfl⟩
instance (E : Addr) : Ty (cx E) 79 (Go.TypeDesc.interface #[("Error", 104)]) 1 := ⟨Tryz.underlying79, by kernel_rfl⟩
instance (E : Addr) : Ty (cx E) 82 (Go.TypeDesc.int Go.IntKind.i64) 1 := ⟨Tryz.underlying82, by kernel_rfl⟩
instance (E : Addr) : Ty (cx E) 83 (Go.TypeDesc.pointer 110) 1 := ⟨Tryz.underlying83, by kernel_rfl⟩
instance (E : Addr) : Ty (cx E) 88 (Go.TypeDesc.struct #[{ name := "val", type := 83, offset := 0, embedded := false, tag := "", pkgPath := "loop.example/pub-g03237/pub/constant", byteOffset := 0 }]) 1 := ⟨Tryz.underlying88, by kernel_rfl⟩
instance (E : Addr) : Ty (cx E) 97 (Go.TypeDesc.struct #[]) 0 := ⟨Tryz.underlying97, by kernel_rfl⟩
instance (E : Addr) : Ty (cx E) 102 Go.TypeDesc.bool 1 := ⟨Tryz.underlying102, by kernel_rfl⟩
instance (E : Addr) : Ty (cx E) 103 (Go.TypeDesc.pointer 152) 1 := ⟨Tryz.underlying103, by kernel_rfl⟩
instance (E : Addr) : Ty (cx E) 107 (Go.TypeDesc.slice 162) 1 := ⟨Tryz.underlying107, by kernel_rfl⟩
instance (E : Addr) : Ty (cx E) 108 (Go.TypeDesc.slice 162) 1 := ⟨Tryz.underlying108, by kernel_rfl⟩
instance (E : Addr) : Ty (cx E) 110 (Go.TypeDesc.struct #[{ name := "neg", type := 4, offset := 0, embedded := false, tag := "", pkgPath := "loop.example/pub-g03237/pub/bigall", byteOffset := 0 }, { name := "abs", type := 108, offset := 1, embedded := false, tag := "", pkgPath := "loop.example/pub-g03237/pub/bigall", byteOffset := 8 }]) 2 := ⟨Tryz.underlying110, by kernel_rfl⟩
instance (E : Addr) : Ty (cx E) 112 (Go.TypeDesc.pointer 160) 1 := ⟨Tryz.underlying112, by kernel_rfl⟩
instance (E : Addr) : Ty (cx E) 114 (Go.TypeDesc.pointer 166) 1 := ⟨Tryz.underlying114, by kernel_rfl⟩
instance (E : Addr) : Ty (cx E) 116 (Go.TypeDesc.int Go.IntKind.i8) 1 := ⟨Tryz.underlying116, by kernel_rfl⟩
instance (E : Addr) : Ty (cx E) 120 (Go.TypeDesc.struct #[{ name := "val", type := 112, offset := 0, embedded := false, tag := "", pkgPath := "loop.example/pub-g03237/pub/constant", byteOffset := 0 }]) 1 := ⟨Tryz.underlying120, by kernel_rfl⟩
instance (E : Addr) : Ty (cx E) 122 (Go.TypeDesc.struct #[{ name := "val", type := 114, offset := 0, embedded := false, tag := "", pkgPath := "loop.example/pub-g03237/pub/constant", byteOffset := 0 }]) 1 := ⟨Tryz.underlying122, by kernel_rfl⟩
instance (E : Addr) : Ty (cx E) 124 (Go.TypeDesc.struct #[{ name := "re", type := 61, offset := 0, embedded := false, tag := "", pkgPath := "loop.example/pub-g03237/pub/constant", byteOffset := 0 }, { name := "im", type := 61, offset := 1, embedded := false, tag := "", pkgPath := "loop.example/pub-g03237/pub/constant", byteOffset := 16 }]) 2 := ⟨Tryz.underlying124, by kernel_rfl⟩
instance (E : Addr) : Ty (cx E) 127 (Go.TypeDesc.pointer 184) 1 := ⟨Tryz.underlying127, by kernel_rfl⟩
instance (E : Addr) : Ty (cx E) 146 (Go.TypeDesc.int Go.IntKind.u32) 1 := ⟨Tryz.underlying146, by kernel_rfl⟩
instance (E : Addr) : Ty (cx E) 152 (Go.TypeDesc.struct #[{ name := "mu", type := 150, offset := 0, embedded := false, tag := "", pkgPath := "loop.example/pub-g03237/pub/constant", byteOffset := 0 }, { name := "s", type := 9, offset := 2, embedded := false, tag := "", pkgPath := "loop.example/pub-g03237/pub/constant", byteOffset := 8 }, { name := "l", type := 103, offset := 3, embedded := false, tag := "", pkgPath := "loop.example/pub-g03237/pub/constant", byteOffset := 24 }, { name := "r", type := 103, offset := 4, embedded := false, tag := "", pkgPath := "loop.example/pub-g03237/pub/constant", byteOffset := 32 }]) 5 := ⟨Tryz.underlying152, by kernel_rfl⟩
instance (E : Addr) : Ty (cx E) 160 (Go.TypeDesc.struct #[{ name := "a", type := 110, offset := 0, embedded := false, tag := "", pkgPath := "loop.example/pub-g03237/pub/bigall", byteOffset := 0 }, { name := "b", type := 110, offset := 2, embedded := false, tag := "", pkgPath := "loop.example/pub-g03237/pub/bigall", byteOffset := 32 }]) 4 := ⟨Tryz.underlying160, by kernel_rfl⟩
instance (E : Addr) : Ty (cx E) 162 (Go.TypeDesc.int Go.IntKind.u64) 1 := ⟨Tryz.underlying162, by kernel_rfl⟩
instance (E : Addr) : Ty (cx E) 163 (Go.TypeDesc.int Go.IntKind.u8) 1 := ⟨Tryz.underlying163, by kernel_rfl⟩
instance (E : Addr) : Ty (cx E) 164 (Go.TypeDesc.int Go.IntKind.u8) 1 := ⟨Tryz.underlying164, by kernel_rfl⟩
instance (E : Addr) : Ty (cx E) 166 (Go.TypeDesc.struct #[{ name := "prec", type := 146, offset := 0, embedded := false, tag := "", pkgPath := "loop.example/pub-g03237/pub/bigall", byteOffset := 0 }, { name := "mode", type := 163, offset := 1, embedded := false, tag := "", pkgPath := "loop.example/pub-g03237/pub/bigall", byteOffset := 4 }, { name := "acc", type := 116, offset := 2, embedded := false, tag := "", pkgPath := "loop.example/pub-g03237/pub/bigall", byteOffset := 5 }, { name := "form", type := 164, offset := 3, embedded := false, tag := "", pkgPath := "loop.example/pub-g03237/pub/bigall", byteOffset := 6 }, { name := "neg", type := 4, offset := 4, embedded := false, tag := "", pkgPath := "loop.example/pub-g03237/pub/bigall", byteOffset := 7 }, { name := "mant", type := 108, offset := 5, embedded := false, tag := "", pkgPath := "loop.example/pub-g03237/pub/bigall", byteOffset := 8 }, { name := "exp", type := 21, offset := 6, embedded := false, tag := "", pkgPath := "loop.example/pub-g03237/pub/bigall", byteOffset := 32 }]) 7 := ⟨Tryz.underlying166, by kernel_rfl⟩
instance (E : Addr) : Ty (cx E) 171 (Go.TypeDesc.int Go.IntKind.i64) 1 := ⟨Tryz.underlying171, by kernel_rfl⟩
instance (E : Addr) : Ty (cx E) 184 (Go.TypeDesc.struct #[{ name := "s", type := 9, offset := 0, embedded := false, tag := "", pkgPath := "strings", byteOffset := 0 }, { name := "i", type := 2, offset := 1, embedded := false, tag := "", pkgPath := "strings", byteOffset := 16 }, { name := "prevRune", type := 3, offset := 2, embedded := false, tag := "", pkgPath := "strings", byteOffset := 24 }]) 3 := ⟨Tryz.underlying184, by kernel_rfl⟩
instance (E : Addr) : Ty (cx E) 197 (Go.TypeDesc.pointer 240) 1 := ⟨Tryz.underlying197, by kernel_rfl⟩
instance (E : Addr) : Ty (cx E) 211 (Go.TypeDesc.struct #[{ name := "addr", type := 209, offset := 0, embedded := false, tag := "", pkgPath := "strings", byteOffset := 0 }, { name := "buf", type := 52, offset := 1, embedded := false, tag := "", pkgPath := "strings", byteOffset := 8 }]) 2 := ⟨Tryz.underlying211, by kernel_rfl⟩
instance (E : Addr) : Ty (cx E) 238 (Go.TypeDesc.pointer 286) 1 := ⟨Tryz.underlying238, by kernel_rfl⟩
instance (E : Addr) : Ty (cx E) 240 (Go.TypeDesc.struct #[{ name := "si", type := 238, offset := 0, embedded := false, tag := "", pkgPath := "loop.example/pub-g03237/pub/bigall", byteOffset := 0 }]) 1 := ⟨Tryz.underlying240, by kernel_rfl⟩
instance (E : Addr) : Ty (cx E) 263 (Go.TypeDesc.pointer 162) 1 := ⟨Tryz.underlying263, by kernel_rfl⟩
instance (E : Addr) : Ty (cx E) 286 (Go.TypeDesc.struct #[{ name := "w", type := 107, offset := 0, embedded := false, tag := "", pkgPath := "loop.example/pub-g03237/pub/bigall", byteOffset := 0 }]) 1 := ⟨Tryz.underlying286, by kernel_rfl⟩
instance (E : Addr) : Ty (cx E) 315 (Go.TypeDesc.struct #[{ name := "msg", type := 9, offset := 0, embedded := false, tag := "", pkgPath := "loop.example/pub-g03237/pub/bigall", byteOffset := 0 }]) 1 := ⟨Tryz.underlying315, by kernel_rfl⟩
instance (E : Addr) : Ty (cx E) 316 (Go.TypeDesc.array 28 22) 28 := ⟨Tryz.underlying316, by kernel_rfl⟩
instance (E : Addr) : TyF (cx E) 35 0 0 := TyF.of Tryz.underlying35 (by rfl) rfl (by kernel_rfl)
instance (E : Addr) : TyF (cx E) 35 1 1 := TyF.of Tryz.underlying35 (by rfl) rfl (by kernel_rfl)
instance (E : Addr) : TyF (cx E) 37 0 0 := TyF.of Tryz.underlying37 (by rfl) rfl (by kernel_rfl)
instance (E : Addr) : TyF (cx E) 37 1 1 := TyF.of Tryz.underlying37 (by rfl) rfl (by kernel_rfl)
instance (E : Addr) : TyF (cx E) 37 2 2 := TyF.of Tryz.underlying37 (by rfl) rfl (by kernel_rfl)
instance (E : Addr) : TyF (cx E) 37 3 3 := TyF.of Tryz.underlying37 (by rfl) rfl (by kernel_rfl)
instance (E : Addr) : TyF (cx E) 37 4 5 := TyF.of Tryz.underlying37 (by rfl) rfl (by kernel_rfl)
instance (E : Addr) : TyF (cx E) 37 5 6 := TyF.of Tryz.underlying37 (by rfl) rfl (by kernel_rfl)
instance (E : Addr) : TyF (cx E) 37 6 8 := TyF.of Tryz.underlying37 (by rfl) rfl (by kernel_rfl)
instance (E : Addr) : TyF (cx E) 40 0 0 := TyF.of Tryz.underlying40 (by rfl) rfl (by kernel_rfl)
instance (E : Addr) : TyF (cx E) 40 1 1 := TyF.of Tryz.underlying40 (by rfl) rfl (by kernel_rfl)
instance (E : Addr) : TyF (cx E) 40 2 2 := TyF.of Tryz.underlying40 (by rfl) rfl (by kernel_rfl)
instance (E : Addr) : TyF (cx E) 88 0 0 := TyF.of Tryz.underlying88 (by rfl) rfl (by kernel_rfl)
instance (E : Addr) : TyF (cx E) 110 0 0 := TyF.of Tryz.underlying110 (by rfl) rfl (by kernel_rfl)
instance (E : Addr) : TyF (cx E) 110 1 1 := TyF.of Tryz.underlying110 (by rfl) rfl (by kernel_rfl)
instance (E : Addr) : TyF (cx E) 120 0 0 := TyF.of Tryz.underlying120 (by rfl) rfl (by kernel_rfl)
instance (E : Addr) : TyF (cx E) 122 0 0 := TyF.of Tryz.underlying122 (by rfl) rfl (by kernel_rfl)
instance (E : Addr) : TyF (cx E) 124 0 0 := TyF.of Tryz.underlying124 (by rfl) rfl (by kernel_rfl)
instance (E : Addr) : TyF (cx E) 124 1 1 := TyF.of Tryz.underlying124 (by rfl) rfl (by kernel_rfl)
instance (E : Addr) : TyF (cx E) 160 0 0 := TyF.of Tryz.underlying160 (by rfl) rfl (by kernel_rfl)
instance (E : Addr) : TyF (cx E) 160 1 2 := TyF.of Tryz.underlying160 (by rfl) rfl (by kernel_rfl)
instance (E : Addr) : TyF (cx E) 166 0 0 := TyF.of Tryz.underlying166 (by rfl) rfl (by kernel_rfl)
instance (E : Addr) : TyF (cx E) 166 1 1 := TyF.of Tryz.underlying166 (by rfl) rfl (by kernel_rfl)
instance (E : Addr) : TyF (cx E) 166 2 2 := TyF.of Tryz.underlying166 (by rfl) rfl (by kernel_rfl)
instance (E : Addr) : TyF (cx E) 166 3 3 := TyF.of Tryz.underlying166 (by rfl) rfl (by kernel_rfl)
instance (E : Addr) : TyF (cx E) 166 4 4 := TyF.of Tryz.underlying166 (by rfl) rfl (by kernel_rfl)
instance (E : Addr) : TyF (cx E) 166 5 5 := TyF.of Tryz.underlying166 (by rfl) rfl (by kernel_rfl)
instance (E : Addr) : TyF (cx E) 166 6 6 := TyF.of Tryz.underlying166 (by rfl) rfl (by kernel_rfl)
instance (E : Addr) : TyF (cx E) 184 0 0 := TyF.of Tryz.underlying184 (by rfl) rfl (by kernel_rfl)
instance (E : Addr) : TyF (cx E) 184 1 1 := TyF.of Tryz.underlying184 (by rfl) rfl (by kernel_rfl)
instance (E : Addr) : TyF (cx E) 184 2 2 := TyF.of Tryz.underlying184 (by rfl) rfl (by kernel_rfl)
instance (E : Addr) : TyF (cx E) 211 1 1 := TyF.of Tryz.underlying211 (by rfl) rfl (by kernel_rfl)
instance (E : Addr) : TyF (cx E) 240 0 0 := TyF.of Tryz.underlying240 (by rfl) rfl (by kernel_rfl)
instance (E : Addr) : TyF (cx E) 286 0 0 := TyF.of Tryz.underlying286 (by rfl) rfl (by kernel_rfl)
instance (E : Addr) : TyW (cx E) 2 .i64 8 := TyW.of Tryz.underlying2 (by kernel_rfl)
instance (E : Addr) : TyW (cx E) 3 .i64 8 := TyW.of Tryz.underlying3 (by kernel_rfl)
instance (E : Addr) : TyW (cx E) 5 .u8 1 := TyW.of Tryz.underlying5 (by kernel_rfl)
instance (E : Addr) : TyW (cx E) 21 .i32 4 := TyW.of Tryz.underlying21 (by kernel_rfl)
instance (E : Addr) : TyW (cx E) 22 .u64 8 := TyW.of Tryz.underlying22 (by kernel_rfl)
instance (E : Addr) : TyW (cx E) 23 .i16 2 := TyW.of Tryz.underlying23 (by kernel_rfl)
instance (E : Addr) : TyW (cx E) 27 .u64 8 := TyW.of Tryz.underlying27 (by kernel_rfl)
instance (E : Addr) : TyW (cx E) 57 .i64 8 := TyW.of Tryz.underlying57 (by kernel_rfl)
instance (E : Addr) : TyW (cx E) 71 .i64 8 := TyW.of Tryz.underlying71 (by kernel_rfl)
instance (E : Addr) : TyW (cx E) 82 .i64 8 := TyW.of Tryz.underlying82 (by kernel_rfl)
instance (E : Addr) : TyW (cx E) 116 .i8 1 := TyW.of Tryz.underlying116 (by kernel_rfl)
instance (E : Addr) : TyW (cx E) 146 .u32 4 := TyW.of Tryz.underlying146 (by kernel_rfl)
instance (E : Addr) : TyW (cx E) 162 .u64 8 := TyW.of Tryz.underlying162 (by kernel_rfl)
instance (E : Addr) : TyW (cx E) 163 .u8 1 := TyW.of Tryz.underlying163 (by kernel_rfl)
instance (E : Addr) : TyW (cx E) 164 .u8 1 := TyW.of Tryz.underlying164 (by kernel_rfl)
instance (E : Addr) : TyW (cx E) 171 .i64 8 := TyW.of Tryz.underlying171 (by kernel_rfl)
instance (E : Addr) : TyZ (cx E) 35 (.agg #[.bool false, .slice none 0 0]) := TyZ.of (by kernel_rfl)
instance (E : Addr) : TyZ (cx E) 37 (.agg #[.int .i64 0, .bool false, .string ByteArray.empty, .bool false, .slice none 0 0, .slice none 0 0, .bool false, .slice none 0 0, .slice none 0 0]) := TyZ.of (by kernel_rfl)
instance (E : Addr) : TyZ (cx E) 40 (.agg #[.bool false, .slice none 0 0, .slice none 0 0]) := TyZ.of (by kernel_rfl)
instance (E : Addr) : TyZ (cx E) 88 (.agg #[.pointer none]) := TyZ.of (by kernel_rfl)
instance (E : Addr) : TyZ (cx E) 97 (.agg #[]) := TyZ.of (by kernel_rfl)
instance (E : Addr) : TyZ (cx E) 110 (.agg #[.bool false, .slice none 0 0]) := TyZ.of (by kernel_rfl)
instance (E : Addr) : TyZ (cx E) 120 (.agg #[.pointer none]) := TyZ.of (by kernel_rfl)
instance (E : Addr) : TyZ (cx E) 122 (.agg #[.pointer none]) := TyZ.of (by kernel_rfl)
instance (E : Addr) : TyZ (cx E) 124 (.agg #[.nilIface, .nilIface]) := TyZ.of (by kernel_rfl)
instance (E : Addr) : TyZ (cx E) 160 (.agg #[.bool false, .slice none 0 0, .bool false, .slice none 0 0]) := TyZ.of (by kernel_rfl)
instance (E : Addr) : TyZ (cx E) 166 (.agg #[.int .u32 0, .int .u8 0, .int .i8 0, .int .u8 0, .bool false, .slice none 0 0, .int .i32 0]) := TyZ.of (by kernel_rfl)
instance (E : Addr) : TyZ (cx E) 286 (.agg #[.slice none 0 0]) := TyZ.of (by kernel_rfl)
instance (E : Addr) : Fn1 (cx E) 218 := ⟨⟨_, Tryz.func218, by kernel_rfl, by kernel_rfl⟩⟩
instance (E : Addr) : Fn1 (cx E) 249 := ⟨⟨_, Tryz.func249, by kernel_rfl, by kernel_rfl⟩⟩
instance (E : Addr) : Fn1 (cx E) 3 := ⟨⟨_, Tryz.func3, by kernel_rfl, by kernel_rfl⟩⟩
instance (E : Addr) : Fn1 (cx E) 4 := ⟨⟨_, Tryz.func4, by kernel_rfl, by kernel_rfl⟩⟩
instance (E : Addr) : Fn1 (cx E) 5 := ⟨⟨_, Tryz.func5, by kernel_rfl, by kernel_rfl⟩⟩
instance (E : Addr) : Fn1 (cx E) 6 := ⟨⟨_, Tryz.func6, by kernel_rfl, by kernel_rfl⟩⟩
instance (E : Addr) : Fn1 (cx E) 7 := ⟨⟨_, Tryz.func7, by kernel_rfl, by kernel_rfl⟩⟩
instance (E : Addr) : Fn1 (cx E) 8 := ⟨⟨_, Tryz.func8, by kernel_rfl, by kernel_rfl⟩⟩
instance (E : Addr) : Fn1 (cx E) 9 := ⟨⟨_, Tryz.func9, by kernel_rfl, by kernel_rfl⟩⟩
instance (E : Addr) : Fn1 (cx E) 10 := ⟨⟨_, Tryz.func10, by kernel_rfl, by kernel_rfl⟩⟩
instance (E : Addr) : Fn1 (cx E) 11 := ⟨⟨_, Tryz.func11, by kernel_rfl, by kernel_rfl⟩⟩
instance (E : Addr) : Fn1 (cx E) 12 := ⟨⟨_, Tryz.func12, by kernel_rfl, by kernel_rfl⟩⟩
instance (E : Addr) : Fn1 (cx E) 13 := ⟨⟨_, Tryz.func13, by kernel_rfl, by kernel_rfl⟩⟩
instance (E : Addr) : Fn1 (cx E) 14 := ⟨⟨_, Tryz.func14, by kernel_rfl, by kernel_rfl⟩⟩
instance (E : Addr) : Fn1 (cx E) 15 := ⟨⟨_, Tryz.func15, by kernel_rfl, by kernel_rfl⟩⟩
instance (E : Addr) : Fn1 (cx E) 16 := ⟨⟨_, Tryz.func16, by kernel_rfl, by kernel_rfl⟩⟩
instance (E : Addr) : Fn1 (cx E) 17 := ⟨⟨_, Tryz.func17, by kernel_rfl, by kernel_rfl⟩⟩
instance (E : Addr) : Fn1 (cx E) 18 := ⟨⟨_, Tryz.func18, by kernel_rfl, by kernel_rfl⟩⟩
instance (E : Addr) : Fn1 (cx E) 19 := ⟨⟨_, Tryz.func19, by kernel_rfl, by kernel_rfl⟩⟩
instance (E : Addr) : Fn1 (cx E) 20 := ⟨⟨_, Tryz.func20, by kernel_rfl, by kernel_rfl⟩⟩
instance (E : Addr) : Fn1 (cx E) 21 := ⟨⟨_, Tryz.func21, by kernel_rfl, by kernel_rfl⟩⟩
instance (E : Addr) : Fn1 (cx E) 22 := ⟨⟨_, Tryz.func22, by kernel_rfl, by kernel_rfl⟩⟩
instance (E : Addr) : Fn1 (cx E) 23 := ⟨⟨_, Tryz.func23, by kernel_rfl, by kernel_rfl⟩⟩
instance (E : Addr) : Fn1 (cx E) 24 := ⟨⟨_, Tryz.func24, by kernel_rfl, by kernel_rfl⟩⟩
instance (E : Addr) : Fn1 (cx E) 25 := ⟨⟨_, Tryz.func25, by kernel_rfl, by kernel_rfl⟩⟩
instance (E : Addr) : Fn1 (cx E) 26 := ⟨⟨_, Tryz.func26, by kernel_rfl, by kernel_rfl⟩⟩
instance (E : Addr) : Fn1 (cx E) 27 := ⟨⟨_, Tryz.func27, by kernel_rfl, by kernel_rfl⟩⟩
instance (E : Addr) : Fn1 (cx E) 28 := ⟨⟨_, Tryz.func28, by kernel_rfl, by kernel_rfl⟩⟩
instance (E : Addr) : Fn1 (cx E) 29 := ⟨⟨_, Tryz.func29, by kernel_rfl, by kernel_rfl⟩⟩
instance (E : Addr) : Fn1 (cx E) 30 := ⟨⟨_, Tryz.func30, by kernel_rfl, by kernel_rfl⟩⟩
instance (E : Addr) : Fn1 (cx E) 33 := ⟨⟨_, Tryz.func33, by kernel_rfl, by kernel_rfl⟩⟩
instance (E : Addr) : Fn1 (cx E) 34 := ⟨⟨_, Tryz.func34, by kernel_rfl, by kernel_rfl⟩⟩
instance (E : Addr) : Fn1 (cx E) 35 := ⟨⟨_, Tryz.func35, by kernel_rfl, by kernel_rfl⟩⟩
instance (E : Addr) : Fn1 (cx E) 36 := ⟨⟨_, Tryz.func36, by kernel_rfl, by kernel_rfl⟩⟩
instance (E : Addr) : Fn1 (cx E) 39 := ⟨⟨_, Tryz.func39, by kernel_rfl, by kernel_rfl⟩⟩
instance (E : Addr) : Fn1 (cx E) 40 := ⟨⟨_, Tryz.func40, by kernel_rfl, by kernel_rfl⟩⟩
instance (E : Addr) : Fn1 (cx E) 45 := ⟨⟨_, Tryz.func45, by kernel_rfl, by kernel_rfl⟩⟩
instance (E : Addr) : Fn1 (cx E) 46 := ⟨⟨_, Tryz.func46, by kernel_rfl, by kernel_rfl⟩⟩
instance (E : Addr) : Fn1 (cx E) 47 := ⟨⟨_, Tryz.func47, by kernel_rfl, by kernel_rfl⟩⟩
instance (E : Addr) : Fn1 (cx E) 48 := ⟨⟨_, Tryz.func48, by kernel_rfl, by kernel_rfl⟩⟩
instance (E : Addr) : Fn1 (cx E) 50 := ⟨⟨_, Tryz.func50, by kernel_rfl, by kernel_rfl⟩⟩
instance (E : Addr) : Fn1 (cx E) 51 := ⟨⟨_, Tryz.func51, by kernel_rfl, by kernel_rfl⟩⟩
instance (E : Addr) : Fn1 (cx E) 52 := ⟨⟨_, Tryz.func52, by kernel_rfl, by kernel_rfl⟩⟩
instance (E : Addr) : Fn1 (cx E) 53 := ⟨⟨_, Tryz.func53, by kernel_rfl, by kernel_rfl⟩⟩
instance (E : Addr) : Fn1 (cx E) 54 := ⟨⟨_, Tryz.func54, by kernel_rfl, by kernel_rfl⟩⟩
instance (E : Addr) : Fn1 (cx E) 55 := ⟨⟨_, Tryz.func55, by kernel_rfl, by kernel_rfl⟩⟩
instance (E : Addr) : Fn1 (cx E) 57 := ⟨⟨_, Tryz.func57, by kernel_rfl, by kernel_rfl⟩⟩
instance (E : Addr) : Fn1 (cx E) 60 := ⟨⟨_, Tryz.func60, by kernel_rfl, by kernel_rfl⟩⟩
instance (E : Addr) : Fn1 (cx E) 61 := ⟨⟨_, Tryz.func61, by kernel_rfl, by kernel_rfl⟩⟩
instance (E : Addr) : Fn1 (cx E) 62 := ⟨⟨_, Tryz.func62, by kernel_rfl, by kernel_rfl⟩⟩
instance (E : Addr) : Fn1 (cx E) 63 := ⟨⟨_, Tryz.func63, by kernel_rfl, by kernel_rfl⟩⟩
instance (E : Addr) : Fn1 (cx E) 64 := ⟨⟨_, Tryz.func64, by kernel_rfl, by kernel_rfl⟩⟩
instance (E : Addr) : Fn1 (cx E) 65 := ⟨⟨_, Tryz.func65, by kernel_rfl, by kernel_rfl⟩⟩
instance (E : Addr) : Fn1 (cx E) 66 := ⟨⟨_, Tryz.func66, by kernel_rfl, by kernel_rfl⟩⟩
instance (E : Addr) : Fn1 (cx E) 72 := ⟨⟨_, Tryz.func72, by kernel_rfl, by kernel_rfl⟩⟩
instance (E : Addr) : Fn1 (cx E) 73 := ⟨⟨_, Tryz.func73, by kernel_rfl, by kernel_rfl⟩⟩
instance (E : Addr) : Fn1 (cx E) 74 := ⟨⟨_, Tryz.func74, by kernel_rfl, by kernel_rfl⟩⟩
instance (E : Addr) : Fn1 (cx E) 75 := ⟨⟨_, Tryz.func75, by kernel_rfl, by kernel_rfl⟩⟩
instance (E : Addr) : Fn1 (cx E) 76 := ⟨⟨_, Tryz.func76, by kernel_rfl, by kernel_rfl⟩⟩
instance (E : Addr) : Fn1 (cx E) 77 := ⟨⟨_, Tryz.func77, by kernel_rfl, by kernel_rfl⟩⟩
instance (E : Addr) : Fn1 (cx E) 83 := ⟨⟨_, Tryz.func83, by kernel_rfl, by kernel_rfl⟩⟩
instance (E : Addr) : Fn1 (cx E) 85 := ⟨⟨_, Tryz.func85, by kernel_rfl, by kernel_rfl⟩⟩
instance (E : Addr) : Fn1 (cx E) 86 := ⟨⟨_, Tryz.func86, by kernel_rfl, by kernel_rfl⟩⟩
instance (E : Addr) : Fn1 (cx E) 87 := ⟨⟨_, Tryz.func87, by kernel_rfl, by kernel_rfl⟩⟩
instance (E : Addr) : Fn1 (cx E) 88 := ⟨⟨_, Tryz.func88, by kernel_rfl, by kernel_rfl⟩⟩
instance (E : Addr) : Fn1 (cx E) 90 := ⟨⟨_, Tryz.func90, by kernel_rfl, by kernel_rfl⟩⟩
instance (E : Addr) : Fn1 (cx E) 91 := ⟨⟨_, Tryz.func91, by kernel_rfl, by kernel_rfl⟩⟩
instance (E : Addr) : Fn1 (cx E) 97 := ⟨⟨_, Tryz.func97, by kernel_rfl, by kernel_rfl⟩⟩
instance (E : Addr) : Fn1 (cx E) 98 := ⟨⟨_, Tryz.func98, by kernel_rfl, by kernel_rfl⟩⟩
instance (E : Addr) : Fn1 (cx E) 99 := ⟨⟨_, Tryz.func99, by kernel_rfl, by kernel_rfl⟩⟩
instance (E : Addr) : Fn1 (cx E) 100 := ⟨⟨_, Tryz.func100, by kernel_rfl, by kernel_rfl⟩⟩
instance (E : Addr) : Fn1 (cx E) 101 := ⟨⟨_, Tryz.func101, by kernel_rfl, by kernel_rfl⟩⟩
instance (E : Addr) : Fn1 (cx E) 102 := ⟨⟨_, Tryz.func102, by kernel_rfl, by kernel_rfl⟩⟩
instance (E : Addr) : Fn1 (cx E) 103 := ⟨⟨_, Tryz.func103, by kernel_rfl, by kernel_rfl⟩⟩
instance (E : Addr) : Fn1 (cx E) 104 := ⟨⟨_, Tryz.func104, by kernel_rfl, by kernel_rfl⟩⟩
instance (E : Addr) : Fn1 (cx E) 105 := ⟨⟨_, Tryz.func105, by kernel_rfl, by kernel_rfl⟩⟩
instance (E : Addr) : Fn1 (cx E) 106 := ⟨⟨_, Tryz.func106, by kernel_rfl, by kernel_rfl⟩⟩
instance (E : Addr) : Fn1 (cx E) 107 := ⟨⟨_, Tryz.func107, by kernel_rfl, by kernel_rfl⟩⟩
instance (E : Addr) : Fn1 (cx E) 108 := ⟨⟨_, Tryz.func108, by kernel_rfl, by kernel_rfl⟩⟩
instance (E : Addr) : Fn1 (cx E) 109 := ⟨⟨_, Tryz.func109, by kernel_rfl, by kernel_rfl⟩⟩
instance (E : Addr) : Fn1 (cx E) 110 := ⟨⟨_, Tryz.func110, by kernel_rfl, by kernel_rfl⟩⟩
instance (E : Addr) : Fn1 (cx E) 111 := ⟨⟨_, Tryz.func111, by kernel_rfl, by kernel_rfl⟩⟩
instance (E : Addr) : Fn1 (cx E) 123 := ⟨⟨_, Tryz.func123, by kernel_rfl, by kernel_rfl⟩⟩
instance (E : Addr) : Fn1 (cx E) 124 := ⟨⟨_, Tryz.func124, by kernel_rfl, by kernel_rfl⟩⟩
instance (E : Addr) : Fn1 (cx E) 125 := ⟨⟨_, Tryz.func125, by kernel_rfl, by kernel_rfl⟩⟩
instance (E : Addr) : Fn1 (cx E) 126 := ⟨⟨_, Tryz.func126, by kernel_rfl, by kernel_rfl⟩⟩
instance (E : Addr) : Fn1 (cx E) 127 := ⟨⟨_, Tryz.func127, by kernel_rfl, by kernel_rfl⟩⟩
instance (E : Addr) : Fn1 (cx E) 128 := ⟨⟨_, Tryz.func128, by kernel_rfl, by kernel_rfl⟩⟩
instance (E : Addr) : Fn1 (cx E) 129 := ⟨⟨_, Tryz.func129, by kernel_rfl, by kernel_rfl⟩⟩
instance (E : Addr) : Fn1 (cx E) 130 := ⟨⟨_, Tryz.func130, by kernel_rfl, by kernel_rfl⟩⟩
instance (E : Addr) : Fn1 (cx E) 131 := ⟨⟨_, Tryz.func131, by kernel_rfl, by kernel_rfl⟩⟩
instance (E : Addr) : Fn1 (cx E) 132 := ⟨⟨_, Tryz.func132, by kernel_rfl, by kernel_rfl⟩⟩
instance (E : Addr) : Fn1 (cx E) 134 := ⟨⟨_, Tryz.func134, by kernel_rfl, by kernel_rfl⟩⟩
instance (E : Addr) : Fn1 (cx E) 138 := ⟨⟨_, Tryz.func138, by kernel_rfl, by kernel_rfl⟩⟩
instance (E : Addr) : Fn1 (cx E) 140 := ⟨⟨_, Tryz.func140, by kernel_rfl, by kernel_rfl⟩⟩
instance (E : Addr) : Fn1 (cx E) 142 := ⟨⟨_, Tryz.func142, by kernel_rfl, by kernel_rfl⟩⟩
instance (E : Addr) : Fn1 (cx E) 143 := ⟨⟨_, Tryz.func143, by kernel_rfl, by kernel_rfl⟩⟩
instance (E : Addr) : Fn1 (cx E) 144 := ⟨⟨_, Tryz.func144, by kernel_rfl, by kernel_rfl⟩⟩
instance (E : Addr) : Fn1 (cx E) 145 := ⟨⟨_, Tryz.func145, by kernel_rfl, by kernel_rfl⟩⟩
instance (E : Addr) : Fn1 (cx E) 146 := ⟨⟨_, Tryz.func146, by kernel_rfl, by kernel_rfl⟩⟩
instance (E : Addr) : Fn1 (cx E) 147 := ⟨⟨_, Tryz.func147, by kernel_rfl, by kernel_rfl⟩⟩
instance (E : Addr) : Fn1 (cx E) 153 := ⟨⟨_, Tryz.func153, by kernel_rfl, by kernel_rfl⟩⟩
instance (E : Addr) : Fn1 (cx E) 154 := ⟨⟨_, Tryz.func154, by kernel_rfl, by kernel_rfl⟩⟩
instance (E : Addr) : Fn1 (cx E) 155 := ⟨⟨_, Tryz.func155, by kernel_rfl, by kernel_rfl⟩⟩
instance (E : Addr) : Fn1 (cx E) 157 := ⟨⟨_, Tryz.func157, by kernel_rfl, by kernel_rfl⟩⟩
instance (E : Addr) : Fn1 (cx E) 158 := ⟨⟨_, Tryz.func158, by kernel_rfl, by kernel_rfl⟩⟩
instance (E : Addr) : Fn1 (cx E) 159 := ⟨⟨_, Tryz.func159, by kernel_rfl, by kernel_rfl⟩⟩
instance (E : Addr) : Fn1 (cx E) 173 := ⟨⟨_, Tryz.func173, by kernel_rfl, by kernel_rfl⟩⟩
instance (E : Addr) : Fn1 (cx E) 174 := ⟨⟨_, Tryz.func174, by kernel_rfl, by kernel_rfl⟩⟩
instance (E : Addr) : Fn1 (cx E) 175 := ⟨⟨_, Tryz.func175, by kernel_rfl, by kernel_rfl⟩⟩
instance (E : Addr) : Fn1 (cx E) 176 := ⟨⟨_, Tryz.func176, by kernel_rfl, by kernel_rfl⟩⟩
instance (E : Addr) : Fn1 (cx E) 179 := ⟨⟨_, Tryz.func179, by kernel_rfl, by kernel_rfl⟩⟩
instance (E : Addr) : Fn1 (cx E) 182 := ⟨⟨_, Tryz.func182, by kernel_rfl, by kernel_rfl⟩⟩
instance (E : Addr) : Fn1 (cx E) 186 := ⟨⟨_, Tryz.func186, by kernel_rfl, by kernel_rfl⟩⟩
instance (E : Addr) : Fn1 (cx E) 187 := ⟨⟨_, Tryz.func187, by kernel_rfl, by kernel_rfl⟩⟩
instance (E : Addr) : Fn1 (cx E) 188 := ⟨⟨_, Tryz.func188, by kernel_rfl, by kernel_rfl⟩⟩
instance (E : Addr) : Fn1 (cx E) 190 := ⟨⟨_, Tryz.func190, by kernel_rfl, by kernel_rfl⟩⟩
instance (E : Addr) : Fn1 (cx E) 191 := ⟨⟨_, Tryz.func191, by kernel_rfl, by kernel_rfl⟩⟩
instance (E : Addr) : Fn1 (cx E) 192 := ⟨⟨_, Tryz.func192, by kernel_rfl, by kernel_rfl⟩⟩
instance (E : Addr) : Fn1 (cx E) 193 := ⟨⟨_, Tryz.func193, by kernel_rfl, by kernel_rfl⟩⟩
instance (E : Addr) : Fn1 (cx E) 194 := ⟨⟨_, Tryz.func194, by kernel_rfl, by kernel_rfl⟩⟩
instance (E : Addr) : Fn1 (cx E) 195 := ⟨⟨_, Tryz.func195, by kernel_rfl, by kernel_rfl⟩⟩
instance (E : Addr) : Fn1 (cx E) 196 := ⟨⟨_, Tryz.func196, by kernel_rfl, by kernel_rfl⟩⟩
instance (E : Addr) : Fn1 (cx E) 197 := ⟨⟨_, Tryz.func197, by kernel_rfl, by kernel_rfl⟩⟩
instance (E : Addr) : Fn1 (cx E) 198 := ⟨⟨_, Tryz.func198, by kernel_rfl, by kernel_rfl⟩⟩
instance (E : Addr) : Fn1 (cx E) 199 := ⟨⟨_, Tryz.func199, by kernel_rfl, by kernel_rfl⟩⟩
instance (E : Addr) : Fn1 (cx E) 208 := ⟨⟨_, Tryz.func208, by kernel_rfl, by kernel_rfl⟩⟩
instance (E : Addr) : Fn1 (cx E) 209 := ⟨⟨_, Tryz.func209, by kernel_rfl, by kernel_rfl⟩⟩
instance (E : Addr) : Fn1 (cx E) 212 := ⟨⟨_, Tryz.func212, by kernel_rfl, by kernel_rfl⟩⟩
instance (E : Addr) : Fn1 (cx E) 214 := ⟨⟨_, Tryz.func214, by kernel_rfl, by kernel_rfl⟩⟩
instance (E : Addr) : Fn1 (cx E) 215 := ⟨⟨_, Tryz.func215, by kernel_rfl, by kernel_rfl⟩⟩
instance (E : Addr) : Fn1 (cx E) 216 := ⟨⟨_, Tryz.func216, by kernel_rfl, by kernel_rfl⟩⟩
instance (E : Addr) : Fn1 (cx E) 217 := ⟨⟨_, Tryz.func217, by kernel_rfl, by kernel_rfl⟩⟩
instance (E : Addr) : Fn1 (cx E) 228 := ⟨⟨_, Tryz.func228, by kernel_rfl, by kernel_rfl⟩⟩
instance (E : Addr) : Fn1 (cx E) 229 := ⟨⟨_, Tryz.func229, by kernel_rfl, by kernel_rfl⟩⟩
instance (E : Addr) : Fn1 (cx E) 230 := ⟨⟨_, Tryz.func230, by kernel_rfl, by kernel_rfl⟩⟩
instance (E : Addr) : Fn1 (cx E) 233 := ⟨⟨_, Tryz.func233, by kernel_rfl, by kernel_rfl⟩⟩
instance (E : Addr) : Fn1 (cx E) 234 := ⟨⟨_, Tryz.func234, by kernel_rfl, by kernel_rfl⟩⟩
instance (E : Addr) : Fn1 (cx E) 235 := ⟨⟨_, Tryz.func235, by kernel_rfl, by kernel_rfl⟩⟩
instance (E : Addr) : Fn1 (cx E) 236 := ⟨⟨_, Tryz.func236, by kernel_rfl, by kernel_rfl⟩⟩
instance (E : Addr) : Fn1 (cx E) 237 := ⟨⟨_, Tryz.func237, by kernel_rfl, by kernel_rfl⟩⟩
instance (E : Addr) : Fn1 (cx E) 238 := ⟨⟨_, Tryz.func238, by kernel_rfl, by kernel_rfl⟩⟩
instance (E : Addr) : Fn1 (cx E) 239 := ⟨⟨_, Tryz.func239, by kernel_rfl, by kernel_rfl⟩⟩
instance (E : Addr) : Fn1 (cx E) 245 := ⟨⟨_, Tryz.func245, by kernel_rfl, by kernel_rfl⟩⟩
instance (E : Addr) : Fn1 (cx E) 246 := ⟨⟨_, Tryz.func246, by kernel_rfl, by kernel_rfl⟩⟩
instance (E : Addr) : Fn1 (cx E) 247 := ⟨⟨_, Tryz.func247, by kernel_rfl, by kernel_rfl⟩⟩
instance (E : Addr) : Fn1 (cx E) 248 := ⟨⟨_, Tryz.func248, by kernel_rfl, by kernel_rfl⟩⟩
instance (E : Addr) : Fn1 (cx E) 250 := ⟨⟨_, Tryz.func250, by kernel_rfl, by kernel_rfl⟩⟩
instance (E : Addr) : Fn1 (cx E) 251 := ⟨⟨_, Tryz.func251, by kernel_rfl, by kernel_rfl⟩⟩
instance (E : Addr) : Fn1 (cx E) 252 := ⟨⟨_, Tryz.func252, by kernel_rfl, by kernel_rfl⟩⟩
instance (E : Addr) : Fn1 (cx E) 253 := ⟨⟨_, Tryz.func253, by kernel_rfl, by kernel_rfl⟩⟩
instance (E : Addr) : Fn1 (cx E) 261 := ⟨⟨_, Tryz.func261, by kernel_rfl, by kernel_rfl⟩⟩
instance (E : Addr) : Fn1 (cx E) 262 := ⟨⟨_, Tryz.func262, by kernel_rfl, by kernel_rfl⟩⟩
instance (E : Addr) : Fn1 (cx E) 263 := ⟨⟨_, Tryz.func263, by kernel_rfl, by kernel_rfl⟩⟩
instance (E : Addr) : Fn1 (cx E) 264 := ⟨⟨_, Tryz.func264, by kernel_rfl, by kernel_rfl⟩⟩
instance (E : Addr) : Fn1 (cx E) 265 := ⟨⟨_, Tryz.func265, by kernel_rfl, by kernel_rfl⟩⟩
instance (E : Addr) : Fn1 (cx E) 270 := ⟨⟨_, Tryz.func270, by kernel_rfl, by kernel_rfl⟩⟩
instance (E : Addr) : Fn1 (cx E) 272 := ⟨⟨_, Tryz.func272, by kernel_rfl, by kernel_rfl⟩⟩
instance (E : Addr) : Fn1 (cx E) 273 := ⟨⟨_, Tryz.func273, by kernel_rfl, by kernel_rfl⟩⟩
instance (E : Addr) : Fn1 (cx E) 277 := ⟨⟨_, Tryz.func277, by kernel_rfl, by kernel_rfl⟩⟩
instance (E : Addr) : Fn1 (cx E) 301 := ⟨⟨_, Tryz.func301, by kernel_rfl, by kernel_rfl⟩⟩
instance (E : Addr) : Fn1 (cx E) 307 := ⟨⟨_, Tryz.func307, by kernel_rfl, by kernel_rfl⟩⟩
instance (E : Addr) : Fn1 (cx E) 328 := ⟨⟨_, Tryz.func328, by kernel_rfl, by kernel_rfl⟩⟩
instance (E : Addr) : Fn1 (cx E) 336 := ⟨⟨_, Tryz.func336, by kernel_rfl, by kernel_rfl⟩⟩
instance (E : Addr) : Fn1 (cx E) 340 := ⟨⟨_, Tryz.func340, by kernel_rfl, by kernel_rfl⟩⟩
instance (E : Addr) : Fn1 (cx E) 84 := ⟨⟨_, Tryz.func84, by kernel_rfl, by kernel_rfl⟩⟩
end
section
def keepL (L : Slots) : List Nat → Option Slots
  | [] => some []
  | i :: r => match sget L i, keepL L r with
    | some v, some l => some ((i, v) :: l)
    | none, some l => some l
    | _, none => none
theorem keepL_sub {L : Slots} : ∀ {l : List Nat} {L' : Slots}, keepL L l = some L' → SubSlots L' L
  | [], L', h => by simp [keepL] at h; subst h; exact SubSlots.nil _
  | i :: r, L', h => by
    unfold keepL at h
    split at h
    · rename_i v l hv hl
      cases h
      exact SubSlots.cons hv (keepL_sub hl)
    · rename_i l hv hl
      cases h
      exact keepL_sub hl
    · cases h
section
variable {C : Cx} {N : Nat} {X : Fx} {k : List Item} {ops : Array Oper} {md : Option (Hp × Option Nat)} {rest : List Oper} {L : Slots} {D : List Deferred} {S : Hp}
theorem J.skipE {d : Nat} {op : Op} {ty : TypeId} {p : String} {af : Array Edge} {j t : Nat} {b b' : Bool} (hd : Nat.blt d N = true) (hj : ((ops[j]?).bind (·.dst)) = some t) (ht : sget L t = some (.bool b')) (hb : b' = !b)
    (h : J C N X k ops none rest ((d, undef) :: L) D S) : J C N X k ops none (⟨some d, op, ty, p, af, some (j, b)⟩ :: rest) L D S := by
  intro a w h1 h2 h3
  have hk := h (a.put (some d) undef) w (h1.put undef hd) (by simpa [Act.put] using h2) h3
  have hw : Region.wanted (⟨some d, op, ty, p, af, some (j, b)⟩ : Oper) (yielded ops a.tmps) = false := by
    simp [Region.wanted, yielded, hj, h1.get t _ ht, hb]
  simp only [wpList, hw, Bool.false_eq_true, if_false]
  exact hk
theorem G.prune {L' : Slots} (l : List Nat) (hk : keepL L l = some L') (h : G C N X k L' D S) : G C N X k L D S := G.weakL (keepL_sub hk) h
theorem G.cut {σ : Type} (P : σ → Prop) (Lf : σ → Slots) (Sf : σ → Hp) {it : Item} (h1 : (∀ s, P s → G C N X k (Lf s) D (Sf s)) → G C N X (it :: k) L D S)
    (h2 : ∀ s, P s → G C N X k (Lf s) D (Sf s)) : G C N X (it :: k) L D S := h1 h2
theorem G.join {σ : Type} (P : σ → Prop) (Lf : σ → Slots) (Sf : σ → Hp) {k' : List Item} (h1 : (∀ s, P s → G C N X k' (Lf s) D (Sf s)) → G C N X k L D S)
    (h2 : ∀ s, P s → G C N X k' (Lf s) D (Sf s)) : G C N X k L D S := h1 h2
def rmAt : Hp → Nat → Option (Ent × Hp)
  | [], _ => none
  | e :: S, 0 => some (e, S)
  | e :: S, i + 1 => match rmAt S i with
    | some (f, S') => some (f, e :: S')
    | none => none
theorem rmAt_del : ∀ {S : Hp} {i : Nat} {e : Ent} {S' : Hp}, rmAt S i = some (e, S') → Del e S S'
  | [], i, e, S', h => by simp [rmAt] at h
  | f :: S, 0, e, S', h => by simp [rmAt] at h; obtain ⟨rfl, rfl⟩ := h; exact Del.h
  | f :: S, i + 1, e, S', h => by
    unfold rmAt at h
    split at h
    · rename_i g S1 hg
      cases h
      exact Del.t (rmAt_del hg)
    · cases h
def takeAt : Hp → List Nat → Option (Hp × Hp)
  | S, [] => some ([], S)
  | S, i :: r => match rmAt S i with
    | some (e, S1) => match takeAt S1 r with
      | some (W, S2) => some (e :: W, S2)
      | none => none
    | none => none
theorem takeAt_dels : ∀ {l : List Nat} {S W S1 : Hp}, takeAt S l = some (W, S1) → Dels W S S1
  | [], S, W, S1, h => by simp [takeAt] at h; obtain ⟨rfl, rfl⟩ := h; exact Dels.nil
  | i :: r, S, W, S1, h => by
    unfold takeAt at h
    split at h
    · rename_i e S' he
      split at h
      · rename_i W' S2 hw
        cases h
        exact Dels.cons (rmAt_del he) (takeAt_dels hw)
      · cases h
    · cases h
def roAt (S : Hp) : List Nat → Option Hp
  | [] => some []
  | i :: r => match S[i]?, roAt S r with
    | some e, some l => some (⟨e.b, e.T, e.cs, false⟩ :: l)
    | _, _ => none
theorem roAt_sub {S : Hp} : ∀ {l : List Nat} {R : Hp}, roAt S l = some R → SubH R S ∧ ∀ e ∈ R, e.wr = false
  | [], R, h => by simp [roAt] at h; subst h; exact ⟨SubH.nil _, by simp⟩
  | i :: r, R, h => by
    unfold roAt at h
    split at h
    · rename_i e l he hl
      cases h
      obtain ⟨h1, h2⟩ := roAt_sub hl
      exact ⟨SubH.cons ⟨e, List.mem_of_getElem? he, rfl, rfl, rfl⟩ h1, by simpa using h2⟩
    · cases h
theorem SubH.of {R : Hp} (l : List Nat) (h : pick S l = some R) : SubH R S := fun e he => by
  obtain ⟨i, _, hi⟩ := pick_mem h e he
  exact ⟨e, List.mem_of_getElem? hi, rfl, rfl, rfl⟩
theorem allW {W : Hp} (h : W.all (·.wr) = true) : ∀ e ∈ W, e.wr = true := List.all_eq_true.1 h
theorem E.callP {d : Nat} {g : FuncId} {args : List Operand} {ats : Array TypeId} {ty : TypeId} {p : String} {af : Array Edge} {vs : List Value} {Wp Rp S1 : Hp} {τ : Type} {val : τ → Value} {Wq : τ → Hp} {φ : τ → Prop}
    [hf : Fn1 C g] (hs : Spec C g vs.toArray Wp Rp val Wq φ) (lw lr : List Nat) (hd : Nat.blt d N = true) (ha : opvs L args = some vs) (hdel : takeAt S lw = some (Wp, S1)) (hw : Wp.all (·.wr) = true) (hsub : roAt S1 lr = some Rp) :
    EffOK C N X ⟨some d, .call { callee := .value (.func g), args := args.toArray, argTypes := ats }, ty, p, af, none⟩ L D S (fun cont => ∀ x, φ x → cont ((d, val x) :: L) D (Wq x ++ S1)) :=
  (E.call hs hd ha (takeAt_dels hdel) (allW hw) (roAt_sub hsub).2 (roAt_sub hsub).1).mono fun cont hT x hx => ⟨_, rfl, hT x hx⟩
theorem E.invP {d : Nat} {g : FuncId} {x0 : Operand} {nm : String} {args : List Operand} {ats : Array TypeId} {ty : TypeId} {p : String} {af : Array Edge} {vs : List Value} {t : TypeId} {u u' : Value} {Wp Rp S1 : Hp} {τ : Type} {val : τ → Value} {Wq : τ → Hp} {φ : τ → Prop}
    [hf : Fn1 C g] (hs : Spec C g (#[u'] ++ vs.toArray) Wp Rp val Wq φ) (lw lr : List Nat) (hd : Nat.blt d N = true) (hx : opv L x0 = some (.iface t u)) (hm : ∀ w, (method (C.P.types.size + Made.depth) t u nm).run C.P w = .ok (g, u') w)
    (ha : opvs L args = some vs) (hdel : takeAt S lw = some (Wp, S1)) (hw : Wp.all (·.wr) = true) (hsub : roAt S1 lr = some Rp) :
    EffOK C N X ⟨some d, .call { callee := .invoke x0 nm, args := args.toArray, argTypes := ats }, ty, p, af, none⟩ L D S (fun cont => ∀ x, φ x → cont ((d, val x) :: L) D (Wq x ++ S1)) :=
  (E.invoke hs hd hx hm ha (takeAt_dels hdel) (allW hw) (roAt_sub hsub).2 (roAt_sub hsub).1).mono fun cont hT x hx => ⟨_, rfl, hT x hx⟩
theorem GL.deferredP {fn : Func} {τ0 : Type} {val : τ0 → Value} {Wq : τ0 → Hp} {φ : τ0 → Prop} {g : FuncId} {vs : Array Value} {Wp Rp S1 : Hp} {τ' : Type} {Wq' : τ' → Hp} {φ' : τ' → Prop} [hf : Fn1 C g] (hs : SpecD C g vs Wp Rp Wq' φ') (lw lr : List Nat) (hdel : takeAt S lw = some (Wp, S1)) (hw : Wp.all (·.wr) = true) (hsub : roAt S1 lr = some Rp)
    (h : ∀ x, φ' x → GL C N fn X val Wq φ L D (Wq' x ++ S1)) : GL C N fn X val Wq φ L ({ target := .fn (.func g) #[], args := vs } :: D) S :=
  GL.deferred hs (takeAt_dels hdel) (allW hw) (roAt_sub hsub).2 (roAt_sub hsub).1 fun x hx => ⟨_, rfl, h x hx⟩
variable {d : Nat} {op : Op} {ty : TypeId} {p : String} {af : Array Edge} {v : Value}
theorem J.loadGi {x : Operand} {t : TypeId} {ds : TypeDesc} {n : Nat} {b o : Nat} {v : Value} [ht : Ty C t ds n] (i : Nat) (hd : Nat.blt d N = true) (hp : TypeDesc.plain ds = true)
    (hx : opv L x = some (.pointer (some ⟨b, o, none⟩))) (hm : (vglob C md (⟨some d, .load t x, ty, p, af, none⟩ :: rest))[i]? = some ((⟨b, o, none⟩ : Addr), v))
    (h : J C N X k ops md rest ((d, v) :: L) D S) : J C N X k ops md (⟨some d, .load t x, ty, p, af, none⟩ :: rest) L D S :=
  J.loadG hd hp hx (List.mem_of_getElem? hm) h
theorem J.extractL {x : Operand} {i : Nat} {vs : List Value} {v : Value} (hd : Nat.blt d N = true) (hx : opv L x = some (.tuple vs.toArray)) (hi : vs[i]? = some v) (h : J C N X k ops md rest ((d, v) :: L) D S) :
    J C N X k ops md (⟨some d, .extract x i, ty, p, af, none⟩ :: rest) L D S := J.extract hd hx (by simpa using hi) h
theorem J.indexAddr1 {x y : Operand} {t e : TypeId} {b o len cap i : Nat} {kk : IntKind} {q : Nat} [ht : Ty C t (.slice e) q] {de : TypeDesc} [he : Ty C e de 1] (hd : Nat.blt d N = true)
    (hx : opv L x = some (.slice (some ⟨b, o, none⟩) len cap)) {i' : Int} (hy : opv L y = some (.int kk i')) [ni : NL i' i] (hi : i < len)
    (h : J C N X k ops md rest ((d, .pointer (some ⟨b, o + i, none⟩)) :: L) D S) : J C N X k ops md (⟨some d, .indexAddr t x y, ty, p, af, none⟩ :: rest) L D S :=
  J.indexAddr hd hx hy hi (by rw [Nat.mul_one]; exact h)
theorem J.slLH1 {t : TypeId} {x : Operand} {kl kh : IntKind} {b o len cap l hh m : Nat} {e : TypeId} [ht : Ty C t (.slice e) m] {de : TypeDesc} [he : Ty C e de 1] {lo hi : Operand} (hd : Nat.blt d N = true)
    (hx : opv L x = some (.slice (some ⟨b, o, none⟩) len cap)) {l' : Int} (hl : opv L lo = some (.int kl l')) [nl : NL l' l] {hh' : Int} (hhi : opv L hi = some (.int kh hh')) [nhh : NL hh' hh] (h1 : l ≤ hh) (h2 : hh ≤ cap) (h3 : l < cap ∨ l = 0)
    (h : J C N X k ops md rest ((d, .slice (some ⟨b, o + l, none⟩) (hh - l) (cap - l)) :: L) D S) : J C N X k ops md (⟨some d, .slice t x (some lo) (some hi) none, ty, p, af, none⟩ :: rest) L D S :=
  J.slLH hd hx hl hhi h1 h2 h3 (by rw [Nat.mul_one]; exact h)
theorem J.slL1 {t : TypeId} {x : Operand} {kl : IntKind} {b o len cap l m : Nat} {e : TypeId} [ht : Ty C t (.slice e) m] {de : TypeDesc} [he : Ty C e de 1] {lo : Operand} (hd : Nat.blt d N = true)
    (hx : opv L x = some (.slice (some ⟨b, o, none⟩) len cap)) {l' : Int} (hl : opv L lo = some (.int kl l')) [nl : NL l' l] (h1 : l ≤ len) (h3 : l < cap ∨ l = 0)
    (h : J C N X k ops md rest ((d, .slice (some ⟨b, o + l, none⟩) (len - l) (cap - l)) :: L) D S) : J C N X k ops md (⟨some d, .slice t x (some lo) none none, ty, p, af, none⟩ :: rest) L D S :=
  J.slL hd hx hl h1 h3 (by rw [Nat.mul_one]; exact h)
theorem J.slH0 {t : TypeId} {x : Operand} {kl kh : IntKind} {a : Option Addr} {len cap hh m n : Nat} {e : TypeId} [ht : Ty C t (.slice e) m] {de : TypeDesc} [he : Ty C e de n] {hi : Operand} (hd : Nat.blt d N = true)
    (hx : opv L x = some (.slice a len cap)) {hh' : Int} (hhi : opv L hi = some (.int kh hh')) [nhh : NL hh' hh] (h2 : hh ≤ cap) (ha : a.all (fun a => a.spot.isNone) = true)
    (h : J C N X k ops md rest ((d, .slice a hh cap) :: L) D S) : J C N X k ops md (⟨some d, .slice t x (some (.const (.int kl 0))) (some hi) none, ty, p, af, none⟩ :: rest) L D S := by
  match a, ha with
  | none, _ => exact J.slLHnil hd hx (l := 0) (l' := 0) rfl hhi (Nat.zero_le _) h2 (by simpa using h)
  | some ⟨b, o, none⟩, _ => exact J.slLH hd hx (l := 0) (l' := 0) rfl hhi (Nat.zero_le _) h2 (.inr rfl) (by simpa using h)
variable {t t' : TypeId} {x : Operand}
def Fits (kk : IntKind) (a : Nat) : Prop := match kk with
  | .i64 => a < 9223372036854775808 | .u64 => a < 18446744073709551616 | .u32 => a < 4294967296 | .u8 => a < 256 | .i32 => a < 2147483648 | _ => False
theorem wrap_fits {kk : IntKind} {a : Nat} (h : Fits kk a) : kk.wrap (a : Int) = a := by
  cases kk <;> simp only [Fits] at h
  case i64 => exact wrap_i64_nat h
  case u64 => exact wrap_u64_nat h
  case u32 => exact wrap_u32_nat h
  case u8 => exact wrap_u8_nat h
  case i32 => exact wrap_i32_in (by omega) (by omega)
theorem J.convN {kk kk' : IntKind} {a n n' : Nat} {ds : TypeDesc} [hs : Ty C t ds n'] [ht : Ty C t' (.int kk) n] (hd : Nat.blt d N = true) {a' : Int} (hx : opv L x = some (.int kk' a')) [na : NL a' a] (hr : Fits kk a)
    (h : J C N X k ops md rest ((d, .int kk (a : Int)) :: L) D S) : J C N X k ops md (⟨some d, .convert t t' x, ty, p, af, none⟩ :: rest) L D S := by
  obtain rfl := na.h
  exact J.conv hd hx (wrap_fits hr) h
end
class MemI (b : Nat) (T : outParam TypeId) (cs : outParam (List Value)) (S : Hp) : Prop where
  h : Mem b T cs S
instance MemI.t {b : Nat} {T : TypeId} {cs : List Value} {e : Ent} {S : Hp} [m : MemI b T cs S] : MemI b T cs (e :: S) := ⟨Mem.t m.h⟩
instance MemI.z {b : Nat} {T : TypeId} {cs : List Value} {wr : Bool} {S : Hp} : MemI b T cs (⟨b, T, cs, wr⟩ :: S) := ⟨Mem.h⟩
class UpdI (b : Nat) (T : outParam TypeId) (cs : outParam (List Value)) (S : Hp) (F : outParam (List Value → Hp)) : Prop where
  h : ∀ cs', Upd1 b T cs cs' S (F cs')
instance UpdI.t {b : Nat} {T : TypeId} {cs : List Value} {e : Ent} {S : Hp} {F : List Value → Hp} [m : UpdI b T cs S F] : UpdI b T cs (e :: S) (fun cs' => e :: F cs') := ⟨fun cs' => Upd1.t (m.h cs')⟩
instance UpdI.z {b : Nat} {T : TypeId} {cs : List Value} {S : Hp} : UpdI b T cs (⟨b, T, cs, true⟩ :: S) (fun cs' => ⟨b, T, cs', true⟩ :: S) := ⟨fun _ => Upd1.h⟩
section
variable {C : Cx} {N : Nat} {X : Fx} {k : List Item} {ops : Array Oper} {rest : List Oper} {L : Slots} {D : List Deferred} {S : Hp} {x y : Operand} {t : TypeId} {d : Nat} {ty : TypeId} {p : String} {af : Array Edge}
theorem J.loadI {ds : TypeDesc} {n : Nat} {b o T : Nat} {cs : List Value} {v : Value} [ht : Ty C t ds n] (hd : Nat.blt d N = true) (hp : TypeDesc.plain ds = true)
    (hx : opv L x = some (.pointer (some ⟨b, o, none⟩))) [hm : MemI b T cs S] (hv : cs[o]? = some v)
    (h : J C N X k ops none rest ((d, v) :: L) D S) : J C N X k ops none (⟨some d, .load t x, ty, p, af, none⟩ :: rest) L D S := J.load hd hp hx hm.h hv h
theorem J.loadCI {ds : TypeDesc} {n b o T : Nat} {kk : IntKind} {xs : List Nat} [ht : Ty C t ds n] (hd : Nat.blt d N = true) (hp : TypeDesc.plain ds = true)
    (hx : opv L x = some (.pointer (some ⟨b, o, none⟩))) [hm : MemI b T (cells kk xs) S] (ho : o < xs.length)
    (h : J C N X k ops none rest ((d, .int kk ((xs.getD o 0 : Nat) : Int)) :: L) D S) : J C N X k ops none (⟨some d, .load t x, ty, p, af, none⟩ :: rest) L D S := J.loadC hd hp hx hm.h ho h
theorem J.loadAI {ds : TypeDesc} {n : Nat} {b o T : Nat} {cs vs : List Value} [ht : Ty C t ds n] (hd : Nat.blt d N = true) (hp : TypeDesc.plain ds = false)
    (hx : opv L x = some (.pointer (some ⟨b, o, none⟩))) [hm : MemI b T cs S] (hv : (cs.drop o).take n = vs) (hn : vs.length = n)
    (h : J C N X k ops none rest ((d, .agg vs.toArray) :: L) D S) : J C N X k ops none (⟨some d, .load t x, ty, p, af, none⟩ :: rest) L D S := J.loadA hd hp hx hm.h hv hn h
theorem E.storeI {b o T : Nat} {cs : List Value} {v : Value} {F : List Value → Hp} {ds : TypeDesc} [ht : Ty C t ds 1] (hx : opv L x = some (.pointer (some ⟨b, o, none⟩))) (hy : opv L y = some v) (h1 : v.oneCell' = true) [hu : UpdI b T cs S F] (ho : o < cs.length) {cs' : List Value} (hc : cs.set o v = cs') :
    EffOK C N X ⟨none, .store t x y, ty, p, af, none⟩ L D S (fun cont => cont L D (F cs')) := by subst hc; exact E.store hx hy h1 ho (hu.h _)
theorem E.storeCI {b o T v : Nat} {kk : IntKind} {xs : List Nat} {F : List Value → Hp} {ds : TypeDesc} [ht : Ty C t ds 1] (hx : opv L x = some (.pointer (some ⟨b, o, none⟩))) {v' : Int} (hy : opv L y = some (.int kk v')) [nv : NL v' v] [hu : UpdI b T (cells kk xs) S F] (ho : o < xs.length) :
    EffOK C N X ⟨none, .store t x y, ty, p, af, none⟩ L D S (fun cont => cont L D (F (cells kk (xs.set o v)))) := E.storeC hx hy ho (hu.h _)
theorem E.storeAI {b o T n : Nat} {cs vs : List Value} {F : List Value → Hp} {ds : TypeDesc} [ht : Ty C t ds n] (hx : opv L x = some (.pointer (some ⟨b, o, none⟩))) (hy : opv L y = some (.agg vs.toArray)) (hn : vs.length = n) (h1 : ∀ v ∈ vs, v.oneCell' = true) [hu : UpdI b T cs S F] (ho : o + n ≤ cs.length) {cs' : List Value} (hcs : splice cs o vs = cs') :
    EffOK C N X ⟨none, .store t x y, ty, p, af, none⟩ L D S (fun cont => cont L D (F cs')) := E.storeA hx hy hn h1 ho hcs (hu.h _)
end
end
section
section
variable {C : Cx} {N : Nat} {X : Fx} {k : List Item} {ops : Array Oper} {md : Option (Hp × Option Nat)} {rest : List Oper} {L : Slots} {D : List Deferred} {S : Hp}
theorem E.native {d : Nat} {g : FuncId} {args : List Operand} {ats : Array TypeId} {ty : TypeId} {p : String} {af : Array Edge} {vs : List Value} {v : Value}
    (ha : opvs L args = some vs) (hv : ∀ w, (callFunc g vs.toArray).run C.P w = .ok (.value v) w) (hd : Nat.blt d N = true) :
    EffOK C N X ⟨some d, .call { callee := .value (.func g), args := args.toArray, argTypes := ats }, ty, p, af, none⟩ L D S (fun cont => cont ((d, v) :: L) D S) := by
  unfold EffOK; intro cont hT a w K Q h1 h2 h3 hK
  have he := opvs_eval h1 ha
  unfold Oper.wp
  simp only [execOp, resolve, Sem.run_bind, List.map_toArray, he, Act.eval, Deferred.ofValue, Go.invoke, Sem.run_pure, Result.andThen_ok, Array.empty_append, Array.append_empty, List.append_toArray, List.nil_append, hv, Oper.upon]
  exact hK _ _ _ hT _ _ (h1.put _ hd) (by simpa [Act.put] using h2) h3
end
instance : NL 33 33 := ⟨rfl⟩
instance : NL 36 36 := ⟨rfl⟩
instance : NL 39 39 := ⟨rfl⟩
instance : NL 43 43 := ⟨rfl⟩
instance : NL 45 45 := ⟨rfl⟩
instance : NL 46 46 := ⟨rfl⟩
instance : NL 62 62 := ⟨rfl⟩
instance : NL 65 65 := ⟨rfl⟩
instance : NL 66 66 := ⟨rfl⟩
instance : NL 69 69 := ⟨rfl⟩
instance : NL 79 79 := ⟨rfl⟩
instance : NL 80 80 := ⟨rfl⟩
instance : NL 88 88 := ⟨rfl⟩
instance : NL 90 90 := ⟨rfl⟩
instance : NL 94 94 := ⟨rfl⟩
instance : NL 95 95 := ⟨rfl⟩
instance : NL 98 98 := ⟨rfl⟩
instance : NL 101 101 := ⟨rfl⟩
instance : NL 102 102 := ⟨rfl⟩
instance : NL 105 105 := ⟨rfl⟩
instance : NL 111 111 := ⟨rfl⟩
instance : NL 112 112 := ⟨rfl⟩
instance : NL 120 120 := ⟨rfl⟩
instance : NL 122 122 := ⟨rfl⟩
instance : NL 127 127 := ⟨rfl⟩
instance : NL 256 256 := ⟨rfl⟩
instance : NL 301 301 := ⟨rfl⟩
instance : NL 1000000 1000000 := ⟨rfl⟩
instance : NL 1043915 1043915 := ⟨rfl⟩
instance : NL 10000000 10000000 := ⟨rfl⟩
instance : NL 11259375 11259375 := ⟨rfl⟩
instance : NL 2147483647 2147483647 := ⟨rfl⟩
instance : NL 4294967295 4294967295 := ⟨rfl⟩
instance : NL 4294967296 4294967296 := ⟨rfl⟩
instance : NL 1152921504606846976 1152921504606846976 := ⟨rfl⟩
instance : NL 1844674407370955162 1844674407370955162 := ⟨rfl⟩
instance : NL 9223372036854775808 9223372036854775808 := ⟨rfl⟩
instance : NL 18446744073709551615 18446744073709551615 := ⟨rfl⟩
section
variable {C : Cx} {N : Nat} {X : Fx} {k : List Item} {ops : Array Oper} {md : Option (Hp × Option Nat)} {rest : List Oper} {L : Slots} {D : List Deferred} {S : Hp}
  {d : Nat} {ty : TypeId} {p : String} {af : Array Edge} {t t' : TypeId} {x y : Operand}
theorem J.notU {a : Nat} (hd : Nat.blt d N = true) {a' : Int} (hx : opv L x = some (.int .u64 a')) [na : NL a' a] (ha : a < 18446744073709551616)
    (h : J C N X k ops md rest ((d, .int .u64 ((18446744073709551615 - a : Nat) : Int)) :: L) D S) : J C N X k ops md (⟨some d, .unOp .xor t x, ty, p, af, none⟩ :: rest) L D S := by
  obtain rfl := na.h
  refine J.val hd rfl (fun ρ w hρ _ _ _ _ _ _ _ => ?_) h
  have e64 : (2 : Nat) ^ 64 = 18446744073709551616 := by decide
  have ea : (BitVec.ofInt 64 (a : Int)).toNat = a := by rw [ofInt_nat, e64, Nat.mod_eq_of_lt ha]
  have em : IntKind.u64.max = ((18446744073709551615 : Nat) : Int) := by decide
  have e : IntKind.u64.wrap ((BitVec.ofInt 64 ((18446744073709551615 : Nat) : Int) ^^^ BitVec.ofInt 64 (a : Int)).toNat : Int) = ((18446744073709551615 - a : Nat) : Int) := by
    have h1 : BitVec.ofInt 64 ((18446744073709551615 : Nat) : Int) = BitVec.allOnes 64 := by decide
    have h2 : (BitVec.allOnes 64 ^^^ BitVec.ofInt 64 (a : Int)).toNat = 18446744073709551615 - a := by
      rw [BitVec.allOnes_xor, BitVec.toNat_not, ea]
    rw [h1, h2, wrap_u64_nat (by omega)]
  have hs : IntKind.u64.signed = false := rfl
  simp only [execOp, hρ _ _ hx, Op.unary, hs, em, Op.intBits, IntKind.bits]
  simp only [ne_eq, not_true_eq_false, if_false, Bool.false_eq_true, Sem.run_bind, Sem.run_pure, Result.andThen_ok]
  exact congrArg (fun z => Result.ok (Next.value (Value.int .u64 z)) w) e
theorem J.addA {a b : Nat} (hd : Nat.blt d N = true) {a' : Int} (hx : opv L x = some (.int .u64 a')) [na : NL a' a] {b' : Int} (hy : opv L y = some (.int .u64 b')) [nb : NL b' b]
    (h : ∀ v, v = (a + b) % 18446744073709551616 → v < 18446744073709551616 → J C N X k ops md rest ((d, .int .u64 (v : Int)) :: L) D S) : J C N X k ops md (⟨some d, .binOp .add t x y t', ty, p, af, none⟩ :: rest) L D S :=
  J.addUm hd hx hy (h _ rfl (Nat.mod_lt _ (by decide)))
theorem J.subA {a b : Nat} (hd : Nat.blt d N = true) {a' : Int} (hx : opv L x = some (.int .u64 a')) [na : NL a' a] {b' : Int} (hy : opv L y = some (.int .u64 b')) [nb : NL b' b] (hb : b < 18446744073709551616)
    (h : ∀ v, v = (a + (18446744073709551616 - b)) % 18446744073709551616 → v < 18446744073709551616 → J C N X k ops md rest ((d, .int .u64 (v : Int)) :: L) D S) : J C N X k ops md (⟨some d, .binOp .sub t x y t', ty, p, af, none⟩ :: rest) L D S :=
  J.subUm hd hx hy hb (h _ rfl (Nat.mod_lt _ (by decide)))
theorem J.mulA {a b : Nat} (hd : Nat.blt d N = true) {a' : Int} (hx : opv L x = some (.int .u64 a')) [na : NL a' a] {b' : Int} (hy : opv L y = some (.int .u64 b')) [nb : NL b' b]
    (h : ∀ v, v = (a * b) % 18446744073709551616 → v < 18446744073709551616 → J C N X k ops md rest ((d, .int .u64 (v : Int)) :: L) D S) : J C N X k ops md (⟨some d, .binOp .mul t x y t', ty, p, af, none⟩ :: rest) L D S :=
  J.mulUm hd hx hy (h _ rfl (Nat.mod_lt _ (by decide)))
theorem J.shlA {kk : IntKind} {a s : Nat} (hd : Nat.blt d N = true) {a' : Int} (hx : opv L x = some (.int .u64 a')) [na : NL a' a] {s' : Int} (hy : opv L y = some (.int kk s')) [ns : NL s' s]
    (h : ∀ v, v = a * 2 ^ s % 18446744073709551616 → v < 18446744073709551616 → J C N X k ops md rest ((d, .int .u64 (v : Int)) :: L) D S) : J C N X k ops md (⟨some d, .binOp .shl t x y t', ty, p, af, none⟩ :: rest) L D S :=
  J.shlU hd hx hy (h _ rfl (Nat.mod_lt _ (by decide)))
theorem J.shrA {kk : IntKind} {a s : Nat} (hd : Nat.blt d N = true) {a' : Int} (hx : opv L x = some (.int .u64 a')) [na : NL a' a] {s' : Int} (hy : opv L y = some (.int kk s')) [ns : NL s' s] (ha : a < 18446744073709551616)
    (h : ∀ v, v = a / 2 ^ s → v < 18446744073709551616 → J C N X k ops md rest ((d, .int .u64 (v : Int)) :: L) D S) : J C N X k ops md (⟨some d, .binOp .shr t x y t', ty, p, af, none⟩ :: rest) L D S :=
  J.shrU hd hx hy ha (h _ rfl (Nat.lt_of_le_of_lt (Nat.div_le_self _ _) ha))
theorem J.andA {a b : Nat} (hd : Nat.blt d N = true) {a' : Int} (hx : opv L x = some (.int .u64 a')) [na : NL a' a] {b' : Int} (hy : opv L y = some (.int .u64 b')) [nb : NL b' b] (ha : a < 18446744073709551616) (hb : b < 18446744073709551616)
    (h : ∀ v, v = a &&& b → v < 18446744073709551616 → J C N X k ops md rest ((d, .int .u64 (v : Int)) :: L) D S) : J C N X k ops md (⟨some d, .binOp .and t x y t', ty, p, af, none⟩ :: rest) L D S :=
  J.andU hd hx hy ha hb (h _ rfl (Nat.lt_of_le_of_lt Nat.and_le_left ha))
theorem J.orA {a b : Nat} (hd : Nat.blt d N = true) {a' : Int} (hx : opv L x = some (.int .u64 a')) [na : NL a' a] {b' : Int} (hy : opv L y = some (.int .u64 b')) [nb : NL b' b] (ha : a < 18446744073709551616) (hb : b < 18446744073709551616)
    (h : ∀ v, v = a ||| b → v < 18446744073709551616 → J C N X k ops md rest ((d, .int .u64 (v : Int)) :: L) D S) : J C N X k ops md (⟨some d, .binOp .or t x y t', ty, p, af, none⟩ :: rest) L D S :=
  J.orU hd hx hy ha hb (h _ rfl (Nat.or_lt_two_pow (n := 64) ha hb))
theorem J.quoA {a b : Nat} (hd : Nat.blt d N = true) {a' : Int} (hx : opv L x = some (.int .u64 a')) [na : NL a' a] {b' : Int} (hy : opv L y = some (.int .u64 b')) [nb : NL b' b] (hb : b ≠ 0) (ha : a < 18446744073709551616)
    (h : ∀ v, v = a / b → v < 18446744073709551616 → J C N X k ops md rest ((d, .int .u64 (v : Int)) :: L) D S) : J C N X k ops md (⟨some d, .binOp .quo t x y t', ty, p, af, none⟩ :: rest) L D S :=
  J.quoU hd hx hy hb ha (h _ rfl (Nat.lt_of_le_of_lt (Nat.div_le_self _ _) ha))
end
theorem run_find {P : Program} {f : FuncId} {fn : Func} {args : Array Value} {v : Value} {w : World} (hf : P.funcs[f]? = some fn) (hname : (fn.name == "runtime.NumGoroutine") = false)
    (hb : fn.body.isNone = true) (hn : (Extern.findNext fn).isNone = true) {e : Array Value → Sem Value} (he : Extern.find fn = some e) (hr : (e args).run P w = .ok v w) : (callFunc f args).run P w = .ok (.value v) w := by
  rw [run_callFunc_extern hf hname hb (by simpa using hn) he, hr]; rfl
theorem add64_run (E : Addr) (x y c : Nat) (hc : c ≤ 1) (w : World) :
    (callFunc 260 #[.int .u64 x, .int .u64 y, .int .u64 c]).run (cx E).P w =
      .ok (.value (.tuple #[.int .u64 (((x + y + c) % 18446744073709551616 : Nat) : Int), .int .u64 (((x + y + c) / 18446744073709551616 : Nat) : Int)])) w := by
  refine run_find Tryz.func260 (by kernel_rfl) (by kernel_rfl) (by kernel_rfl) rfl ?_
  have : c = 0 ∨ c = 1 := by omega
  rcases this with rfl | rfl <;> rfl
theorem sub64_run (E : Addr) (x y b : Nat) (hb : b ≤ 1) (w : World) :
    (callFunc 279 #[.int .u64 x, .int .u64 y, .int .u64 b]).run (cx E).P w =
      .ok (.value (.tuple #[.int .u64 (((x + 18446744073709551616 - y - b) % 18446744073709551616 : Nat) : Int), .int .u64 ((if x < y + b then 1 else 0 : Nat) : Int)])) w := by
  refine run_find Tryz.func279 (by kernel_rfl) (by kernel_rfl) (by kernel_rfl) rfl ?_
  have : b = 0 ∨ b = 1 := by omega
  rcases this with rfl | rfl <;> rfl
theorem Inv.left {C : Cx} {X : Fx} {A B : Hp} {w : World} (h : Inv C X (A ++ B) w) : Inv C X A w :=
  ⟨h.mu, fun e he => h.holds e (List.mem_append_left _ he), (List.pairwise_append.1 h.nd).1, fun e he => h.own e (List.mem_append_left _ he), h.glob, h.size⟩
theorem GL.doneA {C : Cx} {N : Nat} {X : Fx} {fn : Func} {L : Slots} {S : Hp} {τ : Type} {val : τ → Value} {Wq : τ → Hp} {φ : τ → Prop} (x : τ) {rs : List ResultVar} {vs : List Value} (hf : fn.results = rs.toArray) (hv : resv L rs = some vs) (hx : φ x) (hval : val x = tup vs) (S1 : Hp) (hS : S = Wq x ++ S1) (hw : ∀ e ∈ Wq x, e.wr = true) :
    GL C N fn X val Wq φ L [] S := by
  intro a w h1 h3
  refine ⟨tup vs, run_results h1 hf hv w, x, hx, by rw [hval], ?_⟩
  subst hS
  have h4 := h3.left
  exact ⟨h4.mu, h4.holds, h4.nd, fun e he => ⟨hw e he, (h4.own e he (hw e he)).1, (h4.own e he (hw e he)).2⟩⟩
section
variable {C : Cx} {N : Nat} {X : Fx} {k : List Item} {ops : Array Oper} {md : Option (Hp × Option Nat)} {rest : List Oper} {L : Slots} {D : List Deferred} {S : Hp} {op : Op} {ty : TypeId} {p : String} {af : Array Edge} {d : Nat}
theorem G.cT {c : Operand} {x y : Code} {t : Bool} (hc : opv L c = some (.bool t)) (h : G C N X (.code x :: k) L D S) (ht : t = true := by first | rfl | assumption | exact decide_eq_true (by omega) | (simp only [Nat.mul_one, Nat.one_mul, Nat.add_sub_cancel, Nat.zero_add, Nat.add_zero, Nat.sub_zero, decide_eq_true_eq, decide_eq_false_iff_not, Nat.zero_mul]; first | assumption | omega) | (simp; omega) | simp) : G C N X (.code (.cond c x y) :: k) L D S := G.condT hc ht h
theorem G.cF {c : Operand} {x y : Code} {t : Bool} (hc : opv L c = some (.bool t)) (h : G C N X (.code y :: k) L D S) (ht : t = false := by first | rfl | assumption | exact decide_eq_false (by omega) | (simp only [Nat.mul_one, Nat.one_mul, Nat.add_sub_cancel, Nat.zero_add, Nat.add_zero, Nat.sub_zero, decide_eq_true_eq, decide_eq_false_iff_not, Nat.zero_mul]; first | assumption | omega) | (simp; omega) | simp) : G C N X (.code (.cond c x y) :: k) L D S := G.condF hc ht h
theorem J.wT {dst : Option Tmp} {j t : Nat} {b' : Bool} (hj : ((ops[j]?).bind (·.dst)) = some t) (ht : sget L t = some (.bool b'))
    (h : J C N X k ops md (⟨dst, op, ty, p, af, none⟩ :: rest) L D S) (hb : b' = true := by first | rfl | assumption | exact decide_eq_true (by omega) | (simp only [Nat.mul_one, Nat.one_mul, Nat.add_sub_cancel, Nat.zero_add, Nat.add_zero, Nat.sub_zero, decide_eq_true_eq, decide_eq_false_iff_not, Nat.zero_mul]; first | assumption | omega) | (simp; omega) | simp) : J C N X k ops md (⟨dst, op, ty, p, af, some (j, true)⟩ :: rest) L D S := J.want hj ht hb h
theorem J.wF {dst : Option Tmp} {j t : Nat} {b' : Bool} (hj : ((ops[j]?).bind (·.dst)) = some t) (ht : sget L t = some (.bool b'))
    (h : J C N X k ops md (⟨dst, op, ty, p, af, none⟩ :: rest) L D S) (hb : b' = false := by first | rfl | assumption | exact decide_eq_false (by omega) | (simp only [Nat.mul_one, Nat.one_mul, Nat.add_sub_cancel, Nat.zero_add, Nat.add_zero, Nat.sub_zero, decide_eq_true_eq, decide_eq_false_iff_not, Nat.zero_mul]; first | assumption | omega) | (simp; omega) | simp) : J C N X k ops md (⟨dst, op, ty, p, af, some (j, false)⟩ :: rest) L D S := J.want hj ht hb h
theorem J.sk {j t : Nat} {b b' : Bool} (hd : Nat.blt d N = true) (he : isEff op = false) (hj : ((ops[j]?).bind (·.dst)) = some t) (ht : sget L t = some (.bool b'))
    (h : J C N X k ops md rest ((d, undef) :: L) D S) (hb : b' = !b := by first | rfl | (simp only [Bool.not_true, Bool.not_false]; first | assumption | exact decide_eq_true (by omega) | exact decide_eq_false (by omega) | (simp; omega) | simp)) : J C N X k ops md (⟨some d, op, ty, p, af, some (j, b)⟩ :: rest) L D S := J.skip hd he hj ht hb h
theorem J.skE {j t : Nat} {b b' : Bool} (hd : Nat.blt d N = true) (hj : ((ops[j]?).bind (·.dst)) = some t) (ht : sget L t = some (.bool b'))
    (h : J C N X k ops none rest ((d, undef) :: L) D S) (hb : b' = !b := by first | rfl | (simp only [Bool.not_true, Bool.not_false]; first | assumption | exact decide_eq_true (by omega) | exact decide_eq_false (by omega) | (simp; omega) | simp)) : J C N X k ops none (⟨some d, op, ty, p, af, some (j, b)⟩ :: rest) L D S := J.skipE hd hj ht hb h
theorem J.pT {c x y : Operand} {v : Value} {b : Bool} (hd : Nat.blt d N = true) (hc : opv L c = some (.bool b)) (hx : opv L x = some v) (h : J C N X k ops md rest ((d, v) :: L) D S) (hb : b = true := by first | rfl | assumption | exact decide_eq_true (by omega) | (simp only [Nat.mul_one, Nat.one_mul, Nat.add_sub_cancel, Nat.zero_add, Nat.add_zero, Nat.sub_zero, decide_eq_true_eq, decide_eq_false_iff_not, Nat.zero_mul]; first | assumption | omega) | (simp; omega) | simp) :
    J C N X k ops md (⟨some d, .pick c x y, ty, p, af, none⟩ :: rest) L D S := J.pickT hd hc hb hx h
theorem J.pF {c x y : Operand} {v : Value} {b : Bool} (hd : Nat.blt d N = true) (hc : opv L c = some (.bool b)) (hx : opv L y = some v) (h : J C N X k ops md rest ((d, v) :: L) D S) (hb : b = false := by first | rfl | assumption | exact decide_eq_false (by omega) | (simp only [Nat.mul_one, Nat.one_mul, Nat.add_sub_cancel, Nat.zero_add, Nat.add_zero, Nat.sub_zero, decide_eq_true_eq, decide_eq_false_iff_not, Nat.zero_mul]; first | assumption | omega) | (simp; omega) | simp) :
    J C N X k ops md (⟨some d, .pick c x y, ty, p, af, none⟩ :: rest) L D S := J.pickF hd hc hb hx h
theorem J.ix {x y : Operand} {t e : TypeId} {b o len cap i : Nat} {kk : IntKind} {q : Nat} [ht : Ty C t (.slice e) q] {de : TypeDesc} [he : Ty C e de 1] (hd : Nat.blt d N = true)
    (hx : opv L x = some (.slice (some ⟨b, o, none⟩) len cap)) {i' : Int} (hy : opv L y = some (.int kk i')) [ni : NL i' i]
    (h : J C N X k ops md rest ((d, .pointer (some ⟨b, o + i, none⟩)) :: L) D S) (hi : i < len := by first | omega | (simp only [Nat.mul_one, Nat.one_mul, Nat.zero_mul, List.length_set, List.length_cons, List.length_nil, List.length_replicate]; omega) | (simp; omega)) : J C N X k ops md (⟨some d, .indexAddr t x y, ty, p, af, none⟩ :: rest) L D S :=
  J.indexAddr1 hd hx hy hi h
theorem J.lc {t : TypeId} {x : Operand} {ds : TypeDesc} {n b o T : Nat} {kk : IntKind} {xs : List Nat} [ht : Ty C t ds n] (hd : Nat.blt d N = true) (hp : TypeDesc.plain ds = true)
    (hx : opv L x = some (.pointer (some ⟨b, o, none⟩))) [hm : MemI b T (cells kk xs) S]
    (h : J C N X k ops none rest ((d, .int kk ((xs.getD o 0 : Nat) : Int)) :: L) D S) (ho : o < xs.length := by first | omega | (simp only [Nat.mul_one, Nat.one_mul, Nat.zero_mul, List.length_set, List.length_cons, List.length_nil, List.length_replicate]; omega) | (simp; omega)) : J C N X k ops none (⟨some d, .load t x, ty, p, af, none⟩ :: rest) L D S := J.loadCI hd hp hx ho h
theorem E.sc {x y : Operand} {t : TypeId} {b o T v : Nat} {kk : IntKind} {xs : List Nat} {F : List Value → Hp} {ds : TypeDesc} [ht : Ty C t ds 1] (hx : opv L x = some (.pointer (some ⟨b, o, none⟩))) {v' : Int} (hy : opv L y = some (.int kk v')) [nv : NL v' v] [hu : UpdI b T (cells kk xs) S F] (ho : o < xs.length := by first | omega | (simp only [Nat.mul_one, Nat.one_mul, Nat.zero_mul, List.length_set, List.length_cons, List.length_nil, List.length_replicate]; omega) | (simp; omega)) :
    EffOK C N X ⟨none, .store t x y, ty, p, af, none⟩ L D S (fun cont => cont L D (F (cells kk (xs.set o v)))) := E.storeCI hx hy ho
theorem E.si {x y : Operand} {t : TypeId} {b o T : Nat} {cs : List Value} {v : Value} {F : List Value → Hp} {ds : TypeDesc} [ht : Ty C t ds 1] (hx : opv L x = some (.pointer (some ⟨b, o, none⟩))) (hy : opv L y = some v) (h1 : v.oneCell' = true) [hu : UpdI b T cs S F] {cs' : List Value} (hc : cs.set o v = cs') (ho : o < cs.length := by first | omega | (simp only [Nat.mul_one, Nat.one_mul, Nat.zero_mul, List.length_set, List.length_cons, List.length_nil, List.length_replicate]; omega) | (simp; omega)) :
    EffOK C N X ⟨none, .store t x y, ty, p, af, none⟩ L D S (fun cont => cont L D (F cs')) := E.storeI hx hy h1 ho hc
theorem J.ld {x : Operand} {t : TypeId} {ds : TypeDesc} {n : Nat} {b o T : Nat} {cs : List Value} {v : Value} {R : Hp} {m : Option Nat} [ht : Ty C t ds n] (hd : Nat.blt d N = true) (hp : TypeDesc.plain ds = true)
    (hx : opv L x = some (.pointer (some ⟨b, o, none⟩))) [hm : MemI b T cs R] (hk : keepsM m (⟨some d, .load t x, ty, p, af, none⟩ :: rest) = true) (hv : cs[o]? = some v)
    (h : J C N X k ops (some (R, m)) rest ((d, v) :: L) D S) : J C N X k ops (some (R, m)) (⟨some d, .load t x, ty, p, af, none⟩ :: rest) L D S :=
  J.load hd hp hx (by simp only [vheap, hk]; exact hm.h) hv h
def nnil : Value → Bool
  | .pointer (some _) => true
  | .iface _ _ => true
  | _ => false
theorem J.nc {x : Operand} {v : Value} (hd : Nat.blt d N = true) (hx : opv L x = some v) (hn : nnil v = true) (h : J C N X k ops md rest ((d, v) :: L) D S) :
    J C N X k ops md (⟨some d, .nilCheck x, ty, p, af, none⟩ :: rest) L D S := by
  match v, hn with
  | .pointer (some a), _ => exact J.nilCheck hd hx h
  | .iface t u, _ => exact J.nilCheckI hd hx h
theorem G.wk {L' : Slots} {S' : Hp} (l : List Nat) (h : G C N X k L' D S') (hL : SubSlots L' L := by repeat (first | exact SubSlots.nil _ | refine SubSlots.cons rfl ?_)) (hp : pick S l = some S' := by rfl) (hn : l.Nodup := by decide) : G C N X k L D S := G.weak hL l hp hn h
theorem G.wl {L' : Slots} (h : G C N X k L' D S) (hL : SubSlots L' L := by repeat (first | exact SubSlots.nil _ | refine SubSlots.cons rfl ?_)) : G C N X k L D S := G.weakL hL h
end
end
section
section
variable {C : Cx} {N : Nat} {X : Fx} {k : List Item} {ops : Array Oper} {md : Option (Hp × Option Nat)} {rest : List Oper} {L : Slots} {D : List Deferred} {S : Hp}
  {d : Nat} {ty : TypeId} {p : String} {af : Array Edge} {t t' : TypeId} {x y : Operand}
theorem J.ptrNilE {a : Option Addr} {te : TypeId} {n : Nat} [ht : Ty C t (.pointer te) n] (hd : Nat.blt d N = true) (hx : opv L x = some (.pointer a))
    (h : J C N X k ops md rest ((d, .bool a.isNone) :: L) D S) : J C N X k ops md (⟨some d, .binOp .eql t x (.const (.pointer none)) t', ty, p, af, none⟩ :: rest) L D S := by
  refine J.val hd rfl (fun ρ w hρ hS _ _ _ _ _ _ => ?_) h
  have e : C.P.underlying t = some (.pointer (C.P.pointee t)) := by simp [Program.pointee, ht.u]
  simp [execOp, hρ _ _ hx, hρ (.const (.pointer none)) _ rfl, eqGuard_at_pointer, run_eql_pointer_nil w t a e]
theorem J.ptrNilN {a : Option Addr} {te : TypeId} {n : Nat} [ht : Ty C t (.pointer te) n] (hd : Nat.blt d N = true) (hx : opv L x = some (.pointer a))
    (h : J C N X k ops md rest ((d, .bool (!a.isNone)) :: L) D S) : J C N X k ops md (⟨some d, .binOp .neq t x (.const (.pointer none)) t', ty, p, af, none⟩ :: rest) L D S := by
  refine J.val hd rfl (fun ρ w hρ hS _ _ _ _ _ _ => ?_) h
  have e : C.P.underlying t = some (.pointer (C.P.pointee t)) := by simp [Program.pointee, ht.u]
  simp [execOp, hρ _ _ hx, hρ (.const (.pointer none)) _ rfl, eqGuard_at_pointer, run_neq_pointer_nil w t a e]
theorem eqGuard_iface (o : BinOp) (t u : TypeId) (x y : Operand) (v z : Value) : eqGuard o t x y (.iface u v) z = pure () := by cases o <;> rfl
theorem eqGuard_nil_iface (o : BinOp) (t u : TypeId) (x y : Operand) (v : Value) : eqGuard o t x y .nilIface (.iface u v) = pure () := by cases o <;> rfl
theorem eqGuard_nil_const (o : BinOp) (t : TypeId) (x : Operand) (v : Value) : eqGuard o t x (.const v) .nilIface .nilIface = pure () := by
  cases o <;> simp [eqGuard]
theorem J.ifNilE {u : TypeId} {v : Value} {ms : Array (String × TypeId)} {n : Nat} [ht : Ty C t (.interface ms) n] (hd : Nat.blt d N = true) (hx : opv L x = some (.iface u v))
    (h : J C N X k ops md rest ((d, .bool false) :: L) D S) : J C N X k ops md (⟨some d, .binOp .eql t x (.const .nilIface) t', ty, p, af, none⟩ :: rest) L D S := by
  refine J.val hd rfl (fun ρ w hρ hS _ _ _ _ _ _ => ?_) h
  have e : C.P.underlying t = some (.interface (C.P.methodsAt t)) := by simp [Program.methodsAt, ht.u]
  simp [execOp, hρ _ _ hx, hρ (.const .nilIface) _ rfl, eqGuard_iface, run_eql_held_nil w t u v e]
theorem J.ifNilN {u : TypeId} {v : Value} {ms : Array (String × TypeId)} {n : Nat} [ht : Ty C t (.interface ms) n] (hd : Nat.blt d N = true) (hx : opv L x = some (.iface u v))
    (h : J C N X k ops md rest ((d, .bool true) :: L) D S) : J C N X k ops md (⟨some d, .binOp .neq t x (.const .nilIface) t', ty, p, af, none⟩ :: rest) L D S := by
  refine J.val hd rfl (fun ρ w hρ hS _ _ _ _ _ _ => ?_) h
  have e : C.P.underlying t = some (.interface (C.P.methodsAt t)) := by simp [Program.methodsAt, ht.u]
  simp [execOp, hρ _ _ hx, hρ (.const .nilIface) _ rfl, eqGuard_iface, run_neq_held_nil w t u v e]
theorem J.nilNilE {ms : Array (String × TypeId)} {n : Nat} [ht : Ty C t (.interface ms) n] (hd : Nat.blt d N = true) (hx : opv L x = some .nilIface)
    (h : J C N X k ops md rest ((d, .bool true) :: L) D S) : J C N X k ops md (⟨some d, .binOp .eql t x (.const .nilIface) t', ty, p, af, none⟩ :: rest) L D S := by
  refine J.val hd rfl (fun ρ w hρ hS _ _ _ _ _ _ => ?_) h
  have e : C.P.underlying t = some (.interface (C.P.methodsAt t)) := by simp [Program.methodsAt, ht.u]
  simp [execOp, hρ _ _ hx, hρ (.const .nilIface) _ rfl, eqGuard_nil_const, run_eql_nil_nil w t e]
theorem J.nilNilN {ms : Array (String × TypeId)} {n : Nat} [ht : Ty C t (.interface ms) n] (hd : Nat.blt d N = true) (hx : opv L x = some .nilIface)
    (h : J C N X k ops md rest ((d, .bool false) :: L) D S) : J C N X k ops md (⟨some d, .binOp .neq t x (.const .nilIface) t', ty, p, af, none⟩ :: rest) L D S := by
  refine J.val hd rfl (fun ρ w hρ hS _ _ _ _ _ _ => ?_) h
  have e : C.P.underlying t = some (.interface (C.P.methodsAt t)) := by simp [Program.methodsAt, ht.u]
  simp [execOp, hρ _ _ hx, hρ (.const .nilIface) _ rfl, eqGuard_nil_const, run_neq_nil_nil w t e]
theorem run_neq_of_eql {P : Program} {t u u' : TypeId} {v v' : Value} {b : Bool} {w : World} (h : (binOp .eql t (.iface u v) (.iface u' v')).run P w = .ok (.bool b) w) : (binOp .neq t (.iface u v) (.iface u' v')).run P w = .ok (.bool (!b)) w := by
  simp only [binOp] at h ⊢
  cases he : (Op.equal t (.iface u v) (.iface u' v')).run P w <;> simp [he] at h ⊢
  simp [h.1, h.2]
theorem run_neq_of_eql_nil {P : Program} {t u' : TypeId} {v' : Value} {b : Bool} {w : World} (h : (binOp .eql t .nilIface (.iface u' v')).run P w = .ok (.bool b) w) : (binOp .neq t .nilIface (.iface u' v')).run P w = .ok (.bool (!b)) w := by
  simp only [binOp] at h ⊢
  cases he : (Op.equal t .nilIface (.iface u' v')).run P w <;> simp [he] at h ⊢
  simp [h.1, h.2]
class TyP (C : Cx) (tp : TypeId) : Prop where
  h : ∃ te i j, C.P.underlying tp = some (.pointer te) ∧ C.P.info? tp = some i ∧ i.comparable = true ∧ C.P.info? te = some j
theorem J.ifSameE {tp : TypeId} {a : Addr} {ms : Array (String × TypeId)} {n : Nat} [ht : Ty C t (.interface ms) n] [hp : TyP C tp] (hd : Nat.blt d N = true) (hx : opv L x = some (.iface tp (.pointer (some a)))) (hy : opv L y = some (.iface tp (.pointer (some a))))
    (h : J C N X k ops md rest ((d, .bool true) :: L) D S) : J C N X k ops md (⟨some d, .binOp .eql t x y t', ty, p, af, none⟩ :: rest) L D S := by
  refine J.val hd rfl (fun ρ w hρ hS _ _ _ _ _ _ => ?_) h
  obtain ⟨te, i, j, h1, h2, h3, h4⟩ := hp.h
  simp [execOp, hρ _ _ hx, hρ _ _ hy, eqGuard_iface, run_eql_iface_ptr_same w a ht.u h1 h2 h3 h4]
theorem J.ifSameN {tp : TypeId} {a : Addr} {ms : Array (String × TypeId)} {n : Nat} [ht : Ty C t (.interface ms) n] [hp : TyP C tp] (hd : Nat.blt d N = true) (hx : opv L x = some (.iface tp (.pointer (some a)))) (hy : opv L y = some (.iface tp (.pointer (some a))))
    (h : J C N X k ops md rest ((d, .bool false) :: L) D S) : J C N X k ops md (⟨some d, .binOp .neq t x y t', ty, p, af, none⟩ :: rest) L D S := by
  refine J.val hd rfl (fun ρ w hρ hS _ _ _ _ _ _ => ?_) h
  obtain ⟨te, i, j, h1, h2, h3, h4⟩ := hp.h
  simp [execOp, hρ _ _ hx, hρ _ _ hy, eqGuard_iface, run_neq_of_eql (run_eql_iface_ptr_same w a ht.u h1 h2 h3 h4)]
theorem J.nilIfE {tp : TypeId} {v : Value} {ms : Array (String × TypeId)} {n : Nat} [ht : Ty C t (.interface ms) n] (hd : Nat.blt d N = true) (hx : opv L x = some .nilIface) (hy : opv L y = some (.iface tp v))
    (h : J C N X k ops md rest ((d, .bool false) :: L) D S) : J C N X k ops md (⟨some d, .binOp .eql t x y t', ty, p, af, none⟩ :: rest) L D S := by
  refine J.val hd rfl (fun ρ w hρ hS _ _ _ _ _ _ => ?_) h
  simp [execOp, hρ _ _ hx, hρ _ _ hy, eqGuard_nil_iface, run_eql_iface_nil_left w tp v ht.u]
theorem J.nilIfN {tp : TypeId} {v : Value} {ms : Array (String × TypeId)} {n : Nat} [ht : Ty C t (.interface ms) n] (hd : Nat.blt d N = true) (hx : opv L x = some .nilIface) (hy : opv L y = some (.iface tp v))
    (h : J C N X k ops md rest ((d, .bool true) :: L) D S) : J C N X k ops md (⟨some d, .binOp .neq t x y t', ty, p, af, none⟩ :: rest) L D S := by
  refine J.val hd rfl (fun ρ w hρ hS _ _ _ _ _ _ => ?_) h
  simp [execOp, hρ _ _ hx, hρ _ _ hy, eqGuard_nil_iface, run_neq_of_eql_nil (run_eql_iface_nil_left w tp v ht.u)]
end
def bvs (L : Slots) : List (Nat × Operand) → Option (List (Nat × Value))
  | [] => some []
  | (i, x) :: r => match opv L x with
    | some v => (bvs L r).map ((i, v) :: ·)
    | none => none
theorem bvs_eval {N : Nat} {L : Slots} {ρ : Operand → Value} (h : ∀ x u, opv L x = some u → ρ x = u) : ∀ {l : List (Nat × Operand)} {vs : List (Nat × Value)}, bvs L l = some vs → l.map (fun (i, x) => (i, ρ x)) = vs
  | [], vs, e => by simp [bvs] at e; subst e; rfl
  | (i, x) :: r, vs, e => by
    simp only [bvs] at e
    cases hx : opv L x with
    | none => simp [hx] at e
    | some v =>
      cases hr : bvs L r with
      | none => simp [hx, hr] at e
      | some us =>
        simp only [hx, hr, Option.map_some, Option.some.injEq] at e
        subst e
        simp [h x v hx, bvs_eval (N := N) h hr]
section
variable {C : Cx} {N : Nat} {X : Fx} {k : List Item} {ops : Array Oper} {md : Option (Hp × Option Nat)} {rest : List Oper} {L : Slots} {D : List Deferred} {S : Hp}
  {d : Nat} {ty : TypeId} {p : String} {af : Array Edge} {t t' : TypeId} {x y : Operand}
theorem J.sub8 {a b : Nat} (hd : Nat.blt d N = true) {a' : Int} (hx : opv L x = some (.int .u8 a')) [na : NL a' a] {b' : Int} (hy : opv L y = some (.int .u8 b')) [nb : NL b' b] (hb : b ≤ a) (ha : a < 256)
    (h : J C N X k ops md rest ((d, .int .u8 ((a - b : Nat) : Int)) :: L) D S) : J C N X k ops md (⟨some d, .binOp .sub t x y t', ty, p, af, none⟩ :: rest) L D S := by
  obtain rfl := na.h
  obtain rfl := nb.h
  refine J.arith hd hx hy (r := ((a - b : Nat) : Int)) ?_ h
  have : IntKind.u8.wrap ((a : Int) - b) = ((a - b : Nat) : Int) := by rw [IntKind.wrap_u8]; omega
  simp only [this]
theorem J.add8 {a b : Nat} (hd : Nat.blt d N = true) {a' : Int} (hx : opv L x = some (.int .u8 a')) [na : NL a' a] {b' : Int} (hy : opv L y = some (.int .u8 b')) [nb : NL b' b] (ha : a + b < 256)
    (h : J C N X k ops md rest ((d, .int .u8 ((a + b : Nat) : Int)) :: L) D S) : J C N X k ops md (⟨some d, .binOp .add t x y t', ty, p, af, none⟩ :: rest) L D S := by
  obtain rfl := na.h
  obtain rfl := nb.h
  refine J.arith hd hx hy (r := ((a + b : Nat) : Int)) ?_ h
  have : IntKind.u8.wrap ((a : Int) + b) = ((a + b : Nat) : Int) := by rw [IntKind.wrap_u8]; omega
  simp only [this]
theorem J.skipU {op : Op} {j u : Nat} {b : Bool} (hd : Nat.blt d N = true) (he : isEff op = false) (hj : ((ops[j]?).bind (·.dst)) = some u) (ht : sget L u = some undef)
    (h : J C N X k ops md rest ((d, undef) :: L) D S) : J C N X k ops md (⟨some d, op, ty, p, af, some (j, b)⟩ :: rest) L D S := by
  intro a w h1 h2 h3
  have hk := h (a.put (some d) undef) w (h1.put undef hd) (by simpa [Act.put] using h2) h3
  have hw : Region.wanted (⟨some d, op, ty, p, af, some (j, b)⟩ : Oper) (yielded ops a.tmps) = false := by
    simp [Region.wanted, yielded, hj, h1.get u _ ht, undef]
  cases md with
  | none =>
    simp only [wpList, hw, Bool.false_eq_true, if_false]
    exact hk
  | some x =>
    obtain ⟨R, m⟩ := x
    simp only [wpS, he, Bool.false_eq_true, if_false]
    exact ⟨undef, .inr ⟨hw, rfl⟩, hk⟩
theorem E.inv0 {g : FuncId} {u' : Value} {Wp Rp S1 : Hp} {τ : Type} {val : τ → Value} {Wq : τ → Hp} {φ : τ → Prop} {x0 : Operand} {nm : String} {ats : Array TypeId} {u : Value}
    [hf : Fn1 C g] (hs : Spec C g #[u'] Wp Rp val Wq φ) (lw lr : List Nat) (hm : ∀ w, (method (C.P.types.size + Made.depth) t u nm).run C.P w = .ok (g, u') w) (hd : Nat.blt d N = true) (hx : opv L x0 = some (.iface t u))
    (hdel : takeAt S lw = some (Wp, S1)) (hw : Wp.all (·.wr) = true) (hsub : roAt S1 lr = some Rp) :
    EffOK C N X ⟨some d, .call { callee := .invoke x0 nm, args := #[], argTypes := ats }, ty, p, af, none⟩ L D S (fun cont => ∀ x, φ x → cont ((d, val x) :: L) D (Wq x ++ S1)) :=
  E.invP (args := []) (vs := []) (by simpa using hs) lw lr hd hx hm rfl hdel hw hsub
theorem J.andI {a b : Nat} (hd : Nat.blt d N = true) {a' : Int} (hx : opv L x = some (.int .i64 a')) [na : NL a' a] {b' : Int} (hy : opv L y = some (.int .i64 b')) [nb : NL b' b] (ha : a < 9223372036854775808) (hb : b < 9223372036854775808)
    (h : J C N X k ops md rest ((d, .int .i64 ((a &&& b : Nat) : Int)) :: L) D S) : J C N X k ops md (⟨some d, .binOp .and t x y t', ty, p, af, none⟩ :: rest) L D S := by
  obtain rfl := na.h
  obtain rfl := nb.h
  refine J.val hd rfl (fun ρ w hρ _ _ _ _ _ _ _ => ?_) h
  have e64 : (2 : Nat) ^ 64 = 18446744073709551616 := by decide
  have ea : (BitVec.ofInt 64 (a : Int)).toNat = a := by rw [ofInt_nat, e64, Nat.mod_eq_of_lt (by omega)]
  have eb : (BitVec.ofInt 64 (b : Int)).toNat = b := by rw [ofInt_nat, e64, Nat.mod_eq_of_lt (by omega)]
  have e : IntKind.i64.wrap ((BitVec.ofInt 64 (a : Int) &&& BitVec.ofInt 64 (b : Int)).toNat : Int) = ((a &&& b : Nat) : Int) := by
    rw [BitVec.toNat_and, ea, eb]
    exact wrap_i64_nat (Nat.lt_of_le_of_lt Nat.and_le_left ha)
  simp only [execOp, hρ _ _ hx, hρ _ _ hy, eqGuard_and, binOp, Op.intBits, IntKind.bits]
  simp only [ne_eq, not_true_eq_false, if_false, Sem.run_bind, Sem.run_pure, Result.andThen_ok]
  exact congrArg (fun z => Result.ok (Next.value (Value.int .i64 z)) w) e
theorem J.build {parts : List (Nat × Operand)} {vs : List (Nat × Value)} {cs : List Value} (hd : Nat.blt d N = true) (hv : bvs L parts = some vs) (hb : C.P.built t vs = some cs.toArray)
    (h : J C N X k ops md rest ((d, .agg cs.toArray) :: L) D S) : J C N X k ops md (⟨some d, .build t parts.toArray, ty, p, af, none⟩ :: rest) L D S := by
  refine J.val hd rfl (fun ρ w hρ hS _ _ _ _ _ _ => ?_) h
  have e := bvs_eval (N := N) hρ hv
  have e2 := run_build (P := C.P) w t vs.toArray cs.toArray (by simpa using hb)
  simp only [execOp, List.map_toArray, e, Sem.run_bind, e2, Result.andThen_ok, Sem.run_pure]
end
theorem TyP.of {C : Cx} {tp te : TypeId} (h1 : C.P.underlying tp = some (.pointer te)) (h2 : (C.P.info? tp).map (·.comparable) = some true) (h3 : (C.P.info? te).isSome = true) : TyP C tp := by
  cases hi : C.P.info? tp with
  | none => simp [hi] at h2
  | some i =>
    cases hj : C.P.info? te with
    | none => simp [hj] at h3
    | some j => simp [hi] at h2; exact ⟨te, i, j, h1, hi, h2, hj⟩
instance (V : Addr) : TyP (cx V) 275 := TyP.of Tryz.underlying275 (by kernel_rfl) (by kernel_rfl)
end
section
section
variable {C : Cx} {N : Nat} {X : Fx} {k : List Item} {ops : Array Oper} {rest : List Oper} {L : Slots} {D : List Deferred} {S : Hp}
  {d : Nat} {ty : TypeId} {p : String} {af : Array Edge} {t t' : TypeId} {x y : Operand}
theorem Inv.push {o : Obj} {w w' : World} (h : Inv C X S w) (hos : w'.os = w.os) (ht : w'.tape = w.tape) (hout : w'.output = w.output) (hh : w'.heap = w.heap.push o) : Inv C X S w' := by
  have ho : ∀ b', b' < w.heap.size → w'.heap[b']? = w.heap[b']? := fun b' hb' => by rw [hh, Array.getElem?_push, if_neg (by omega)]
  refine ⟨⟨hos.trans h.mu.os, ht.trans h.mu.tape, hout.trans h.mu.out, by rw [hh]; simp; have := h.mu.size; omega, fun b' hb' hM => ?_⟩, ?_, h.nd, h.own, ?_, by rw [hh]; simp; have := h.size; omega⟩
  · rw [ho b' (Nat.lt_of_lt_of_le hb' h.mu.size)]
    exact h.mu.keep b' hb' hM
  · intro e he
    show w'.heap[e.b]? = _
    rw [ho e.b (h.holds.lt he)]
    exact h.holds e he
  · intro e he
    have h1 := h.glob e he
    have h2 := C.hGS e he
    have h3 := h.size
    unfold World.cell? at h1 ⊢
    rw [ho e.1.block (by omega)]
    exact h1
def Fx.at (X : Fx) (S : Hp) (w : World) : Fx := { Q := X.Q, w0 := w, Wp := S.filter (·.wr) }
def bstr (ys : List Nat) : ByteArray := ⟨(ys.map UInt8.ofNat).toArray⟩
theorem J.strOf {e n1 n2 n3 g n cap T : Nat} {xs ys : List Nat} [hs : Ty C t (.slice e) n1] [ht : Ty C t' .string n2] [he : Ty C e (.int .u8) n3] (hd : Nat.blt d N = true) (hx : opv L x = some (.slice (some ⟨g, 0, none⟩) n cap))
    [hm : MemI g T (cells .u8 xs) S] (hy : xs.take n = ys) (hl : ys.length = n) (h8 : ∀ y ∈ ys, y < 256)
    (h : J C N X k ops none rest ((d, .string (bstr ys)) :: L) D S) : J C N X k ops none (⟨some d, .convert t t' x, ty, p, af, none⟩ :: rest) L D S := by
  refine J.val hd rfl (fun ρ w hρ hS _ _ _ _ _ _ => ?_) h
  have hb := hm.h.ok hS
  have hr := run_convert_bytes_back (P := C.P) w t t' e ⟨g, 0, none⟩ cap (ys.map UInt8.ofNat) hs.u he.u ht.u (fun j hj => by
    have hj' : j < ys.length := by simpa using hj
    have hx' : xs[j]? = some (ys[j]'hj') := by
      have : (xs.take n)[j]? = some (ys[j]'hj') := by rw [hy]; exact List.getElem?_eq_getElem hj'
      rw [List.getElem?_take, if_pos (by omega)] at this
      exact this
    have hc : (cells .u8 xs)[j]? = some (.int .u8 ((ys[j]'hj' : Nat) : Int)) := by simp [cells, hx']
    have h256 := h8 _ (List.getElem_mem hj')
    have e8 : ((ys.map UInt8.ofNat)[j]'hj).toNat = ys[j]'hj' := by
      rw [List.getElem_map]
      exact UInt8.toNat_ofNat_of_lt' h256
    have ea : ((⟨g, 0, none⟩ : Addr).add j) = ⟨g, j, none⟩ := by
      by_cases h0 : j = 0
      · subst h0; simp [Addr.add]
      · simp [Addr.add, h0]
    rw [e8, ea]
    simp [World.cell?, hb, hc])
  rw [List.length_map, hl] at hr
  simp only [execOp, hρ _ _ hx, hr, Sem.run_bind, Result.andThen_ok, Sem.run_pure]
  rfl
end
end
section
theorem SubH.app {R A B : Hp} (h : SubH R B) : SubH R (A ++ B) := fun e he => by
  obtain ⟨f, hf, r⟩ := h e he
  exact ⟨f, List.mem_append_right _ hf, r⟩
section
variable {C : Cx} {N : Nat} {X : Fx} {k : List Item} {ops : Array Oper} {md : Option (Hp × Option Nat)} {rest : List Oper} {L : Slots} {D : List Deferred} {S : Hp}
  {d : Nat} {ty : TypeId} {p : String} {af : Array Edge} {t t' : TypeId} {x y : Operand}
theorem run_neq_of_eql_ptr {P : Program} {t : TypeId} {v v' : Option Addr} {b : Bool} {w : World} (h : (binOp .eql t (.pointer v) (.pointer v')).run P w = .ok (.bool b) w) : (binOp .neq t (.pointer v) (.pointer v')).run P w = .ok (.bool (!b)) w := by
  simp only [binOp] at h ⊢
  cases he : (Op.equal t (.pointer v) (.pointer v')).run P w <;> simp [he] at h ⊢
  simp [h.1, h.2]
theorem J.ptrOtherN {te : TypeId} {n n' : Nat} {de : TypeDesc} {b o b' o' T T' : Nat} {cs cs' : List Value} {t' : TypeId} [ht : Ty C t (.pointer te) n] [he : Ty C te de (n' + 1)] (hd : Nat.blt d N = true)
    (hx : opv L x = some (.pointer (some ⟨b, o, none⟩))) (hy : opv L y = some (.pointer (some ⟨b', o', none⟩))) (hne : b ≠ b') (hm : Mem b T cs (vheap md (⟨some d, .binOp .neq t x y t', ty, p, af, none⟩ :: rest) S)) (hm' : Mem b' T' cs' (vheap md (⟨some d, .binOp .neq t x y t', ty, p, af, none⟩ :: rest) S))
    (h : J C N X k ops md rest ((d, .bool true) :: L) D S) : J C N X k ops md (⟨some d, .binOp .neq t x y t', ty, p, af, none⟩ :: rest) L D S := by
  have hs := he.s
  cases hi : C.P.info? te with
  | none => simp [hi] at hs
  | some i =>
    simp [hi] at hs
    refine J.val hd rfl (fun ρ w hρ hS _ _ _ _ _ _ => ?_) h
    simp only [execOp, hρ _ _ hx, hρ _ _ hy, eqGuard_at_pointer, Sem.run_bind, Sem.run_pure, Result.andThen_ok]
    rw [run_neq_of_eql_ptr (run_eql_ptr_other w ht.u hi (by omega) (fun e => hne (by injection e)) (hm.ok hS) (hm'.ok hS))]
    rfl
end
end
section
def frzO : Hp → Option Hp
  | [] => some []
  | ⟨b, T, cs, _⟩ :: S => match frzO S with
    | some l => some (⟨b, T, cs, false⟩ :: l)
    | none => none
theorem frzO_mem : ∀ {S S' : Hp}, frzO S = some S' → ∀ e ∈ S', e.wr = false ∧ ∃ f ∈ S, f.b = e.b ∧ f.T = e.T ∧ f.cs = e.cs
  | [], S', h, e, he => by simp [frzO] at h; subst h; cases he
  | ⟨b, T, cs, wr⟩ :: S, S', h, e, he => by
    unfold frzO at h
    split at h
    · rename_i l hl
      cases h
      rcases List.mem_cons.1 he with rfl | he
      · exact ⟨rfl, _, List.mem_cons_self, rfl, rfl, rfl⟩
      · obtain ⟨h1, f, hf, r⟩ := frzO_mem hl e he
        exact ⟨h1, f, List.mem_cons_of_mem _ hf, r⟩
    · cases h
theorem nd_ro {S : Hp} (h : ∀ e ∈ S, e.wr = false) : ND S := List.pairwise_iff_forall_sublist.2 fun {a b} hab hw => by
  have ha := h a (hab.subset (by simp))
  have hb := h b (hab.subset (by simp))
  rw [ha, hb] at hw
  simp at hw
theorem Inv.frz {C : Cx} {X : Fx} {S S' : Hp} {w : World} (h : Inv C X S w) (hf : frzO S = some S') : Inv C X S' w := by
  have hm := frzO_mem hf
  refine ⟨h.mu, fun e he => ?_, nd_ro fun e he => (hm e he).1, fun e he hw => (by rw [(hm e he).1] at hw; cases hw), h.glob, h.size⟩
  obtain ⟨_, f, hfS, h1, h2, h3⟩ := hm e he
  have := h.holds f hfS
  unfold Ent.ok at this ⊢
  rw [← h1, ← h2, ← h3]; exact this
section
variable {C : Cx} {N : Nat} {X : Fx} {k : List Item} {ops : Array Oper} {md : Option (Hp × Option Nat)} {rest : List Oper} {L : Slots} {D : List Deferred} {S S' : Hp} {fn : Func}
theorem G.frz (hf : frzO S = some S') (h : G C N X k L D S') : G C N X k L D S := fun a w h1 h2 h3 => h a w h1 h2 (h3.frz hf)
theorem J.frz (hf : frzO S = some S') (h : J C N X k ops none rest L D S') : J C N X k ops none rest L D S := fun a w h1 h2 h3 => h a w h1 h2 (h3.frz hf)
def SpecF (C : Cx) (g : FuncId) (vs : Array Value) (Rp : Hp) {τ : Type} (val : τ → Value) (Fq : τ → Hp) (φ : τ → Prop) : Prop :=
  ∀ w, Pre C [] Rp w → Calls C.P g vs w fun e w' => ∃ x, φ x ∧ e = .returned (val x) ∧ Mut w w' (fun _ => False) ∧ Holds (Fq x) w'
def GLF (C : Cx) (N : Nat) (fn : Func) (X : Fx) {τ : Type} (val : τ → Value) (Fq : τ → Hp) (φ : τ → Prop) (L : Slots) (D : List Deferred) (S : Hp) : Prop :=
  ∀ a w, Knows N L a → Inv C X S w → Leaves C.P fn a.tmps (fun e w' => ∃ x, φ x ∧ e = .returned (val x) ∧ Mut X.w0 w' (fun _ => False) ∧ Holds (Fq x) w') D .returning w
def RetOKF (C : Cx) (fn : Func) (X : Fx) {τ : Type} (val : τ → Value) (Fq : τ → Hp) (φ : τ → Prop) (D : List Deferred) : Prop :=
  X.Wp = [] ∧ ∀ a w, a.defers = D → Leaves C.P fn a.tmps (fun e w' => ∃ x, φ x ∧ e = .returned (val x) ∧ Mut X.w0 w' (fun _ => False) ∧ Holds (Fq x) w') D .returning w → X.Q a w
variable {τ : Type} {val : τ → Value} {Fq : τ → Hp} {φ : τ → Prop}
theorem G.retF (hR : RetOKF C fn X val Fq φ D) (h : GLF C N fn X val Fq φ L D S) : G C N X (.code .ret :: k) L D S :=
  fun a w h1 h2 h3 => Goes.ret (hR.2 a w h2 (h a w h1 h3))
theorem mut_nil {w w' : World} {W : Hp} (h : Mut w w' (blocks W)) (hW : W = []) : Mut w w' (fun _ => False) :=
  ⟨h.os, h.tape, h.out, h.size, fun b hb _ => h.keep b hb (fun ⟨e, he, _⟩ => by subst hW; cases he)⟩
theorem GLF.done (hR : RetOKF C fn X val Fq φ []) (x : τ) {rs : List ResultVar} {vs : List Value} (hf : fn.results = rs.toArray) (hv : resv L rs = some vs) (hx : φ x) (hval : val x = tup vs) (l : List Nat) (hp : roAt S l = some (Fq x)) :
    GLF C N fn X val Fq φ L [] S := by
  intro a w h1 h3
  exact ⟨tup vs, run_results h1 hf hv w, x, hx, by rw [hval], mut_nil h3.mu hR.1, (roAt_sub hp).1.holds h3.holds⟩
theorem SpecF.enter {g : FuncId} {vs : Array Value} {Rp : Hp} {c : Code} (hf : C.P.funcs[g]? = some fn) (hb : fn.body = some c) (hN : fn.ntmps = N) (hn : vs.size ≤ N)
    (L : Slots) (hL : ∀ p ∈ L, vs[p.1]? = some p.2)
    (h : ∀ X : Fx, (∀ D, RetOKF C fn X val Fq φ D) → G C N X [.code c] L [] Rp) : SpecF C g vs Rp val Fq φ := by
  intro w hp
  subst hN
  refine goes_calls hf hb ?_
  let X : Fx := { Q := fun a w' => Leaves C.P fn a.tmps (fun e w' => ∃ x, φ x ∧ e = .returned (val x) ∧ Mut w w' (fun _ => False) ∧ Holds (Fq x) w') a.defers .returning w', w0 := w, Wp := [] }
  exact h X (fun D => ⟨rfl, fun a w' hD hl => by show Leaves _ _ _ _ a.defers _ _; rw [hD]; exact hl⟩) _ w (knows_enter _ _ hn L hL) rfl (hp.inv (X := X) rfl rfl)
def allRo (S : Hp) : Bool := S.all fun e => !e.wr
theorem allRo_h {S : Hp} (h : allRo S = true) : ∀ e ∈ S, e.wr = false := fun e he => by
  have := List.all_eq_true.1 h e he
  simpa using this
theorem Inv.postF {Fr : Hp} {w w' : World} (h : Inv C X S w) (hS : allRo S = true) (hF : ∀ e ∈ Fr, e.wr = false) (hm : Mut w w' (fun _ => False)) (hh : Holds Fr w') : Inv C X (Fr ++ S) w' := by
  have hro : ∀ e ∈ Fr ++ S, e.wr = false := fun e he => by
    rcases List.mem_append.1 he with he | he
    · exact hF e he
    · exact allRo_h hS e he
  refine ⟨⟨hm.os.trans h.mu.os, hm.tape.trans h.mu.tape, hm.out.trans h.mu.out, Nat.le_trans h.mu.size hm.size, fun b hb hM => ?_⟩, fun e he => ?_, nd_ro hro, fun e he hw => (by rw [hro e he] at hw; cases hw), fun e he => ?_, Nat.le_trans h.size hm.size⟩
  · rw [hm.keep b (Nat.lt_of_lt_of_le hb h.mu.size) (fun q => q)]
    exact h.mu.keep b hb hM
  · rcases List.mem_append.1 he with he | he
    · exact hh e he
    · show w'.heap[e.b]? = _
      rw [hm.keep e.b (h.holds.lt he) (fun q => q)]
      exact h.holds e he
  · exact (World.cell?_of_block (hm.keep e.1.block (Nat.lt_of_lt_of_le (C.hGS e he) h.size) (fun q => q))).trans (h.glob e he)
theorem Inv.preF {Rp : Hp} {w : World} {lr : List Nat} (h : Inv C X S w) (hs : roAt S lr = some Rp) : Pre C [] Rp w := by
  refine ⟨fun e he => ?_, nd_ro (roAt_sub hs).2, fun e he => (by cases he), (roAt_sub hs).2, h.glob, h.size⟩
  exact (roAt_sub hs).1.holds h.holds e he
theorem E.callF {d : Nat} {g : FuncId} {args : List Operand} {ats : Array TypeId} {ty : TypeId} {p : String} {af : Array Edge} {vs : List Value} {Rp : Hp}
    [hf : Fn1 C g] (hs : SpecF C g vs.toArray Rp val Fq φ) (lr : List Nat) (hd : Nat.blt d N = true) (ha : opvs L args = some vs) (hS : allRo S = true) (hF : ∀ x, ∀ e ∈ Fq x, e.wr = false) (hsub : roAt S lr = some Rp) :
    EffOK C N X ⟨some d, .call { callee := .value (.func g), args := args.toArray, argTypes := ats }, ty, p, af, none⟩ L D S (fun cont => ∀ x, φ x → cont ((d, val x) :: L) D (Fq x ++ S)) := by
  unfold EffOK; intro cont hT a w K Q h1 h2 h3 hK
  have he := opvs_eval h1 ha
  unfold Oper.wp
  simp only [execOp, resolve, Sem.run_bind, List.map_toArray, he, Act.eval, Deferred.ofValue, Sem.run_pure, Result.andThen_ok, Go.invoke, run_callFunc hf, Oper.upon]
  simp only [Array.append_empty, Array.empty_append, List.append_toArray, List.nil_append]
  refine (hs w (h3.preF hsub)).mono fun e w' ⟨x, hx, hev, hm, hh⟩ => ?_
  subst hev
  exact hK _ _ _ (hT x hx) _ _ (h1.put _ hd) (by simpa [Act.put] using h2) (h3.postF hS (hF x) hm hh)
end
theorem Inv.right {C : Cx} {X : Fx} {A B : Hp} {w : World} (h : Inv C X (A ++ B) w) : Inv C X B w :=
  ⟨h.mu, fun e he => h.holds e (List.mem_append_right _ he), (List.pairwise_append.1 h.nd).2.1, fun e he => h.own e (List.mem_append_right _ he), h.glob, h.size⟩
theorem J.dropL {C : Cx} {N : Nat} {X : Fx} {k : List Item} {ops : Array Oper} {md : Option (Hp × Option Nat)} {rest : List Oper} {L : Slots} {D : List Deferred} {A B : Hp} (h : J C N X k ops md rest L D B) : J C N X k ops md rest L D (A ++ B) := fun a w h1 h2 h3 => h a w h1 h2 h3.right
theorem J.sep {C : Cx} {N : Nat} {X : Fx} {k : List Item} {ops : Array Oper} {md : Option (Hp × Option Nat)} {rest : List Oper} {L : Slots} {D : List Deferred} {S : Hp} {e f : Ent} (i j : Nat) (hi : S[i]? = some e) (hj : S[j]? = some f) (hij : i ≠ j) (hw : e.wr = true ∨ f.wr = true) (h : e.b ≠ f.b → J C N X k ops md rest L D S) : J C N X k ops md rest L D S := by
  intro a w h1 h2 h3
  have hp := List.pairwise_iff_getElem.1 h3.nd
  have hi' : i < S.length := (List.getElem?_eq_some_iff.1 hi).1
  have hj' : j < S.length := (List.getElem?_eq_some_iff.1 hj).1
  have hie : S[i] = e := (List.getElem?_eq_some_iff.1 hi).2
  have hje : S[j] = f := (List.getElem?_eq_some_iff.1 hj).2
  refine h ?_ a w h1 h2 h3
  rcases Nat.lt_or_gt_of_ne hij with hlt | hlt
  · have := hp i j hi' hj' hlt
    rw [hie, hje] at this
    exact this hw
  · have := hp j i hj' hi' hlt
    rw [hie, hje] at this
    exact fun q => this hw.symm q.symm
end
section
section
variable {C : Cx} {N : Nat} {X : Fx} {k : List Item} {ops : Array Oper} {md : Option (Hp × Option Nat)} {rest : List Oper} {L : Slots} {D : List Deferred} {S : Hp} {x y : Operand} {t : TypeId} {d : Nat} {ty : TypeId} {p : String} {af : Array Edge}
theorem E.append1nilR {e m by_ v b2 : Nat} {kk : IntKind} [ht : Ty C t (.slice e) m] [hw : TyW C e kk by_] (hd : Nat.blt d N = true)
    (hx : opv L x = some (.slice none 0 0)) (hy : opv L y = some (.slice (some ⟨b2, 0, none⟩) 1 1)) (hm2 : Mem b2 e (cells kk [v]) S) (hby : by_ ≤ 140737488355328) :
    EffOK C N X ⟨some d, .call { callee := .builtin .append, args := #[x, y], argTypes := #[t, t] }, ty, p, af, none⟩ L D S
      (fun cont => ∀ g c, c < 9223372036854775807 → cont ((d, .slice (some ⟨g, 0, none⟩) 1 (v :: List.replicate c 0).length) :: L) D (⟨g, e, cells kk (v :: List.replicate c 0), true⟩ :: S)) := by
  unfold EffOK; intro cont hT a w K Q k1 k2 k3 hK
  obtain ⟨i, h1, h2, h3, h4⟩ := hw.h
  have hb2 := hm2.ok k3.holds
  have hnews : ∀ j u, [Value.int kk v][j]? = some u → w.cell? ((⟨b2, 0, none⟩ : Addr).add j) = some u := by
    intro j u hu
    have : j = 0 := by
      rcases Nat.eq_zero_or_pos j with h | h
      · exact h
      · rw [List.getElem?_eq_none (by simp; omega)] at hu; cases hu
    subst this
    simp at hu; subst hu
    simp [World.cell?, hb2, cells, Addr.add_lit]
  unfold Oper.wp
  simp only [execOp, resolve, Go.invoke, builtin, Sem.run_bind, Sem.run_pure, Result.andThen_ok, List.map_toArray, List.map_cons, List.map_nil, k1.eval hx, k1.eval hy]
  have hr := run_append_nil (P := C.P) w t ty e i (.int kk 0) ht.u h1 h2 ⟨b2, 0, none⟩ 1 1 [.int kk v] (by simp [h3]) hnews (by omega) (by omega) (by rw [h4]; omega)
  rw [hr]
  simp only [Result.andThen_ok, Oper.upon, Value.cells, zero_cells]
  have hge := grownCap_ge w 1 0 e
  have hle := grownCap_le_maxLen w 1 0 e (by simp only [maxLen]; omega)
  have heq : [Value.int kk v].toArray ++ (cells kk (List.replicate (grownCap w 1 0 e - 1) 0)).toArray = (cells kk ([v] ++ List.replicate (grownCap w 1 0 e - 1) 0)).toArray := by
    simp [cells]
  rw [heq]
  obtain ⟨c, hc⟩ : ∃ c, grownCap w 1 0 e = c + 1 := ⟨grownCap w 1 0 e - 1, by omega⟩
  have hlen : (v :: List.replicate c 0).length = c + 1 := by simp
  rw [hc, Nat.add_sub_cancel]
  have h9 := hT w.heap.size c (by simp only [maxLen] at hle; omega)
  rw [hlen] at h9
  exact hK _ _ _ h9 _ _ (k1.put _ hd) (by simpa [Act.put] using k2) (k3.drewAlloc)
end
end
section
section
variable {C : Cx} {N : Nat} {X : Fx} {k : List Item} {ops : Array Oper} {md : Option (Hp × Option Nat)} {rest : List Oper} {L : Slots} {D : List Deferred} {S : Hp}
  {d : Nat} {ty : TypeId} {p : String} {af : Array Edge} {t t' : TypeId} {x y : Operand}
theorem J.addF {kk : IntKind} {a b : Nat} (hd : Nat.blt d N = true) {a' : Int} (hx : opv L x = some (.int kk a')) [na : NL a' a] {b' : Int} (hy : opv L y = some (.int kk b')) [nb : NL b' b] (hb : Fits kk (a + b))
    (h : J C N X k ops md rest ((d, .int kk ((a + b : Nat) : Int)) :: L) D S) : J C N X k ops md (⟨some d, .binOp .add t x y t', ty, p, af, none⟩ :: rest) L D S := by
  obtain rfl := na.h
  obtain rfl := nb.h
  exact J.arith hd hx hy (by show some _ = some _; rw [← Int.natCast_add, wrap_fits hb]) h
theorem J.subF {kk : IntKind} {a b : Nat} (hd : Nat.blt d N = true) {a' : Int} (hx : opv L x = some (.int kk a')) [na : NL a' a] {b' : Int} (hy : opv L y = some (.int kk b')) [nb : NL b' b] (hb : b ≤ a) (ha : Fits kk (a - b))
    (h : J C N X k ops md rest ((d, .int kk ((a - b : Nat) : Int)) :: L) D S) : J C N X k ops md (⟨some d, .binOp .sub t x y t', ty, p, af, none⟩ :: rest) L D S := by
  obtain rfl := na.h
  obtain rfl := nb.h
  exact J.arith hd hx hy (by show some _ = some _; rw [← Int.natCast_sub hb, wrap_fits ha]) h
theorem J.mulF {kk : IntKind} {a b : Nat} (hd : Nat.blt d N = true) {a' : Int} (hx : opv L x = some (.int kk a')) [na : NL a' a] {b' : Int} (hy : opv L y = some (.int kk b')) [nb : NL b' b] (hb : Fits kk (a * b))
    (h : J C N X k ops md rest ((d, .int kk ((a * b : Nat) : Int)) :: L) D S) : J C N X k ops md (⟨some d, .binOp .mul t x y t', ty, p, af, none⟩ :: rest) L D S := by
  obtain rfl := na.h
  obtain rfl := nb.h
  exact J.arith hd hx hy (by show some _ = some _; rw [← Int.natCast_mul, wrap_fits hb]) h
theorem J.quoF {kk : IntKind} {a b : Nat} (hd : Nat.blt d N = true) {a' : Int} (hx : opv L x = some (.int kk a')) [na : NL a' a] {b' : Int} (hy : opv L y = some (.int kk b')) [nb : NL b' b] (hb : b ≠ 0) (hw : Fits kk (a / b))
    (h : J C N X k ops md rest ((d, .int kk ((a / b : Nat) : Int)) :: L) D S) : J C N X k ops md (⟨some d, .binOp .quo t x y t', ty, p, af, none⟩ :: rest) L D S := J.quoN hd hx hy hb (wrap_fits hw) h
theorem J.addK {a b : Int} (hd : Nat.blt d N = true) (hx : opv L x = some (.int .i32 a)) (hy : opv L y = some (.int .i32 b)) (h1 : -2147483648 ≤ a + b) (h2 : a + b < 2147483648)
    (h : J C N X k ops md rest ((d, .int .i32 (a + b)) :: L) D S) : J C N X k ops md (⟨some d, .binOp .add t x y t', ty, p, af, none⟩ :: rest) L D S :=
  J.arith hd hx hy (by show some _ = some _; rw [wrap_i32_in h1 h2]) h
theorem J.conv32 {a : Int} {n n' : Nat} {ds : TypeDesc} {kk' : IntKind} [hs : Ty C t ds n'] [ht : Ty C t' (.int .i32) n] (hd : Nat.blt d N = true) (hx : opv L x = some (.int kk' a)) (h1 : -2147483648 ≤ a) (h2 : a < 2147483648)
    (h : J C N X k ops md rest ((d, .int .i32 a) :: L) D S) : J C N X k ops md (⟨some d, .convert t t' x, ty, p, af, none⟩ :: rest) L D S := J.conv hd hx (wrap_i32_in h1 h2) h
theorem J.conv64 {a : Int} {n n' : Nat} {ds : TypeDesc} {kk' : IntKind} [hs : Ty C t ds n'] [ht : Ty C t' (.int .i64) n] (hd : Nat.blt d N = true) (hx : opv L x = some (.int kk' a)) (h1 : -9223372036854775808 ≤ a) (h2 : a < 9223372036854775808)
    (h : J C N X k ops md rest ((d, .int .i64 a) :: L) D S) : J C N X k ops md (⟨some d, .convert t t' x, ty, p, af, none⟩ :: rest) L D S := J.conv hd hx (wrap_i64_in h1 h2) h
theorem J.andNotA {a b : Nat} (hd : Nat.blt d N = true) {a' : Int} (hx : opv L x = some (.int .u64 a')) [na : NL a' a] {b' : Int} (hy : opv L y = some (.int .u64 b')) [nb : NL b' b]
    (h : ∀ v : Nat, v < 18446744073709551616 → J C N X k ops md rest ((d, .int .u64 (v : Int)) :: L) D S) : J C N X k ops md (⟨some d, .binOp .andNot t x y t', ty, p, af, none⟩ :: rest) L D S := by
  obtain rfl := na.h
  obtain rfl := nb.h
  obtain ⟨z, hz⟩ : ∃ z : BitVec 64, z = BitVec.ofInt 64 (a : Int) &&& ~~~ BitVec.ofInt 64 (b : Int) := ⟨_, rfl⟩
  have hl : z.toNat < 18446744073709551616 := z.isLt
  refine J.val hd rfl (fun ρ w hρ _ _ _ _ _ _ _ => ?_) (h z.toNat hl)
  have e : IntKind.u64.wrap (z.toNat : Int) = ((z.toNat : Nat) : Int) := wrap_u64_nat hl
  rw [hz] at e
  rw [hz]
  simp only [execOp, hρ _ _ hx, hρ _ _ hy, eqGuard_andNot, binOp, Op.intBits, IntKind.bits]
  simp only [ne_eq, not_true_eq_false, if_false, Sem.run_bind, Sem.run_pure, Result.andThen_ok]
  exact congrArg (fun z => Result.ok (Next.value (Value.int .u64 z)) w) e
theorem J.ptrSameN {te : TypeId} {n n' : Nat} {de : TypeDesc} {b o : Nat} {t' : TypeId} [ht : Ty C t (.pointer te) n] [he : Ty C te de (n' + 1)] (hd : Nat.blt d N = true)
    (hx : opv L x = some (.pointer (some ⟨b, o, none⟩))) (hy : opv L y = some (.pointer (some ⟨b, o, none⟩)))
    (h : J C N X k ops md rest ((d, .bool false) :: L) D S) : J C N X k ops md (⟨some d, .binOp .neq t x y t', ty, p, af, none⟩ :: rest) L D S := by
  have hs := he.s
  cases hi : C.P.info? te with
  | none => simp [hi] at hs
  | some i =>
    simp [hi] at hs
    refine J.val hd rfl (fun ρ w hρ hS _ _ _ _ _ _ => ?_) h
    simp only [execOp, hρ _ _ hx, hρ _ _ hy, eqGuard_at_pointer, Sem.run_bind, Sem.run_pure, Result.andThen_ok]
    rw [run_neq_of_eql_ptr (run_eql_ptr_same w _ ht.u hi)]
    rfl
theorem J.join {σ : Type} (P : σ → Prop) (Lf : σ → Slots) (Sf : σ → Hp) {k' : List Item} (h1 : (∀ s, P s → G C N X k' (Lf s) D (Sf s)) → J C N X k ops md rest L D S)
    (h2 : ∀ s, P s → G C N X k' (Lf s) D (Sf s)) : J C N X k ops md rest L D S := h1 h2
theorem J.indexArr {e : TypeId} {b o q i n len : Nat} {kk : IntKind} [ht : Ty C t (.array len e) q] {de : TypeDesc} [he : Ty C e de n] (hd : Nat.blt d N = true)
    (hx : opv L x = some (.pointer (some ⟨b, o, none⟩))) {i' : Int} (hy : opv L y = some (.int kk i')) [ni : NL i' i] (hi : i < len)
    (h : J C N X k ops md rest ((d, .pointer (some ⟨b, o + i * n, none⟩)) :: L) D S) : J C N X k ops md (⟨some d, .indexAddr t x y, ty, p, af, none⟩ :: rest) L D S := by
  obtain rfl := ni.h
  exact J.val hd rfl (fun ρ w hρ _ _ _ _ _ _ _ => by
    have h0 : (0 : Int) ≤ (i : Int) := by omega
    have h1 : (i : Int) < (len : Int) := by omega
    simp [execOp, hρ _ _ hx, hρ _ _ hy, Instr.indexAt, Instr.sureAddr, asIntOf, ht.run_u, he.run_s, hi, Addr.add_lit]) h
end
end
section
theorem run_append_zeros {P : Program} (w : World) (t tx ty e : TypeId) (i : TypeInfo) (z : Value) (ht : P.underlying t = some (.slice e)) (hx : P.underlying tx = some (.int .i64)) (hi : P.info? e = some i) (hz : i.zero = some z) (hs : i.size = 1)
    (base : Option Addr) (sLen sCap : Nat) (olds : List Value) (hold : (Builtin.firstCells 1 sLen (.slice base sLen sCap)).run P w.drew = .ok olds.toArray w.drew) (n : Nat)
    (h0 : 0 < n) (hg : sCap < sLen + n) (hn : n < 9223372036854775808) (h48 : n * i.bytes ≤ 281474976710656) (h63 : ((sLen + n : Nat) : Int) ≤ 9223372036854775807) (hfit : Builtin.nextslicecap (sLen + n) sCap * i.bytes ≤ 281474976710656) :
    (Builtin.append_ #[t, tx] ty #[.slice base sLen sCap, .int .i64 n]).run P w =
      .ok (.slice (some ⟨w.heap.size, 0, none⟩) (sLen + n) (grownCap w (sLen + n) sCap e))
        (w.drew.alloc (.cells (olds.toArray ++ Builtin.zeroCells z.cells n ++ Builtin.zeroCells z.cells (grownCap w (sLen + n) sCap e - (sLen + n))) e)) := by
  have hn1 : ¬ (sLen + n ≤ sCap) := by omega
  have hn0 : n ≠ 0 := by omega
  have hw : IntKind.i64.wrap (n : Int) = n := wrap_i64_nat hn
  have ha : (asIntOf (.int .i64 (n : Int))).run P w = .ok (.i64, (n : Int)) w := by simp [asIntOf]
  have hn2 : ¬ ((n : Int) ≤ 0) := by omega
  have hmx : max (n : Int) 0 = n := by omega
  have h1 : ¬ ((n : Int) < 0) := by omega
  have h2 : ¬ (281474976710656 < (n : Int) * (i.bytes : Int)) := by
    have : ((n * i.bytes : Nat) : Int) ≤ 281474976710656 := by omega
    rw [Int.natCast_mul] at this; omega
  have h63' : ¬ (9223372036854775807 < ((sLen : Int) + (n : Int))) := by omega
  have h48' : ¬ (281474976710656 < Builtin.nextslicecap (sLen + n) sCap * i.bytes) := by omega
  simp [Builtin.append_, run_underlying ht, run_underlying hx, sizeOf, typeInfo, zeroValue, hi, hz, hs, hn1, hn0, hw, h1, h2, h63', h48', asInt, ha, hn2, hmx, Question.forced, hold, newRow, grownCap]
section
variable {C : Cx} {N : Nat} {X : Fx} {k : List Item} {ops : Array Oper} {rest : List Oper} {L : Slots} {D : List Deferred} {S : Hp} {x y : Operand} {t tx : TypeId} {d : Nat} {ty : TypeId} {p : String} {af : Array Edge}
theorem E.appendZ {e m m2 by_ n b : Nat} {kk : IntKind} {xs : List Nat} [ht : Ty C t (.slice e) m] [hw : TyW C e kk by_] [htx : Ty C tx (.int .i64) m2] (hd : Nat.blt d N = true)
    (hx : opv L x = some (.slice (some ⟨b, 0, none⟩) xs.length xs.length)) {n' : Int} (hy : opv L y = some (.int .i64 n')) [nn : NL n' n] (hm : Mem b e (cells kk xs) S)
    (h0 : 0 < n) (hby : (xs.length + n) * by_ ≤ 140737488355328) (h63 : xs.length + n < 9223372036854775808) :
    EffOK C N X ⟨some d, .call { callee := .builtin .append, args := #[x, y], argTypes := #[t, tx] }, ty, p, af, none⟩ L D S
      (fun cont => ∀ g c, xs.length + n + c < 9223372036854775808 → cont ((d, .slice (some ⟨g, 0, none⟩) (xs.length + n) (xs ++ List.replicate (n + c) 0).length) :: L) D (⟨g, e, cells kk (xs ++ List.replicate (n + c) 0), true⟩ :: S)) := by
  unfold EffOK; intro cont hT a w K Q k1 k2 k3 hK
  obtain rfl := nn.h
  obtain ⟨i, h1, h2, h3, h4⟩ := hw.h
  have hb := hm.ok k3.holds
  have hold := run_firstCells_some (P := C.P) w.drew 1 xs.length ⟨b, 0, none⟩ xs.length xs.length (cells kk xs) (by simp [cells_len]) (by
    intro j u hu
    have hb' : w.drew.heap[b]? = some (.cells (cells kk xs).toArray e (0, 0)) := hb
    simp [World.cell?, Addr.add_lit, hb', hu])
  unfold Oper.wp
  simp only [execOp, resolve, Go.invoke, builtin, Sem.run_bind, Sem.run_pure, Result.andThen_ok, List.map_toArray, List.map_cons, List.map_nil, k1.eval hx, k1.eval hy]
  have hby1 : n * by_ ≤ (xs.length + n) * by_ := Nat.mul_le_mul_right _ (by omega)
  have hr := run_append_zeros (P := C.P) w t tx ty e i (.int kk 0) ht.u htx.u h1 h2 h3 (some ⟨b, 0, none⟩) xs.length xs.length (cells kk xs) hold n h0 (by omega) (by omega) (by rw [h4]; omega) (by omega) (by rw [h4]; exact growslice_fits (by omega) hby)
  rw [hr]
  simp only [Result.andThen_ok, Oper.upon, Value.cells, zero_cells]
  have hge := grownCap_ge w (xs.length + n) xs.length e
  have hle := grownCap_le_maxLen w (xs.length + n) xs.length e (by simp only [maxLen]; omega)
  obtain ⟨c, hc⟩ : ∃ c, grownCap w (xs.length + n) xs.length e = xs.length + n + c := ⟨grownCap w (xs.length + n) xs.length e - (xs.length + n), by omega⟩
  rw [hc, Nat.add_sub_cancel_left]
  have heq : (cells kk xs).toArray ++ (cells kk (List.replicate n 0)).toArray ++ (cells kk (List.replicate c 0)).toArray = (cells kk (xs ++ List.replicate (n + c) 0)).toArray := by
    simp [cells, ← List.replicate_append_replicate]
  rw [heq]
  have hlen : (xs ++ List.replicate (n + c) 0).length = xs.length + n + c := by simp; omega
  have h9 := hT w.heap.size c (by simp only [maxLen] at hle; omega)
  rw [hlen] at h9
  exact hK _ _ _ h9 _ _ (k1.put _ hd) (by simpa [Act.put] using k2) (k3.drewAlloc)
theorem E.appendZnil {e m m2 by_ n : Nat} {kk : IntKind} [ht : Ty C t (.slice e) m] [hw : TyW C e kk by_] [htx : Ty C tx (.int .i64) m2] (hd : Nat.blt d N = true)
    (hx : opv L x = some (.slice none 0 0)) {n' : Int} (hy : opv L y = some (.int .i64 n')) [nn : NL n' n]
    (h0 : 0 < n) (hby : n * by_ ≤ 140737488355328) (h63 : n < 9223372036854775808) :
    EffOK C N X ⟨some d, .call { callee := .builtin .append, args := #[x, y], argTypes := #[t, tx] }, ty, p, af, none⟩ L D S
      (fun cont => ∀ g c, n + c < 9223372036854775808 → cont ((d, .slice (some ⟨g, 0, none⟩) n (List.replicate (n + c) 0).length) :: L) D (⟨g, e, cells kk (List.replicate (n + c) 0), true⟩ :: S)) := by
  unfold EffOK; intro cont hT a w K Q k1 k2 k3 hK
  obtain rfl := nn.h
  obtain ⟨i, h1, h2, h3, h4⟩ := hw.h
  have hold := run_firstCells_none (P := C.P) w.drew 1 0 0 0
  unfold Oper.wp
  simp only [execOp, resolve, Go.invoke, builtin, Sem.run_bind, Sem.run_pure, Result.andThen_ok, List.map_toArray, List.map_cons, List.map_nil, k1.eval hx, k1.eval hy]
  have hr := run_append_zeros (P := C.P) w t tx ty e i (.int kk 0) ht.u htx.u h1 h2 h3 none 0 0 [] hold n h0 (by omega) (by omega) (by rw [h4]; omega) (by omega) (by rw [h4]; exact growslice_fits (by omega) (by rw [Nat.zero_add]; exact hby))
  rw [hr]
  simp only [Result.andThen_ok, Oper.upon, Value.cells, zero_cells, Nat.zero_add]
  have hge := grownCap_ge w n 0 e
  have hle := grownCap_le_maxLen w n 0 e (by simp only [maxLen]; omega)
  obtain ⟨c, hc⟩ : ∃ c, grownCap w n 0 e = n + c := ⟨grownCap w n 0 e - n, by omega⟩
  rw [hc, Nat.add_sub_cancel_left]
  have heq : ([] : List Value).toArray ++ (cells kk (List.replicate n 0)).toArray ++ (cells kk (List.replicate c 0)).toArray = (cells kk (List.replicate (n + c) 0)).toArray := by
    have h : List.replicate (n + c) 0 = List.replicate n 0 ++ List.replicate c 0 := List.replicate_append_replicate.symm
    rw [h]
    unfold cells
    rw [List.map_append]
    exact Array.ext' (by simp only [Array.toList_append, List.nil_append])
  rw [heq]
  have hlen : (List.replicate (n + c) 0).length = n + c := by simp
  have h9 := hT w.heap.size c (by simp only [maxLen] at hle; omega)
  rw [hlen] at h9
  exact hK _ _ _ h9 _ _ (k1.put _ hd) (by simpa [Act.put] using k2) (k3.drewAlloc)
variable {md : Option (Hp × Option Nat)} {t' : TypeId}
theorem andNot3 : ∀ a : Nat, a < 32 → IntKind.i64.wrap ((BitVec.ofInt 64 (a : Int) &&& ~~~ BitVec.ofInt 64 3).toNat : Int) = ((a / 4 * 4 : Nat) : Int) := by decide
theorem J.andNotI {a : Nat} (hd : Nat.blt d N = true) {a' : Int} (hx : opv L x = some (.int .i64 a')) [na : NL a' a] (hy : opv L y = some (.int .i64 3)) (ha : a < 32)
    (h : J C N X k ops md rest ((d, .int .i64 ((a / 4 * 4 : Nat) : Int)) :: L) D S) : J C N X k ops md (⟨some d, .binOp .andNot t x y t', ty, p, af, none⟩ :: rest) L D S := by
  obtain rfl := na.h
  refine J.val hd rfl (fun ρ w hρ _ _ _ _ _ _ _ => ?_) h
  have e := andNot3 a ha
  simp only [execOp, hρ _ _ hx, hρ _ _ hy, eqGuard_andNot, binOp, Op.intBits, IntKind.bits]
  simp only [ne_eq, not_true_eq_false, if_false, Sem.run_bind, Sem.run_pure, Result.andThen_ok]
  exact congrArg (fun z => Result.ok (Next.value (Value.int .i64 z)) w) e
theorem J.sl3 {kl kh km : IntKind} {b o len cap l hh mm m : Nat} {e : TypeId} [ht : Ty C t (.slice e) m] {de : TypeDesc} [he : Ty C e de 1] {lo hi mx : Operand} (hd : Nat.blt d N = true)
    (hx : opv L x = some (.slice (some ⟨b, o, none⟩) len cap)) {l' : Int} (hl : opv L lo = some (.int kl l')) [nl : NL l' l] {hh' : Int} (hhi : opv L hi = some (.int kh hh')) [nh : NL hh' hh] {mm' : Int} (hmx : opv L mx = some (.int km mm')) [nm : NL mm' mm]
    (h1 : l ≤ hh) (h2 : hh ≤ mm) (h3 : mm ≤ cap) (h4 : l < mm)
    (h : J C N X k ops md rest ((d, .slice (some ⟨b, o + l, none⟩) (hh - l) (mm - l)) :: L) D S) : J C N X k ops md (⟨some d, .slice t x (some lo) (some hi) (some mx), ty, p, af, none⟩ :: rest) L D S := by
  obtain rfl := nl.h
  obtain rfl := nh.h
  obtain rfl := nm.h
  exact J.val hd rfl (fun ρ w hρ _ _ _ _ _ _ _ => by
    have g1 : ((l : Int) ≤ (hh : Int)) := by omega
    have g2 : ((hh : Int) ≤ (mm : Int)) := by omega
    have g3 : ((mm : Int) ≤ (cap : Int)) := by omega
    have g4 : mm ≠ l := by omega
    simp [execOp, hρ _ _ hx, hρ _ _ hl, hρ _ _ hhi, hρ _ _ hmx, Instr.sliceAt, Instr.slice, ht.run_u, he.run_s, Instr.sliceBounds, Instr.sliceBound, asIntOf, g1, g2, g3, g4, h1, h2, h3, Addr.add_lit]) h
theorem G.loopI {c : Code} {σ : Type} (Lf : σ → Slots) (Sf : σ → Hp) (μ : σ → Nat) (s : σ) (hL : SubSlots (Lf s) L) (l : List Nat) (hp : pick S l = some (Sf s)) (hn : l.Nodup)
    (h : ∀ s, (∀ s', μ s' < μ s → G C N X (.inLoop c :: k) (Lf s') D (Sf s')) → G C N X (.code c :: .inLoop c :: k) (Lf s) D (Sf s)) : G C N X (.inLoop c :: k) L D S := by
  refine G.weak hL l hp hn ?_
  have key : ∀ n s, μ s < n → G C N X (.inLoop c :: k) (Lf s) D (Sf s) := by
    intro n
    induction n with
    | zero => intro s hs; omega
    | succ n ih => exact fun s hs => G.inLoop (h s fun s' hs' => ih s' (by omega))
  exact key _ s (Nat.lt_succ_self _)
theorem J.ord {S' : Hp} (l : List Nat) (hp : pick S l = some S') (hn : l.Nodup) (h : J C N X k ops md rest L D S') : J C N X k ops md rest L D S := fun a w h1 h2 h3 => h a w h1 h2 (h3.pick hp hn)
end
end
section
section
variable {C : Cx} {N : Nat} {X : Fx} {k : List Item} {ops : Array Oper} {md : Option (Hp × Option Nat)} {rest : List Oper} {L : Slots} {D : List Deferred} {S : Hp}
variable {d : Tmp} {ty : TypeId} {p : String} {af : Array Edge} {t' : TypeId}
theorem J.iz {x y : Operand} {t e : TypeId} {b len cap i : Nat} {kk : IntKind} {q : Nat} [ht : Ty C t (.slice e) q] {de : TypeDesc} [he : Ty C e de 1] (hd : Nat.blt d N = true)
    (hx : opv L x = some (.slice (some ⟨b, 0, none⟩) len cap)) {i' : Int} (hy : opv L y = some (.int kk i')) [ni : NL i' i]
    (h : J C N X k ops md rest ((d, .pointer (some ⟨b, i, none⟩)) :: L) D S) (hi : i < len := by first | omega | (simp only [Nat.mul_one, Nat.one_mul, Nat.zero_mul, List.length_set, List.length_cons, List.length_nil, List.length_replicate]; omega) | (simp; omega)) : J C N X k ops md (⟨some d, .indexAddr t x y, ty, p, af, none⟩ :: rest) L D S :=
  J.indexAddr1 hd hx hy hi (by rw [Nat.zero_add]; exact h)
theorem J.shlI {t : TypeId} {x y : Operand} {kk : IntKind} {a s : Nat} (hd : Nat.blt d N = true) {a' : Int} (hx : opv L x = some (.int .i64 a')) [na : NL a' a] {s' : Int} (hy : opv L y = some (.int kk s')) [ns : NL s' s] (hs : s < 63) (ha : a * 2 ^ s < 9223372036854775808)
    (h : J C N X k ops md rest ((d, .int .i64 ((a * 2 ^ s : Nat) : Int)) :: L) D S) : J C N X k ops md (⟨some d, .binOp .shl t x y t', ty, p, af, none⟩ :: rest) L D S := by
  obtain rfl := na.h
  obtain rfl := ns.h
  exact J.val hd rfl (fun ρ w hρ _ _ _ _ _ _ _ => by
    have h0 : ¬ ((s : Int) < 0) := by omega
    have e : IntKind.i64.wrap ((a : Int) * 2 ^ min s 64) = ((a * 2 ^ s : Nat) : Int) := by
      rw [Nat.min_eq_left (by omega)]
      have e1 : (a : Int) * 2 ^ s = ((a * 2 ^ s : Nat) : Int) := by simp
      rw [e1]
      exact wrap_i64_in (by omega) (by omega)
    simp [execOp, hρ _ _ hx, hρ _ _ hy, eqGuard, binOp, Op.shift, h0, IntKind.bits]
    rw [Nat.min_eq_left (by omega)] at e
    simpa using e) h
end
end
section
section
variable {C : Cx} {N : Nat} {X : Fx} {k : List Item} {L : Slots} {D : List Deferred} {S : Hp} {fn : Func}
inductive ResOK (C : Cx) (L : Slots) (S : Hp) : List ResultVar → List Value → Prop where
  | nil : ResOK C L S [] []
  | tmp {t : Nat} {v : Value} {rs : List ResultVar} {vs : List Value} (h : sget L t = some v) (r : ResOK C L S rs vs) : ResOK C L S (.tmp t :: rs) (v :: vs)
  | cell {tc T o b Tb : Nat} {ds : TypeDesc} {n : Nat} {cs us : List Value} {rs : List ResultVar} {vs : List Value} [ht : Ty C T ds n] (hv : sget L tc = some (.pointer (some ⟨b, o, none⟩))) (hds : TypeDesc.plain ds = false) [hm : MemI b Tb cs S] (hvs : (cs.drop o).take n = us) (hlen : us.length = n) (r : ResOK C L S rs vs) : ResOK C L S (.cell tc T :: rs) (.agg us.toArray :: vs)
theorem run_resOK {a : Act} {w : World} (h : Knows N L a) (hS : Holds S w) {rs : List ResultVar} {vs : List Value} (hf : fn.results = rs.toArray) (hv : ResOK C L S rs vs) : (results fn a.tmps).run C.P w = .ok (tup vs) w := by
  have key : ∀ (f : ResultVar → Sem Value), (∀ t, f (.tmp t) = pure (a.tmps.getD t undef)) → (∀ x t, f (.cell x t) = (do loadVar t (← asAddr (a.tmps.getD x undef)))) → ∀ (rs : List ResultVar) (vs : List Value), ResOK C L S rs vs →
      (List.mapM f rs).run C.P w = .ok vs w := by
    intro f hft hfc rs vs e
    induction e with
    | nil => simp
    | @tmp t v rs vs ht r ih =>
      have hg : a.tmps.getD t undef = v := by simp [Array.getD_eq_getD_getElem?, h.get t v ht]
      simp only [List.mapM_cons, Sem.run_bind, hft, Sem.run_pure, Result.andThen_ok, hg, ih]
    | @cell tc T o b Tb ds n cs us rs vs ht hv hds hm hvs hlen r ih =>
      have hc := run_cells (P := C.P) (o := o) (hm.h.ok hS) us (fun j v hj => by
        rw [← hvs, List.getElem?_take] at hj
        split at hj
        · simpa using hj
        · cases hj)
      have hg : a.tmps.getD tc undef = .pointer (some ⟨b, o, none⟩) := by simp [Array.getD_eq_getD_getElem?, h.get _ _ hv]
      rw [hlen] at hc
      have hl : (loadVar T ⟨b, o, none⟩).run C.P w = .ok (.agg us.toArray) w := by
        simp only [loadVar, isAgg, Sem.run_bind, Sem.run_pure, ht.run_u, Result.andThen_ok]
        cases ds <;> simp_all [TypeDesc.plain, ht.run_s]
      simp only [List.mapM_cons, Sem.run_bind, hfc, hg, asAddr, Sem.run_pure, Result.andThen_ok, hl, ih]
  unfold results
  rw [hf]
  simp only [Sem.run_bind, List.mapM_toArray, Sem.run_map]
  rw [key _ (fun t => rfl) (fun x t => rfl) rs vs hv]
  simp only [Result.andThen_ok, Sem.run_pure]
  congr 1
  match vs with
  | [] => rfl
  | [v] => rfl
  | v :: u :: r => rfl
variable {τ : Type} {val : τ → Value} {Fq : τ → Hp} {φ : τ → Prop}
theorem GLF.doneR (hR : RetOKF C fn X val Fq φ []) (x : τ) {rs : List ResultVar} {vs : List Value} (hf : fn.results = rs.toArray) (hv : ResOK C L S rs vs) (hx : φ x) (hval : val x = tup vs) (l : List Nat) (hp : roAt S l = some (Fq x)) :
    GLF C N fn X val Fq φ L [] S := by
  intro a w h1 h3
  exact ⟨tup vs, run_resOK h1 h3.holds hf hv, x, hx, by rw [hval], mut_nil h3.mu hR.1, (roAt_sub hp).1.holds h3.holds⟩
end
def Own (C : Cx) (X : Fx) (b : Nat) : Prop := C.NG ≤ b ∧ (blocks X.Wp b ∨ X.w0.heap.size ≤ b)
def Sep (b : Nat) (T : TypeId) (S : Hp) : Prop := ∀ f ∈ S, f.T ≠ T ∨ f.b ≠ b
theorem Sep.nil {b T : Nat} : Sep b T [] := fun f hf => by cases hf
theorem Sep.t {b T : Nat} {f : Ent} {S : Hp} (h : f.T ≠ T) (r : Sep b T S) : Sep b T (f :: S) := fun g hg => by
  rcases List.mem_cons.1 hg with rfl | hg
  · exact .inl h
  · exact r g hg
theorem Sep.b {b T : Nat} {f : Ent} {S : Hp} (h : f.b ≠ b) (r : Sep b T S) : Sep b T (f :: S) := fun g hg => by
  rcases List.mem_cons.1 hg with rfl | hg
  · exact .inr h
  · exact r g hg
def Thaw (b : Nat) (T : TypeId) (S S' : Hp) : Prop := ∃ A cs B, S = A ++ ⟨b, T, cs, false⟩ :: B ∧ S' = A ++ ⟨b, T, cs, true⟩ :: B ∧ Sep b T A ∧ Sep b T B
theorem Thaw.h {b T : Nat} {cs : List Value} {B : Hp} (h : Sep b T B) : Thaw b T (⟨b, T, cs, false⟩ :: B) (⟨b, T, cs, true⟩ :: B) := ⟨[], cs, B, rfl, rfl, Sep.nil, h⟩
theorem Thaw.t {b T : Nat} {f : Ent} {S S' : Hp} (h : f.T ≠ T) (r : Thaw b T S S') : Thaw b T (f :: S) (f :: S') := by
  obtain ⟨A, cs, B, rfl, rfl, h1, h2⟩ := r
  exact ⟨f :: A, cs, B, rfl, rfl, Sep.t h h1, h2⟩
theorem Thaw.b {b T : Nat} {f : Ent} {S S' : Hp} (h : f.b ≠ b) (r : Thaw b T S S') : Thaw b T (f :: S) (f :: S') := by
  obtain ⟨A, cs, B, rfl, rfl, h1, h2⟩ := r
  exact ⟨f :: A, cs, B, rfl, rfl, Sep.b h h1, h2⟩
theorem Inv.thaw {C : Cx} {X : Fx} {S S' : Hp} {w : World} {b T : Nat} (h : Inv C X S w) (ho : Own C X b) (ht : Thaw b T S S') : Inv C X S' w := by
  obtain ⟨A, cs, B, rfl, rfl, hA, hB⟩ := ht
  have hme : (w.heap[b]? : _) = some (.cells cs.toArray T (0, 0)) := h.holds ⟨b, T, cs, false⟩ (by simp)
  have hne : ∀ f ∈ A ++ B, f.b ≠ b := by
    intro f hf
    have hf' : f ∈ A ++ ⟨b, T, cs, false⟩ :: B := by
      rcases List.mem_append.1 hf with q | q <;> simp [q]
    have h1 := h.holds f hf'
    have h2 : f.T ≠ T ∨ f.b ≠ b := by
      rcases List.mem_append.1 hf with q | q
      · exact hA f q
      · exact hB f q
    rcases h2 with h2 | h2
    · intro e
      have h3 : w.heap[f.b]? = some (.cells f.cs.toArray f.T (0, 0)) := h1
      rw [e, hme] at h3
      cases h3
      exact h2 rfl
    · exact h2
  have hnd := List.pairwise_append.1 h.nd
  have hnd2 := List.pairwise_cons.1 hnd.2.1
  refine ⟨h.mu, fun e he => ?_, List.pairwise_append.2 ⟨hnd.1, List.pairwise_cons.2 ⟨fun e he _ => ?_, hnd2.2⟩, fun e he f hf hw => ?_⟩, fun e he hw => ?_, h.glob, h.size⟩
  · rcases List.mem_append.1 he with q | q
    · exact h.holds e (by simp [q])
    · rcases List.mem_cons.1 q with rfl | q
      · exact hme
      · exact h.holds e (by simp [q])
  · exact (hne e (by simp [he])).symm
  · rcases List.mem_cons.1 hf with rfl | hf
    · exact hne e (by simp [he])
    · exact hnd.2.2 e he f (by simp [hf]) hw
  · rcases List.mem_append.1 he with q | q
    · exact h.own e (by simp [q]) hw
    · rcases List.mem_cons.1 q with rfl | q
      · exact ho
      · exact h.own e (by simp [q]) hw
section
variable {C : Cx} {N : Nat} {X : Fx} {k : List Item} {ops : Array Oper} {md : Option (Hp × Option Nat)} {rest : List Oper} {L : Slots} {D : List Deferred} {S S' : Hp} {b T : Nat} {cs : List Value}
theorem J.own (i : Nat) (hi : S[i]? = some ⟨b, T, cs, true⟩) (h : Own C X b → J C N X k ops md rest L D S) : J C N X k ops md rest L D S := fun a w h1 h2 h3 =>
  h (h3.own _ (List.mem_of_getElem? hi) rfl) a w h1 h2 h3
theorem G.own (i : Nat) (hi : S[i]? = some ⟨b, T, cs, true⟩) (h : Own C X b → G C N X k L D S) : G C N X k L D S := fun a w h1 h2 h3 =>
  h (h3.own _ (List.mem_of_getElem? hi) rfl) a w h1 h2 h3
theorem J.thaw (ho : Own C X b) (ht : Thaw b T S S') (h : J C N X k ops md rest L D S') : J C N X k ops md rest L D S := fun a w h1 h2 h3 => h a w h1 h2 (h3.thaw ho ht)
theorem G.thaw (ho : Own C X b) (ht : Thaw b T S S') (h : G C N X k L D S') : G C N X k L D S := fun a w h1 h2 h3 => h a w h1 h2 (h3.thaw ho ht)
end
def stOK (n : Nat) (cs : List Value) (o : Nat) (vs : List Value) : Option (List Value) :=
  if Nat.beq vs.length n && Nat.ble (o + n) cs.length && vs.all (·.oneCell') then some (splice cs o vs) else none
theorem ocs {vs : List Value} (h : vs.all (·.oneCell') = true) : ∀ v ∈ vs, v.oneCell' = true := fun v hv => List.all_eq_true.1 h v hv
section
variable {C : Cx} {N : Nat} {X : Fx} {L : Slots} {D : List Deferred} {S : Hp} {t : TypeId} {x y : Operand} {ty : TypeId} {p : String} {af : Array Edge}
theorem E.storeL {b o T n : Nat} {cs vs : List Value} {F : List Value → Hp} {ds : TypeDesc} [ht : Ty C t ds n] (hx : opv L x = some (.pointer (some ⟨b, o, none⟩))) (hy : opv L y = some (.agg vs.toArray)) [hu : UpdI b T cs S F] {cs' : List Value} (h : stOK n cs o vs = some cs') :
    EffOK C N X ⟨none, .store t x y, ty, p, af, none⟩ L D S (fun cont => cont L D (F cs')) := by
  unfold stOK at h
  split at h
  · rename_i hc
    simp only [Bool.and_eq_true] at hc
    cases h
    exact E.storeAI hx hy (Nat.eq_of_beq_eq_true hc.1.1) (ocs hc.2) (Nat.le_of_ble_eq_true hc.1.2) rfl
  · cases h
end
end
section
inductive Tr where
  | lin (σ : List Nat)
  | val (i : Nat) (t : Tr)
  | br (i : Nat) (t : Tr) (j : Nat) (u : Tr)
def Tr.size : Tr → Nat
  | .lin σ => σ.length
  | .val _ t => t.size + 1
  | .br _ t _ _ => t.size + 1
section
variable {P : Program} {ops : Array Oper} {Q : Exit → Act → World → Prop} {Sw : World → Prop}
def chkT (ops : Array Oper) (i0 m : Option Nat) : Tr → Array Bool → Bool
  | .lin σ, listed => chk ops i0 m σ listed
  | .val i t, listed => match ops[i]? with
    | none => false
    | some o => !isEff o.op && Region.free .any ops listed i && (Region.ready .any ops listed).contains i && i0 != some i && waitsB ops i0 i && stands i0 listed && chkT ops i0 m t (listed.setIfInBounds i true)
  | .br i t j u, listed => Region.ready .any ops listed == [i, j] && t.size == u.size && chkT ops i0 m t (listed.setIfInBounds i true) && chkT ops i0 m u (listed.setIfInBounds j true)
def wpT (P : Program) (ops : Array Oper) (Q : Exit → Act → World → Prop) (Sw : World → Prop) (m : Option Nat) : Tr → Act → World → Prop
  | .lin σ, a, w => wpS P ops Q Sw m (σ.filterMap (ops[·]?)) a w
  | .val i t, a, w => ∃ o, ops[i]? = some o ∧ ∃ v, YieldsIf P ops Sw o v a ∧ wpT P ops Q Sw m t (a.put o.dst v) w
  | .br i t j u, a, w => (∃ o, ops[i]? = some o ∧ o.guard = none ∧ o.wp P a w (fun a' w' => Sw w' ∧ wpT P ops Q Sw m t a' w') Q) ∧ (∃ o, ops[j]? = some o ∧ o.guard = none ∧ o.wp P a w (fun a' w' => Sw w' ∧ wpT P ops Q Sw m u a' w') Q)
theorem wpAnyB_of_T (hsel : Region.noSelect ops = true) (hQ : ∀ c (oi : Oper) v a w, Q (.panic c) (a.put oi.dst v) w → Q (.panic c) a w) (i0 m : Option Nat) :
    ∀ (t : Tr) (listed : Array Bool) (a : Act) (w : World), chkT ops i0 m t listed = true → Closed ops listed → (stands i0 listed = true → Sw w) → wpT P ops Q Sw m t a w →
      wpAnyB P ops Q Sw i0 t.size listed a w
  | .lin σ, listed, a, w, hc, hcl, hS, h => wpAnyB_of_S hsel hQ i0 m σ listed a w hc hcl hS h
  | .val i t, listed, a, w, hc, hcl, hS, h => by
    obtain ⟨o, ho, v, hy, hK⟩ := h
    simp only [chkT, ho, Bool.and_eq_true, bne_iff_ne, ne_eq, Bool.not_eq_true'] at hc
    obtain ⟨⟨⟨⟨⟨⟨he, hfree⟩, hready⟩, hne⟩, hw⟩, hst⟩, hrest⟩ := hc
    have hSk : stands i0 (listed.setIfInBounds i true) = true → Sw w := fun hs => hS hst
    exact wpAnyB_first ho (Region.noSelect_spec hsel) (fun c a w => hQ c o v a w) true (fun _ => hw) hne t.size listed a w (Region.free_spec ho hfree) hcl (by simpa using hready) (by
      rcases hy with ⟨h1, h2⟩ | h2
      · exact .inl ⟨h1, fun w' hw' => h2 w' (hw' rfl)⟩
      · exact .inr h2) (fun _ => hst) hS (wpAnyB_of_T hsel hQ i0 m t _ _ w hrest (hcl.set (by simpa using hready)) hSk hK)
  | .br i t j u, listed, a, w, hc, hcl, hS, h => by
    simp only [chkT, Bool.and_eq_true, beq_iff_eq] at hc
    obtain ⟨⟨⟨hr, hsz⟩, h1⟩, h2⟩ := hc
    obtain ⟨⟨o, ho, hg, hK⟩, ⟨o', ho', hg', hK'⟩⟩ := h
    refine ⟨fun h0 => (by rw [hr] at h0; cases h0), fun q hq => ?_⟩
    have hq' := hq
    rw [hr] at hq'
    simp only [List.mem_cons, List.not_mem_nil, or_false] at hq'
    rcases hq' with rfl | rfl
    · unfold wpOp
      simp only [ho]
      rw [if_pos (by simp [Region.wanted, hg])]
      exact .inl (Oper.wp_mono (fun a' w' h' => ⟨fun _ => h'.1, wpAnyB_of_T hsel hQ i0 m t _ a' w' h1 (hcl.set hq) (fun _ => h'.1) h'.2⟩) hK)
    · unfold wpOp
      simp only [ho']
      rw [if_pos (by simp [Region.wanted, hg'])]
      refine .inl (Oper.wp_mono (fun a' w' h' => ⟨fun _ => h'.1, ?_⟩) hK')
      have := wpAnyB_of_T hsel hQ i0 m u _ a' w' h2 (hcl.set hq) (fun _ => h'.1) h'.2
      rw [← hsz] at this
      exact this
theorem wp_region_T {id : Nat} {a : Act} {w : World} {l : List Oper} (hm : P.follows .mixedOrders = true) (hQ : ∀ c (oi : Oper) v a w, Q (.panic c) (a.put oi.dst v) w → Q (.panic c) a w)
    (t : Tr) (i0 m : Option Nat) (hc : (Region.noSelect l.toArray && (t.size == l.length) && chkT l.toArray i0 m t (Array.replicate l.length false)) = true) (hS : Sw w.drew)
    (h : wpT P l.toArray Q Sw m t a w.drew) : (Code.region id l.toArray true).wp P Q a w := by
  simp only [Bool.and_eq_true, beq_iff_eq] at hc
  obtain ⟨⟨hsel, hlen⟩, hchk⟩ := hc
  refine wp_region_any hm (wpAny_of_B (Sw := Sw) (i0 := i0) _ _ _ _ ?_)
  have := wpAnyB_of_T (P := P) (Sw := Sw) hsel hQ i0 m t (Array.replicate l.length false) a w.drew hchk (fun k o ho hk => by
      rcases Nat.lt_or_ge k (Array.replicate l.length false).size with h' | h'
      · have h'' : k < l.length := by simpa using h'
        simp [h''] at hk
      · have h'' : l.length ≤ k := by simpa using h'
        simp [h''] at hk) (fun _ => hS) h
  rw [hlen] at this
  simpa using this
end
def JT (C : Cx) (N : Nat) (X : Fx) (k : List Item) (ops : Array Oper) (R : Hp) (m : Option Nat) (t : Tr) (L : Slots) (D : List Deferred) (S : Hp) : Prop :=
  ∀ a w, Knows N L a → a.defers = D → Inv C X S w → wpT C.P ops (QN C.P X.Q k) (fun w => Holds R w ∧ GHolds C.GS w) m t a w
section
variable {C : Cx} {N : Nat} {X : Fx} {k : List Item} {ops : Array Oper} {R : Hp} {m : Option Nat} {tr u : Tr} {L : Slots} {D : List Deferred} {S : Hp}
theorem G.regionT {id : Nat} {l : List Oper} (t : Tr) (i0 m : Option Nat) (R : Hp)
    (hc : (Region.noSelect l.toArray && (t.size == l.length) && chkT l.toArray i0 m t (Array.replicate l.length false)) = true) (hR : SubH R S)
    (h : JT C N X k l.toArray R m t L D S) : G C N X (.code (.region id l.toArray true) :: k) L D S := by
  intro a w h1 h2 h3
  exact Goes.of_wp (wp_region_T C.hm (fun c oi v a w q => q) t i0 m hc ⟨hR.holds h3.drew.holds, h3.drew.glob⟩ (h a w.drew h1 h2 h3.drew))
theorem JT.lin {σ : List Nat} {l : List Oper} (hl : σ.filterMap (ops[·]?) = l) (h : J C N X k ops (some (R, m)) l L D S) : JT C N X k ops R m (.lin σ) L D S := by
  subst hl
  exact fun a w h1 h2 h3 => h a w h1 h2 h3
theorem JT.val {i d : Nat} {op : Op} {ty : TypeId} {p : String} {af : Array Edge} {v : Value} (ho : ops[i]? = some ⟨some d, op, ty, p, af, none⟩) (hd : Nat.blt d N = true)
    (hv : ∀ ρ w, (∀ x u, opv L x = some u → ρ x = u) → Holds R w → Val C.P ρ w op v)
    (h : JT C N X k ops R m tr ((d, v) :: L) D S) : JT C N X k ops R m (.val i tr) L D S := by
  intro a w h1 h2 h3
  exact ⟨_, ho, v, .inl ⟨by simp [Region.wanted], fun w' hw' => hv a.eval w' (fun x u e => h1.eval e) hw'.1 _ _ _ _ _⟩, h (a.put (some d) v) w (h1.put v hd) (by simpa [Act.put] using h2) h3⟩
theorem JT.move {i d : Nat} {ty : TypeId} {p : String} {af : Array Edge} {v : Value} {x : Operand} (ho : ops[i]? = some ⟨some d, .move x, ty, p, af, none⟩) (hd : Nat.blt d N = true) (hx : opv L x = some v)
    (h : JT C N X k ops R m tr ((d, v) :: L) D S) : JT C N X k ops R m (.val i tr) L D S :=
  JT.val ho hd (fun ρ w hρ _ _ _ _ _ _ => by simp [execOp, hρ _ _ hx]) h
theorem JT.fieldAddr {i d : Nat} {ty : TypeId} {p : String} {af : Array Edge} {x : Operand} {s f : Nat} {b o off : Nat} [ht : TyF C s f off] (ho : ops[i]? = some ⟨some d, .fieldAddr s x f, ty, p, af, none⟩) (hd : Nat.blt d N = true) (hx : opv L x = some (.pointer (some ⟨b, o, none⟩)))
    (h : JT C N X k ops R m tr ((d, .pointer (some ⟨b, o + off, none⟩)) :: L) D S) : JT C N X k ops R m (.val i tr) L D S := by
  obtain ⟨fs, fd, i, h1, h2, h3, h4, h5⟩ := ht.h
  exact JT.val ho hd (fun ρ w hρ _ _ _ _ _ _ => by
    simp [execOp, hρ _ _ hx, Instr.fieldAt, run_underlying h1, h2, Instr.sureAddr, fieldPlace, sizeOf, typeInfo, h4, h5, h3, Addr.add_lit]) h
theorem JT.load {i d : Nat} {ty : TypeId} {p : String} {af : Array Edge} {x : Operand} {t : TypeId} {ds : TypeDesc} {n : Nat} {b o T : Nat} {cs : List Value} {v : Value} [ht : Ty C t ds n] (ho : ops[i]? = some ⟨some d, .load t x, ty, p, af, none⟩) (hd : Nat.blt d N = true) (hp : TypeDesc.plain ds = true)
    (hx : opv L x = some (.pointer (some ⟨b, o, none⟩))) [hm : MemI b T cs R] (hv : cs[o]? = some v)
    (h : JT C N X k ops R m tr ((d, v) :: L) D S) : JT C N X k ops R m (.val i tr) L D S :=
  JT.val ho hd (fun ρ w hρ hS _ _ _ _ _ => by
    have hc : w.cell? ⟨b, o, none⟩ = some v := by simp [World.cell?, hm.h.ok hS, hv]
    simp only [execOp, hρ _ _ hx, Instr.loadAt, Instr.sureAddr, loadVar, isAgg, Sem.run_bind, Sem.run_pure, ht.run_u, Result.andThen_ok]
    cases ds <;> simp_all [TypeDesc.plain]) h
theorem JT.br {i j : Nat} {o o' : Oper} {T T' : (Slots → List Deferred → Hp → Prop) → Prop} (ho : ops[i]? = some o) (hg : o.guard = none) (ho' : ops[j]? = some o') (hg' : o'.guard = none)
    (E : EffOK C N X o L D S T) (E' : EffOK C N X o' L D S T')
    (h : T fun L' D' S' => SubH R S' ∧ JT C N X k ops R m tr L' D' S') (h' : T' fun L' D' S' => SubH R S' ∧ JT C N X k ops R m u L' D' S') : JT C N X k ops R m (.br i tr j u) L D S := by
  intro a w h1 h2 h3
  unfold EffOK at E E'
  exact ⟨⟨o, ho, hg, E _ h a w _ _ h1 h2 h3 fun L' D' S' hc a' w' k1 k2 k3 => ⟨⟨hc.1.holds k3.holds, k3.glob⟩, hc.2 a' w' k1 k2 k3⟩⟩,
    ⟨o', ho', hg', E' _ h' a w _ _ h1 h2 h3 fun L' D' S' hc a' w' k1 k2 k3 => ⟨⟨hc.1.holds k3.holds, k3.glob⟩, hc.2 a' w' k1 k2 k3⟩⟩⟩
theorem JT.own {b T : Nat} {cs : List Value} (i : Nat) (hi : S[i]? = some ⟨b, T, cs, true⟩) (h : Own C X b → JT C N X k ops R m tr L D S) : JT C N X k ops R m tr L D S := fun a w h1 h2 h3 =>
  h (h3.own _ (List.mem_of_getElem? hi) rfl) a w h1 h2 h3
theorem JT.frz {S' : Hp} (hf : frzO S = some S') (h : JT C N X k ops R m tr L D S') : JT C N X k ops R m tr L D S := fun a w h1 h2 h3 => h a w h1 h2 (h3.frz hf)
theorem JT.sep {e f : Ent} (i j : Nat) (hi : S[i]? = some e) (hj : S[j]? = some f) (hij : i ≠ j) (hw : e.wr = true ∨ f.wr = true) (h : e.b ≠ f.b → JT C N X k ops R m tr L D S) : JT C N X k ops R m tr L D S := by
  intro a w h1 h2 h3
  have hp := List.pairwise_iff_getElem.1 h3.nd
  have hi' : i < S.length := (List.getElem?_eq_some_iff.1 hi).1
  have hj' : j < S.length := (List.getElem?_eq_some_iff.1 hj).1
  have hie : S[i] = e := (List.getElem?_eq_some_iff.1 hi).2
  have hje : S[j] = f := (List.getElem?_eq_some_iff.1 hj).2
  refine h ?_ a w h1 h2 h3
  rcases Nat.lt_or_gt_of_ne hij with hlt | hlt
  · have := hp i j hi' hj' hlt
    rw [hie, hje] at this
    exact this hw
  · have := hp j i hj' hi' hlt
    rw [hie, hje] at this
    exact fun q => this hw.symm q.symm
end
section
variable {C : Cx} {N : Nat} {X : Fx} {k : List Item} {ops : Array Oper} {md : Option (Hp × Option Nat)} {rest : List Oper} {L : Slots} {D : List Deferred} {S : Hp}
variable {d : Tmp} {ty : TypeId} {p : String} {af : Array Edge} {t t' : TypeId} {x y : Operand}
theorem J.strNe {s u : ByteArray} (hd : Nat.blt d N = true) (hx : opv L x = some (.string s)) (hy : opv L y = some (.string u))
    (h : J C N X k ops md rest ((d, .bool (!(s.toList == u.toList))) :: L) D S) : J C N X k ops md (⟨some d, .binOp .neq t x y t', ty, p, af, none⟩ :: rest) L D S :=
  J.val hd rfl (fun ρ w hρ _ _ _ _ _ _ _ => by
    simp [execOp, hρ _ _ hx, hρ _ _ hy, eqGuard_at_string, binOp, Op.stringOp]
    first | done | rfl | (rw [bne]; rfl)) h
end
end
section
def notIface : TypeDesc → Bool
  | .interface _ => false
  | _ => true
section
variable {C : Cx} {N : Nat} {X : Fx} {k : List Item} {ops : Array Oper} {md : Option (Hp × Option Nat)} {rest : List Oper} {L : Slots} {D : List Deferred} {S : Hp}
variable {d : Tmp} {ty : TypeId} {p : String} {af : Array Edge} {t t' : TypeId} {x y : Operand}
theorem J.asT {T xt n : Nat} {ds : TypeDesc} {u : Value} [ht : Ty C T ds n] (hd : Nat.blt d N = true) (hn : notIface ds = true) (hx : opv L x = some (.iface T u))
    (h : J C N X k ops md rest ((d, .tuple [u, .bool true].toArray) :: L) D S) : J C N X k ops md (⟨some d, .typeAssert x xt T true, ty, p, af, none⟩ :: rest) L D S :=
  J.val hd rfl (fun ρ w hρ _ _ _ _ _ _ _ => by
    simp only [execOp, hρ _ _ hx, Instr.typeAssert, ht.run_u, Sem.run_bind, Result.andThen_ok]
    cases ds <;> simp_all [notIface]) h
theorem J.asF {T T' xt n : Nat} {ds : TypeDesc} {u z : Value} [ht : Ty C T ds n] [hz : TyZ C T z] (hd : Nat.blt d N = true) (hn : notIface ds = true) (hx : opv L x = some (.iface T' u)) (hne : Nat.beq T' T = false)
    (h : J C N X k ops md rest ((d, .tuple [z, .bool false].toArray) :: L) D S) : J C N X k ops md (⟨some d, .typeAssert x xt T true, ty, p, af, none⟩ :: rest) L D S :=
  J.val hd rfl (fun ρ w hρ _ _ _ _ _ _ _ => by
    obtain ⟨i, h1, h2⟩ := hz.h
    have hne' : ¬ T' = T := Nat.ne_of_beq_eq_false hne
    simp only [execOp, hρ _ _ hx, Instr.typeAssert, ht.run_u, Sem.run_bind, Result.andThen_ok]
    cases ds <;> simp_all [notIface, zeroValue, typeInfo, run_program]) h
end
section
instance (E : Addr) : TyZ (cx E) 102 (.bool false) := TyZ.of (by kernel_rfl)
instance (E : Addr) : TyZ (cx E) 103 (.pointer none) := TyZ.of (by kernel_rfl)
instance (E : Addr) : TyZ (cx E) 82 (.int .i64 0) := TyZ.of (by kernel_rfl)
instance (E : Addr) : TyZ (cx E) 2 (.int .i64 0) := TyZ.of (by kernel_rfl)
instance (E : Addr) : TyZ (cx E) 83 (.pointer none) := TyZ.of (by kernel_rfl)
instance (E : Addr) : TyZ (cx E) 112 (.pointer none) := TyZ.of (by kernel_rfl)
end
end
section
section
variable {C : Cx} {N : Nat} {X : Fx} {L : Slots} {D : List Deferred} {S : Hp}
variable {d : Tmp} {ty : TypeId} {p : String} {af : Array Edge} {t t' : TypeId}
theorem E.slice5 {e m by_ v0 v1 v2 v3 v4 : Nat} {kk : IntKind} {x0 x1 x2 x3 x4 : Operand} [ht : Ty C t (.slice e) m] [hw : TyW C e kk by_] (hd : Nat.blt d N = true)
    (h0 : opv L x0 = some (.int kk v0)) (hx1 : opv L x1 = some (.int kk v1)) (hx2 : opv L x2 = some (.int kk v2)) (hx3 : opv L x3 = some (.int kk v3)) (hx4 : opv L x4 = some (.int kk v4)) :
    EffOK C N X ⟨some d, .buildSlice t 5 #[(0, x0), (1, x1), (2, x2), (3, x3), (4, x4)], ty, p, af, none⟩ L D S (fun cont => ∀ g, cont ((d, .slice (some ⟨g, 0, none⟩) 5 5) :: L) D (⟨g, e, cells kk [v0, v1, v2, v3, v4], true⟩ :: S)) := by
  unfold EffOK; intro cont hT a w K Q k1 k2 k3 hK
  obtain ⟨i, h1, h2, h3, h4⟩ := hw.h
  unfold Oper.wp
  simp [execOp, Instr.buildSlice, ht.run_u, sizeOf, typeInfo, zeroValue, h1, h2, h3, Instr.fill, newRow, Oper.upon, k1.eval h0, k1.eval hx1, k1.eval hx2, k1.eval hx3, k1.eval hx4, Value.cells, Array.range_succ, Array.range_zero']
  exact hK _ _ _ (hT w.heap.size) _ _ (k1.put _ hd) (by simpa [Act.put] using k2) (by simpa [cells] using k3.alloc (T := e) (cs := cells kk [v0, v1, v2, v3, v4]))
class TyS (C : Cx) (t : TypeId) : Prop where
  h : ∃ i, C.P.info? t = some i ∧ i.size = 1 ∧ i.zero = some (.string ByteArray.empty)
end
section
variable {C : Cx} {N : Nat} {X : Fx} {k : List Item} {ops : Array Oper} {md : Option (Hp × Option Nat)} {rest : List Oper} {L : Slots} {D : List Deferred} {S : Hp}
variable {d : Tmp} {ty : TypeId} {p : String} {af : Array Edge} {t t' : TypeId} {x y : Operand}
end
theorem TyS.of {C : Cx} {t : TypeId} (h : (C.P.info? t).map (fun i => (i.size, i.zero)) = some (1, some (.string ByteArray.empty))) : TyS C t := by
  cases hi : C.P.info? t with
  | none => simp [hi] at h
  | some i => simp [hi] at h; exact ⟨i, hi, h.1, h.2⟩
instance (V : Addr) : TyS (cx V) 9 := TyS.of (by kernel_rfl)
end
section
set_option maxRecDepth 100000
set_option pp.deepTerms false
def nl (xs : List Nat) (o : Nat) : Nat → Nat
  | 0 => 0
  | i + 1 => if xs.getD (o + i) 0 = 0 then nl xs o i else i + 1
theorem norm_spec {V : Addr} {b o len cap : Nat} {xs : List Nat} (h : o + len ≤ xs.length) (hc : len ≤ cap) (hl : cap < 9223372036854775808) :
    Spec (cx V) 127 #[.slice (some ⟨b, o, none⟩) len cap] [] [⟨b, 162, cells .u64 xs, false⟩] (fun _ : Unit => .slice (some ⟨b, o, none⟩) (nl xs o len) cap) (fun _ => []) (fun _ => True) := by
  refine Spec.enter Tryz.func127 rfl Tryz.ntmps127 (by simp) [(0, .slice (some ⟨b, o, none⟩) len cap)] (by simp) ?_
  intro X hR
  try simp only [apC, apN]
  refine G.seq (G.region (J.assign rfl rfl (J.nil (G.seq (G.region (J.move rfl rfl (J.lenS rfl rfl (J.assign rfl rfl ?_))))))))
  refine J.nil (G.seq (G.block ?_))
  refine G.loopW (σ := { i : Nat // i ≤ len ∧ nl xs o len = nl xs o i }) (fun i => [(0, .slice (some ⟨b, o, none⟩) len cap), (3, .int .i64 (i.1 : Nat))]) (fun _ => [⟨b, 162, cells .u64 xs, false⟩]) (fun i => i.1) ⟨len, Nat.le_refl _, rfl⟩ (by repeat (first | exact SubSlots.nil _ | refine SubSlots.cons rfl ?_)) [0] rfl (by decide) ?_
  rintro ⟨i, hi, hn⟩ ih
  simp only at ih ⊢
  refine G.seq (G.seq (G.region (J.move rfl rfl ?_)))
  (first | refine J.gtN rfl rfl rfl ?_ | refine J.gtZ rfl rfl rfl ?_)
  refine J.move rfl rfl ?_
  rcases Nat.eq_zero_or_pos i with h0 | h0
  · subst h0
    refine J.sk rfl rfl rfl rfl (J.sk rfl rfl rfl rfl (J.sk rfl rfl rfl rfl (J.sk rfl rfl rfl rfl (J.sk rfl rfl rfl rfl (J.sk rfl rfl rfl rfl (J.pF rfl rfl rfl (J.nil (G.prune [0, 2, 3, 15] rfl ?_))))))))
    refine G.cF rfl (G.exit rfl (G.seq (G.region (J.move rfl rfl (J.move rfl rfl (J.slH0 rfl rfl rfl (by omega) rfl (J.assign rfl rfl (J.nil ?_))))))))
    refine G.prune [2] rfl (G.ret (hR _) ?_)
    rw [hn]
    exact GL.done (()) rfl rfl (trivial) rfl [] rfl (by decide) (by simp)
  · obtain ⟨i, rfl⟩ : ∃ j, i = j + 1 := ⟨i - 1, by omega⟩
    by_cases hz : xs.getD (o + i) 0 = 0
    · skip
      refine J.wT rfl rfl (J.move rfl rfl (J.wT rfl rfl (J.move rfl rfl (J.wT rfl rfl ?_))))
      (first | refine J.subI rfl rfl rfl (by omega) (by omega) ?_ | refine J.subZ rfl rfl rfl (by omega) (by omega) ?_)
      refine J.wT rfl rfl (J.ix rfl rfl rfl (J.wT rfl rfl (J.lc rfl rfl rfl (J.wT rfl rfl ?_))))
      (first | refine J.eqN rfl rfl rfl ?_ | refine J.eqZ rfl rfl rfl ?_)
      refine J.pT rfl rfl rfl (J.nil (G.prune [0, 2, 3, 15] rfl (G.cT rfl (G.skip (G.block (G.region (J.move rfl rfl ?_)))))))
      (first | refine J.subI rfl rfl rfl (by omega) (by omega) ?_ | refine J.subZ rfl rfl rfl (by omega) (by omega) ?_)
      refine J.assign rfl rfl (J.nil (G.inBlock ?_))
      have hn' : nl xs o len = nl xs o i := by rw [hn]; simp only [nl]; rw [if_pos hz]
      exact G.wk [0] (ih ⟨i, by omega, hn'⟩ (by simp only; omega))
    · skip
      refine J.wT rfl rfl (J.move rfl rfl (J.wT rfl rfl (J.move rfl rfl (J.wT rfl rfl ?_))))
      (first | refine J.subI rfl rfl rfl (by omega) (by omega) ?_ | refine J.subZ rfl rfl rfl (by omega) (by omega) ?_)
      refine J.wT rfl rfl (J.ix rfl rfl rfl (J.wT rfl rfl (J.lc rfl rfl rfl (J.wT rfl rfl ?_))))
      (first | refine J.eqN rfl rfl rfl ?_ | refine J.eqZ rfl rfl rfl ?_)
      refine J.pT rfl rfl rfl (J.nil (G.prune [0, 2, 3, 15] rfl (G.cF rfl (G.exit rfl (G.seq (G.region (J.move rfl rfl (J.move rfl rfl ?_))))))))
      refine J.slH0 rfl rfl rfl (by omega) rfl (J.assign rfl rfl (J.nil (G.prune [2] rfl (G.ret (hR _) ?_))))
      have hn' : nl xs o len = i + 1 := by rw [hn]; simp only [nl]; rw [if_neg hz]
      rw [hn']
      exact GL.done (()) rfl rfl (trivial) rfl [] rfl (by decide) (by simp)
end
end Go.Proofs.YtfbbkngonohlkaaGreatDoor
