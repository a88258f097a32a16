/- A calculus of symbolic states over the kit's wp: a state is a list of known slots and a list of known blocks of memory; each rule takes one operation. No project text, no axiom; The calculus, 2: operations that leave memory alone. (A part of the proof of this: for every input laws.FnWrOptions returns true and its arguments read as they did, the listed package variables being what the program lays) -/
import Derived.WalkKit
import Derived.Deep.Quiet
import Derived.Deep.LoopGhost
set_option linter.unusedVariables false
set_option linter.unusedSimpArgs false
namespace Go.Sl
open Go

abbrev Slots := List (Nat × Value)
abbrev HP := List (Nat × Obj)

/-- The value of a slot, the newest entry first. -/
def lk : Slots → Nat → Option Value
  | [], _ => none
  | p :: s, n => bif Nat.beq p.1 n then some p.2 else lk s n

def ev (s : Slots) : Operand → Option Value
  | .tmp t => lk s t
  | .const v => some v
  | .global g => some (.pointer (some ⟨g, 0, none⟩))
  | .func f => some (.func (.func f) #[] #[])

theorem lk_cons (p : Nat × Value) (s : Slots) (n : Nat) : lk (p :: s) n = if p.1 = n then some p.2 else lk s n := by
  simp only [lk]
  by_cases h : p.1 = n
  · subst h; simp
  · have : Nat.beq p.1 n = false := by
      cases hb : Nat.beq p.1 n with
      | false => rfl
      | true => exact absurd (Nat.eq_of_beq_eq_true hb) h
    simp [this, h]

/-- Of what was there before nothing has turned, but in the blocks M. -/
structure Fr (M : List Nat) (w w' : World) : Prop where
  os : w'.os = w.os
  tape : w'.tape = w.tape
  output : w'.output = w.output
  size : w.heap.size ≤ w'.heap.size
  keep : ∀ k, k < w.heap.size → k ∉ M → w'.heap[k]? = w.heap[k]?

theorem Fr.refl (M : List Nat) (w : World) : Fr M w w := ⟨rfl, rfl, rfl, Nat.le_refl _, fun _ _ _ => rfl⟩
theorem Fr.trans {M : List Nat} {a b c : World} (h : Fr M a b) (k : Fr M b c) : Fr M a c :=
  ⟨k.os.trans h.os, k.tape.trans h.tape, k.output.trans h.output, Nat.le_trans h.size k.size, fun i hi hn => (k.keep i (Nat.lt_of_lt_of_le hi h.size) hn).trans (h.keep i hi hn)⟩
/-- A callee's frame in the caller's: what the callee may write is the caller's own, or new. -/
theorem Fr.step {M M' : List Nat} {a b c : World} (h : Fr M a b) (k : Fr M' b c) (hM : ∀ i ∈ M', i ∈ M ∨ a.heap.size ≤ i) : Fr M a c :=
  ⟨k.os.trans h.os, k.tape.trans h.tape, k.output.trans h.output, Nat.le_trans h.size k.size, fun i hi hn =>
    (k.keep i (Nat.lt_of_lt_of_le hi h.size) (fun hm => by rcases hM i hm with h1 | h1; exact hn h1; omega)).trans (h.keep i hi hn)⟩
theorem Fr.mono {M M' : List Nat} {a b : World} (h : Fr M a b) (hM : ∀ i ∈ M, i ∈ M') : Fr M' a b :=
  ⟨h.os, h.tape, h.output, h.size, fun i hi hn => h.keep i hi (fun hm => hn (hM i hm))⟩

/-- Blocks that are there. -/
def Has (w : World) (H : HP) : Prop := ∀ p ∈ H, w.heap[p.1]? = some p.2
def keys (H : HP) : List Nat := H.map (·.1)

theorem Has.lt {w : World} {H : HP} (h : Has w H) {g : Nat} (hg : g ∈ keys H) : g < w.heap.size := by
  obtain ⟨p, hp, rfl⟩ := List.mem_map.1 hg
  exact (Array.getElem?_eq_some_iff.1 (h p hp)).1
theorem Has.fr {w w' : World} {H : HP} {M : List Nat} (h : Has w H) (hf : Fr M w w') (hd : ∀ g ∈ keys H, g ∉ M) : Has w' H := fun p hp => by
  have hg : p.1 ∈ keys H := List.mem_map_of_mem hp
  rw [hf.keep _ (h.lt hg) (hd _ hg)]
  exact h p hp

/-- What a walk goes by: the program, the frame's size, the world at the function's begin, the blocks that it may write, its deferred calls, what is there to be read, what is wanted at the end. -/
structure Cx where
  P : Program
  N : Nat
  w0 : World
  M : List Nat
  D : List Deferred
  G : HP
  Q : Exit → Act → World → Prop

structure St (x : Cx) (s : Slots) (H : HP) (a : Act) (w : World) : Prop where
  size : a.tmps.size = x.N
  defers : a.defers = x.D
  slots : ∀ n v, lk s n = some v → a.tmps[n]? = some v
  heap : Has w H
  glob : Has w x.G
  nodup : (keys H).Nodup
  apart : ∀ g ∈ keys H, g ∉ keys x.G
  own : ∀ g ∈ keys H, g ∈ x.M ∨ x.w0.heap.size ≤ g
  gown : ∀ g ∈ keys x.G, g < x.w0.heap.size ∧ g ∉ x.M
  fr : Fr x.M x.w0 w

theorem St.eval {x : Cx} {s : Slots} {H : HP} {a : Act} {w : World} (h : St x s H a w) {o : Operand} {v : Value} (he : ev s o = some v) : a.eval o = v := by
  cases o with
  | tmp t => have := h.slots t v he; simp [Act.eval, this]
  | const u => exact Option.some.inj he
  | global g => exact Option.some.inj he
  | func f => exact Option.some.inj he

theorem St.put {x : Cx} {s : Slots} {H : HP} {a : Act} {w : World} (h : St x s H a w) {d : Nat} (v : Value) (hd : d < x.N) : St x ((d, v) :: s) H (a.put (some d) v) w :=
  { size := by simp [Act.put, h.size]
    defers := h.defers
    slots := fun n u hn => by
      rw [lk_cons] at hn
      simp only [Act.put]
      by_cases e : d = n
      · subst e
        simp at hn
        subst hn
        simp [h.size, hd]
      · rw [if_neg e] at hn
        rw [Array.getElem?_setIfInBounds_ne e]
        exact h.slots n u hn
    heap := h.heap, glob := h.glob, nodup := h.nodup, apart := h.apart, own := h.own, gown := h.gown, fr := h.fr }

/-- Another world in which the same blocks are known. -/
theorem St.world {x : Cx} {s : Slots} {H H' : HP} {a : Act} {w w' : World} (h : St x s H a w) (h1 : Has w' H') (h2 : (keys H').Nodup) (h3 : ∀ g ∈ keys H', g ∈ keys H ∨ w.heap.size ≤ g) (hf : Fr (keys H) w w') : St x s H' a w' :=
  { size := h.size, defers := h.defers, slots := h.slots, heap := h1
    glob := h.glob.fr hf (fun g hg hk => h.apart g hk hg)
    nodup := h2
    apart := fun g hg hG => by
      rcases h3 g hg with hk | hk
      · exact h.apart g hk hG
      · have := h.glob.lt hG; omega
    own := fun g hg => by
      rcases h3 g hg with hk | hk
      · exact h.own g hk
      · exact .inr (Nat.le_trans h.fr.size hk)
    gown := h.gown
    fr := h.fr.step hf h.own }

/-- Fewer blocks, fewer slots. -/
theorem St.less {x : Cx} {s s' : Slots} {H H' : HP} {a : Act} {w : World} (h : St x s H a w) (hs : ∀ n v, lk s' n = some v → lk s n = some v) (hH : H'.Sublist H) : St x s' H' a w :=
  { size := h.size, defers := h.defers, slots := fun n v hn => h.slots n v (hs n v hn)
    heap := fun p hp => h.heap p (hH.subset hp)
    glob := h.glob
    nodup := h.nodup.sublist (hH.map _)
    apart := fun g hg => h.apart g ((hH.map _).subset hg)
    own := fun g hg => h.own g ((hH.map _).subset hg)
    gown := h.gown, fr := h.fr }
theorem St.perm {x : Cx} {s : Slots} {H H' : HP} {a : Act} {w : World} (h : St x s H a w) (hH : H.Perm H') : St x s H' a w :=
  { size := h.size, defers := h.defers, slots := h.slots
    heap := fun p hp => h.heap p (hH.symm.subset hp)
    glob := h.glob
    nodup := (show (keys H).Perm (keys H') from hH.map _).nodup_iff.1 h.nodup
    apart := fun g hg => h.apart g ((hH.symm.map (·.1)).subset hg)
    own := fun g hg => h.own g ((hH.symm.map (·.1)).subset hg)
    gown := h.gown, fr := h.fr }

/-! ### Continuations -/
inductive KI where
  | code (c : Code)
  | block (id : Nat)
  | upto (J : Act → World → Prop)

def kp (P : Program) (Q : Exit → Act → World → Prop) : List KI → Exit → Act → World → Prop
  | [] => Q
  | .code c :: k => Exit.then (c.wp P (kp P Q k)) (kp P Q k)
  | .block id :: k => Exit.inBlock id (kp P Q k)
  | .upto J :: k => Exit.then J (kp P Q k)

theorem kp_ret (P : Program) (Q : Exit → Act → World → Prop) (a : Act) (w : World) : ∀ k, kp P Q k .ret a w = Q .ret a w
  | [] => rfl
  | .code _ :: k => kp_ret P Q a w k
  | .block _ :: k => kp_ret P Q a w k
  | .upto _ :: k => kp_ret P Q a w k

def WC (x : Cx) (k : List KI) (c : Code) (s : Slots) (H : HP) : Prop := ∀ a w, St x s H a w → c.wp x.P (kp x.P x.Q k) a w
def WN (x : Cx) (k : List KI) (s : Slots) (H : HP) : Prop := ∀ a w, St x s H a w → kp x.P x.Q k .normal a w
def WX (x : Cx) (id : Nat) (k : List KI) (s : Slots) (H : HP) : Prop := ∀ a w, St x s H a w → kp x.P x.Q k (.exit id) a w
def WR (x : Cx) (k : List KI) (s : Slots) (H : HP) : Prop := ∀ a w, St x s H a w → kp x.P x.Q k .ret a w
def WO (x : Cx) (ops : Array Oper) (k : List KI) (rest : List Oper) (s : Slots) (H : HP) : Prop := ∀ a w, St x s H a w → wpList x.P ops (kp x.P x.Q k) rest a w

section control
variable {x : Cx} {k : List KI} {s s' : Slots} {H H' : HP} {c c' : Code} {id : Nat}

theorem c_seq (h : WC x (.code c' :: k) c s H) : WC x k (.seq c c') s H := fun a w hs => wp_seq (h a w hs)
theorem c_skip (h : WN x k s H) : WC x k .skip s H := fun a w hs => wp_skip (h a w hs)
theorem c_block (h : WC x (.block id :: k) c s H) : WC x k (.block id c) s H := fun a w hs => wp_block (h a w hs)
theorem c_exit (h : WX x id k s H) : WC x k (.exit id) s H := fun a w hs => wp_exit (h a w hs)
theorem c_ret (h : WR x k s H) : WC x k .ret s H := fun a w hs => wp_ret (h a w hs)
theorem c_region {l : List Oper} (h : WO x l.toArray k l s H) : WC x k (.region id l.toArray false) s H := fun a w hs => wp_region_lit (h a w hs)
theorem n_code (h : WC x k c s H) : WN x (.code c :: k) s H := fun a w hs => h a w hs
theorem n_block (h : WN x k s H) : WN x (.block id :: k) s H := fun a w hs => h a w hs
theorem n_upto {J : Act → World → Prop} (h : ∀ a w, St x s H a w → J a w) : WN x (.upto J :: k) s H := fun a w hs => h a w hs
theorem x_code (h : WX x id k s H) : WX x id (.code c :: k) s H := fun a w hs => h a w hs
theorem x_upto {J : Act → World → Prop} (h : WX x id k s H) : WX x id (.upto J :: k) s H := fun a w hs => h a w hs
theorem x_here (h : WN x k s H) : WX x id (.block id :: k) s H := fun a w hs => by
  simp only [kp, Exit.inBlock, if_true]; exact h a w hs
theorem x_past {id' : Nat} (hne : Nat.beq id id' = false) (h : WX x id k s H) : WX x id (.block id' :: k) s H := fun a w hs => by
  have : id ≠ id' := by intro e; subst e; simp at hne
  simp only [kp, Exit.inBlock, if_neg this]; exact h a w hs
theorem r_any (h : ∀ a w, St x s H a w → x.Q .ret a w) : WR x k s H := fun a w hs => by rw [kp_ret]; exact h a w hs
theorem n_end (h : ∀ a w, St x s H a w → x.Q .normal a w) : WN x [] s H := fun a w hs => h a w hs

theorem c_if {t e : Code} {o : Operand} {b : Bool} (hc : ev s o = some (.bool b)) (ht : b = true → WC x k t s H) (he : b = false → WC x k e s H) : WC x k (.cond o t e) s H :=
  fun a w hs => wp_cond_split (hs.eval hc) (fun h => ht h a w hs) (fun h => he h a w hs)
theorem c_ifp {t e : Code} {o : Operand} {p : Prop} [Decidable p] (hc : ev s o = some (.bool (decide p))) (ht : p → WC x k t s H) (he : ¬ p → WC x k e s H) : WC x k (.cond o t e) s H :=
  c_if hc (fun h => ht (by simpa using h)) (fun h => he (by simpa using h))
theorem c_then {t e : Code} {o : Operand} (hc : ev s o = some (.bool true)) (ht : WC x k t s H) : WC x k (.cond o t e) s H :=
  fun a w hs => wp_cond_true (hs.eval hc) (ht a w hs)
theorem c_else {t e : Code} {o : Operand} (hc : ev s o = some (.bool false)) (he : WC x k e s H) : WC x k (.cond o t e) s H :=
  fun a w hs => wp_cond_false (hs.eval hc) (he a w hs)

theorem WC.less (hs : ∀ n v, lk s' n = some v → lk s n = some v) (hH : H'.Sublist H) (h : WC x k c s' H') : WC x k c s H := fun a w hst => h a w (hst.less hs hH)
theorem WC.perm (hH : H.Perm H') (h : WC x k c s H') : WC x k c s H := fun a w hst => h a w (hst.perm hH)
theorem WN.less (hs : ∀ n v, lk s' n = some v → lk s n = some v) (hH : H'.Sublist H) (h : WN x k s' H') : WN x k s H := fun a w hst => h a w (hst.less hs hH)

/-- A loop: what is known at a round's head, told by a number that every round lowers, and by whatever else. -/
theorem c_loop {X : Type} (I : X → Slots) (J : X → HP) (A : X → Prop) (mu : X → Nat) (x0 : X) (hA : A x0)
    (h0 : ∀ n v, lk (I x0) n = some v → lk s n = some v) (hJ : H.Perm (J x0))
    (round : ∀ y, A y → WC x (.upto (fun a w => ∃ z, mu z < mu y ∧ A z ∧ St x (I z) (J z) a w) :: k) c (I y) (J y)) : WC x k (.loop c) s H := fun a w hs => by
  refine wp_loop_ghost (fun n a w => ∃ z, mu z = n ∧ A z ∧ St x (I z) (J z) a w) (mu x0) ⟨x0, rfl, hA, (hs.less h0 (List.Sublist.refl _)).perm hJ⟩ ?_
  rintro n a w ⟨y, rfl, hy, hst⟩
  refine wp_mono (round y hy a w hst) ?_
  intro e a' w' hq
  cases e with
  | normal =>
    obtain ⟨z, h1, h2, h3⟩ := hq
    exact ⟨mu z, h1, z, rfl, h2, h3⟩
  | exit id => exact hq
  | goto l => exact hq
  | ret => exact hq
  | panic ch => exact hq
  | outgrown => exact hq
/-- A round's end. -/
theorem n_round {X : Type} {I : X → Slots} {J : X → HP} {A : X → Prop} {mu : X → Nat} {y : X} (z : X) (hmu : mu z < mu y) (hA : A z)
    (hs : ∀ n v, lk (I z) n = some v → lk s n = some v) (hJ : H.Perm (J z)) : WN x (.upto (fun a w => ∃ z, mu z < mu y ∧ A z ∧ St x (I z) (J z) a w) :: k) s H :=
  n_upto fun _ _ h => ⟨z, hmu, hA, (h.less hs (List.Sublist.refl _)).perm hJ⟩
theorem n_round' {X : Type} {I : X → Slots} {J : X → HP} {A : X → Prop} {mu : X → Nat} {y : X} (z : X) (hmu : mu z < mu y) (hA : A z)
    (hs : ∀ n v, lk (I z) n = some v → lk s n = some v) (H1 : HP) (hJ : H.Perm H1) (hJ' : (J z).Sublist H1) : WN x (.upto (fun a w => ∃ z, mu z < mu y ∧ A z ∧ St x (I z) (J z) a w) :: k) s H :=
  n_upto fun _ _ h => ⟨z, hmu, hA, (h.perm hJ).less hs hJ'⟩
/-- Ways meet again: what is known there, whatever the way. -/
theorem c_cut {X : Type} (I : X → Slots) (J : X → HP) (A : X → Prop) (h1 : WC x (.upto (fun a w => ∃ z, A z ∧ St x (I z) (J z) a w) :: k) c s H) (h2 : ∀ z, A z → WN x k (I z) (J z)) : WC x k c s H := fun a w hs => by
  refine wp_mono (h1 a w hs) ?_
  intro e a' w' hq
  cases e with
  | normal => obtain ⟨z, hz, hst⟩ := hq; exact h2 z hz a' w' hst
  | exit id => exact hq
  | goto l => exact hq
  | ret => exact hq
  | panic ch => exact hq
  | outgrown => exact hq
theorem n_cut {X : Type} {I : X → Slots} {J : X → HP} {A : X → Prop} (z : X) (hA : A z) (hs : ∀ n v, lk (I z) n = some v → lk s n = some v) (hJ : H.Perm (J z)) :
    WN x (.upto (fun a w => ∃ z, A z ∧ St x (I z) (J z) a w) :: k) s H := n_upto fun _ _ h => ⟨z, hA, (h.less hs (List.Sublist.refl _)).perm hJ⟩
end control

/-! ### Which slots are told -/
theorem sub_nil {s : Slots} : ∀ n v, lk [] n = some v → lk s n = some v := fun _ _ h => by simp [lk] at h
theorem sub_cons {s s' : Slots} {k : Nat} {u : Value} (h : lk s k = some u) (hs : ∀ n v, lk s' n = some v → lk s n = some v) : ∀ n v, lk ((k, u) :: s') n = some v → lk s n = some v := fun n v hn => by
  rw [lk_cons] at hn
  by_cases e : k = n
  · subst e; simp at hn; subst hn; exact h
  · rw [if_neg e] at hn; exact hs n v hn

/-! ### Functions -/
def Post (H : HP) (R : Value → HP → Prop) (w : World) (e : Ending) (w' : World) : Prop :=
  ∃ v H', e = .returned v ∧ R v H' ∧ Has w' H' ∧ (keys H').Nodup ∧ Fr (keys H) w w' ∧ ∀ g ∈ keys H', g ∈ keys H ∨ w.heap.size ≤ g

/-- Called with these, in any memory that holds G (to be read) and H, the function returns; H has become what R says. -/
def Ctr (P : Program) (f : FuncId) (args : List Value) (G H : HP) (R : Value → HP → Prop) : Prop :=
  ∀ w, Has w G → Has w H → (keys H).Nodup → (∀ g ∈ keys H, g ∉ keys G) → Calls P f args.toArray w (Post H R w)

def zipSlots : Nat → List Value → Slots
  | _, [] => []
  | n, v :: l => (n, v) :: zipSlots (n + 1) l

theorem lk_zipSlots (l : List Value) : ∀ n i v, lk (zipSlots n l) i = some v → n ≤ i ∧ l[i - n]? = some v := by
  induction l with
  | nil => intro n i v h; simp [zipSlots, lk] at h
  | cons u l ih =>
    intro n i v h
    simp only [zipSlots] at h
    rw [lk_cons] at h
    by_cases e : n = i
    · subst e; simp at h; subst h; simp
    · simp only [e, if_false] at h
      obtain ⟨h1, h2⟩ := ih _ _ _ h
      refine ⟨by omega, ?_⟩
      have : i - n = (i - (n + 1)) + 1 := by omega
      rw [this]; simpa using h2

theorem fn_enter {P : Program} {f : FuncId} {fn : Func} {c : Code} {args : List Value} {G H : HP} {R : Value → HP → Prop} (N : Nat)
    (hf : P.funcs[f]? = some fn) (hb : fn.body = some c) (hn : fn.ntmps = N) (ha : Nat.ble args.length N = true)
    (h : ∀ w0, WC ⟨P, N, w0, keys H, [], G, bodyPost P fn (Post H R w0)⟩ [] c (zipSlots 0 args) H) : Ctr P f args G H R := by
  intro w hG hH hnd hap
  have ha' : args.length ≤ N := by simpa using ha
  refine calls_of_wp hf hb (h w _ _ ?_)
  refine ⟨?_, rfl, ?_, hH, hG, hnd, hap, fun g hg => .inl hg, fun g hg => ⟨hG.lt hg, fun hk => hap g hk hg⟩, Fr.refl _ _⟩
  · simp [hn]; omega
  · intro n v hl
    obtain ⟨_, h2⟩ := lk_zipSlots _ _ _ _ hl
    simp only [Nat.sub_zero] at h2
    have hlt : n < args.length := (List.getElem?_eq_some_iff.1 h2).1
    show (args.toArray ++ Array.replicate (fn.ntmps - args.toArray.size) undef)[n]? = some v
    rw [Array.getElem?_append_left (by simpa using hlt)]
    simpa using h2

section ends
variable {P : Program} {N : Nat} {w0 : World} {M : List Nat} {G H H0 : HP} {s : Slots} {k : List KI} {fn : Func} {R : Value → HP → Prop}

/-- The function's end: its results are slots. -/
def resOf (s : Slots) : List ResultVar → Option (List Value)
  | [] => some []
  | .tmp t :: l => (lk s t).bind fun v => (resOf s l).map (v :: ·)
  | _ => none

theorem post_of {x : Cx} {a : Act} {w : World} {v : Value} (hx : x.M = keys H0) (hst : St x s H a w) (hR : R v H) : Post H0 R x.w0 (.returned v) w :=
  ⟨v, H, rfl, hR, hst.heap, hst.nodup, by rw [← hx]; exact hst.fr, fun g hg => by rw [← hx]; exact hst.own g hg⟩

def resVar (tmps : Array Value) : ResultVar → Sem Value
  | .tmp t => pure (tmps.getD t undef)
  | .cell a t => do loadVar t (← asAddr (tmps.getD a undef))

theorem mapM_pure {l : List ResultVar} {a : Act} {vs : List Value} (hs : ∀ n v, lk s n = some v → a.tmps[n]? = some v) (h : resOf s l = some vs) (P : Program) (w : World) :
    (l.mapM (resVar a.tmps)).run P w = .ok vs w := by
  induction l generalizing vs with
  | nil => simp [resOf] at h; subst h; simp [List.mapM_nil]
  | cons r l ih =>
    cases r with
    | tmp t =>
      simp only [resOf, Option.bind_eq_some_iff, Option.map_eq_some_iff] at h
      obtain ⟨v, hv, vs', hvs, rfl⟩ := h
      have h1 : (resVar a.tmps (.tmp t)).run P w = .ok v w := by simp [resVar, hs t v hv]
      simp only [List.mapM_cons, Sem.run_bind, h1, ih hvs, Result.andThen_ok, Sem.run_pure]
    | cell b t => simp [resOf] at h

theorem results_of {a : Act} {l : List ResultVar} {vs : List Value} (hl : fn.results = l.toArray) (hs : ∀ n v, lk s n = some v → a.tmps[n]? = some v) (h : resOf s l = some vs) (w : World) :
    (results fn a.tmps).run P w = .ok (if h : vs.toArray.size = 1 then vs.toArray[0] else .tuple vs.toArray) w := by
  have h0 : results fn a.tmps = (fn.results.mapM (resVar a.tmps) >>= fun vs => pure (if h : vs.size = 1 then vs[0] else .tuple vs)) := by
    unfold results
    congr 1
  rw [h0, hl, List.mapM_toArray]
  simp only [Sem.run_bind, Sem.run_map, mapM_pure hs h P w, Result.andThen_ok, Sem.run_pure]

theorem r_fn1 {t : Nat} {v : Value} (hl : fn.results = #[.tmp t]) (ht : lk s t = some v) (hR : R v H) : WR ⟨P, N, w0, keys H0, [], G, bodyPost P fn (Post H0 R w0)⟩ k s H :=
  r_any fun a w hst => ⟨hst.defers, v, by
    have := results_of (P := P) (vs := [v]) (l := [.tmp t]) hl hst.slots (by simp [resOf, ht]) w
    simpa using this, post_of (x := ⟨P, N, w0, keys H0, [], G, bodyPost P fn (Post H0 R w0)⟩) rfl hst hR⟩
theorem n_fn0 (hl : fn.results = #[]) (hR : R (.tuple #[]) H) : WN ⟨P, N, w0, keys H0, [], G, bodyPost P fn (Post H0 R w0)⟩ [] s H :=
  n_end fun a w hst => ⟨hst.defers, .tuple #[], by
    have := results_of (P := P) (vs := []) (l := []) hl hst.slots rfl w
    simpa using this, post_of (x := ⟨P, N, w0, keys H0, [], G, bodyPost P fn (Post H0 R w0)⟩) rfl hst hR⟩
theorem r_fn0 (hl : fn.results = #[]) (hR : R (.tuple #[]) H) : WR ⟨P, N, w0, keys H0, [], G, bodyPost P fn (Post H0 R w0)⟩ k s H :=
  r_any fun a w hst => ⟨hst.defers, .tuple #[], by
    have := results_of (P := P) (vs := []) (l := []) hl hst.slots rfl w
    simpa using this, post_of (x := ⟨P, N, w0, keys H0, [], G, bodyPost P fn (Post H0 R w0)⟩) rfl hst hR⟩
/-- Two results and more. -/
theorem r_fn {l : List ResultVar} {vs : List Value} (hl : fn.results = l.toArray) (hr : resOf s l = some vs) (h2 : Nat.ble 2 l.length = true) (hR : R (.tuple vs.toArray) H) :
    WR ⟨P, N, w0, keys H0, [], G, bodyPost P fn (Post H0 R w0)⟩ k s H :=
  r_any fun a w hst => ⟨hst.defers, .tuple vs.toArray, by
    have := results_of (P := P) hl hst.slots hr w
    have hlen : vs.length = l.length := by
      clear this h2 hR hl
      induction l generalizing vs with
      | nil => simp [resOf] at hr; subst hr; rfl
      | cons r l ih =>
        cases r with
        | tmp t =>
          simp only [resOf, Option.bind_eq_some_iff, Option.map_eq_some_iff] at hr
          obtain ⟨v, hv, vs', hvs, rfl⟩ := hr
          simp [ih hvs]
        | cell b t => simp [resOf] at hr
    have h2' : 2 ≤ l.length := by simpa using h2
    rw [dif_neg (by simp; omega)] at this
    exact this, post_of (x := ⟨P, N, w0, keys H0, [], G, bodyPost P fn (Post H0 R w0)⟩) rfl hst hR⟩
end ends

end Go.Sl
namespace Go.Sl
open Go

/-- May this operation run? -/
def wantS (ops : Array Oper) (s : Slots) (o : Oper) : Option Bool :=
  match o.guard with
  | none => some true
  | some (j, b) =>
    match (ops[j]?).bind (·.dst) with
    | none => none
    | some t =>
      match lk s t with
      | some (.bool b') => some (b' == b)
      | some (.tuple _) => some false
      | _ => none

theorem want_of {x : Cx} {ops : Array Oper} {s : Slots} {H : HP} {a : Act} {w : World} {o : Oper} {b : Bool} (h : St x s H a w) (hw : wantS ops s o = some b) : Region.wanted o (yielded ops a.tmps) = b := by
  unfold wantS at hw
  unfold Region.wanted
  split at hw
  · rename_i hg; rw [hg]; simpa using hw
  · rename_i j b0 hg
    rw [hg]
    show (yielded ops a.tmps j == some b0) = b
    split at hw
    · cases hw
    · rename_i t ht
      unfold yielded
      rw [ht, Option.bind_some]
      split at hw
      · rename_i b' hb
        rw [h.slots _ _ hb]
        have := Option.some.inj hw
        subst this
        cases b' <;> cases b0 <;> rfl
      · rename_i vs hb
        rw [h.slots _ _ hb]
        have := Option.some.inj hw
        subst this
        rfl
      · cases hw

section
variable {x : Cx} {ops : Array Oper} {k : List KI} {rest : List Oper} {s : Slots} {H : HP}

theorem o_nil (h : WN x k s H) : WO x ops k [] s H := fun a w hs => wpList_nil (h a w hs)

/-- What an operation yields in such a state, memory left as it is. -/
def Ex (x : Cx) (s : Slots) (H : HP) (o : Oper) (v : Value) : Prop := ∀ a w, St x s H a w → (execOp a.eval o).run x.P w = .ok (.value v) w
/-- What an operation that turns memory comes to: one of the states (s' y, J y), y such that A y. -/
def Lo (x : Cx) (s : Slots) (H : HP) (o : Oper) {Y : Type} (s' : Y → Slots) (J : Y → HP) (A : Y → Prop) : Prop :=
  ∀ a w, St x s H a w → ∀ (K : Act → World → Prop) (Q : Exit → Act → World → Prop), (∀ y a' w', A y → St x (s' y) (J y) a' w' → K a' w') → o.wp x.P a w K Q

theorem o_e {o : Oper} {d : Nat} {v : Value} (hw : wantS ops s o = some true) (hd : o.dst = some d) (hN : Nat.blt d x.N = true) (he : Ex x s H o v) (h : WO x ops k rest ((d, v) :: s) H) : WO x ops k (o :: rest) s H := fun a w hs => by
  refine wpList_step fun K hK => ?_
  rw [if_pos (want_of hs hw)]
  unfold Oper.wp
  rw [he a w hs, Oper.upon_value, hd]
  exact hK _ _ (h _ _ (hs.put _ (by simpa [Nat.blt_eq] using hN)))
theorem o_l {o : Oper} {Y : Type} {s' : Y → Slots} {J : Y → HP} {A : Y → Prop} (hw : wantS ops s o = some true) (hl : Lo x s H o s' J A) (h : ∀ y, A y → WO x ops k rest (s' y) (J y)) : WO x ops k (o :: rest) s H := fun a w hs => by
  refine wpList_step fun K hK => ?_
  rw [if_pos (want_of hs hw)]
  exact hl a w hs K _ (fun y a' w' hA hst => hK _ _ (h y hA a' w' hst))
/-- The most general loud operations: one that yields a value, one that yields none. -/
theorem l_gen {o : Oper} {Y : Type} (V : Y → Value) (J : Y → HP) (A : Y → Prop) {d : Nat} (hd : o.dst = some d) (hN : Nat.blt d x.N = true)
    (hrun : ∀ a w, St x s H a w → ∃ w' y, (execOp a.eval o).run x.P w = .ok (.value (V y)) w' ∧ A y ∧ St x s (J y) a w') : Lo x s H o (fun y => (d, V y) :: s) J A := fun a w hs K Q hK => by
  obtain ⟨w', y, hr, hA, hst⟩ := hrun a w hs
  unfold Oper.wp
  rw [hr, Oper.upon_value, hd]
  exact hK y _ _ hA (hst.put _ (by simpa [Nat.blt_eq] using hN))
theorem l_genu {o : Oper} {Y : Type} (J : Y → HP) (A : Y → Prop) (hd : o.dst = none)
    (hrun : ∀ a w, St x s H a w → ∃ w' y, (execOp a.eval o).run x.P w = .ok .skip w' ∧ A y ∧ St x s (J y) a w') : Lo x s H o (fun _ => s) J A := fun a w hs K Q hK => by
  obtain ⟨w', y, hr, hA, hst⟩ := hrun a w hs
  unfold Oper.wp
  rw [hr, Oper.upon_skip, hd]
  exact hK y _ _ hA hst
/-- Passed over. -/
theorem o_skip {o : Oper} {d : Nat} (hw : wantS ops s o = some false) (hd : o.dst = some d) (hN : Nat.blt d x.N = true) (h : WO x ops k rest ((d, .tuple #[]) :: s) H) : WO x ops k (o :: rest) s H := fun a w hs => by
  refine wpList_skip (want_of hs hw) ?_
  rw [hd]
  exact h _ _ (hs.put _ (by simpa [Nat.blt_eq] using hN))
/-- A slot that holds a bool: both ways. -/
theorem o_split (t : Nat) {b : Bool} (hb : lk s t = some (.bool b)) (h1 : b = true → WO x ops k rest ((t, .bool true) :: s) H) (h2 : b = false → WO x ops k rest ((t, .bool false) :: s) H) : WO x ops k rest s H := fun a w hs => by
  have hn : ∀ u, lk ((t, Value.bool b) :: s) u = lk s u := fun u => by
    rw [lk_cons]; split
    · rename_i e; simp at e; subst e; exact hb.symm
    · rfl
  cases b with
  | true => exact h1 rfl a w (hs.less (fun n v hv => by rwa [hn] at hv) (List.Sublist.refl _))
  | false => exact h2 rfl a w (hs.less (fun n v hv => by rwa [hn] at hv) (List.Sublist.refl _))
theorem o_splitp (t : Nat) {p : Prop} [Decidable p] (hb : lk s t = some (.bool (decide p))) (h1 : p → WO x ops k rest ((t, .bool true) :: s) H) (h2 : ¬ p → WO x ops k rest ((t, .bool false) :: s) H) : WO x ops k rest s H :=
  o_split t hb (fun h => h1 (by simpa using h)) (fun h => h2 (by simpa using h))
/-- A known slot told otherwise. -/
theorem o_slot (t : Nat) (v : Value) (hb : lk s t = some v) (h : WO x ops k rest ((t, v) :: s) H) : WO x ops k rest s H := fun a w hs => h a w (hs.less (fun n u hn => by
  rw [lk_cons] at hn; split at hn
  · rename_i e; simp at e; subst e; simp at hn; subst hn; exact hb
  · exact hn) (List.Sublist.refl _))
theorem o_perm {H' : HP} (hH : H.Perm H') (h : WO x ops k rest s H') : WO x ops k rest s H := fun a w hst => h a w (hst.perm hH)
theorem o_less {s' : Slots} {H' : HP} (hs : ∀ n v, lk s' n = some v → lk s n = some v) (hH : H'.Sublist H) (h : WO x ops k rest s' H') : WO x ops k rest s H := fun a w hst => h a w (hst.less hs hH)

variable {d : Nat} {p q c : Operand} {ty t t' : TypeId} {pos : String} {af : Array Edge} {gd : Option (Nat × Bool)} {v u : Value}

theorem e_move (hp : ev s p = some v) : Ex x s H ⟨some d, .move p, ty, pos, af, gd⟩ (v) := fun a w hs => by simp [execOp, hs.eval hp]

theorem e_assign (hp : ev s p = some v) : Ex x s H ⟨some d, .assign p, ty, pos, af, gd⟩ (v) := fun a w hs => by simp [execOp, hs.eval hp]

theorem e_pick_t (hc : ev s c = some (.bool true)) (hp : ev s p = some v) : Ex x s H ⟨some d, .pick c p q, ty, pos, af, gd⟩ (v) := fun a w hs => by simp [execOp, hs.eval hp, hs.eval hc, asBool]

theorem e_pick_f (hc : ev s c = some (.bool false)) (hq : ev s q = some v) : Ex x s H ⟨some d, .pick c p q, ty, pos, af, gd⟩ (v) := fun a w hs => by simp [execOp, hs.eval hq, hs.eval hc, asBool]

theorem e_extract {n : Nat} {vs : Array Value} (hp : ev s p = some (.tuple vs)) (hv : vs[n]? = some v) : Ex x s H ⟨some d, .extract p n, ty, pos, af, gd⟩ (v) := fun a w hs => by simp [execOp, hs.eval hp, Instr.extract, hv]

theorem e_not {b : Bool} (hp : ev s p = some (.bool b)) : Ex x s H ⟨some d, .unOp .not t p, ty, pos, af, gd⟩ (.bool (!b)) := fun a w hs => by simp [execOp, hs.eval hp, Op.unary]

theorem e_neg {kd : IntKind} {m : Int} (hp : ev s p = some (.int kd m)) : Ex x s H ⟨some d, .unOp .neg t p, ty, pos, af, gd⟩ (.int kd (kd.wrap (0 - m))) := fun a w hs => by simp [execOp, hs.eval hp, Op.unary, Op.intArith]

/-! ### Two operands -/
theorem e_bin {op : BinOp} {r : Value} (hp : ev s p = some v) (hq : ev s q = some u)
    (hrun : ∀ w, (do eqGuard op t p q v u; binOp op t v u : Sem Value).run x.P w = .ok r w) : Ex x s H ⟨some d, .binOp op t p q t', ty, pos, af, gd⟩ r := fun a w hs => by
      have := hrun w
      simp only [Sem.run_bind] at this
      simp only [execOp, hs.eval hp, hs.eval hq, Sem.run_bind, this, Result.andThen_ok, Sem.run_pure]

theorem g_int (op : BinOp) (p q : Operand) (kd kd' : IntKind) (m n : Int) (P : Program) (w : World) : (eqGuard op t p q (.int kd m) (.int kd' n)).run P w = .ok () w := by
  cases op <;> rfl

variable {kd kd' : IntKind} {m n : Int}
theorem e_add (hp : ev s p = some (.int kd m)) (hq : ev s q = some (.int kd n)) : Ex x s H ⟨some d, .binOp .add t p q t', ty, pos, af, gd⟩ (.int kd (kd.wrap (m + n))) := e_bin hp hq (fun w => by simp [g_int, binOp, Op.intArith])

theorem e_sub (hp : ev s p = some (.int kd m)) (hq : ev s q = some (.int kd n)) : Ex x s H ⟨some d, .binOp .sub t p q t', ty, pos, af, gd⟩ (.int kd (kd.wrap (m - n))) := e_bin hp hq (fun w => by simp [g_int, binOp, Op.intArith])

theorem e_mul (hp : ev s p = some (.int kd m)) (hq : ev s q = some (.int kd n)) : Ex x s H ⟨some d, .binOp .mul t p q t', ty, pos, af, gd⟩ (.int kd (kd.wrap (m * n))) := e_bin hp hq (fun w => by simp [g_int, binOp, Op.intArith])

theorem wrap_in (kd : IntKind) (z : Int) (h1 : kd.min ≤ z) (h2 : z ≤ kd.max) : kd.wrap z = z := by
  cases kd <;> simp [IntKind.wrap, IntKind.min, IntKind.max, IntKind.bits, IntKind.signed] at * <;> omega
/-- The same, where the answer is in range. -/
def inR : IntKind → Int → Prop
  | .i8, z => -128 ≤ z ∧ z ≤ 127
  | .i16, z => -32768 ≤ z ∧ z ≤ 32767
  | .i32, z => -2147483648 ≤ z ∧ z ≤ 2147483647
  | .i64, z => -9223372036854775808 ≤ z ∧ z ≤ 9223372036854775807
  | .u8, z => 0 ≤ z ∧ z ≤ 255
  | .u16, z => 0 ≤ z ∧ z ≤ 65535
  | .u32, z => 0 ≤ z ∧ z ≤ 4294967295
  | .u64, z => 0 ≤ z ∧ z ≤ 18446744073709551615
theorem wrap_inR {kd : IntKind} {z : Int} (h : inR kd z) : kd.wrap z = z := wrap_in kd z (by cases kd <;> exact h.1) (by cases kd <;> exact h.2)
theorem e_addn (hp : ev s p = some (.int kd m)) (hq : ev s q = some (.int kd n)) (hr : inR kd (m + n)) : Ex x s H ⟨some d, .binOp .add t p q t', ty, pos, af, gd⟩ (.int kd (m + n)) := by have hh := e_add (x := x) (s := s) (H := H) (pos := pos) (af := af) (gd := gd) (d := d) (ty := ty) (t := t) (t' := t') hp hq; rw [wrap_inR hr] at hh; exact hh

theorem e_subn (hp : ev s p = some (.int kd m)) (hq : ev s q = some (.int kd n)) (hr : inR kd (m - n)) : Ex x s H ⟨some d, .binOp .sub t p q t', ty, pos, af, gd⟩ (.int kd (m - n)) := by have hh := e_sub (x := x) (s := s) (H := H) (pos := pos) (af := af) (gd := gd) (d := d) (ty := ty) (t := t) (t' := t') hp hq; rw [wrap_inR hr] at hh; exact hh

theorem e_muln (hp : ev s p = some (.int kd m)) (hq : ev s q = some (.int kd n)) (hr : inR kd (m * n)) : Ex x s H ⟨some d, .binOp .mul t p q t', ty, pos, af, gd⟩ (.int kd (m * n)) := by have hh := e_mul (x := x) (s := s) (H := H) (pos := pos) (af := af) (gd := gd) (d := d) (ty := ty) (t := t) (t' := t') hp hq; rw [wrap_inR hr] at hh; exact hh

theorem e_quo (hp : ev s p = some (.int kd m)) (hq : ev s q = some (.int kd n)) (h0 : n ≠ 0) : Ex x s H ⟨some d, .binOp .quo t p q t', ty, pos, af, gd⟩ (.int kd (kd.wrap (m.tdiv n))) := e_bin hp hq (fun w => by simp [g_int, binOp, Op.intDiv, h0])

theorem e_rem (hp : ev s p = some (.int kd m)) (hq : ev s q = some (.int kd n)) (h0 : n ≠ 0) : Ex x s H ⟨some d, .binOp .rem t p q t', ty, pos, af, gd⟩ (.int kd (m.tmod n)) := e_bin hp hq (fun w => by simp [g_int, binOp, Op.intDiv, h0])

/-- Of what is not negative. -/
theorem e_quon (hp : ev s p = some (.int kd m)) (hq : ev s q = some (.int kd n)) (h0 : n ≠ 0) (hm : 0 ≤ m) (hr : inR kd (m / n)) : Ex x s H ⟨some d, .binOp .quo t p q t', ty, pos, af, gd⟩ (.int kd (m / n)) := by have hh := e_quo (x := x) (s := s) (H := H) (pos := pos) (af := af) (gd := gd) (d := d) (ty := ty) (t := t) (t' := t') hp hq h0; rw [Int.tdiv_eq_ediv_of_nonneg hm, wrap_inR hr] at hh; exact hh

theorem e_remn (hp : ev s p = some (.int kd m)) (hq : ev s q = some (.int kd n)) (h0 : n ≠ 0) (hm : 0 ≤ m) : Ex x s H ⟨some d, .binOp .rem t p q t', ty, pos, af, gd⟩ (.int kd (m % n)) := by have hh := e_rem (x := x) (s := s) (H := H) (pos := pos) (af := af) (gd := gd) (d := d) (ty := ty) (t := t) (t' := t') hp hq h0; rw [Int.tmod_eq_emod_of_nonneg hm] at hh; exact hh

/-- What & | ^ &^ come to. -/
def ib (op : BinOp) (kd : IntKind) (m n : Int) : Int :=
  match op with
  | .and => kd.wrap (BitVec.ofInt kd.bits m &&& BitVec.ofInt kd.bits n).toNat
  | .or => kd.wrap (BitVec.ofInt kd.bits m ||| BitVec.ofInt kd.bits n).toNat
  | .xor => kd.wrap (BitVec.ofInt kd.bits m ^^^ BitVec.ofInt kd.bits n).toNat
  | .andNot => kd.wrap (BitVec.ofInt kd.bits m &&& ~~~ BitVec.ofInt kd.bits n).toNat
  | _ => 0
theorem e_and (hp : ev s p = some (.int kd m)) (hq : ev s q = some (.int kd n)) : Ex x s H ⟨some d, .binOp .and t p q t', ty, pos, af, gd⟩ (.int kd (ib .and kd m n)) := e_bin hp hq (fun w => by simp [g_int, binOp, Op.intBits, ib])

theorem e_or (hp : ev s p = some (.int kd m)) (hq : ev s q = some (.int kd n)) : Ex x s H ⟨some d, .binOp .or t p q t', ty, pos, af, gd⟩ (.int kd (ib .or kd m n)) := e_bin hp hq (fun w => by simp [g_int, binOp, Op.intBits, ib])

theorem e_xor (hp : ev s p = some (.int kd m)) (hq : ev s q = some (.int kd n)) : Ex x s H ⟨some d, .binOp .xor t p q t', ty, pos, af, gd⟩ (.int kd (ib .xor kd m n)) := e_bin hp hq (fun w => by simp [g_int, binOp, Op.intBits, ib])

theorem e_andNot (hp : ev s p = some (.int kd m)) (hq : ev s q = some (.int kd n)) : Ex x s H ⟨some d, .binOp .andNot t p q t', ty, pos, af, gd⟩ (.int kd (ib .andNot kd m n)) := e_bin hp hq (fun w => by simp [g_int, binOp, Op.intBits, ib])

theorem e_unxor (hp : ev s p = some (.int kd m)) : Ex x s H ⟨some d, .unOp .xor t p, ty, pos, af, gd⟩ (.int kd (ib .xor kd (if kd.signed then -1 else kd.max) m)) := fun a w hs => by simp [execOp, hs.eval hp, Op.unary, Op.intBits, ib]

theorem e_shl (hp : ev s p = some (.int kd m)) (hq : ev s q = some (.int kd' n)) (h0 : 0 ≤ n) : Ex x s H ⟨some d, .binOp .shl t p q t', ty, pos, af, gd⟩ (.int kd (kd.wrap (m * 2 ^ (min n.toNat kd.bits)))) := e_bin hp hq (fun w => by simp [g_int, binOp, Op.shift, Int.not_lt.2 h0])

theorem e_shr (hp : ev s p = some (.int kd m)) (hq : ev s q = some (.int kd' n)) (h0 : 0 ≤ n) : Ex x s H ⟨some d, .binOp .shr t p q t', ty, pos, af, gd⟩ (.int kd (m.fdiv (2 ^ (min n.toNat kd.bits)))) := e_bin hp hq (fun w => by simp [g_int, binOp, Op.shift, Int.not_lt.2 h0])

theorem e_eql (hp : ev s p = some (.int kd m)) (hq : ev s q = some (.int kd n)) : Ex x s H ⟨some d, .binOp .eql t p q t', ty, pos, af, gd⟩ (.bool (decide (m = n))) := e_bin hp hq (fun w => by simp [g_int, binOp, Op.intCmp]; rfl)

theorem e_neq (hp : ev s p = some (.int kd m)) (hq : ev s q = some (.int kd n)) : Ex x s H ⟨some d, .binOp .neq t p q t', ty, pos, af, gd⟩ (.bool (decide (m ≠ n))) := e_bin hp hq (fun w => by simp [g_int, binOp, Op.intCmp, bne]; rfl)

theorem e_lss (hp : ev s p = some (.int kd m)) (hq : ev s q = some (.int kd n)) : Ex x s H ⟨some d, .binOp .lss t p q t', ty, pos, af, gd⟩ (.bool (decide (m < n))) := e_bin hp hq (fun w => by simp [g_int, binOp, Op.intCmp])

theorem e_leq (hp : ev s p = some (.int kd m)) (hq : ev s q = some (.int kd n)) : Ex x s H ⟨some d, .binOp .leq t p q t', ty, pos, af, gd⟩ (.bool (decide (m ≤ n))) := e_bin hp hq (fun w => by simp [g_int, binOp, Op.intCmp])

theorem e_gtr (hp : ev s p = some (.int kd m)) (hq : ev s q = some (.int kd n)) : Ex x s H ⟨some d, .binOp .gtr t p q t', ty, pos, af, gd⟩ (.bool (decide (n < m))) := e_bin hp hq (fun w => by simp [g_int, binOp, Op.intCmp])

theorem e_geq (hp : ev s p = some (.int kd m)) (hq : ev s q = some (.int kd n)) : Ex x s H ⟨some d, .binOp .geq t p q t', ty, pos, af, gd⟩ (.bool (decide (n ≤ m))) := e_bin hp hq (fun w => by simp [g_int, binOp, Op.intCmp])

end
end Go.Sl
