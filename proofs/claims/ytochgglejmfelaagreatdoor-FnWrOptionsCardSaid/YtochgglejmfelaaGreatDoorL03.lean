/- The calculus, 12: regions that draw their order, in which loads come first and then stores; Rows of numbers, turned by swaps alone; What the parts of the library's sort keep; Rows of numbers in memory; Each number once, in order; A row that the library's sort has turned; Slices whose shape is not told. (A part of the proof of this: for every input laws.FnWrOptions returns true and its arguments read as they did, the listed package variables being what the program lays) -/
import Derived.Test.YtochgglejmfelaaGreatDoorL02
import Derived.Sort.Grow
set_option linter.unusedVariables false
set_option linter.unusedSimpArgs false
namespace Go.Sl
open Go
section
variable {P : Program} {ops : Array Oper} {Q : Exit → Act → World → Prop} {S S' : World → Prop} {L : List Nat}

/-- Until one of L comes up S holds; then S' does. -/
def wpTwo (P : Program) (ops : Array Oper) (Q : Exit → Act → World → Prop) (S S' : World → Prop) (L : List Nat) : Nat → Array Bool → Act → World → Prop
  | 0, done, a, _ => Region.ready .any ops done = [] ∧ ∀ w, Q .normal a w
  | f + 1, done, a, w => (Region.ready .any ops done = [] → Q .normal a w) ∧ ∀ n ∈ Region.ready .any ops done,
      (n ∈ L → wpOp P ops Q n (fun b u => S' u ∧ wpAnyH P .any ops Q S' f (done.setIfInBounds n true) b u) a w) ∧
      (n ∉ L → wpOp P ops Q n (fun b u => S u ∧ wpTwo P ops Q S S' L f (done.setIfInBounds n true) b u) a w)

theorem wpTwo.any : ∀ (f : Nat) (done : Array Bool) (a : Act) (w : World), wpTwo P ops Q S S' L f done a w → wpAny P .any ops Q f done a w := by
  intro f
  induction f with
  | zero => intro done a w h; exact ⟨h.1, h.2 w⟩
  | succ f ih =>
    intro done a w h
    refine ⟨h.1, fun n hn => ?_⟩
    by_cases hL : n ∈ L
    · exact wpOp_mono (fun b u k => wpAny_of_held f _ b u k.2) ((h.2 n hn).1 hL)
    · exact wpOp_mono (fun b u k => ih _ b u k.2) ((h.2 n hn).2 hL)

/-- Number j waits for number i, itself or by others that have not come up. -/
inductive Bl (ops : Array Oper) (done : Array Bool) (i : Nat) : Nat → Prop where
  | direct {j : Nat} {o : Oper} {e : Edge} : ops[j]? = some o → e ∈ o.after → Region.binds .any e = true → e.on = i → Bl ops done i j
  | step {j : Nat} {o : Oper} {e : Edge} : ops[j]? = some o → e ∈ o.after → Region.binds .any e = true → done.getD e.on true = false → Bl ops done i e.on → Bl ops done i j
theorem Bl.not_ready {done : Array Bool} {i j : Nat} (h : Bl ops done i j) (hi : done.getD i true = false) : j ∉ Region.ready .any ops done := fun hj => by
  obtain ⟨_, p, hp, hall⟩ := mem_ready.1 hj
  have hno : ∀ n, done.getD n true = false → done.getD n false = true → False := fun n h1 h2 => by
    rcases Nat.lt_or_ge n done.size with k | k
    · simp [k] at h1 h2; rw [h1] at h2; cases h2
    · simp [Array.getElem?_eq_none k] at h1
  cases h with
  | direct ho he hb heq =>
    obtain rfl := Option.some.inj (ho.symm.trans hp)
    exact hno i hi (heq ▸ hall _ he hb)
  | step ho he hb hd _ =>
    obtain rfl := Option.some.inj (ho.symm.trans hp)
    exact hno _ hd (hall _ he hb)
theorem Bl.set {done : Array Bool} {i j m : Nat} (h : Bl ops done i j) (hi : done.getD i true = false) (hm : m ∈ Region.ready .any ops done) : Bl ops (done.setIfInBounds m true) i j := by
  induction h with
  | direct ho he hb heq => exact .direct ho he hb heq
  | step ho he hb hd hB ih =>
    refine .step ho he hb ?_ ih
    rw [getD_set_ne true (fun he => hB.not_ready hi (by rw [← he]; exact hm))]
    exact hd
def blB (ops : Array Oper) (done : Array Bool) (i : Nat) : Nat → Nat → Bool
  | 0, _ => false
  | f + 1, j => match ops[j]? with
    | some o => o.after.any fun e => Region.binds .any e && (e.on == i || (!done.getD e.on true && blB ops done i f e.on))
    | none => false
theorem blB_spec {done : Array Bool} {i : Nat} : ∀ (f j : Nat), blB ops done i f j = true → Bl ops done i j := by
  intro f
  induction f with
  | zero => intro j h; cases h
  | succ f ih =>
    intro j h
    simp only [blB] at h
    split at h
    · rename_i o ho
      obtain ⟨e, he, hb⟩ := Array.any_eq_true'.1 h
      simp only [Bool.and_eq_true, Bool.or_eq_true, beq_iff_eq, Bool.not_eq_true'] at hb
      rcases hb.2 with h1 | h1
      · exact .direct ho he hb.1 h1
      · exact .step ho he hb.1 h1.1 (ih _ h1.2)
    · cases h
/-- All of L that have not come up wait for number i. -/
def waitL (ops : Array Oper) (done : Array Bool) (i : Nat) (L : List Nat) : Bool :=
  L.all fun j => done.getD j true || blB ops done i 4 j
theorem waitL_spec {done : Array Bool} {i j : Nat} (h : waitL ops done i L = true) (hj : j ∈ L) : done.getD j true = true ∨ Bl ops done i j := by
  have := List.all_eq_true.1 h j hj
  rw [Bool.or_eq_true] at this
  exact this.imp id (blB_spec _ _)

theorem wpTwo.first {i : Nat} {o : Oper} {v : Value} (hi : ops[i]? = some o) (hsel : ∀ (j : Nat) (p : Oper) cs b, ops[j]? = some p → p.op ≠ .select cs b)
    (hQ : ∀ c a w, Q (.panic c) (a.put o.dst v) w → Q (.panic c) a w) (hiL : i ∉ L) : ∀ (f : Nat) (done : Array Bool) (a : Act) (w : World),
      (∀ j p, ops[j]? = some p → j ≠ i → done.getD j true = false → (∀ e ∈ p.after, Region.binds .any e = true → e.on ≠ i) → o.apart ops p = true) → (∀ j ∈ L, done.getD j true = true ∨ Bl ops done i j) →
      i ∈ Region.ready .any ops done → YieldsIf P ops S o v a → S w → wpTwo P ops Q S S' L f (done.setIfInBounds i true) (a.put o.dst v) w → wpTwo P ops Q S S' L (f + 1) done a w := by
  intro f
  induction f with
  | zero =>
    intro done a w _ _ hr hy hS H
    refine ⟨fun h => (by rw [h] at hr; cases hr), fun j hj => ⟨fun hL => ?_, fun _ => ?_⟩⟩ <;> by_cases e : j = i
    · subst e; exact absurd hL hiL
    · have := ready_mono hj e; rw [H.1] at this; cases this
    · subst e; exact hy.wpOp hi hS ⟨hS, H⟩
    · have := ready_mono hj e; rw [H.1] at this; cases this
  | succ f ih =>
    intro done a w hfree hBl hr hy hS H
    refine ⟨fun h => (by rw [h] at hr; cases hr), fun j hj => ?_⟩
    by_cases e : j = i
    · subst e; exact ⟨fun hL => absurd hL hiL, fun _ => hy.wpOp hi hS ⟨hS, H⟩⟩
    · obtain ⟨hun, p, hp, hall⟩ := mem_ready.1 hj
      have hwait : ∀ e ∈ p.after, Region.binds .any e = true → e.on ≠ i := fun q hq hb he => by
        have k1 := hall q hq hb
        have k2 := (mem_ready.1 hr).1
        rw [he] at k1
        rcases Nat.lt_or_ge i done.size with k | k
        · simp [k] at k1 k2; rw [k2] at k1; cases k1
        · simp [Array.getElem?_eq_none k] at k1
      have hap := hfree j p hp e hun hwait
      have hi0 := (mem_ready.1 hr).1
      have hjL : j ∉ L := fun hL => by
        rcases hBl j hL with h1 | h1
        · rw [hun] at h1; cases h1
        · exact h1.not_ready hi0 hj
      refine ⟨fun hL => absurd hL hjL, fun _ => ?_⟩
      have k2 := wpOp_putIf hp hap (fun cs b => hsel i o cs b hi) (fun cs b => hsel j p cs b hp) hQ hy ((H.2 j (ready_mono hj e)).2 hjL)
      refine wpOp_mono (fun b u k3 => ⟨k3.2.1, ih (done.setIfInBounds j true) b u ?_ ?_ (ready_mono hr (Ne.symm e)) k3.1 k3.2.1 ?_⟩) k2
      · intro m q hq hmi hum hno
        refine hfree m q hq hmi ?_ hno
        by_cases hjm : j = m
        · subst hjm; exact hun
        · rwa [getD_set_ne true hjm] at hum
      · intro m hm
        rcases hBl m hm with h1 | h1
        · left
          by_cases hjm : j = m
          · subst hjm; exact absurd hm hjL
          · rwa [getD_set_ne true hjm]
        · exact .inr (h1.set hi0 hj)
      · rw [Array.setIfInBounds_comm _ _ e]; exact k3.2.2
theorem wpTwo.firstM {i : Nat} {o : Oper} {v : Value} (hi : ops[i]? = some o) (hsel : ∀ (j : Nat) (p : Oper) cs b, ops[j]? = some p → p.op ≠ .select cs b)
    (hQ : ∀ c a w, Q (.panic c) (a.put o.dst v) w → Q (.panic c) a w) (hiL : i ∉ L) (hSS : ∀ w, S w → S' w) : ∀ (f : Nat) (done : Array Bool) (a : Act) (w : World),
      (∀ j p, ops[j]? = some p → j ≠ i → done.getD j true = false → (∀ e ∈ p.after, Region.binds .any e = true → e.on ≠ i) → o.apart ops p = true) →
      i ∈ Region.ready .any ops done → YieldsIf P ops S' o v a → S w → wpTwo P ops Q S S' L f (done.setIfInBounds i true) (a.put o.dst v) w → wpTwo P ops Q S S' L (f + 1) done a w := by
  intro f
  induction f with
  | zero =>
    intro done a w _ hr hy hS H
    refine ⟨fun h => (by rw [h] at hr; cases hr), fun j hj => ⟨fun hL => ?_, fun _ => ?_⟩⟩ <;> by_cases e : j = i
    · subst e; exact absurd hL hiL
    · have := ready_mono hj e; rw [H.1] at this; cases this
    · subst e; exact hy.wpOp hi (hSS w hS) ⟨hS, H⟩
    · have := ready_mono hj e; rw [H.1] at this; cases this
  | succ f ih =>
    intro done a w hfree hr hy hS H
    refine ⟨fun h => (by rw [h] at hr; cases hr), fun j hj => ?_⟩
    by_cases e : j = i
    · subst e; exact ⟨fun hL => absurd hL hiL, fun _ => hy.wpOp hi (hSS w hS) ⟨hS, H⟩⟩
    · obtain ⟨hun, p, hp, hall⟩ := mem_ready.1 hj
      have hwait : ∀ e ∈ p.after, Region.binds .any e = true → e.on ≠ i := fun q hq hb he => by
        have k1 := hall q hq hb
        have k2 := (mem_ready.1 hr).1
        rw [he] at k1
        rcases Nat.lt_or_ge i done.size with k | k
        · simp [k] at k1 k2; rw [k2] at k1; cases k1
        · simp [Array.getElem?_eq_none k] at k1
      have hap := hfree j p hp e hun hwait
      have hfree' : ∀ m q, ops[m]? = some q → m ≠ i → (done.setIfInBounds j true).getD m true = false → (∀ e ∈ q.after, Region.binds .any e = true → e.on ≠ i) → o.apart ops q = true := fun m q hq hmi hum hno => by
        refine hfree m q hq hmi ?_ hno
        by_cases hjm : j = m
        · subst hjm; exact hun
        · rwa [getD_set_ne true hjm] at hum
      constructor
      · intro hL
        have k2 := wpOp_putIf hp hap (fun cs b => hsel i o cs b hi) (fun cs b => hsel j p cs b hp) hQ hy ((H.2 j (ready_mono hj e)).1 hL)
        refine wpOp_mono (fun b u k3 => ⟨k3.2.1, wpAnyH_first hi hsel hQ f (done.setIfInBounds j true) b u hfree' (ready_mono hr (Ne.symm e)) k3.1 k3.2.1 ?_⟩) k2
        rw [Array.setIfInBounds_comm _ _ e]; exact k3.2.2
      · intro hL
        have k2 := wpOp_putIf hp hap (fun cs b => hsel i o cs b hi) (fun cs b => hsel j p cs b hp) hQ hy ((H.2 j (ready_mono hj e)).2 hL)
        refine wpOp_mono (fun b u k3 => ⟨k3.2.1, ih (done.setIfInBounds j true) b u hfree' (ready_mono hr (Ne.symm e)) k3.1 k3.2.1 ?_⟩) k2
        rw [Array.setIfInBounds_comm _ _ e]; exact k3.2.2
end

section
variable {x : Cx} {ops : Array Oper} {k : List KI} {s : Slots} {H : HP} {L : List Nat}
/-- A region's first part: what is known holds till one of L comes up. -/
def GO (x : Cx) (ops : Array Oper) (k : List KI) (L : List Nat) (fuel : Nat) (done : Array Bool) (s : Slots) (H : HP) : Prop :=
  ∀ a w, St x s H a w → wpTwo x.P ops (kp x.P x.Q k) (Sw x H) (Sw x []) L fuel done a w
theorem c_regiong {id : Nat} {l : List Oper} (L : List Nat) (hm : x.P.follows .mixedOrders = true) (h : GO x l.toArray k L l.length (Array.replicate l.length false) s H) : WC x k (.region id l.toArray true) s H := fun a w hs =>
  wp_region_any hm (wpTwo.any _ _ _ _ (by simpa using h a _ hs.drew))
theorem g_e (i : Nat) {o : Oper} {d : Nat} {v : Value} {fuel : Nat} {done : Array Bool} (hQ : ∀ c a w d v, x.Q (.panic c) (Act.put a (some d) v) w → x.Q (.panic c) a w) (hi : ops[i]? = some o) (hs0 : Region.noSelect ops = true) (hf : (Region.free .any ops done i && waitL ops done i L && !L.contains i) = true) (hr : (Region.ready .any ops done).contains i = true)
    (hw : wantS ops s o = some true) (hd : o.dst = some d) (hN : Nat.blt d x.N = true) (he : Ex x s H o v) (h : GO x ops k L fuel (done.setIfInBounds i true) ((d, v) :: s) H) : GO x ops k L (fuel + 1) done s H := fun a w hs => by
  have hN' : d < x.N := by simpa [Nat.blt_eq] using hN
  simp only [Bool.and_eq_true, Bool.not_eq_true', List.contains_eq_mem, decide_eq_false_iff_not] at hf
  refine wpTwo.first hi (Region.noSelect_spec hs0) (v := v) (fun c a w hq => by rw [kp_panic] at hq ⊢; rw [hd] at hq; exact hQ _ _ _ _ _ hq) hf.2 fuel done a w (Region.free_spec hi hf.1.1) (fun j hj => waitL_spec hf.1.2 hj) (by simpa using hr) (.inl ⟨want_of hs hw, fun w' hw' => he a w' (hs.of_sw hw')⟩) (hs.sw fun _ hp => hp) ?_
  rw [hd]
  exact h _ w (hs.put _ hN')
/-- One that does not look at memory. -/
theorem g_m (i : Nat) {o : Oper} {d : Nat} {v : Value} {fuel : Nat} {done : Array Bool} (hQ : ∀ c a w d v, x.Q (.panic c) (Act.put a (some d) v) w → x.Q (.panic c) a w) (hi : ops[i]? = some o) (hs0 : Region.noSelect ops = true) (hf : (Region.free .any ops done i && !L.contains i) = true) (hr : (Region.ready .any ops done).contains i = true)
    (hw : wantS ops s o = some true) (hd : o.dst = some d) (hN : Nat.blt d x.N = true) (he : Ex x s [] o v) (h : GO x ops k L fuel (done.setIfInBounds i true) ((d, v) :: s) H) : GO x ops k L (fuel + 1) done s H := fun a w hs => by
  have hN' : d < x.N := by simpa [Nat.blt_eq] using hN
  simp only [Bool.and_eq_true, Bool.not_eq_true', List.contains_eq_mem, decide_eq_false_iff_not] at hf
  have hs' := hs.less (fun _ _ hv => hv) (List.nil_sublist H)
  refine wpTwo.firstM hi (Region.noSelect_spec hs0) (v := v) (fun c a w hq => by rw [kp_panic] at hq ⊢; rw [hd] at hq; exact hQ _ _ _ _ _ hq) hf.2 (fun w hw => ⟨fun _ hp => (by cases hp), hw.glob, hw.fr⟩) fuel done a w (Region.free_spec hi hf.1) (by simpa using hr) (.inl ⟨want_of hs hw, fun w' hw' => he a w' (hs'.of_sw hw')⟩) (hs.sw fun _ hp => hp) ?_
  rw [hd]
  exact h _ w (hs.put _ hN')
/-- One that is passed over. -/
theorem g_skip (i : Nat) {o : Oper} {d : Nat} {fuel : Nat} {done : Array Bool} (hQ : ∀ c a w d v, x.Q (.panic c) (Act.put a (some d) v) w → x.Q (.panic c) a w) (hi : ops[i]? = some o) (hs0 : Region.noSelect ops = true) (hf : (Region.free .any ops done i && !L.contains i) = true) (hr : (Region.ready .any ops done).contains i = true)
    (hw : wantS ops s o = some false) (hd : o.dst = some d) (hN : Nat.blt d x.N = true) (h : GO x ops k L fuel (done.setIfInBounds i true) ((d, .tuple #[]) :: s) H) : GO x ops k L (fuel + 1) done s H := fun a w hs => by
  have hN' : d < x.N := by simpa [Nat.blt_eq] using hN
  simp only [Bool.and_eq_true, Bool.not_eq_true', List.contains_eq_mem, decide_eq_false_iff_not] at hf
  refine wpTwo.firstM hi (Region.noSelect_spec hs0) (v := undef) (fun c a w hq => by rw [kp_panic] at hq ⊢; rw [hd] at hq; exact hQ _ _ _ _ _ hq) hf.2 (fun w hw => ⟨fun _ hp => (by cases hp), hw.glob, hw.fr⟩) fuel done a w (Region.free_spec hi hf.1) (by simpa using hr) (.inr ⟨want_of hs hw, rfl⟩) (hs.sw fun _ hp => hp) ?_
  rw [hd]
  exact h _ w (hs.put _ hN')
/-- The first of L comes up, alone. -/
theorem g_l (i : Nat) {o : Oper} {fuel : Nat} {done : Array Bool} {Y : Type} {s' : Y → Slots} {J : Y → HP} {A : Y → Prop} (hr : Region.ready .any ops done = [i]) (hL : L.contains i = true) (hi : ops[i]? = some o) (hw : wantS ops s o = some true) (hl : Lo x s H o s' J A)
    (h : ∀ y, A y → DO x ops k [] fuel (done.setIfInBounds i true) (s' y) (J y)) : GO x ops k L (fuel + 1) done s H := fun a w hs => by
  refine ⟨fun h0 => (by rw [hr] at h0; cases h0), fun j hj => ?_⟩
  rw [hr] at hj
  rcases List.mem_singleton.1 hj with rfl
  refine ⟨fun _ => d_op (HS := []) hi hw hl (fun _ _ _ hp => by cases hp) h hs ?_, fun hn => absurd (by simpa using hL) hn⟩
  exact hs.less (fun _ _ hv => hv) (List.nil_sublist _)
/-- One that yields alone, when nothing else may come up. -/
theorem d_le (i : Nat) {o : Oper} {d : Nat} {v : Value} {HS : HP} {fuel : Nat} {listed : Array Bool} (hr : Region.ready .any ops listed = [i]) (hi : ops[i]? = some o) (hw : wantS ops s o = some true) (hd : o.dst = some d) (hN : Nat.blt d x.N = true) (hHS : ∀ p ∈ HS, p ∈ H) (he : Ex x s H o v)
    (h : DO x ops k HS fuel (listed.setIfInBounds i true) ((d, v) :: s) H) : DO x ops k HS (fuel + 1) listed s H :=
  d_l (Y := Unit) (s' := fun _ => (d, v) :: s) (J := fun _ => H) (A := fun _ => True) i hr hi hw (fun a w hs K Q hK => by
    unfold Oper.wp
    rw [he a w hs, Oper.upon_value, hd]
    exact hK () _ _ trivial (hs.put _ (by simpa [Nat.blt_eq] using hN))) (fun _ _ => hHS) (fun _ _ => h)
end
section
variable {x : Cx} {s : Slots} {H : HP} {d : Nat} {p : Operand} {ty t : TypeId} {pos : String} {af : Array Edge} {gd : Option (Nat × Bool)} {g off n : Nat}
/-- A field's address, its offset a number. -/
theorem e_fak {fs : Array Field} {f : Field} {i m : Nat} (k : Nat) (hU : ∀ w, (underlying t).run x.P w = .ok (.struct fs) w) (hf : fs[i]? = some f) (hS : ∀ w, (sizeOf f.type).run x.P w = .ok m w) (hm : Nat.beq m 0 = false) (hp : ev s p = some (.pointer (some ⟨g, off, none⟩))) (hk : f.offset = k) : Ex x s H ⟨some d, .fieldAddr t p i, ty, pos, af, gd⟩ (.pointer (some ⟨g, off + k, none⟩)) := hk ▸ e_fa hU hf hS hm hp
end
section
variable {x : Cx} {s : Slots} {H : HP} {d : Nat} {p : Operand} {ty : TypeId} {pos : String} {af : Array Edge} {gd : Option (Nat × Bool)} {v : Value}
theorem l_calli0 {f : FuncId} {args : List Value} {rv : Value} {nm : String} {HI Hr : HP} {R : Value → HP → Prop} {ps : List Operand} {ats : Array TypeId} {tv : TypeId} (hf : ∀ az w, (callFunc f az).run x.P w = .ok (.enter f az) w)
    (hm : ∀ w, (method (x.P.types.size + Made.depth) tv v nm).run x.P w = .ok (f, rv) w) (hc : Ctr x.P f (rv :: args) x.G HI R)
    (hN : Nat.blt d x.N = true) (hp : ev s p = some (.iface tv v)) (hps : evs s ps = some args) (hsel : Sel H HI Hr) :
    Lo x s H ⟨some d, .call { callee := .invoke p nm, args := ps.toArray, argTypes := ats }, ty, pos, af, gd⟩ (Y := Value × HP) (fun y => (d, y.1) :: s) (fun y => y.2 ++ Hr) (fun y => R y.1 y.2) :=
  l_calli (HJ := []) hf hm (by simpa using hc) hN hp hps hsel (by simp)
end
end Go.Sl
namespace Go.Sl
def gd (l : List Int) (i : Nat) : Int := l.getD i 0
def swp (l : List Int) (i j : Nat) : List Int := (l.set i (gd l j)).set j (gd l i)
theorem gd_eq {l : List Int} {i : Nat} (h : i < l.length) : l[i]? = some (gd l i) := by simp [gd, h]
theorem swp_length (l : List Int) (i j : Nat) : (swp l i j).length = l.length := by simp [swp]
theorem gd_swp {l : List Int} {i j : Nat} (hi : i < l.length) (hj : j < l.length) (k : Nat) : gd (swp l i j) k = if k = j then gd l i else if k = i then gd l j else gd l k := by
  simp only [gd, swp, List.getD_eq_getElem?_getD, List.getElem?_set, List.length_set]
  by_cases h1 : j = k
  · subst h1; simp [hj]
  · by_cases h2 : i = k
    · subst h2; simp [h1, Ne.symm h1, hi]
    · simp [h1, h2, Ne.symm h1, Ne.symm h2]
theorem swp_perm {l : List Int} {i j : Nat} (hi : i < l.length) (hj : j < l.length) : (swp l i j).Perm l := by
  have h := Array.swap_perm (xs := l.toArray) (i := i) (j := j) (by simpa using hi) (by simpa using hj)
  rw [Array.perm_iff_toList_perm] at h
  simpa [swp, gd, hi, hj] using h
/-- Turned by swaps between the places a and b. -/
inductive PR (a b : Nat) : List Int → List Int → Prop where
  | refl {l : List Int} : PR a b l l
  | swap {l l' : List Int} {i j : Nat} (h : PR a b l l') (h1 : a ≤ i) (h2 : i < b) (h3 : a ≤ j) (h4 : j < b) (h5 : b ≤ l'.length) : PR a b l (swp l' i j)
theorem PR.len {a b : Nat} {l l' : List Int} (h : PR a b l l') : l'.length = l.length := by
  induction h with
  | refl => rfl
  | swap _ _ _ _ _ _ ih => rw [swp_length, ih]
theorem PR.perm {a b : Nat} {l l' : List Int} (h : PR a b l l') : l'.Perm l := by
  induction h with
  | refl => exact .refl _
  | swap _ _ _ _ _ _ ih => exact (swp_perm (by omega) (by omega)).trans ih
theorem PR.trans {a b : Nat} {l l' l2 : List Int} (h : PR a b l l') (k : PR a b l' l2) : PR a b l l2 := by
  induction k with
  | refl => exact h
  | swap _ h1 h2 h3 h4 h5 ih => exact .swap ih h1 h2 h3 h4 h5
theorem PR.one {a b : Nat} {l : List Int} {i j : Nat} (h1 : a ≤ i) (h2 : i < b) (h3 : a ≤ j) (h4 : j < b) (h5 : b ≤ l.length) : PR a b l (swp l i j) := .swap .refl h1 h2 h3 h4 h5
theorem PR.mono {a b a' b' : Nat} {l l' : List Int} (h : PR a b l l') (h1 : a' ≤ a) (h2 : b ≤ b') (h3 : b' ≤ l.length) : PR a' b' l l' := by
  induction h with
  | refl => exact .refl
  | swap h _ _ _ _ _ ih => exact .swap ih (by omega) (by omega) (by omega) (by omega) (by rw [h.len]; exact h3)
theorem PR.out {a b : Nat} {l l' : List Int} (h : PR a b l l') {i : Nat} (hi : i < a ∨ b ≤ i) : gd l' i = gd l i := by
  induction h with
  | refl => rfl
  | swap _ _ _ _ _ _ ih => rw [gd_swp (by omega) (by omega), if_neg (by omega), if_neg (by omega), ih]
theorem PR.all {a b : Nat} {l l' : List Int} (h : PR a b l l') {p : Int → Prop} (hp : ∀ i, a ≤ i → i < b → p (gd l i)) : ∀ i, a ≤ i → i < b → p (gd l' i) := by
  induction h with
  | refl => exact hp
  | @swap l' i j _ h1 h2 h3 h4 h5 ih =>
    intro k k1 k2
    rw [gd_swp (by omega) (by omega)]
    split
    · exact ih _ h1 h2
    · split
      · exact ih _ h3 h4
      · exact ih _ k1 k2
/-- The places from a to b are in order. -/
def SR (a b : Nat) (l : List Int) : Prop := ∀ i j, a ≤ i → i < j → j < b → gd l i ≤ gd l j
theorem SR.small {a b : Nat} {l : List Int} (h : b ≤ a + 1) : SR a b l := fun i j _ _ _ => by omega
theorem SR.snoc {a b : Nat} {l : List Int} (h : SR a b l) (hb : a < b) (hh : gd l (b - 1) ≤ gd l b) : SR a (b + 1) l := fun i j h1 h2 h3 => by
  by_cases e : j < b
  · exact h i j h1 h2 e
  · obtain rfl : j = b := by omega
    by_cases e2 : i = j - 1
    · subst e2; exact hh
    · have := h i (j - 1) h1 (by omega) (by omega); omega
theorem SR.less {a b a' b' : Nat} {l : List Int} (h : SR a b l) (h1 : a ≤ a') (h2 : b' ≤ b) : SR a' b' l := fun i j k1 k2 k3 => h i j (by omega) k2 (by omega)
theorem SR.congr {a b : Nat} {l l' : List Int} (h : SR a b l) (he : ∀ i, a ≤ i → i < b → gd l' i = gd l i) : SR a b l' := fun i j k1 k2 k3 => by
  rw [he i (by omega) (by omega), he j (by omega) (by omega)]; exact h i j k1 k2 k3
/-- A row that is in order but for the place j, which is one of the least of those behind it. -/
structure Ins (a j b : Nat) (l : List Int) : Prop where
  rest : ∀ p q, a ≤ p → p < q → q < b → p ≠ j → q ≠ j → gd l p ≤ gd l q
  here : ∀ q, j < q → q < b → gd l j ≤ gd l q
theorem Ins.start {a b : Nat} {l : List Int} (h : SR a b l) : Ins a b (b + 1) l := ⟨fun p q h1 h2 h3 h4 h5 => h p q h1 h2 (by omega), fun q h1 h2 => by omega⟩
theorem Ins.stop {a j b : Nat} {l : List Int} (h : Ins a j b l) (hj : j ≤ a ∨ ¬ gd l j < gd l (j - 1)) : SR a b l := fun p q h1 h2 h3 => by
  by_cases e : q = j
  · subst e
    have hh : gd l (q - 1) ≤ gd l q := by omega
    by_cases e2 : p = q - 1
    · subst e2; exact hh
    · have := h.rest p (q - 1) h1 (by omega) (by omega) (by omega) (by omega); omega
  · by_cases e2 : p = j
    · subst e2; exact h.here q h2 h3
    · exact h.rest p q h1 h2 h3 e2 e
theorem Ins.step {a j b : Nat} {l : List Int} (h : Ins a j b l) (hj : gd l j < gd l (j - 1)) (ha : a < j) (hb : j < b) (hl : b ≤ l.length) : Ins a (j - 1) b (swp l j (j - 1)) := by
  have hg := gd_swp (l := l) (i := j) (j := j - 1) (by omega) (by omega)
  constructor
  · intro p q h1 h2 h3 h4 h5
    rw [hg, hg, if_neg h4, if_neg h5]
    by_cases e : p = j
    · rw [if_pos e, if_neg (by omega)]; exact h.rest _ _ (by omega) (by omega) h3 (by omega) (by omega)
    · rw [if_neg e]
      by_cases e2 : q = j
      · rw [if_pos e2]
        exact h.rest _ _ h1 (by omega) (by omega) (by omega) (by omega)
      · rw [if_neg e2]; exact h.rest _ _ h1 h2 h3 e e2
  · intro q h1 h2
    rw [hg, hg, if_pos rfl, if_neg (by omega)]
    by_cases e : q = j
    · rw [if_pos e]; omega
    · rw [if_neg e]; exact h.here q (by omega) h2
/-! ### Heaps -/
/-- From place s on (counted from f) each element is at least its children ahead of hi. -/
def Hp (f s hi : Nat) (l : List Int) : Prop := ∀ k c, s ≤ k → c = 2 * k + 1 ∨ c = 2 * k + 2 → c < hi → gd l (f + c) ≤ gd l (f + k)
/-- The same but at r; r's children are at most r's parent. -/
structure HQ (f s hi r : Nat) (l : List Int) : Prop where
  le : s ≤ r
  rest : ∀ k c, s ≤ k → k ≠ r → c = 2 * k + 1 ∨ c = 2 * k + 2 → c < hi → gd l (f + c) ≤ gd l (f + k)
  up : ∀ k c, s ≤ k → r = 2 * k + 1 ∨ r = 2 * k + 2 → c = 2 * r + 1 ∨ c = 2 * r + 2 → c < hi → gd l (f + c) ≤ gd l (f + k)
theorem HQ.start {f s hi : Nat} {l : List Int} (h : Hp f (s + 1) hi l) : HQ f s hi s l :=
  ⟨Nat.le_refl _, fun k c h1 h2 h3 h4 => h k c (by omega) h3 h4, fun k c h1 h2 h3 h4 => by omega⟩
theorem HQ.stop {f s hi r : Nat} {l : List Int} (h : HQ f s hi r l) (hr : ∀ c, c = 2 * r + 1 ∨ c = 2 * r + 2 → c < hi → gd l (f + c) ≤ gd l (f + r)) : Hp f s hi l := fun k c h1 h2 h3 => by
  by_cases e : k = r
  · subst e; exact hr c h2 h3
  · exact h.rest k c h1 e h2 h3
theorem HQ.step {f s hi r d : Nat} {l : List Int} (h : HQ f s hi r l) (hd : d = 2 * r + 1 ∨ d = 2 * r + 2) (hdh : d < hi) (hl : f + hi ≤ l.length) (hmax : ∀ c, c = 2 * r + 1 ∨ c = 2 * r + 2 → c < hi → gd l (f + c) ≤ gd l (f + d)) (hlt : gd l (f + r) < gd l (f + d)) :
    HQ f s hi d (swp l (f + r) (f + d)) := by
  have hg := gd_swp (l := l) (i := f + r) (j := f + d) (by omega) (by omega)
  have hle := h.le
  refine ⟨by omega, ?_, ?_⟩
  · intro k c h1 h2 h3 h4
    rw [hg, hg, if_neg (show ¬ f + k = f + d by omega)]
    by_cases e : k = r
    · subst e
      rw [if_pos rfl]
      by_cases e2 : c = d
      · subst e2; rw [if_pos rfl]; omega
      · rw [if_neg (by omega), if_neg (by omega)]; exact hmax c h3 h4
    · rw [if_neg (show ¬ f + k = f + r by omega)]
      rw [if_neg (show ¬ f + c = f + d by omega)]
      by_cases e2 : c = r
      · subst e2
        rw [if_pos rfl]
        exact h.up k d h1 h3 hd hdh
      · rw [if_neg (by omega)]; exact h.rest k c h1 e h3 h4
  · intro k c h1 h2 h3 h4
    have hk : k = r := by omega
    subst hk
    rw [hg, hg, if_neg (by omega), if_neg (by omega), if_neg (by omega), if_pos rfl]
    exact h.rest d c (by omega) (by omega) h3 h4
theorem Hp.none {f s hi : Nat} {l : List Int} (h : hi ≤ 2 * s + 1) : Hp f s hi l := fun k c h1 h2 h3 => by omega
theorem Hp.top {f hi : Nat} {l : List Int} (h : Hp f 0 hi l) : ∀ n, n < hi → gd l (f + n) ≤ gd l f := by
  intro n
  induction n using Nat.strongRecOn with
  | ind n ih =>
    intro hn
    by_cases e : n = 0
    · subst e; exact Int.le_refl _
    · have := h ((n - 1) / 2) n (Nat.zero_le _) (by omega) hn
      have := ih ((n - 1) / 2) (by omega) (by omega)
      omega
/-- The heap's greatest goes to its end. -/
theorem Hp.pop {f i : Nat} {l : List Int} (h : Hp f 0 (i + 1) l) (hl : f + i < l.length) : Hp f 1 i (swp l f (f + i)) := fun k c h1 h2 h3 => by
  have hg := gd_swp (l := l) (i := f) (j := f + i) (by omega) (by omega)
  rw [hg, hg, if_neg (by omega), if_neg (by omega), if_neg (by omega), if_neg (by omega)]
  exact h k c (Nat.zero_le _) h2 (by omega)
end Go.Sl
namespace Go.Sl
/-- The end of a row is in order and at least what is ahead of it, which is a heap. -/
structure Pop (f i hi : Nat) (l : List Int) : Prop where
  heap : Hp f 0 i l
  srt : SR (f + i) (f + hi) l
  le : ∀ p q, f ≤ p → p < f + i → f + i ≤ q → q < f + hi → gd l p ≤ gd l q
theorem Pop.start {f hi : Nat} {l : List Int} (h : Hp f 0 hi l) : Pop f hi hi l := ⟨h, .small (by omega), fun p q _ _ _ _ => by omega⟩
structure Pop1 (f i hi : Nat) (l : List Int) : Prop where
  heap : Hp f 1 i l
  srt : SR (f + i) (f + hi) l
  le : ∀ p q, f ≤ p → p < f + i → f + i ≤ q → q < f + hi → gd l p ≤ gd l q
theorem Pop.swap {f i hi : Nat} {l : List Int} (h : Pop f (i + 1) hi l) (hi1 : i < hi) (hl : f + hi ≤ l.length) : Pop1 f i hi (swp l f (f + i)) := by
  have hg := gd_swp (l := l) (i := f) (j := f + i) (by omega) (by omega)
  have ht := h.heap.top
  refine ⟨h.heap.pop (by omega), ?_, ?_⟩
  · intro p q h1 h2 h3
    rw [hg, hg, if_neg (show ¬ q = f + i by omega), if_neg (show ¬ q = f by omega)]
    by_cases e : p = f + i
    · rw [if_pos e]; exact h.le f q (by omega) (by omega) (by omega) h3
    · rw [if_neg e, if_neg (by omega)]; exact h.srt p q (by omega) h2 h3
  · intro p q h1 h2 h3 h4
    rw [hg, hg, if_neg (show ¬ p = f + i by omega)]
    have hp : ∀ n, n ≤ i → gd l (f + n) ≤ gd l f := fun n hn => ht n (by omega)
    by_cases e : q = f + i
    · rw [if_pos e]
      split
      · exact hp i (Nat.le_refl _)
      · have := hp (p - f) (by omega); rwa [show f + (p - f) = p by omega] at this
    · rw [if_neg e, if_neg (show ¬ q = f by omega)]
      split
      · exact h.le (f + i) q (by omega) (by omega) (by omega) h4
      · exact h.le p q h1 (by omega) (by omega) h4
theorem Pop1.sift {f i hi : Nat} {l l' : List Int} (h : Pop1 f i hi l) (hp : PR f (f + i) l l') (hh : Hp f 0 i l') : Pop f i hi l' := by
  refine ⟨hh, h.srt.congr (fun k h1 _ => hp.out (.inr h1)), fun p q h1 h2 h3 h4 => ?_⟩
  rw [hp.out (i := q) (.inr h3)]
  exact hp.all (p := fun z => z ≤ gd l q) (fun k k1 k2 => h.le k q k1 k2 h3 h4) p h1 h2
theorem Pop.done {f hi : Nat} {l : List Int} (h : Pop f 0 hi l) : SR f (f + hi) l := h.srt
/-! ### Partitions -/
structure Pt (a b i j : Nat) (l : List Int) : Prop where
  ai : a < i
  ij : i ≤ j + 1
  jb : j < b
  lo : ∀ k, a < k → k < i → gd l k < gd l a
  hi : ∀ k, j < k → k < b → gd l a ≤ gd l k
theorem Pt.start {a b : Nat} {l : List Int} (h : a < b) : Pt a b (a + 1) (b - 1) l := ⟨by omega, by omega, by omega, fun k _ _ => by omega, fun k _ _ => by omega⟩
theorem Pt.incr {a b i j : Nat} {l : List Int} (h : Pt a b i j l) (hij : i ≤ j) (hh : gd l i < gd l a) : Pt a b (i + 1) j l :=
  ⟨by have := h.ai; omega, by omega, h.jb, fun k h1 h2 => by
    by_cases e : k = i
    · subst e; exact hh
    · exact h.lo k h1 (by omega), h.hi⟩
theorem Pt.decr {a b i j : Nat} {l : List Int} (h : Pt a b i j l) (hij : i ≤ j) (hh : ¬ gd l j < gd l a) : Pt a b i (j - 1) l :=
  ⟨h.ai, by omega, by have := h.jb; omega, h.lo, fun k h1 h2 => by
    by_cases e : k = j
    · subst e; omega
    · exact h.hi k (by omega) h2⟩
theorem Pt.swap {a b i j : Nat} {l : List Int} (h : Pt a b i j l) (hij : i ≤ j) (h1 : ¬ gd l i < gd l a) (h2 : gd l j < gd l a) (hl : b ≤ l.length) : Pt a b (i + 1) (j - 1) (swp l i j) := by
  obtain ⟨a1, a2, a3, a4, a5⟩ := h
  have hne : i ≠ j := fun e => by subst e; exact h1 h2
  have hg := gd_swp (l := l) (i := i) (j := j) (by omega) (by omega)
  have ha : gd (swp l i j) a = gd l a := by rw [hg, if_neg (by omega), if_neg (by omega)]
  refine ⟨by omega, by omega, by omega, fun k k1 k2 => ?_, fun k k1 k2 => ?_⟩
  · rw [ha, hg, if_neg (by omega)]
    split
    · exact h2
    · exact a4 k k1 (by omega)
  · rw [ha, hg]
    split
    · omega
    · rw [if_neg (by omega)]; exact a5 k (by omega) k2
structure PtF (a b m : Nat) (l : List Int) : Prop where
  am : a ≤ m
  mb : m < b
  lo : ∀ k, a ≤ k → k < m → gd l k < gd l m
  hi : ∀ k, m < k → k < b → gd l m ≤ gd l k
theorem Pt.fin {a b i j : Nat} {l : List Int} (h : Pt a b i j l) (hij : ¬ i ≤ j) (hl : b ≤ l.length) : PtF a b j (swp l j a) := by
  obtain ⟨a1, a2, a3, a4, a5⟩ := h
  have hg := gd_swp (l := l) (i := j) (j := a) (by omega) (by omega)
  have hj : gd (swp l j a) j = gd l a := by
    rw [hg]
    split
    · rename_i e; rw [e]
    · rw [if_pos rfl]
  refine ⟨by omega, by omega, fun k k1 k2 => ?_, fun k k1 k2 => ?_⟩
  · rw [hj, hg]
    split
    · exact a4 j (by omega) (by omega)
    · rw [if_neg (by omega)]; exact a4 k (by omega) (by omega)
  · rw [hj, hg, if_neg (by omega), if_neg (by omega)]; exact a5 k k1 k2
structure Pe (a b i j : Nat) (l : List Int) : Prop where
  ai : a < i
  ij : i ≤ j + 1
  jb : j < b
  lo : ∀ k, a < k → k < i → gd l k ≤ gd l a
  hi : ∀ k, j < k → k < b → gd l a < gd l k
theorem Pe.start {a b : Nat} {l : List Int} (h : a < b) : Pe a b (a + 1) (b - 1) l := ⟨by omega, by omega, by omega, fun k _ _ => by omega, fun k _ _ => by omega⟩
theorem Pe.incr {a b i j : Nat} {l : List Int} (h : Pe a b i j l) (hij : i ≤ j) (hh : ¬ gd l a < gd l i) : Pe a b (i + 1) j l :=
  ⟨by have := h.ai; omega, by omega, h.jb, fun k h1 h2 => by
    by_cases e : k = i
    · subst e; omega
    · exact h.lo k h1 (by omega), h.hi⟩
theorem Pe.decr {a b i j : Nat} {l : List Int} (h : Pe a b i j l) (hij : i ≤ j) (hh : gd l a < gd l j) : Pe a b i (j - 1) l :=
  ⟨h.ai, by omega, by have := h.jb; omega, h.lo, fun k h1 h2 => by
    by_cases e : k = j
    · subst e; exact hh
    · exact h.hi k (by omega) h2⟩
theorem Pe.swap {a b i j : Nat} {l : List Int} (h : Pe a b i j l) (hij : i ≤ j) (h1 : gd l a < gd l i) (h2 : ¬ gd l a < gd l j) (hl : b ≤ l.length) : Pe a b (i + 1) (j - 1) (swp l i j) := by
  obtain ⟨a1, a2, a3, a4, a5⟩ := h
  have hne : i ≠ j := fun e => by subst e; exact h2 h1
  have hg := gd_swp (l := l) (i := i) (j := j) (by omega) (by omega)
  have ha : gd (swp l i j) a = gd l a := by rw [hg, if_neg (by omega), if_neg (by omega)]
  refine ⟨by omega, by omega, by omega, fun k k1 k2 => ?_, fun k k1 k2 => ?_⟩
  · rw [ha, hg, if_neg (by omega)]
    split
    · omega
    · exact a4 k k1 (by omega)
  · rw [ha, hg]
    split
    · exact h1
    · rw [if_neg (by omega)]; exact a5 k (by omega) k2
/-- What partitionEqual gives, where no element is less than the first. -/
structure PeF (a b m : Nat) (l : List Int) : Prop where
  am : a < m
  mb : m ≤ b
  lo : ∀ k, a ≤ k → k < m → gd l k ≤ gd l a
  hi : ∀ k, m ≤ k → k < b → gd l a < gd l k
theorem Pe.fin {a b i j : Nat} {l : List Int} (h : Pe a b i j l) (hij : ¬ i ≤ j) : PeF a b i l := by
  obtain ⟨a1, a2, a3, a4, a5⟩ := h
  exact ⟨a1, by omega, fun k k1 k2 => by
    by_cases e : k = a
    · subst e; omega
    · exact a4 k (by omega) k2, fun k k1 k2 => a5 k (by omega) k2⟩
/-! ### The whole -/
/-- The element ahead is at most all of them. -/
def Lb (a b : Nat) (l : List Int) : Prop := a = 0 ∨ ∀ i, a ≤ i → i < b → gd l (a - 1) ≤ gd l i
theorem Lb.pr {a b a' b' : Nat} {l l' : List Int} (h : Lb a b l) (hp : PR a' b' l l') (h1 : a ≤ a') (h2 : b' ≤ b) : Lb a b l' := by
  rcases h with h | h
  · exact .inl h
  · by_cases e : a = 0
    · exact .inl e
    · refine .inr (fun i i1 i2 => ?_)
      rw [hp.out (i := a - 1) (.inl (by omega))]
      by_cases e2 : a' ≤ i ∧ i < b'
      · exact hp.all (p := fun z => gd l (a - 1) ≤ z) (fun k k1 k2 => h k (by omega) (by omega)) i e2.1 e2.2
      · rw [hp.out (by omega)]; exact h i i1 i2
theorem Lb.less {a b b' : Nat} {l : List Int} (h : Lb a b l) (hb : b' ≤ b) : Lb a b' l := by
  rcases h with h | h
  · exact .inl h
  · exact .inr fun i h1 h2 => h i h1 (by omega)
/-- Whoever sorts what is left has sorted all. -/
def Fin (a b a' b' : Nat) (l : List Int) : Prop := ∀ l2, PR a' b' l l2 → SR a' b' l2 → SR a b l2
theorem Fin.start {a b : Nat} {l : List Int} : Fin a b a b l := fun _ _ h => h
theorem Fin.pr {a b a' b' : Nat} {l l' : List Int} (h : Fin a b a' b' l) (hp : PR a' b' l l') : Fin a b a' b' l' := fun l2 h2 hs => h l2 (hp.trans h2) hs
theorem PtF.keepl {a b m : Nat} {l l' : List Int} (h : PtF a b m l) (hp : PR a m l l') : PtF a b m l' := by
  have h1 := h.am
  have h2 := h.mb
  have hm : gd l' m = gd l m := hp.out (.inr (Nat.le_refl _))
  refine ⟨h1, h2, fun k k1 k2 => ?_, fun k k1 k2 => ?_⟩
  · rw [hm]; exact hp.all (p := fun z => z < gd l m) h.lo k k1 k2
  · rw [hm, hp.out (.inr (by omega))]; exact h.hi k k1 k2
theorem PtF.keepr {a b m : Nat} {l l' : List Int} (h : PtF a b m l) (hp : PR (m + 1) b l l') : PtF a b m l' := by
  have h1 := h.am
  have h2 := h.mb
  have hm : gd l' m = gd l m := hp.out (.inl (by omega))
  refine ⟨h1, h2, fun k k1 k2 => ?_, fun k k1 k2 => ?_⟩
  · rw [hm, hp.out (.inl (by omega))]; exact h.lo k k1 k2
  · rw [hm]; exact hp.all (p := fun z => gd l m ≤ z) (fun i i1 i2 => h.hi i (by omega) i2) k (by omega) k2
theorem PtF.all {a b m : Nat} {l : List Int} (h : PtF a b m l) (hl : SR a m l) (hr : SR (m + 1) b l) : SR a b l := fun i j h1 h2 h3 => by
  have k1 := h.am
  have k2 := h.mb
  have lo := fun k x y => Int.le_of_lt (h.lo k x y)
  rcases Nat.lt_trichotomy j m with hj | hj | hj
  · exact hl i j h1 h2 hj
  · subst hj; exact lo i h1 h2
  · have hj' := h.hi j hj h3
    rcases Nat.lt_trichotomy i m with hi | hi | hi
    · have := lo i h1 hi; omega
    · subst hi; exact hj'
    · exact hr i j (by omega) h2 h3
theorem PtF.left {a0 b0 a b m : Nat} {l l' : List Int} (h : PtF a b m l) (hf : Fin a0 b0 a b l) (hp : PR a m l l') (hs : SR a m l') (hl : b ≤ l.length) : Fin a0 b0 (m + 1) b l' := fun l2 h2 hs2 => by
  have k1 := h.am
  have k2 := h.mb
  have hk := (h.keepl hp).keepr h2
  refine hf l2 ((hp.mono (Nat.le_refl _) (by omega) hl).trans (h2.mono (by omega) (Nat.le_refl _) (by rw [hp.len]; exact hl))) (hk.all ?_ hs2)
  exact hs.congr fun i _ i2 => h2.out (.inl (by omega))
theorem PtF.right {a0 b0 a b m : Nat} {l l' : List Int} (h : PtF a b m l) (hf : Fin a0 b0 a b l) (hp : PR (m + 1) b l l') (hs : SR (m + 1) b l') (hl : b ≤ l.length) : Fin a0 b0 a m l' := fun l2 h2 hs2 => by
  have k1 := h.am
  have k2 := h.mb
  have hk := (h.keepr hp).keepl h2
  refine hf l2 ((hp.mono (by omega) (Nat.le_refl _) hl).trans (h2.mono (Nat.le_refl _) (by omega) (by rw [hp.len]; exact hl))) (hk.all hs2 ?_)
  exact hs.congr fun i i1 _ => h2.out (.inr (by omega))
theorem PtF.lbr {a b m : Nat} {l : List Int} (h : PtF a b m l) : Lb (m + 1) b l := .inr fun i h1 h2 => h.hi i (by omega) h2
theorem PeF.all {a0 b0 a b m : Nat} {l : List Int} (h : PeF a b m l) (hf : Fin a0 b0 a b l) (hmin : ∀ i, a ≤ i → i < b → gd l a ≤ gd l i) (hl : b ≤ l.length) : Fin a0 b0 m b l := fun l2 h2 hs2 => by
  have k1 := h.am
  have k2 := h.mb
  refine hf l2 (h2.mono (by omega) (Nat.le_refl _) hl) (fun i j h3 h4 h5 => ?_)
  by_cases hi : i < m
  · have e1 := h.lo i h3 hi
    rw [h2.out (i := i) (.inl hi)]
    by_cases hj : j < m
    · rw [h2.out (i := j) (.inl hj)]; have := hmin j (by omega) h5; omega
    · have := h2.all (p := fun z => gd l a < z) (fun k a1 a2 => h.hi k a1 a2) j (by omega) h5
      have : gd l a < gd l2 j := this
      omega
  · exact hs2 i j (by omega) h4 h5
theorem PeF.lb {a b m : Nat} {l : List Int} (h : PeF a b m l) : Lb m b l := .inr fun i h1 h2 => by
  have := h.lo (m - 1) (by have := h.am; omega) (by have := h.am; omega)
  have := h.hi i h1 h2
  omega
end Go.Sl
namespace Go.Sl
open Go
abbrev V (kd : IntKind) (l : List Int) : List Value := l.map (Value.int kd)
/-- The block of a row, room behind it. -/
abbrev VB (kd : IntKind) (l : List Int) (rest : List Value) (e : TypeId) (lo hi : Nat) : Obj := .cells (V kd l ++ rest).toArray e (lo, hi)
theorem V_get {kd : IntKind} {l : List Int} {rest : List Value} {i : Nat} (h : i < l.length) : (V kd l ++ rest)[0 + i * 1]? = some (.int kd (gd l i)) := by
  rw [Nat.zero_add, Nat.mul_one, List.getElem?_append_left (by simpa using h)]
  simp [gd, h]
theorem V_set {kd : IntKind} {l : List Int} {rest : List Value} {i : Nat} (z : Int) (h : i < l.length) : SetAt (V kd l ++ rest) (0 + i * 1) (.int kd z) (V kd (l.set i z) ++ rest) := by
  rw [Nat.zero_add, Nat.mul_one]
  have := SetAt.of (l := V kd l ++ rest) (i := i) (.int kd z) (by simp; omega)
  rw [List.set_append_left _ _ (by simpa using h)] at this
  simpa [V, List.map_set] using this
section
variable {x : Cx} {ops : Array Oper} {k : List KI} {s : Slots} {H H' : HP}
variable {d : Nat} {p q c : Operand} {ty t t' : TypeId} {pos : String} {af : Array Edge} {gd' : Option (Nat × Bool)} {g i : Nat} {l : List Int} {rest : List Value} {kd : IntKind} {e : TypeId} {fr : Nat × Nat} {lo hi : Nat}
theorem e_ld (hA : ∀ w, (isAgg t).run x.P w = .ok false w) (hp : ev s p = some (.pointer (some ⟨g, 0 + i * 1, none⟩)))
    (hm : (g, .cells (V kd l ++ rest).toArray e fr) ∈ H ∨ (g, Obj.cells (V kd l ++ rest).toArray e fr) ∈ x.G) (hi : i < l.length) : Ex x s H ⟨some d, .load t p, ty, pos, af, gd'⟩ (.int kd (gd l i)) := e_load hA hp hm (V_get hi)
theorem l_st {z : Int} (hS : ∀ w, (sizeOf t).run x.P w = .ok 1 w) (hp : ev s p = some (.pointer (some ⟨g, 0 + i * 1, none⟩))) (hq : ev s q = some (.int kd z))
    (hu : UpB H g (VB kd l rest e lo hi) (VB kd (l.set i z) rest e lo hi) H') (hi1 : i < l.length) (hf : l.length ≤ lo ∨ hi = 0) : Lo x s H ⟨none, .store t p q, ty, pos, af, gd'⟩ (Y := Unit) (fun _ => s) (fun _ => H') (fun _ => True) :=
  l_store hS hp hq rfl hu (V_set z hi1) (by omega)
end
/-- A function that tells r and leaves memory alone. -/
abbrev CtrP (P : Program) (f : FuncId) (args : List Value) (G : HP) (r : Value) : Prop := Ctr P f args G [] (fun v H' => v = r ∧ H' = [])
section
variable {x : Cx} {ops : Array Oper} {k : List KI} {rest : List Oper} {s : Slots} {H : HP}
variable {d : Nat} {p : Operand} {ty : TypeId} {pos : String} {af : Array Edge}
/-- Such a call. -/
theorem o_pure {f : FuncId} {args : List Value} {r : Value} {ps : List Operand} {ats : Array TypeId} {gd' : Option (Nat × Bool)} (hw : wantS ops s ⟨some d, .call { callee := .value (.func f), args := ps.toArray, argTypes := ats }, ty, pos, af, gd'⟩ = some true)
    (hf : ∀ az w, (callFunc f az).run x.P w = .ok (.enter f az) w) (hc : CtrP x.P f args x.G r) (hN : Nat.blt d x.N = true) (hps : evs s ps = some args) (h : WO x ops k rest ((d, r) :: s) H) :
    WO x ops k (⟨some d, .call { callee := .value (.func f), args := ps.toArray, argTypes := ats }, ty, pos, af, gd'⟩ :: rest) s H :=
  o_l hw (l_call hf hc hN hps (.nil)) (by rintro ⟨_, _⟩ ⟨rfl, rfl⟩; exact h)
theorem q_pure {f : FuncId} {args : List Value} {r : Value} {ps : List Operand} {ats : Array TypeId} {gd' : Option (Nat × Bool)} (hw : wantS ops s ⟨some d, .call { callee := .value (.func f), args := ps.toArray, argTypes := ats }, ty, pos, af, gd'⟩ = some true)
    (hf : ∀ az w, (callFunc f az).run x.P w = .ok (.enter f az) w) (hc : CtrP x.P f args x.G r) (hN : Nat.blt d x.N = true) (hps : evs s ps = some args) (h : QO x ops k rest ((d, r) :: s) H) :
    QO x ops k (⟨some d, .call { callee := .value (.func f), args := ps.toArray, argTypes := ats }, ty, pos, af, gd'⟩ :: rest) s H :=
  q_call (HJ := []) (R := fun v H' => v = r ∧ H' = []) hf (by simpa using hc) (fun _ _ h => h.1) hw hN hps (by simp) h
end
end Go.Sl
namespace Go.Sl
open Go
def srt (l : List Int) : List Int := l.mergeSort fun a b => decide (a ≤ b)
theorem SR.pairwise {l : List Int} (h : SR 0 l.length l) : l.Pairwise (fun a b => (decide (a ≤ b)) = true) := by
  rw [List.pairwise_iff_getElem]
  intro i j hi hj hij
  have := h i j (Nat.zero_le _) hij hj
  simpa [gd, hi, hj] using this
theorem srt_of {l l' : List Int} {n : Nat} (h : PR 0 n l l') (hs : SR 0 n l') (hn : l.length = n) : l' = srt l := by
  have hl := h.len
  subst hn
  refine List.Perm.eq_of_pairwise (le := fun a b => (decide (a ≤ b)) = true) ?_ (SR.pairwise (by rwa [hl])) (List.pairwise_mergeSort ?_ ?_ _) (h.perm.trans (List.mergeSort_perm _ _).symm)
  · intro a b _ _ h1 h2
    simp at h1 h2; omega
  · intro a b c h1 h2
    simp at h1 h2 ⊢; omega
  · intro a b
    simp; omega
theorem srt_length (l : List Int) : (srt l).length = l.length := List.length_mergeSort _
theorem srt_mem {l : List Int} {a : Int} : a ∈ srt l ↔ a ∈ l := List.mem_mergeSort
def addN (acc : List Int) (n : Int) : List Int := if n ∈ acc then acc else acc ++ [n]
def distI (l : List Int) : List Int := l.foldl addN []
theorem distI_take {l : List Int} {i : Nat} (h : i < l.length) : distI (l.take (i + 1)) = addN (distI (l.take i)) l[i] := by
  rw [distI, List.take_succ_eq_append_getElem h, List.foldl_append]; rfl
theorem foldl_addN (l : List Int) : ∀ acc, (∀ a, a ∈ l.foldl addN acc ↔ a ∈ acc ∨ a ∈ l) ∧ (l.foldl addN acc).length ≤ acc.length + l.length ∧ (acc.Nodup → (l.foldl addN acc).Nodup) := by
  induction l with
  | nil => intro acc; simp
  | cons b l ih =>
    intro acc
    obtain ⟨h1, h2, h3⟩ := ih (addN acc b)
    simp only [List.foldl_cons]
    by_cases hb : b ∈ acc
    · rw [show addN acc b = acc by simp [addN, hb]] at h1 h2 h3 ⊢
      refine ⟨fun a => ?_, by simp; omega, h3⟩
      rw [h1]; simp
      constructor
      · rintro (h | h)
        · exact .inl h
        · exact .inr (.inr h)
      · rintro (h | rfl | h)
        · exact .inl h
        · exact .inl hb
        · exact .inr h
    · rw [show addN acc b = acc ++ [b] by simp [addN, hb]] at h1 h2 h3 ⊢
      refine ⟨fun a => ?_, by simp at h2 ⊢; omega, fun hn => h3 ?_⟩
      · rw [h1]; simp [or_assoc]
      · rw [List.nodup_append]; exact ⟨hn, by simp, by intro x hx y hy e; simp at hy; subst hy; subst e; exact hb hx⟩
theorem distI_mem {l : List Int} {a : Int} : a ∈ distI l ↔ a ∈ l := by have := (foldl_addN l []).1 a; simpa [distI] using this
theorem distI_length (l : List Int) : (distI l).length ≤ l.length := by have := (foldl_addN l []).2.1; simpa [distI] using this
theorem distI_nodup (l : List Int) : (distI l).Nodup := (foldl_addN l []).2.2 .nil
/-- A set of numbers, as a map to true. -/
abbrev MT (acc : List Int) : List (Int × Value) := acc.map fun a => (a, .bool true)
theorem mget_MT (acc : List Int) (a : Int) : mget (MT acc) a = if a ∈ acc then some (.bool true) else none := by
  induction acc with
  | nil => rfl
  | cons b l ih =>
    simp only [MT, List.map_cons, mget]
    by_cases h : a = b
    · simp [h]
    · rw [if_neg h, ih]; simp [h]
theorem mset_MT {acc : List Int} {a : Int} (h : a ∉ acc) : mset (MT acc) a (.bool true) = MT (acc ++ [a]) := by
  rw [mset_new _ (by rw [mget_MT, if_neg h])]; simp [MT]
theorem Osl.one {e : TypeId} {sz n : Nat} {v : Value} {xs : List Value} {w : HP} (h : Osl e sz v n xs w) : v.oneCell' = true := by cases h <;> rfl
theorem Osl.openV {e : TypeId} {kd : IntKind} {u : Value} {w : HP} {acc : List Int} (h : Osl e 1 u acc.length (V kd acc) w) : (u = .slice none 0 0 ∧ w = [] ∧ acc = []) ∨
    ∃ g cap rest lo hi, u = .slice (some ⟨g, 0, none⟩) acc.length cap ∧ w = [(g, VB kd acc rest e lo hi)] ∧ rest.length = (cap - acc.length) * 1 ∧ acc.length ≤ cap ∧ cap < 9223372036854775808 ∧ (cap * 1 ≤ lo ∨ hi = 0) := by
  generalize hN : acc.length = N at h
  generalize hX : V kd acc = X at h
  cases h with
  | nil => exact .inl ⟨rfl, rfl, List.length_eq_zero_iff.1 hN⟩
  | own a1 a2 a3 a4 a5 => subst hX; exact .inr ⟨_, _, _, _, _, rfl, rfl, a2, a3, a4, a5⟩
section
variable {x : Cx} {s : Slots} {H : HP} {d g : Nat} {p q : Operand} {ty t kt et : TypeId} {pos : String} {af : Array Edge} {gd' : Option (Nat × Bool)} {kd : IntKind} {a : Int} {acc : List Int}
theorem e_lookMT (hU : ∀ w, (underlying t).run x.P w = .ok (.map kt et) w) (hK : ∀ w, (underlying kt).run x.P w = .ok (.int kd) w) (hz : ∀ w, (zeroValue et).run x.P w = .ok (.bool false) w)
    (hp : ev s p = some (.map (some g))) (hq : ev s q = some (.int kd a)) (hm : (g, Mo kd (MT acc)) ∈ H ∨ (g, Mo kd (MT acc)) ∈ x.G) : Ex x s H ⟨some d, .lookup t p q false, ty, pos, af, gd'⟩ (.bool (decide (a ∈ acc))) := by
  have h := e_lookup (x := x) (s := s) (H := H) (d := d) (ty := ty) (pos := pos) (af := af) (gd := gd') hU hK hz hp hq hm
  rw [mget_MT] at h
  by_cases e : a ∈ acc
  · simpa [e] using h
  · simpa [e] using h
end
end Go.Sl
namespace Go.Sl
open Go
theorem putCells_row {kd : IntKind} {l l' : List Int} {rest : List Value} (hl : l'.length = l.length) : Sort.putCells (Value.int kd) 0 l'.toArray (V kd l ++ rest).toArray = (V kd l' ++ rest).toArray := by
  apply Array.ext_getElem?
  intro k
  simp only [Sort.putCells, Array.getElem?_mapIdx]
  by_cases hk : k < l'.length
  · have h1 : k < l.length := by omega
    simp [hk]
    rw [List.getElem?_append_left (by simpa using h1), List.getElem?_append_left (by simpa using hk)]
    simp [h1, hk]
  · simp [hk]
    rw [List.getElem?_append_right (by simp; omega), List.getElem?_append_right (by simp; omega)]
    simp [hl]
theorem holds_row {kd : IntKind} {l : List Int} {rest : List Value} {w : World} {g : Nat} {e : TypeId} {lo hi : Nat} (hb : w.heap[g]? = some (VB kd l rest e lo hi)) (hf : l.length ≤ lo ∨ hi = 0) : Sort.Holds (Value.int kd) w g 0 l.toArray := by
  intro j hj
  have hj' : j < l.length := by simpa using hj
  refine ⟨?_, frozen_of hb (by omega)⟩
  rw [cell_of hb, Nat.zero_add, List.getElem?_append_left (by simpa using hj')]
  simp [hj']
theorem post_put {kd : IntKind} {l l' : List Int} {rest : List Value} {w w' : World} {g : Nat} {e : TypeId} {lo hi n : Nat} {os : Array Obj} (hb : w.heap[g]? = some (VB kd l rest e lo hi)) (hl : l'.length = l.length) (hw : w' = Sort.grow (Sort.putRow (Value.int kd) (Sort.ahead w n) g 0 l'.toArray) os) :
    Has w' [(g, VB kd l' rest e lo hi)] ∧ Fr [g] w w' := by
  have hlt : g < w.heap.size := (Array.getElem?_eq_some_iff.1 hb).1
  subst hw
  refine ⟨fun p hp => ?_, rfl, rfl, rfl, by simp [Sort.putRow, Sort.mapBlock, Sort.ahead], fun k hk hne => ?_⟩
  · rcases List.mem_singleton.1 hp with rfl
    rw [Sort.heap_grow_old _ _ (by simpa [Sort.putRow, Sort.mapBlock, Sort.ahead] using hlt)]
    have : (Sort.ahead w n).heap[g]? = some (VB kd l rest e lo hi) := hb
    simp only [Sort.putRow, Sort.mapBlock, Array.getElem?_modify, if_true, this, Option.map_some, Sort.onCells, putCells_row hl]
  · rw [Sort.heap_grow_old _ _ (by simpa [Sort.putRow, Sort.mapBlock, Sort.ahead] using hk)]
    have : g ≠ k := fun h => hne (by simp [h])
    simp [Sort.putRow, Sort.mapBlock, Sort.ahead, Array.getElem?_modify, this]
end Go.Sl
namespace Go.Sl
open Go
theorem Sel.app : ∀ (A B : HP), Sel (A ++ B) A B
  | [], _ => .nil
  | p :: A, B => .cons .head (Sel.app A B)
theorem Rem.mid : ∀ (A : HP) (p : Nat × Obj) (B : HP), Rem (A ++ p :: B) p (A ++ B)
  | [], _, _ => .head
  | _ :: A, p, B => .tail (Rem.mid A p B)
theorem Sel.appR (A : HP) : ∀ B : HP, Sel (A ++ B) B A
  | [] => by simpa using Sel.nil
  | p :: B => .cons (Rem.mid A p B) (Sel.appR A B)
theorem Sel.mid (A : HP) : ∀ (B D : HP), Sel (A ++ (B ++ D)) B (A ++ D)
  | [], _ => .nil
  | p :: B, D => .cons (Rem.mid A p (B ++ D)) (Sel.mid A B D)
theorem perm_mid (A R B : HP) : (A ++ (R ++ B)).Perm (R ++ (A ++ B)) := by
  rw [← List.append_assoc, ← List.append_assoc]
  exact List.perm_append_comm.append_right _
section
variable {x : Cx} {s : Slots} {H HB : HP} {d n sz : Nat} {p : Operand} {ty t e e' : TypeId} {pos : String} {af : Array Edge} {gd' : Option (Nat × Bool)} {v : Value} {xs : List Value}
theorem e_lenO (hU : ∀ w, (underlying t).run x.P w = .ok (.slice e) w) (ho : Osl e' sz v n xs HB) (hp : ev s p = some v) : Ex x s H ⟨some d, .call { callee := .builtin .len, args := #[p], argTypes := #[t] }, ty, pos, af, gd'⟩ (.int .i64 n) := by
  cases ho with
  | nil => exact e_lenl hU hp
  | own => exact e_lenl hU hp
theorem Osl.sv (ho : Osl e' sz v n xs HB) (hU : x.P.underlying t = some (.slice e)) (hm : ∀ p ∈ HB, p ∈ H) (h1 : ∀ u ∈ xs, u.oneCell' = true) : Sv x H sz t v n xs := by
  cases ho with
  | nil => exact .nil hU
  | @own g n cap lo hi xs rest a1 a2 a3 a4 a5 =>
    refine .blk hU (.inl (hm _ (.head _))) ?_ h1
    have := CutL.of (l := xs ++ rest) (i := 0) (n := n * sz) (by simp; omega)
    simpa [← a1] using this
end
end Go.Sl
