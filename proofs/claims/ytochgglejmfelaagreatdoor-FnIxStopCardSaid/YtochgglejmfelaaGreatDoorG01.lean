/- The calculus, 4: regions that draw their order; The calculus, 5: comparisons, strings, slices, structs, maps; The calculus, 6: bytes, copies, what is appended, new slices, structs, functions of the machine; The calculus, 7: copies, new slices, structs, closures, functions of the machine, maps; The calculus, 8: maps whose keys are numbers. (A part of the proof of this: for every input laws.FnIxStop returns true and its arguments read as they did, the listed package variables being what the program lays.) -/
import Derived.Test.YtochgglejmfelaaGreatDoorG00
import Derived.OrdersHeld
import Derived.Deep.AppendSrc
import Derived.LoopN
import Derived.Laws.OwnMore
import Derived.MapKept
import Derived.Maps.RangeRun
namespace Go.Sl
open Go

/-- The part of a state that speaks of the world alone. -/
structure Sw (x : Cx) (H : HP) (w : World) : Prop where
  heap : Has w H
  glob : Has w x.G
  fr : Fr x.M x.w0 w
theorem St.sw {x : Cx} {s : Slots} {H HS : HP} {a : Act} {w : World} (h : St x s H a w) (hS : ∀ p ∈ HS, p ∈ H) : Sw x HS w := ⟨fun p hp => h.heap p (hS p hp), h.glob, h.fr⟩
theorem St.of_sw {x : Cx} {s : Slots} {H : HP} {a : Act} {w w' : World} (h : St x s H a w) (h' : Sw x H w') : St x s H a w' :=
  { size := h.size, defers := h.defers, slots := h.slots, heap := h'.heap, glob := h'.glob, nodup := h.nodup, apart := h.apart, own := h.own, gown := h.gown, fr := h'.fr }

/-! ### All operations read alone: the text's order serves -/
def QO (x : Cx) (ops : Array Oper) (k : List KI) (rest : List Oper) (s : Slots) (H : HP) : Prop :=
  ∀ a w, St x s H a w → wpQuiet x.P ops (Sw x H) (fun a' => ∀ w', Sw x H w' → kp x.P x.Q k .normal a' w') rest a

section
variable {x : Cx} {ops : Array Oper} {k : List KI} {rest : List Oper} {s : Slots} {H : HP}

theorem c_regionq {id : Nat} {l : List Oper} (hm : x.P.follows .mixedOrders = true) (hB : Region.lexB .any l.toArray = true) (h : QO x l.toArray k l s H) : WC x k (.region id l.toArray true) s H := fun a w hs =>
  wp_region_quiet (C := Sw x H) hm hB (hs.drew.sw fun _ hp => hp) (by simpa using h a _ hs)
theorem q_nil (h : WN x k s H) : QO x ops k [] s H := fun a w hs => wpQuiet_nil (fun w' hw' => h a w' (hs.of_sw hw'))
theorem q_e {o : Oper} {d : Nat} {v : Value} (hw : wantS ops s o = some true) (hd : o.dst = some d) (hN : Nat.blt d x.N = true) (he : Ex x s H o v) (h : QO x ops k rest ((d, v) :: s) H) : QO x ops k (o :: rest) s H := fun a w hs => by
  refine wpQuiet_step fun K hK => ?_
  rw [if_pos (want_of hs hw)]
  refine ⟨v, fun w' hw' => ?_, ?_⟩
  · unfold Oper.quietAt
    rw [he a w' (hs.of_sw hw')]
    exact ⟨rfl, rfl⟩
  · rw [hd]; exact hK _ (h _ w (hs.put _ (by simpa [Nat.blt_eq] using hN)))
theorem q_skip {o : Oper} {d : Nat} (hw : wantS ops s o = some false) (hd : o.dst = some d) (hN : Nat.blt d x.N = true) (h : QO x ops k rest ((d, .tuple #[]) :: s) H) : QO x ops k (o :: rest) s H := fun a w hs => by
  refine wpQuiet_step fun K hK => ?_
  rw [if_neg (by rw [want_of hs hw]; simp)]
  rw [hd]; exact hK _ (h _ w (hs.put _ (by simpa [Nat.blt_eq] using hN)))
theorem q_split (t : Nat) {b : Bool} (hb : lk s t = some (.bool b)) (h1 : b = true → QO x ops k rest ((t, .bool true) :: s) H) (h2 : b = false → QO x ops k rest ((t, .bool false) :: s) H) : QO x ops k rest s H := fun a w hs => by
  have hn : ∀ u, lk ((t, Value.bool b) :: s) u = lk s u := fun u => by
    rw [lk_cons]; split
    · rename_i e; simp at e; subst e; exact hb.symm
    · rfl
  cases b with
  | true => exact h1 rfl a w (hs.less (fun n v hv => by rwa [hn] at hv) (List.Sublist.refl _))
  | false => exact h2 rfl a w (hs.less (fun n v hv => by rwa [hn] at hv) (List.Sublist.refl _))
theorem q_splitp (t : Nat) {p : Prop} [Decidable p] (hb : lk s t = some (.bool (decide p))) (h1 : p → QO x ops k rest ((t, .bool true) :: s) H) (h2 : ¬ p → QO x ops k rest ((t, .bool false) :: s) H) : QO x ops k rest s H :=
  q_split t hb (fun h => h1 (by simpa using h)) (fun h => h2 (by simpa using h))
/-- A call of a function that writes nothing that is known and whose answer is one. -/
theorem q_call {f : FuncId} {args : List Value} {HJ : HP} {r : Value} {R : Value → HP → Prop} {ps : List Operand} {ats : Array TypeId} {d : Nat} {ty : TypeId} {pos : String} {af : Array Edge} {gd : Option (Nat × Bool)}
    (hf : ∀ az w, (callFunc f az).run x.P w = .ok (.enter f az) w) (hc : Ctr x.P f args (x.G ++ HJ) [] R) (hR : ∀ v H', R v H' → v = r)
    (hw : wantS ops s ⟨some d, .call { callee := .value (.func f), args := ps.toArray, argTypes := ats }, ty, pos, af, gd⟩ = some true) (hN : Nat.blt d x.N = true) (hps : evs s ps = some args) (hj : ∀ p ∈ HJ, p ∈ H)
    (h : QO x ops k rest ((d, r) :: s) H) : QO x ops k (⟨some d, .call { callee := .value (.func f), args := ps.toArray, argTypes := ats }, ty, pos, af, gd⟩ :: rest) s H := fun a w hs => by
  refine wpQuiet_step fun K hK => ?_
  rw [if_pos (want_of hs hw)]
  refine ⟨r, fun w' hw' => ?_, hK _ (h _ w (hs.put _ (by simpa [Nat.blt_eq] using hN)))⟩
  have hs' := hs.of_sw hw'
  have hpe := evs_map hs' hps
  unfold Oper.quietAt
  have hrun : (execOp a.eval ⟨some d, .call { callee := .value (.func f), args := ps.toArray, argTypes := ats }, ty, pos, af, gd⟩).run x.P w' = .ok (.enter f args.toArray) w' := by
    simp [execOp, resolve, Act.eval, Deferred.ofValue, invoke, hpe, hf]
  rw [hrun]
  refine ⟨rfl, ?_⟩
  refine (hc w' (fun p hp => by
    rcases List.mem_append.1 hp with hp | hp
    · exact hs'.glob p hp
    · exact hs'.heap p (hj p hp)) (fun p hp => by cases hp) (by simp [keys]) (fun g hg => by cases hg)).mono ?_
  rintro e w'' ⟨v, H', rfl, hv, h1, h2, h3, h4⟩
  obtain rfl := hR v H' hv
  refine ⟨rfl, ?_, ?_, ?_⟩
  · exact hs'.heap.fr h3 (fun _ _ hk => by cases hk)
  · exact hs'.glob.fr h3 (fun _ _ hk => by cases hk)
  · exact hs'.fr.step h3 (fun _ hk => by cases hk)

/-! ### Any order, what is quiet taken first -/
def DO (x : Cx) (ops : Array Oper) (k : List KI) (HS : HP) (fuel : Nat) (listed : Array Bool) (s : Slots) (H : HP) : Prop :=
  ∀ a w, St x s H a w → St x s HS a w → wpAnyH x.P .any ops (kp x.P x.Q k) (Sw x HS) fuel listed a w

theorem kp_panic (P : Program) (Q : Exit → Act → World → Prop) (c : List PanicEntry) (a : Act) (w : World) : ∀ k, kp P Q k (.panic c) a w = Q (.panic c) a w
  | [] => rfl
  | .code _ :: k => kp_panic P Q c a w k
  | .block _ :: k => kp_panic P Q c a w k
  | .upto _ :: k => kp_panic P Q c a w k

theorem c_regiond {id : Nat} {l : List Oper} (HS : HP) (hm : x.P.follows .mixedOrders = true) (hHS : HS.Sublist H) (h : DO x l.toArray k HS l.length (Array.replicate l.length false) s H) : WC x k (.region id l.toArray true) s H := fun a w hs =>
  wp_region_held (S := Sw x HS) hm (by simpa using h a _ hs.drew (hs.drew.less (fun _ _ hv => hv) hHS))
theorem d_nil {HS : HP} {fuel : Nat} {listed : Array Bool} (hr : (Region.ready .any ops listed) = []) (h : WN x k s H) : DO x ops k HS fuel listed s H := fun a w hs _ => wpAnyH_done hr (h a w hs) fuel
theorem d_e (i : Nat) {o : Oper} {d : Nat} {v : Value} {HS : HP} {fuel : Nat} {listed : Array Bool} (hQ : ∀ c a w d v, x.Q (.panic c) (Act.put a (some d) v) w → x.Q (.panic c) a w) (hi : ops[i]? = some o) (hs0 : Region.noSelect ops = true) (hf : Region.free .any ops listed i = true) (hr : (Region.ready .any ops listed).contains i = true)
    (hw : wantS ops s o = some true) (hd : o.dst = some d) (hN : Nat.blt d x.N = true) (he : Ex x s HS o v) (h : DO x ops k HS fuel (listed.setIfInBounds i true) ((d, v) :: s) H) : DO x ops k HS (fuel + 1) listed s H := fun a w hs hS => by
  have hN' : d < x.N := by simpa [Nat.blt_eq] using hN
  refine wpAnyH_take hi hs0 hf hr (fun c a w hq => by rw [kp_panic] at hq ⊢; rw [hd] at hq; exact hQ _ _ _ _ _ hq) (.inl ⟨want_of hs hw, fun w' hw' => he a w' (hS.of_sw hw')⟩) (hS.sw fun _ hp => hp) ?_
  rw [hd]
  exact h _ w (hs.put _ hN') (hS.put _ hN')
theorem d_skip (i : Nat) {o : Oper} {d : Nat} {HS : HP} {fuel : Nat} {listed : Array Bool} (hQ : ∀ c a w d v, x.Q (.panic c) (Act.put a (some d) v) w → x.Q (.panic c) a w) (hi : ops[i]? = some o) (hs0 : Region.noSelect ops = true) (hf : Region.free .any ops listed i = true) (hr : (Region.ready .any ops listed).contains i = true)
    (hw : wantS ops s o = some false) (hd : o.dst = some d) (hN : Nat.blt d x.N = true) (h : DO x ops k HS fuel (listed.setIfInBounds i true) ((d, .tuple #[]) :: s) H) : DO x ops k HS (fuel + 1) listed s H := fun a w hs hS => by
  have hN' : d < x.N := by simpa [Nat.blt_eq] using hN
  refine wpAnyH_take (v := undef) hi hs0 hf hr (fun c a w hq => by rw [kp_panic] at hq ⊢; rw [hd] at hq; exact hQ _ _ _ _ _ hq) (.inr ⟨want_of hs hw, rfl⟩) (hS.sw fun _ hp => hp) ?_
  rw [hd]
  exact h _ w (hs.put _ hN') (hS.put _ hN')
theorem d_op {i : Nat} {o : Oper} {HS : HP} {fuel : Nat} {listed : Array Bool} {Y : Type} {s' : Y → Slots} {J : Y → HP} {A : Y → Prop} {a : Act} {w : World} (hi : ops[i]? = some o) (hw : wantS ops s o = some true) (hl : Lo x s H o s' J A) (hHS : ∀ y, A y → ∀ p ∈ HS, p ∈ J y)
    (h : ∀ y, A y → DO x ops k HS fuel (listed.setIfInBounds i true) (s' y) (J y)) (hs : St x s H a w) (hS : St x s HS a w) : wpOp x.P ops (kp x.P x.Q k) i (fun a' w' => Sw x HS w' ∧ wpAnyH x.P .any ops (kp x.P x.Q k) (Sw x HS) fuel (listed.setIfInBounds i true) a' w') a w := by
  unfold wpOp
  rw [hi]
  simp only [want_of hs hw, if_true]
  refine .inl (hl a w hs _ _ fun y a' w' hA hst => ?_)
  have hsw := hst.sw (hHS y hA)
  refine ⟨hsw, h y hA a' w' hst ?_⟩
  exact { size := hst.size, defers := hst.defers, slots := hst.slots, heap := hsw.heap, glob := hst.glob, nodup := hS.nodup, apart := hS.apart, own := hS.own, gown := hst.gown, fr := hst.fr }
/-- Only this one may come up. -/
theorem d_l (i : Nat) {o : Oper} {HS : HP} {fuel : Nat} {listed : Array Bool} {Y : Type} {s' : Y → Slots} {J : Y → HP} {A : Y → Prop} (hr : Region.ready .any ops listed = [i]) (hi : ops[i]? = some o) (hw : wantS ops s o = some true) (hl : Lo x s H o s' J A) (hHS : ∀ y, A y → ∀ p ∈ HS, p ∈ J y)
    (h : ∀ y, A y → DO x ops k HS fuel (listed.setIfInBounds i true) (s' y) (J y)) : DO x ops k HS (fuel + 1) listed s H := fun a w hs hS =>
  wpAnyH_all hr (by simp) fun j hj => by
    obtain rfl := List.mem_singleton.1 hj
    exact d_op hi hw hl hHS h hs hS
/-- One of two comes up. -/
theorem d_l2 (i j : Nat) {o o' : Oper} {HS : HP} {fuel : Nat} {listed : Array Bool} {Y Y' : Type} {s1 : Y → Slots} {J : Y → HP} {A : Y → Prop} {s2 : Y' → Slots} {J' : Y' → HP} {A' : Y' → Prop} (hr : Region.ready .any ops listed = [i, j]) (hi : ops[i]? = some o) (hj : ops[j]? = some o') (hw : wantS ops s o = some true) (hw' : wantS ops s o' = some true)
    (hl : Lo x s H o s1 J A) (hl' : Lo x s H o' s2 J' A') (hHS : ∀ y, A y → ∀ p ∈ HS, p ∈ J y) (hHS' : ∀ y, A' y → ∀ p ∈ HS, p ∈ J' y)
    (h : ∀ y, A y → DO x ops k HS fuel (listed.setIfInBounds i true) (s1 y) (J y)) (h' : ∀ y, A' y → DO x ops k HS fuel (listed.setIfInBounds j true) (s2 y) (J' y)) : DO x ops k HS (fuel + 1) listed s H := fun a w hs hS =>
  wpAnyH_all hr (by simp) fun n hn => by
    rcases List.mem_cons.1 hn with rfl | hn
    · exact d_op hi hw hl hHS h hs hS
    · obtain rfl := List.mem_singleton.1 hn
      exact d_op hj hw' hl' hHS' h' hs hS
end
end Go.Sl
namespace Go.Sl
open Go

section
variable {x : Cx} {ops : Array Oper} {k : List KI} {rest : List Oper} {s : Slots} {H H' : HP}
variable {d : Nat} {p q c : Operand} {ty t t' : TypeId} {pos : String} {af : Array Edge} {gd : Option (Nat × Bool)} {v u r : Value} {g off n m : Nat} {l l' vs : List Value} {e : TypeId} {fr : Nat × Nat} {lo hi : Nat}

theorem e_to {o : Oper} (h : v = r) (he : Ex x s H o v) : Ex x s H o r := h ▸ he
theorem WR.less {s' : Slots} (hs : ∀ n v, lk s' n = some v → lk s n = some v) (hH : H'.Sublist H) (h : WR x k s' H') : WR x k s H := fun a w hst => h a w (hst.less hs hH)
theorem WR.perm (hH : H.Perm H') (h : WR x k s H') : WR x k s H := fun a w hst => h a w (hst.perm hH)
theorem WN.perm (hH : H.Perm H') (h : WN x k s H') : WN x k s H := fun a w hst => h a w (hst.perm hH)
/-- Round by round, at most so often. -/
theorem c_rounds (n : Nat) {b : Code} (h : WC x (.upto (Code.rounds x.P b (kp x.P x.Q k) n) :: k) b s H) : WC x k (.loop b) s H := fun a w hs => wp_loop_rounds (n + 1) (h a w hs)
theorem n_rounds {n : Nat} {b : Code} (h : WC x (.upto (Code.rounds x.P b (kp x.P x.Q k) n) :: k) b s H) : WN x (.upto (Code.rounds x.P b (kp x.P x.Q k) (n + 1)) :: k) s H := n_upto fun a w hs => h a w hs

/-! ### Known numbers and strings -/
def pint (op : BinOp) (k : IntKind) (a b : Int) : Option Value :=
  match op with
  | .add => some (.int k (k.wrap (a + b)))
  | .sub => some (.int k (k.wrap (a - b)))
  | .mul => some (.int k (k.wrap (a * b)))
  | .quo => if b = 0 then none else some (.int k (k.wrap (a.tdiv b)))
  | .rem => if b = 0 then none else some (.int k (a.tmod b))
  | .and => some (.int k (ib .and k a b))
  | .or => some (.int k (ib .or k a b))
  | .xor => some (.int k (ib .xor k a b))
  | .andNot => some (.int k (ib .andNot k a b))
  | .eql => some (.bool (decide (a = b)))
  | .neq => some (.bool (decide (a ≠ b)))
  | .lss => some (.bool (decide (a < b)))
  | .leq => some (.bool (decide (a ≤ b)))
  | .gtr => some (.bool (decide (b < a)))
  | .geq => some (.bool (decide (b ≤ a)))
  | _ => none
theorem e_int {op : BinOp} {kd : IntKind} {a b : Int} (hp : ev s p = some (.int kd a)) (hq : ev s q = some (.int kd b)) (h : pint op kd a b = some r) : Ex x s H ⟨some d, .binOp op t p q t', ty, pos, af, gd⟩ r := by
  cases op <;> simp only [pint, Option.some.injEq, reduceCtorEq] at h
  case add => subst h; exact e_add hp hq
  case sub => subst h; exact e_sub hp hq
  case mul => subst h; exact e_mul hp hq
  case quo => split at h <;> cases h; exact e_quo hp hq (by assumption)
  case rem => split at h <;> cases h; exact e_rem hp hq (by assumption)
  case and => subst h; exact e_and hp hq
  case or => subst h; exact e_or hp hq
  case xor => subst h; exact e_xor hp hq
  case andNot => subst h; exact e_andNot hp hq
  case eql => subst h; exact e_eql hp hq
  case neq => subst h; exact e_neq hp hq
  case lss => subst h; exact e_lss hp hq
  case leq => subst h; exact e_leq hp hq
  case gtr => subst h; exact e_gtr hp hq
  case geq => subst h; exact e_geq hp hq
theorem e_shlc {kd kd' : IntKind} {a b : Int} (hp : ev s p = some (.int kd a)) (hq : ev s q = some (.int kd' b)) (h0 : decide (0 ≤ b) = true) (h : Value.int kd (kd.wrap (a * 2 ^ (min b.toNat kd.bits))) = r) : Ex x s H ⟨some d, .binOp .shl t p q t', ty, pos, af, gd⟩ r := h ▸ e_shl hp hq (by simpa using h0)
theorem e_shrc {kd kd' : IntKind} {a b : Int} (hp : ev s p = some (.int kd a)) (hq : ev s q = some (.int kd' b)) (h0 : decide (0 ≤ b) = true) (h : Value.int kd (a.fdiv (2 ^ (min b.toNat kd.bits))) = r) : Ex x s H ⟨some d, .binOp .shr t p q t', ty, pos, af, gd⟩ r := h ▸ e_shr hp hq (by simpa using h0)
theorem e_convc {ds : TypeDesc} {kd kd' : IntKind} {z : Int} (hU : ∀ w, (underlying t).run x.P w = .ok ds w) (hU' : ∀ w, (underlying t').run x.P w = .ok (.int kd') w) (hp : ev s p = some (.int kd z)) (h : Value.int kd' (kd'.wrap z) = r) : Ex x s H ⟨some d, .convert t t' p, ty, pos, af, gd⟩ r := h ▸ e_conv hU hU' hp

theorem S_inj {a b : List UInt8} : ((⟨a.toArray⟩ : ByteArray) = ⟨b.toArray⟩) ↔ a = b := by
  constructor
  · intro h; simpa using congrArg (fun z => z.data.toList) h
  · rintro rfl; rfl
theorem toList_S (a : List UInt8) : (⟨a.toArray⟩ : ByteArray).toList = a := by rw [ByteArray.toList_eq]
theorem bdec (a b : List UInt8) : (a == b) = decide (a = b) := by by_cases h : a = b <;> simp [h]
theorem e_seq {a b : List UInt8} (hp : ev s p = some (S a)) (hq : ev s q = some (S b)) : Ex x s H ⟨some d, .binOp .eql t p q t', ty, pos, af, gd⟩ (.bool (decide (a = b))) := e_bin hp hq (fun w => by
  simp [eqGuard, binOp, Op.stringOp, bdec])
theorem e_sne {a b : List UInt8} (hp : ev s p = some (S a)) (hq : ev s q = some (S b)) : Ex x s H ⟨some d, .binOp .neq t p q t', ty, pos, af, gd⟩ (.bool (decide (a ≠ b))) := e_bin hp hq (fun w => by
  simp [eqGuard, binOp, Op.stringOp, bdec])
theorem e_slt {a b : List UInt8} (hp : ev s p = some (S a)) (hq : ev s q = some (S b)) : Ex x s H ⟨some d, .binOp .lss t p q t', ty, pos, af, gd⟩ (.bool (Op.bytesLess a b)) := e_bin hp hq (fun w => by
  simp [eqGuard, binOp, Op.stringOp])
theorem e_sadd {a b : List UInt8} (hp : ev s p = some (S a)) (hq : ev s q = some (S b)) (hn : a.length + b.length ≤ 9223372036854775807) : Ex x s H ⟨some d, .binOp .add t p q t', ty, pos, af, gd⟩ (S (a ++ b)) := e_bin hp hq (fun w => by
  have h1 : ¬ (((⟨a.toArray⟩ : ByteArray).size + (⟨b.toArray⟩ : ByteArray).size : Nat) : Int) > IntKind.i64.max := by
    rw [size_S, size_S]; simp [IntKind.max, IntKind.bits, IntKind.signed]; omega
  have h2 : (⟨a.toArray⟩ : ByteArray) ++ ⟨b.toArray⟩ = ⟨(a ++ b).toArray⟩ := by
    apply ByteArray.ext; simp
  have h3 : Op.stringOp .add ⟨a.toArray⟩ ⟨b.toArray⟩ = pure (S (a ++ b)) := by
    simp only [Op.stringOp]
    rw [if_neg h1, h2]
  show (do eqGuard .add t p q (S a) (S b); Op.stringOp .add ⟨a.toArray⟩ ⟨b.toArray⟩ : Sem Value).run x.P w = _
  rw [h3]; rfl)
theorem eq_in : ∃ d, ∀ t v u, Op.equal t v u = Op.equalIn (d + 1) t v u := ⟨9999, fun _ _ _ => rfl⟩
theorem eq_in2 : ∃ d, ∀ t v u, Op.equal t v u = Op.equalIn (d + 1 + 1) t v u := ⟨9998, fun _ _ _ => rfl⟩
/-- What is compared by Op.equal. -/
theorem e_eqx {b : Bool} (he : binOp .eql t v u = (do pure (.bool (← Op.equal t v u)))) (hg : ∀ w, (eqGuard .eql t p q v u).run x.P w = .ok () w) (hE : ∀ w, (Op.equal t v u).run x.P w = .ok b w)
    (hp : ev s p = some v) (hq : ev s q = some u) : Ex x s H ⟨some d, .binOp .eql t p q t', ty, pos, af, gd⟩ (.bool b) := e_bin hp hq (fun w => by simp only [Sem.run_bind, hg, Result.andThen_ok, he, hE, Sem.run_pure])
theorem e_nex {b : Bool} (he : binOp .neq t v u = (do pure (.bool (!(← Op.equal t v u))))) (hg : ∀ w, (eqGuard .neq t p q v u).run x.P w = .ok () w) (hE : ∀ w, (Op.equal t v u).run x.P w = .ok b w)
    (hp : ev s p = some v) (hq : ev s q = some u) : Ex x s H ⟨some d, .binOp .neq t p q t', ty, pos, af, gd⟩ (.bool (!b)) := e_bin hp hq (fun w => by simp only [Sem.run_bind, hg, Result.andThen_ok, he, hE, Sem.run_pure])
theorem e_beq {a b : Bool} (hU : ∀ w, (underlying t).run x.P w = .ok .bool w) (hp : ev s p = some (.bool a)) (hq : ev s q = some (.bool b)) : Ex x s H ⟨some d, .binOp .eql t p q t', ty, pos, af, gd⟩ (.bool (a == b)) :=
  e_eqx rfl (fun _ => rfl) (fun w => by obtain ⟨dd, hdd⟩ := eq_in; rw [hdd]; simp only [Op.equalIn, Sem.run_bind, hU, Result.andThen_ok, Sem.run_pure]) hp hq

/-! ### nil -/
section nils
variable {ms : Array (String × TypeId)} {tv tu : TypeId} {P : Program} {w : World}
theorem q_in (hU : ∀ w, (underlying t).run P w = .ok (.interface ms) w) : (Op.equal t (.iface tv v) .nilIface).run P w = .ok false w := by
  obtain ⟨dd, hdd⟩ := eq_in; rw [hdd]; simp only [Op.equalIn, Sem.run_bind, hU, Result.andThen_ok, Sem.run_pure]
theorem q_ni (hU : ∀ w, (underlying t).run P w = .ok (.interface ms) w) : (Op.equal t .nilIface (.iface tv v)).run P w = .ok false w := by
  obtain ⟨dd, hdd⟩ := eq_in; rw [hdd]; simp only [Op.equalIn, Sem.run_bind, hU, Result.andThen_ok, Sem.run_pure]
theorem q_nn (hU : ∀ w, (underlying t).run P w = .ok (.interface ms) w) : (Op.equal t .nilIface .nilIface).run P w = .ok true w := by
  obtain ⟨dd, hdd⟩ := eq_in; rw [hdd]; simp only [Op.equalIn, Sem.run_bind, hU, Result.andThen_ok, Sem.run_pure]
theorem q_tt (hU : ∀ w, (underlying t).run P w = .ok (.interface ms) w) (hne : tv ≠ tu) : (Op.equal t (.iface tv v) (.iface tu u)).run P w = .ok false w := by
  obtain ⟨dd, hdd⟩ := eq_in; rw [hdd]; simp only [Op.equalIn, Sem.run_bind, hU, Result.andThen_ok, Sem.run_pure, if_pos hne]
theorem same_addr (A : Addr) : (sameAddr A A).run P w = .ok true w := by
  simp [sameAddr]
theorem q_pp {ti : TypeInfo} {el : TypeId} {A : Addr} (hU : ∀ w, (underlying t).run P w = .ok (.interface ms) w) (hI : ∀ w, (typeInfo tv).run P w = .ok ti w) (hc : ti.comparable = true)
    (hU' : ∀ w, (underlying tv).run P w = .ok (.pointer el) w) (hS : ∀ w, (sizeOf el).run P w = .ok n w) (hn : n ≠ 0) : (Op.equal t (.iface tv (.pointer (some A))) (.iface tv (.pointer (some A)))).run P w = .ok true w := by
  obtain ⟨dd, hdd⟩ := eq_in2; rw [hdd]
  simp only [Op.equalIn, Sem.run_bind, hU, Result.andThen_ok, Sem.run_pure, ne_eq, not_true_eq_false, if_false, hI, hc, Bool.not_true, Bool.false_eq_true, hU', hS, hn, not_false_eq_true, if_true, same_addr]
theorem q_pn (hU : ∀ w, (underlying t).run P w = .ok (.pointer e) w) {A : Option Addr} : (Op.equal t (.pointer A) (.pointer none)).run P w = .ok A.isNone w := by
  obtain ⟨dd, hdd⟩ := eq_in; rw [hdd]; cases A <;> simp only [Op.equalIn, Sem.run_bind, hU, Result.andThen_ok, Sem.run_pure, Option.isNone]
theorem q_ps (hU : ∀ w, (underlying t).run P w = .ok (.pointer e) w) (hS : ∀ w, (sizeOf e).run P w = .ok n w) (hn : n ≠ 0) {A : Addr} : (Op.equal t (.pointer (some A)) (.pointer (some A))).run P w = .ok true w := by
  obtain ⟨dd, hdd⟩ := eq_in; rw [hdd]; simp only [Op.equalIn, Sem.run_bind, hU, Result.andThen_ok, Sem.run_pure, hS, ne_eq, hn, not_false_eq_true, if_true, same_addr]
theorem q_ln (hU : ∀ w, (underlying t).run P w = .ok (.slice e) w) {A : Option Addr} : (Op.equal t (.slice A n m) (.slice none 0 0)).run P w = .ok A.isNone w := by
  obtain ⟨dd, hdd⟩ := eq_in; rw [hdd]; cases A <;> simp only [Op.equalIn, Sem.run_bind, hU, Result.andThen_ok, Sem.run_pure, Option.isNone]
theorem e_ieqn (hU : ∀ w, (underlying t).run x.P w = .ok (.interface ms) w) (hp : ev s p = some (.iface tv v)) : Ex x s H ⟨some d, .binOp .eql t p (.const .nilIface) t', ty, pos, af, gd⟩ (.bool false) := e_eqx rfl (fun _ => rfl) (fun _ => q_in hU) hp rfl
theorem e_inen (hU : ∀ w, (underlying t).run x.P w = .ok (.interface ms) w) (hp : ev s p = some (.iface tv v)) : Ex x s H ⟨some d, .binOp .neq t p (.const .nilIface) t', ty, pos, af, gd⟩ (.bool true) := e_nex rfl (fun _ => rfl) (fun _ => q_in hU) hp rfl
theorem e_neqn (hU : ∀ w, (underlying t).run x.P w = .ok (.interface ms) w) (hp : ev s p = some .nilIface) : Ex x s H ⟨some d, .binOp .eql t p (.const .nilIface) t', ty, pos, af, gd⟩ (.bool true) := e_eqx rfl (fun _ => by cases p <;> rfl) (fun _ => q_nn hU) hp rfl
theorem e_nnen (hU : ∀ w, (underlying t).run x.P w = .ok (.interface ms) w) (hp : ev s p = some .nilIface) : Ex x s H ⟨some d, .binOp .neq t p (.const .nilIface) t', ty, pos, af, gd⟩ (.bool false) := e_nex rfl (fun _ => by cases p <;> rfl) (fun _ => q_nn hU) hp rfl
/-- Two interface values, one of them nil, or of other types, or one pointer. -/
theorem e_ieq_n (hU : ∀ w, (underlying t).run x.P w = .ok (.interface ms) w) (hp : ev s p = some .nilIface) (hq : ev s q = some (.iface tv v)) : Ex x s H ⟨some d, .binOp .eql t p q t', ty, pos, af, gd⟩ (.bool false) := e_eqx rfl (fun _ => rfl) (fun _ => q_ni hU) hp hq
theorem e_ieq_t (hU : ∀ w, (underlying t).run x.P w = .ok (.interface ms) w) (hp : ev s p = some (.iface tv v)) (hq : ev s q = some (.iface tu u)) (hne : tv ≠ tu) : Ex x s H ⟨some d, .binOp .eql t p q t', ty, pos, af, gd⟩ (.bool false) := e_eqx rfl (fun _ => rfl) (fun _ => q_tt hU hne) hp hq
theorem e_ieq_same {ti : TypeInfo} {el : TypeId} {A : Addr} (hU : ∀ w, (underlying t).run x.P w = .ok (.interface ms) w) (hI : ∀ w, (typeInfo tv).run x.P w = .ok ti w) (hc : ti.comparable = true)
    (hU' : ∀ w, (underlying tv).run x.P w = .ok (.pointer el) w) (hS : ∀ w, (sizeOf el).run x.P w = .ok n w) (hn : n ≠ 0)
    (hp : ev s p = some (.iface tv (.pointer (some A)))) (hq : ev s q = some (.iface tv (.pointer (some A)))) : Ex x s H ⟨some d, .binOp .eql t p q t', ty, pos, af, gd⟩ (.bool true) := e_eqx rfl (fun _ => rfl) (fun _ => q_pp hU hI hc hU' hS hn) hp hq
theorem e_peqn (hU : ∀ w, (underlying t).run x.P w = .ok (.pointer e) w) {A : Option Addr} (hp : ev s p = some (.pointer A)) : Ex x s H ⟨some d, .binOp .eql t p (.const (.pointer none)) t', ty, pos, af, gd⟩ (.bool A.isNone) := e_eqx rfl (fun _ => rfl) (fun _ => q_pn hU) hp rfl
theorem e_pnen (hU : ∀ w, (underlying t).run x.P w = .ok (.pointer e) w) {A : Option Addr} (hp : ev s p = some (.pointer A)) : Ex x s H ⟨some d, .binOp .neq t p (.const (.pointer none)) t', ty, pos, af, gd⟩ (.bool (!A.isNone)) := e_nex rfl (fun _ => rfl) (fun _ => q_pn hU) hp rfl
theorem e_pne_same (hU : ∀ w, (underlying t).run x.P w = .ok (.pointer e) w) (hS : ∀ w, (sizeOf e).run x.P w = .ok n w) (hn : n ≠ 0) {A : Addr} (hp : ev s p = some (.pointer (some A))) (hq : ev s q = some (.pointer (some A))) : Ex x s H ⟨some d, .binOp .neq t p q t', ty, pos, af, gd⟩ (.bool false) := e_nex (b := true) rfl (fun _ => rfl) (fun _ => q_ps hU hS hn) hp hq
theorem e_leqn (hU : ∀ w, (underlying t).run x.P w = .ok (.slice e) w) {A : Option Addr} (hp : ev s p = some (.slice A n m)) : Ex x s H ⟨some d, .binOp .eql t p (.const (.slice none 0 0)) t', ty, pos, af, gd⟩ (.bool A.isNone) := e_eqx rfl (fun _ => rfl) (fun _ => q_ln hU) hp rfl
end nils

/-! ### Slices of strings and of slices -/
section slices
variable {kl kh : IntKind} {a b : Int} {bs : List UInt8} {sz cap : Nat} {A : Option Addr} {pl ph : Operand}
theorem extract_S (bs : List UInt8) (i j : Nat) : (⟨bs.toArray⟩ : ByteArray).extract i j = ⟨((bs.take j).drop i).toArray⟩ := by
  apply ByteArray.ext
  simp [ByteArray.extract, ByteArray.copySlice, List.take_drop]
  by_cases h : i ≤ j
  · rw [show i + (j - i) = j by omega]
  · rw [List.drop_eq_nil_of_le (by simp; omega), List.drop_eq_nil_of_le (by simp; omega)]
theorem e_ss_h (hU : ∀ w, (underlying t).run x.P w = .ok .string w) (hp : ev s p = some (S bs)) (hh : ev s ph = some (.int kh b)) (h1 : 0 ≤ b) (h2 : b ≤ bs.length) : Ex x s H ⟨some d, .slice t p none (some ph) none, ty, pos, af, gd⟩ (S (bs.take b.toNat)) := fun a' w hs => by
  have h3 : (b : Int) ≤ ((⟨bs.toArray⟩ : ByteArray).size : Int) := by rw [size_S]; exact h2
  simp [execOp, hs.eval hp, hs.eval hh, Instr.sliceAt, Instr.slice, hU, Instr.sliceBounds, Instr.sliceBound, asIntOf, h1, h3, extract_S]
theorem e_ss_l (hU : ∀ w, (underlying t).run x.P w = .ok .string w) (hp : ev s p = some (S bs)) (hl : ev s pl = some (.int kl a)) (h1 : 0 ≤ a) (h2 : a ≤ bs.length) : Ex x s H ⟨some d, .slice t p (some pl) none none, ty, pos, af, gd⟩ (S (bs.drop a.toNat)) := fun a' w hs => by
  have h3 : (a : Int) ≤ ((⟨bs.toArray⟩ : ByteArray).size : Int) := by rw [size_S]; exact h2
  simp [execOp, hs.eval hp, hs.eval hl, Instr.sliceAt, Instr.slice, hU, Instr.sliceBounds, Instr.sliceBound, asIntOf, h1, h3, extract_S]
  rw [size_S, List.take_length]
theorem e_sl_h (hU : ∀ w, (underlying t).run x.P w = .ok (.slice e) w) (hS : ∀ w, (sizeOf e).run x.P w = .ok sz w) (hp : ev s p = some (.slice A n cap)) (hh : ev s ph = some (.int kh b)) (h1 : 0 ≤ b) (h2 : b ≤ cap) : Ex x s H ⟨some d, .slice t p none (some ph) none, ty, pos, af, gd⟩ (.slice A b.toNat cap) := fun a' w hs => by
  simp [execOp, hs.eval hp, hs.eval hh, Instr.sliceAt, Instr.slice, hU, hS, Instr.sliceBounds, Instr.sliceBound, asIntOf, h1, h2, Addr.add]
theorem e_sl_n (hU : ∀ w, (underlying t).run x.P w = .ok (.slice e) w) (hS : ∀ w, (sizeOf e).run x.P w = .ok sz w) (hp : ev s p = some (.slice A n cap)) : Ex x s H ⟨some d, .slice t p none none none, ty, pos, af, gd⟩ (.slice A n cap) := fun a' w hs => by
  simp [execOp, hs.eval hp, Instr.sliceAt, Instr.slice, hU, hS, Instr.sliceBounds, Addr.add]
theorem e_sl_l (hU : ∀ w, (underlying t).run x.P w = .ok (.slice e) w) (hS : ∀ w, (sizeOf e).run x.P w = .ok sz w) (hp : ev s p = some (.slice (some ⟨g, off, none⟩) n cap)) (hl : ev s pl = some (.int kl a)) (h1 : 0 ≤ a) (h2 : a ≤ n) (h3 : a < cap) : Ex x s H ⟨some d, .slice t p (some pl) none none, ty, pos, af, gd⟩ (.slice (some ⟨g, off + a.toNat * sz, none⟩) (n - a.toNat) (cap - a.toNat)) := fun a' w hs => by
  have : ¬ cap = a.toNat := by omega
  simp [execOp, hs.eval hp, hs.eval hl, Instr.sliceAt, Instr.slice, hU, hS, Instr.sliceBounds, Instr.sliceBound, asIntOf, h1, h2, this, add_addr]
theorem e_sl_le (hU : ∀ w, (underlying t).run x.P w = .ok (.slice e) w) (hS : ∀ w, (sizeOf e).run x.P w = .ok sz w) (hp : ev s p = some (.slice A n cap)) (hl : ev s pl = some (.int kl a)) (h1 : 0 ≤ a) (h2 : a ≤ n) (h3 : a = cap) : Ex x s H ⟨some d, .slice t p (some pl) none none, ty, pos, af, gd⟩ (.slice A (n - a.toNat) 0) := fun a' w hs => by
  have : cap = a.toNat := by omega
  simp [execOp, hs.eval hp, hs.eval hl, Instr.sliceAt, Instr.slice, hU, hS, Instr.sliceBounds, Instr.sliceBound, asIntOf, h1, h2]
  rw [this]; simp
theorem e_sl_lh (hU : ∀ w, (underlying t).run x.P w = .ok (.slice e) w) (hS : ∀ w, (sizeOf e).run x.P w = .ok sz w) (hp : ev s p = some (.slice (some ⟨g, off, none⟩) n cap)) (hl : ev s pl = some (.int kl a)) (hh : ev s ph = some (.int kh b)) (h1 : 0 ≤ a) (h2 : a ≤ b) (h3 : b ≤ cap) (h4 : a < cap) : Ex x s H ⟨some d, .slice t p (some pl) (some ph) none, ty, pos, af, gd⟩ (.slice (some ⟨g, off + a.toNat * sz, none⟩) (b.toNat - a.toNat) (cap - a.toNat)) := fun a' w hs => by
  obtain ⟨i, rfl⟩ := Int.eq_ofNat_of_zero_le h1
  obtain ⟨j, rfl⟩ := Int.eq_ofNat_of_zero_le (show 0 ≤ b by omega)
  have h5 : ¬ cap = i := by omega
  have h6 : i ≤ j := by omega
  have h7 : j ≤ cap := by omega
  simp [execOp, hs.eval hp, hs.eval hl, hs.eval hh, Instr.sliceAt, Instr.slice, hU, hS, Instr.sliceBounds, Instr.sliceBound, asIntOf, h5, h6, h7, add_addr]
theorem e_sa_n (hU : ∀ w, (underlying t).run x.P w = .ok (.array n e) w) (hS : ∀ w, (sizeOf e).run x.P w = .ok sz w) (hp : ev s p = some (.pointer (some ⟨g, off, none⟩))) : Ex x s H ⟨some d, .slice t p none none none, ty, pos, af, gd⟩ (.slice (some ⟨g, off, none⟩) n n) := fun a' w hs => by
  simp [execOp, hs.eval hp, Instr.sliceAt, Instr.sureAddr, hU, hS, Instr.sliceBounds, Addr.add]
theorem e_sa_h (hU : ∀ w, (underlying t).run x.P w = .ok (.array n e) w) (hS : ∀ w, (sizeOf e).run x.P w = .ok sz w) (hp : ev s p = some (.pointer (some ⟨g, off, none⟩))) (hh : ev s ph = some (.int kh b)) (h1 : 0 ≤ b) (h2 : b ≤ n) : Ex x s H ⟨some d, .slice t p none (some ph) none, ty, pos, af, gd⟩ (.slice (some ⟨g, off, none⟩) b.toNat n) := fun a' w hs => by
  simp [execOp, hs.eval hp, hs.eval hh, Instr.sliceAt, Instr.sureAddr, hU, hS, Instr.sliceBounds, Instr.sliceBound, asIntOf, h1, h2, Addr.add]
end slices
end
end Go.Sl
namespace Go.Sl
open Go

section
variable {x : Cx} {ops : Array Oper} {k : List KI} {rest : List Oper} {s : Slots} {H H' : HP}
variable {d : Nat} {p q c : Operand} {ty t t' : TypeId} {pos : String} {af : Array Edge} {gd : Option (Nat × Bool)} {v u r : Value} {g off n m : Nat} {l l' vs : List Value} {e : TypeId} {fr : Nat × Nat} {lo hi : Nat}

def B (bs : List UInt8) : List Value := bs.map fun b => .int .u8 b.toNat
theorem B_length (bs : List UInt8) : (B bs).length = bs.length := by simp [B]
theorem B_append (a b : List UInt8) : B (a ++ b) = B a ++ B b := by simp [B]
theorem B_one (bs : List UInt8) : ∀ v ∈ B bs, v.oneCell' = true := by
  intro v hv
  obtain ⟨b, _, rfl⟩ := List.mem_map.1 hv
  rfl

/-! ### Bytes of strings, strings of bytes -/
/-- A new block in a world that has drawn. -/
theorem St.newd {a : Act} {w : World} (h : St x s H a w) (o : Obj) : St x s ((w.heap.size, o) :: H) a (w.drew.alloc o) := h.drew.new o

theorem l_sb {bs : List UInt8} (hU : x.P.underlying t = some .string) (hU' : x.P.underlying t' = some (.slice e)) (hU8 : x.P.underlying e = some (.int .u8)) (hN : Nat.blt d x.N = true) (hp : ev s p = some (S bs)) :
    Lo x s H ⟨some d, .convert t t' p, ty, pos, af, gd⟩ (Y := Nat × Nat) (fun y => (d, .slice (some ⟨y.1, 0, none⟩) bs.length (bs.length + y.2)) :: s)
      (fun y => (y.1, .cells (B bs ++ List.replicate y.2 (Value.int .u8 0)).toArray e (bs.length + y.2, bs.length + y.2 + 1)) :: H) (fun _ => True) :=
  l_gen (Y := Nat × Nat) (fun y => .slice (some ⟨y.1, 0, none⟩) bs.length (bs.length + y.2)) _ (fun _ => True) rfl hN (fun a w hs => by
    have hr := run_bytes_of_string (P := x.P) w t t' e ⟨bs.toArray⟩ hU hU' hU8
    have hsz : (⟨bs.toArray⟩ : ByteArray).size = bs.length := size_S bs
    have hge : bs.length ≤ grownCap w bs.length 0 e := by simp [grownCap, Question.cut]
    obtain ⟨c0, hc0⟩ : ∃ c0, grownCap w bs.length 0 e = bs.length + c0 := ⟨_, (Nat.add_sub_cancel' hge).symm⟩
    have hrow : bytesRow ⟨bs.toArray⟩ (bs.length + c0) = (B bs ++ List.replicate c0 (Value.int .u8 0)).toArray := by
      apply Array.ext'
      simp [bytesRow, B, hsz]
    have e2 : (B bs ++ List.replicate c0 (Value.int .u8 0)).toArray.size = bs.length + c0 := by simp [B]
    rw [hsz, hc0, hrow, e2] at hr
    refine ⟨_, (w.heap.size, c0), ?_, trivial, hs.newd _⟩
    simp only [execOp, hs.eval hp, Sem.run_bind, hr, Result.andThen_ok, Sem.run_pure])

/-- string(b), b's cells the bytes bs. -/
theorem e_bs {bs : List UInt8} {cap : Nat} (hU : x.P.underlying t = some (.slice e)) (hU8 : x.P.underlying e = some (.int .u8)) (hU' : x.P.underlying t' = some .string) (hp : ev s p = some (.slice (some ⟨g, off, none⟩) n cap))
    (hm : (g, .cells l.toArray e fr) ∈ H ∨ (g, Obj.cells l.toArray e fr) ∈ x.G) (hc : CutL l off n (B bs)) : Ex x s H ⟨some d, .convert t t' p, ty, pos, af, gd⟩ (S bs) := fun a w hs => by
  have hn : n = bs.length := by
    have := congrArg List.length hc.eq
    have h2 := hc.le
    simp [B] at this; omega
  subst hn
  have hcells : ∀ j (hj : j < bs.length), w.cell? ((⟨g, off, none⟩ : Addr).add j) = some (.int .u8 (bs[j].toNat : Int)) := fun j hj => by
    rw [add_addr, cell_of (hs.mem hm)]
    have := congrArg (fun z => z[j]?) hc.eq
    simp [B, hj] at this
    exact this.symm
  simp only [execOp, hs.eval hp, Sem.run_bind, run_convert_bytes_back w t t' e ⟨g, off, none⟩ cap bs hU hU8 hU' hcells, Result.andThen_ok, Sem.run_pure]
theorem e_bsn {cap : Nat} (hU : x.P.underlying t = some (.slice e)) (hU8 : x.P.underlying e = some (.int .u8)) (hU' : x.P.underlying t' = some .string) (hp : ev s p = some (.slice none n cap)) : Ex x s H ⟨some d, .convert t t' p, ty, pos, af, gd⟩ (S []) := fun a w hs => by
  have h0 : ByteArray.empty = ⟨[].toArray⟩ := rfl
  simp only [execOp, hs.eval hp, Sem.run_bind, run_convert_bytes_string w t t' e none n cap hU hU8 hU', Conv.bytesToString, Result.andThen_ok, Sem.run_pure, h0]

/-! ### What is appended or copied -/
/-- The operand's value yields n elements, whose cells are news, each element of sz cells. -/
inductive Sv (x : Cx) (H : HP) (sz : Nat) (t : TypeId) : Value → Nat → List Value → Prop where
  | str {bs : List UInt8} (hU : x.P.underlying t = some .string) (h1 : sz = 1) : Sv x H sz t (S bs) bs.length (B bs)
  | nil {e : TypeId} {cap : Nat} (hU : x.P.underlying t = some (.slice e)) : Sv x H sz t (.slice none 0 cap) 0 []
  | zero {e : TypeId} {A : Addr} {cap : Nat} (hU : x.P.underlying t = some (.slice e)) : Sv x H sz t (.slice (some A) 0 cap) 0 []
  | blk {e e' : TypeId} {g off n cap : Nat} {l vs : List Value} {fr : Nat × Nat} (hU : x.P.underlying t = some (.slice e)) (hm : (g, .cells l.toArray e' fr) ∈ H ∨ (g, Obj.cells l.toArray e' fr) ∈ x.G) (hc : CutL l off (n * sz) vs) (h1 : ∀ v ∈ vs, v.oneCell' = true) :
      Sv x H sz t (.slice (some ⟨g, off, none⟩) n cap) n vs

theorem Sv.src {sz : Nat} {a : Act} {w : World} (hs : St x s H a w) (h : Sv x H sz t v n vs) : Src x.P sz t v n vs w := by
  cases h with
  | @str bs hU h1 =>
    subst h1
    have := Src.ofString (P := x.P) w hU (⟨bs.toArray⟩ : ByteArray)
    have e2 : byteCells (⟨bs.toArray⟩ : ByteArray) = B bs := by simp [byteCells, B]
    rw [e2, size_S] at this
    exact this
  | nil hU => exact Src.ofNil w hU _
  | zero hU => exact Src.ofSlice w hU _ 0 _ [] (by simp) (fun j u hj => by simp at hj) (fun u hu => by cases hu)
  | @blk e e' g off n cap l vs fr hU hm hc h1 =>
    refine Src.ofSlice w hU _ _ _ _ ?_ ?_ h1
    · have := congrArg List.length hc.eq
      have h2 := hc.le
      simp at this; omega
    · intro j u hj
      rw [add_addr, cell_of (hs.mem hm)]
      rw [hc.eq] at hj
      have hlt := (List.getElem?_eq_some_iff.1 hj).1
      simp at hlt
      rw [List.getElem?_take_of_lt (by omega), List.getElem?_drop] at hj
      exact hj

/-- A slice from its block's begin, its elements' cells, its blocks. -/
inductive Osl (e : TypeId) (sz : Nat) : Value → Nat → List Value → HP → Prop where
  | nil : Osl e sz (.slice none 0 0) 0 [] []
  | own {g n cap lo hi : Nat} {xs rest : List Value} (h1 : xs.length = n * sz) (h2 : rest.length = (cap - n) * sz) (h3 : n ≤ cap) (h4 : cap < 9223372036854775808) (h5 : cap * sz ≤ lo ∨ hi = 0) : Osl e sz (.slice (some ⟨g, 0, none⟩) n cap) n xs [(g, .cells (xs ++ rest).toArray e (lo, hi))]

theorem setCells_get : ∀ (vs : List Value) (w : World) (g off : Nat) (l : List Value) (e : TypeId) (fr : Nat × Nat), w.heap[g]? = some (.cells l.toArray e fr) → off + vs.length ≤ l.length →
    (w.setCells g off vs).heap[g]? = some (.cells (l.take off ++ vs ++ l.drop (off + vs.length)).toArray e fr) ∧ (∀ j, j ≠ g → (w.setCells g off vs).heap[j]? = w.heap[j]?) ∧ (w.setCells g off vs).os = w.os ∧ (w.setCells g off vs).tape = w.tape ∧ (w.setCells g off vs).output = w.output ∧ (w.setCells g off vs).heap.size = w.heap.size := by
  intro vs
  induction vs with
  | nil => intro w g off l e fr h hl; exact ⟨by simpa [World.setCells] using h, fun _ _ => rfl, rfl, rfl, rfl, rfl⟩
  | cons v vs ih =>
    intro w g off l e fr h hl
    simp only [List.length_cons] at hl
    obtain ⟨e2, e3, e4, e5, e6, e7⟩ := ih (w.setCell ⟨g, off, none⟩ v) g (off + 1) (l.set off v) e fr (heap_set_same v h) (by simp; omega)
    refine ⟨?_, fun j hj => (e3 j hj).trans (heap_set_other v hj), e4, e5, e6, by rw [World.setCells, e7]; simp⟩
    rw [World.setCells, e2]
    congr 3
    have hlt : off < l.length := by omega
    rw [List.take_set, List.drop_set_of_lt (by omega)]
    rw [List.take_succ_eq_append_getElem hlt, List.set_append_right _ _ (by simp; omega)]
    simp [Nat.min_eq_left (Nat.le_of_lt hlt)]
    omega

theorem Osl.open_ {sz : Nat} {xs : List Value} {HB : HP} (h : Osl e sz v n xs HB) (hn : 0 < n) : ∃ g cap rest lo hi, v = .slice (some ⟨g, 0, none⟩) n cap ∧ HB = [(g, .cells (xs ++ rest).toArray e (lo, hi))] ∧ xs.length = n * sz ∧ rest.length = (cap - n) * sz ∧ n ≤ cap ∧ cap < 9223372036854775808 ∧ (cap * sz ≤ lo ∨ hi = 0) := by
  cases h with
  | nil => cases hn
  | own h1 h2 h3 h4 h5 => exact ⟨_, _, _, _, _, rfl, rfl, h1, h2, h3, h4, h5⟩
theorem Osl.len {sz : Nat} {xs : List Value} {HB : HP} (h : Osl e sz v n xs HB) : xs.length = n * sz := by
  cases h with
  | nil => simp
  | own h1 h2 h3 h4 h5 => exact h1

/-- append: the result is a slice whose elements' cells are the old ones and then the new ones; the old block is not spoken of any more. -/
theorem l_append {sz : Nat} {i : TypeInfo} {z : Value} {xs news : List Value} {HB Hr : HP} (hU : x.P.underlying t = some (.slice e)) (hI : x.P.info? e = some i) (hz : i.zero = some z) (hsz : i.size = sz) (hzs : z.cells.size = sz)
    (hN : Nat.blt d x.N = true) (hp : ev s p = some v) (hq : ev s q = some u) (ho : Osl e sz v n xs HB) (hsel : H.Perm (HB ++ Hr)) (hsv : Sv x H sz t' u m news) (hb : (n + m) * i.bytes ≤ 140737488355328) (h63 : n + m < 9223372036854775808) :
    Lo x s H ⟨some d, .call { callee := .builtin .append, args := #[p, q], argTypes := #[t, t'] }, ty, pos, af, gd⟩ (Y := Value × HP) (fun y => (d, y.1) :: s) (fun y => y.2 ++ Hr) (fun y => Osl e sz y.1 (n + m) (xs ++ news) y.2) :=
  l_gen (Y := Value × HP) (fun y => y.1) (fun y => y.2 ++ Hr) (fun y => Osl e sz y.1 (n + m) (xs ++ news) y.2) rfl hN (fun a w hs => by
    have hsrc := hsv.src hs
    rw [← hsz] at hsrc
    have hst := hs.perm hsel
    have hex : ∀ r w', (Builtin.append_ #[t, t'] ty #[v, u]).run x.P w = .ok r w' → (execOp a.eval ⟨some d, .call { callee := .builtin .append, args := #[p, q], argTypes := #[t, t'] }, ty, pos, af, gd⟩).run x.P w = .ok (.value r) w' := fun r w' hr => by
      simp [execOp, resolve, invoke, builtin, hs.eval hp, hs.eval hq, hr]
    have hnl : news.length = m * sz := by rw [← hsz]; exact hsrc.newsLen
    have grow : ∀ (A : Option Addr) (cap : Nat), v = .slice A n cap → cap < n + m → (Builtin.firstCells i.size n (.slice A n cap)).run x.P w.drew = .ok xs.toArray w.drew →
        ∃ w', ∃ y : Value × HP, (execOp a.eval ⟨some d, .call { callee := .builtin .append, args := #[p, q], argTypes := #[t, t'] }, ty, pos, af, gd⟩).run x.P w = .ok (.value y.1) w' ∧ Osl e sz y.1 (n + m) (xs ++ news) y.2 ∧ St x s (y.2 ++ Hr) a w' := fun A cap hv hg hold => by
      subst hv
      have hr := run_append_grow_src (P := x.P) w t t' ty e i z hU hI hz A n cap xs hold u m news hsrc hg (by omega) (growslice_fits hg hb)
      obtain ⟨c0, hc0⟩ : ∃ c0, grownCap w (n + m) cap e = n + m + c0 := by
        have : n + m ≤ grownCap w (n + m) cap e := by simp [grownCap, Question.cut]
        exact ⟨_, (Nat.add_sub_cancel' this).symm⟩
      have hc1 : n + m + c0 < 9223372036854775808 := by
        rw [← hc0]
        have := Nat.mod_lt (w.tape w.drawn (.appendCap (n + m) cap e)) (show 0 < 2 ^ 63 - (n + m) by omega)
        simp only [grownCap, Question.cut]; omega
      rw [hc0] at hr
      have hz0 : (Builtin.zeroCells z.cells (n + m + c0 - (n + m))).toList.length = c0 * sz := by simp [size_zeroCells, hzs]
      have hrow : (xs ++ news).toArray ++ Builtin.zeroCells z.cells (n + m + c0 - (n + m)) = ((xs ++ news) ++ (Builtin.zeroCells z.cells (n + m + c0 - (n + m))).toList).toArray := by
        apply Array.ext'; simp
      rw [hrow] at hr
      refine ⟨_, (.slice (some ⟨w.heap.size, 0, none⟩) (n + m) (n + m + c0), [(w.heap.size, _)]), hex _ _ hr, .own (lo := 0) (by simp [ho.len, hnl, Nat.add_mul]) (by rw [hz0]; congr 1; omega) (by omega) hc1 (.inr rfl), ?_⟩
      exact (hst.less (fun _ _ hv => hv) (List.sublist_append_right HB Hr)).newd _
    cases ho with
    | nil =>
      by_cases h0 : m = 0
      · subst h0
        have hnil : news = [] := List.length_eq_zero_iff.1 (by simpa using hnl)
        subst hnil
        refine ⟨w, (.slice none 0 0, []), hex _ _ ?_, by simpa using Osl.nil, hst⟩
        have hc := hsrc.cells
        have hl := hsrc.len
        rcases hsrc.kind with ⟨e', hk⟩ | hk <;> simp [Builtin.append_, run_underlying hU, run_underlying hk, sizeOf, typeInfo, hI, hl, hc]
      · exact grow none 0 rfl (by omega) (run_firstCells_none w.drew i.size 0 0 0)
    | @own g n cap lo hi xs rest h1 h2 h3 h4 h5 =>
      have hm : w.heap[g]? = some (.cells (xs ++ rest).toArray e (lo, hi)) := hst.heap (g, _) (.head _)
      by_cases hroom : n + m ≤ cap
      · have hlen : (xs ++ rest).length = cap * sz := by rw [List.length_append, h1, h2, ← Nat.add_mul]; congr 1; omega
        have hle : n * sz + m * sz ≤ cap * sz := by rw [← Nat.add_mul]; exact Nat.mul_le_mul_right _ hroom
        have hr := run_append_room_src (P := x.P) w t t' ty e i hU hI g 0 n cap u m news hsrc hroom (fun j hj => by
            rw [hsz, Nat.zero_add, cell_of hm, List.getElem?_eq_getElem (by rw [hlen]; omega)]; rfl)
          (fun j hj => frozen_of hm (by rw [hsz, Nat.zero_add]; omega))
        rw [hsz, Nat.zero_add] at hr
        obtain ⟨e2, e3, e4, e5, e6, e7⟩ := setCells_get news w g (n * sz) (xs ++ rest) e (lo, hi) hm (by rw [hlen]; omega)
        have hcut : (xs ++ rest).take (n * sz) ++ news ++ (xs ++ rest).drop (n * sz + news.length) = (xs ++ news) ++ rest.drop (m * sz) := by
          rw [← h1, List.take_left', List.drop_append, hnl]
          · simp
          · rfl
        rw [hcut] at e2
        refine ⟨_, (.slice (some ⟨g, 0, none⟩) (n + m) cap, [(g, .cells ((xs ++ news) ++ rest.drop (m * sz)).toArray e (lo, hi))]), hex _ _ hr, .own (by simp [h1, hnl, Nat.add_mul]) (by rw [List.length_drop, h2, ← Nat.sub_mul]; congr 1; omega) hroom h4 h5, ?_⟩
        exact hst.up UpB.head e2 e3 e4 e5 e6 e7
      · refine grow _ cap rfl (by omega) ?_
        have := run_firstCells_some (P := x.P) w.drew i.size n ⟨g, 0, none⟩ n cap xs (by rw [hsz]; exact h1) (fun j u' hj => by
          rw [add_addr, Nat.zero_add, cell_of (hst.drew.heap (g, _) (.head _)), List.getElem?_append_left (List.getElem?_eq_some_iff.1 hj).1]; exact hj)
        exact this)
end
end Go.Sl
namespace Go.Sl
open Go

section
variable {x : Cx} {ops : Array Oper} {k : List KI} {rest : List Oper} {s : Slots} {H H' : HP}
variable {d : Nat} {p q c : Operand} {ty t t' : TypeId} {pos : String} {af : Array Edge} {gd : Option (Nat × Bool)} {v u r : Value} {g off n m : Nat} {l l' vs : List Value} {e : TypeId} {fr : Nat × Nat} {lo hi : Nat}

/-! ### copy, at elements of one cell -/
theorem Sv.first {a : Act} {w : World} (hs : St x s H a w) (h : Sv x H 1 t v n vs) {j : Nat} (hj : j ≤ n) : (Builtin.firstCells 1 j v).run x.P w = .ok (vs.take j).toArray w := by
  cases h with
  | @str bs hU h1 =>
    have := firstCells_string (P := x.P) ((⟨bs.toArray⟩ : ByteArray).extract 0 j) w
    simp only [Builtin.firstCells, Sem.run_pure]
    congr 1
    apply Array.ext'
    simp [B]
  | nil hU => simp at hj; subst hj; simp [Builtin.firstCells]
  | zero hU => simp at hj; subst hj; simp [Builtin.firstCells, loadCells, loadCellsFrom]
  | @blk e e' g off n cap l vs fr hU hm hc h1 =>
    have hle := hc.le
    simp only [Nat.mul_one] at hc hle
    have := run_loadCells (P := x.P) (hs.mem hm) (CutL.of (l := l) (i := off) (n := j) (by omega))
    simp only [Builtin.firstCells, Nat.mul_one, this]
    rw [hc.eq, List.take_take, Nat.min_eq_left hj]
theorem Sv.lenq {sz : Nat} (h : Sv x H sz t v n vs) (w : World) : (Builtin.lenOf v).run x.P w = .ok n w := by
  cases h with
  | str => simp [Builtin.lenOf, size_S]
  | nil => rfl
  | zero => rfl
  | blk => rfl
theorem Sv.newsLen {sz : Nat} (h : Sv x H sz t v n vs) : vs.length = n * sz := by
  cases h with
  | str hU h1 => subst h1; simp [B]
  | nil => simp
  | zero => simp
  | blk hU hm hc h1 =>
    have := congrArg List.length hc.eq
    have h2 := hc.le
    simp at this; omega
theorem Sv.one {sz : Nat} (h : Sv x H sz t v n vs) : ∀ u ∈ vs, u.oneCell' = true := by
  cases h with
  | str hU h1 => exact B_one _
  | nil => intro u hu; cases hu
  | zero => intro u hu; cases hu
  | blk hU hm hc h1 => exact h1
theorem l_copy {cap k' : Nat} (hU : ∀ w, (underlying t).run x.P w = .ok (.slice e) w) (hS : ∀ w, (sizeOf e).run x.P w = .ok 1 w) (hN : Nat.blt d x.N = true)
    (hp : ev s p = some (.slice (some ⟨g, off, none⟩) n cap)) (hq : ev s q = some u) (hsv : Sv x H 1 t' u m vs) (hk : Nat.min m n = k') (hu : UpB H g (.cells l.toArray e (lo, hi)) (.cells l'.toArray e (lo, hi)) H') (hs' : PutL l off (vs.take k') l') (hf : off + k' ≤ lo ∨ hi = 0) :
    Lo x s H ⟨some d, .call { callee := .builtin .copy, args := #[p, q], argTypes := #[t, t'] }, ty, pos, af, gd⟩ (Y := Unit) (fun _ => (d, .int .i64 k') :: s) (fun _ => H') (fun _ => True) :=
  l_gen (Y := Unit) (fun _ => .int .i64 k') (fun _ => H') (fun _ => True) rfl hN (fun a w hs => by
    have hh := hs.heap _ hu.mem
    have hle : k' ≤ m := by rw [← hk]; exact Nat.min_le_left _ _
    have hlen : (vs.take k').length = k' := by rw [List.length_take, hsv.newsLen, Nat.mul_one, Nat.min_eq_left hle]
    have hfst := hsv.first hs hle
    obtain ⟨w', e1, e2, e3, e4, e5, e6, e7⟩ := run_storeCells (P := x.P) (vs.take k') w 0 l (off := off) hh (by have := hs'.le; omega) (fun u hu => hsv.one u (List.mem_of_mem_take hu)) (fun j h1 h2 => by rw [hlen] at h2; omega)
    refine ⟨w', (), ?_, trivial, hs.up hu (by rw [hs'.eq]; simpa using e2) e3 e4 e5 e6 e7⟩
    simp only [execOp, resolve, invoke, builtin, Sem.run_bind, Sem.run_pure, Result.andThen_ok]
    simp [hs.eval hp, hs.eval hq, Builtin.copy_, hU, hS, hsv.lenq, hk, hfst, e1, goInt])
theorem e_copyn {A : Option Addr} {cap : Nat} (hU : ∀ w, (underlying t).run x.P w = .ok (.slice e) w) (hS : ∀ w, (sizeOf e).run x.P w = .ok 1 w)
    (hp : ev s p = some (.slice A n cap)) (hq : ev s q = some u) (hsv : Sv x H 1 t' u m vs) (hk : Nat.min m n = 0) : Ex x s H ⟨some d, .call { callee := .builtin .copy, args := #[p, q], argTypes := #[t, t'] }, ty, pos, af, gd⟩ (.int .i64 0) := fun a w hs => by
  have hfst := hsv.first hs (Nat.zero_le _)
  simp only [execOp, resolve, invoke, builtin, Sem.run_bind, Sem.run_pure, Result.andThen_ok]
  cases A <;> simp [hs.eval hp, hs.eval hq, Builtin.copy_, hU, hS, hsv.lenq, hk, hfst, goInt, storeCells]

/-! ### make -/
theorem l_mks {i : TypeInfo} {z : Value} {kl kc : IntKind} {a b : Int} (hU : x.P.underlying t = some (.slice e)) (hI : x.P.info? e = some i) (hz : i.zero = some z) (hN : Nat.blt d x.N = true) (hp : ev s p = some (.int kl a)) (hq : ev s q = some (.int kc b))
    (h0 : 0 ≤ a) (h1 : a ≤ b) (hb : (i.bytes : Int) * b ≤ 281474976710656) (h63 : b ≤ 9223372036854775807) (hl : madeCells z.cells (b.toNat * i.size) = l.toArray) :
    Lo x s H ⟨some d, .makeSlice t p q, ty, pos, af, gd⟩ (Y := Nat) (fun g => (d, .slice (some ⟨g, 0, none⟩) a.toNat b.toNat) :: s) (fun g => (g, C l e) :: H) (fun _ => True) :=
  l_new (fun g => .slice (some ⟨g, 0, none⟩) a.toNat b.toNat) rfl hN (fun ac w hs => by
    have hr := run_make (P := x.P) w t e i z hU hI hz kl kc a b h0 h1 hb h63
    rw [hl] at hr
    simp only [execOp, hs.eval hp, hs.eval hq, Sem.run_bind, hr, Result.andThen_ok, Sem.run_pure])
theorem made_one (z : Value) (n : Nat) (h : z.cells = #[z]) : madeCells z.cells (n * 1) = (List.replicate n z).toArray := by
  rw [h, Nat.mul_one]; apply Array.ext'; rw [toList_madeCells_one]
theorem made_none (z : Value) (n : Nat) : madeCells z.cells (0 * n) = [].toArray := by simp [madeCells]

/-! ### Structs -/
inductive Szs (P : Program) : List Field → List (Nat × Nat) → Prop where
  | nil : Szs P [] []
  | cons {f : Field} {fs : List Field} {n : Nat} {l : List (Nat × Nat)} : (∀ w, (sizeOf f.type).run P w = .ok n w) → Szs P fs l → Szs P (f :: fs) ((f.offset, n) :: l)
theorem Szs.run {P : Program} {fs : List Field} {l : List (Nat × Nat)} (h : Szs P fs l) (w : World) : ((fs.toArray).mapM fun f => (do pure (f.offset, ← sizeOf f.type) : Sem (Nat × Nat))).run P w = .ok l.toArray w := by
  rw [List.mapM_toArray]
  have : (fs.mapM fun f => (do pure (f.offset, ← sizeOf f.type) : Sem (Nat × Nat))).run P w = .ok l w := by
    induction h with
    | nil => rfl
    | cons h1 h2 ih =>
      simp only [List.mapM_cons, Sem.run_bind, h1, Result.andThen_ok, Sem.run_pure, ih]
  simp only [Sem.run_map, this, Result.andThen_ok]
/-- The parts' values. -/
def evp (s : Slots) : List (Nat × Operand) → Option (List (Nat × Value))
  | [] => some []
  | p :: l => (ev s p.2).bind fun v => (evp s l).map ((p.1, v) :: ·)
theorem evp_map {a : Act} {w : World} (hs : St x s H a w) : ∀ {l : List (Nat × Operand)} {vs : List (Nat × Value)}, evp s l = some vs → l.map (fun p => (p.1, a.eval p.2)) = vs := by
  intro l
  induction l with
  | nil => intro vs h; simp [evp] at h; subst h; rfl
  | cons p l ih =>
    intro vs h
    simp only [evp, Option.bind_eq_some_iff, Option.map_eq_some_iff] at h
    obtain ⟨v, hv, vs', hvs, rfl⟩ := h
    simp [hs.eval hv, ih hvs]
theorem e_build {fs : List Field} {pl : List (Nat × Nat)} {ps : List (Nat × Operand)} {pv : List (Nat × Value)} {z : Value} (hU : ∀ w, (underlying t).run x.P w = .ok (.struct fs.toArray) w) (hz : ∀ w, (zeroValue t).run x.P w = .ok z w) (hsz : Szs x.P fs pl)
    (hps : evp s ps = some pv) (hfill : Instr.fill (pl.toArray[·]?) z.cells pv = some vs.toArray) : Ex x s H ⟨some d, .build t ps.toArray, ty, pos, af, gd⟩ (.agg vs.toArray) := fun a w hs => by
  have := evp_map hs hps
  have hm : (ps.toArray.map fun (p : Nat × Operand) => (p.1, a.eval p.2)) = pv.toArray := by rw [← this]; simp
  have hr := hsz.run w
  simp only [execOp, Instr.build, Sem.run_bind, hz, hU, Result.andThen_ok, hr]
  rw [hm]
  simp only [hfill, Sem.run_pure, Result.andThen_ok]
theorem e_field {fs : Array Field} {f : Field} {i : Nat} {cs : Array Value} (hU : ∀ w, (underlying t).run x.P w = .ok (.struct fs) w) (hf : fs[i]? = some f) (hA : ∀ w, (isAgg f.type).run x.P w = .ok false w) (hp : ev s p = some (.agg cs)) (hv : cs[f.offset]? = some v) : Ex x s H ⟨some d, .field t p i, ty, pos, af, gd⟩ v := fun a w hs => by
  simp [execOp, hs.eval hp, Instr.field, hU, hf, part, hA, asAgg, hv]

/-! ### Closures, method values, functions of the machine -/
theorem e_func {fn : Fn} {fi ca : List Operand} {fv cv : List Value} (hf : evs s fi = some fv) (hc : evs s ca = some cv) : Ex x s H ⟨some d, .makeFunc fn fi.toArray ca.toArray, ty, pos, af, gd⟩ (.func fn fv.toArray cv.toArray) := fun a w hs => by
  have h1 := evs_map hs hf
  have h2 := evs_map hs hc
  simp [execOp, Instr.makeFunc, h1, h2]
theorem e_nilm {nm : String} {tv : TypeId} {cv : Array Value} (hn : ∀ w, (nilAhead (x.P.types.size + Made.depth) tv v nm).run x.P w = .ok (some false) w) (hp : ev s p = some (.func (.method nm) #[.iface tv v] cv)) :
    Ex x s H ⟨some d, .nilCheck p, ty, pos, af, gd⟩ (.func (.method nm) #[.iface tv v] cv) := fun a w hs => by
  simp [execOp, hs.eval hp, hn]
/-- A function for which the machine stands in and that leaves memory alone. -/
theorem e_ext {f : FuncId} {ps : List Operand} {ats : Array TypeId} (hps : evs s ps = some vs) (hx : ∀ w, (callFunc f vs.toArray).run x.P w = .ok (.value r) w) :
    Ex x s H ⟨some d, .call { callee := .value (.func f), args := ps.toArray, argTypes := ats }, ty, pos, af, gd⟩ r := fun a w hs => by
  have := evs_map hs hps
  simp [execOp, resolve, Act.eval, Deferred.ofValue, invoke, this, hx]
/-- The same, called through a slot. -/
theorem e_extc {f : FuncId} {ps : List Operand} {ats : Array TypeId} {cv : List Value} (hp : ev s p = some (.func (.func f) #[] cv.toArray)) (hps : evs s ps = some vs) (hx : ∀ w, (callFunc f (vs ++ cv).toArray).run x.P w = .ok (.value r) w) :
    Ex x s H ⟨some d, .call { callee := .value p, args := ps.toArray, argTypes := ats }, ty, pos, af, gd⟩ r := fun a w hs => by
  have := evs_map hs hps
  simp [execOp, resolve, hs.eval hp, Deferred.ofValue, invoke, this, hx]
/-- One that makes a block. -/
theorem l_extn {f : FuncId} {ps : List Operand} {ats : Array TypeId} {ob : Obj} (V : Nat → Value) (hN : Nat.blt d x.N = true) (hps : evs s ps = some vs) (hx : ∀ w, (callFunc f vs.toArray).run x.P w = .ok (.value (V w.heap.size)) (w.alloc ob)) :
    Lo x s H ⟨some d, .call { callee := .value (.func f), args := ps.toArray, argTypes := ats }, ty, pos, af, gd⟩ (Y := Nat) (fun g => (d, V g) :: s) (fun g => (g, ob) :: H) (fun _ => True) :=
  l_new V rfl hN (fun a w hs => by
    have := evs_map hs hps
    simp [execOp, resolve, Act.eval, Deferred.ofValue, invoke, this, hx])
/-- A method value, called. -/
theorem l_callm {f : FuncId} {args : List Value} {rv : Value} {nm : String} {HI HJ Hr : HP} {R : Value → HP → Prop} {ps : List Operand} {ats : Array TypeId} {tv : TypeId} (hf : ∀ az w, (callFunc f az).run x.P w = .ok (.enter f az) w)
    (hm : ∀ w, (method (x.P.types.size + Made.depth) tv v nm).run x.P w = .ok (f, rv) w) (hc : Ctr x.P f (rv :: args) (x.G ++ HJ) HI R)
    (hN : Nat.blt d x.N = true) (hp : ev s p = some (.func (.method nm) #[.iface tv v] #[])) (hps : evs s ps = some args) (hsel : Sel H HI Hr) (hj : ∀ p ∈ HJ, p ∈ Hr) :
    Lo x s H ⟨some d, .call { callee := .value p, args := ps.toArray, argTypes := ats }, ty, pos, af, gd⟩ (Y := Value × HP) (fun y => (d, y.1) :: s) (fun y => y.2 ++ Hr) (fun y => R y.1 y.2) :=
  l_calls hc rfl hN (fun a w hs => by
    have := evs_map hs hps
    simp [execOp, resolve, hs.eval hp, Deferred.ofValue, invoke, callMethod, this, hm, hf]) hsel hj

theorem e_ta {ok : Bool} {ti : TypeId} (hp : ev s p = some v) (hr : ∀ w, (Instr.typeAssert v t ti ok).run x.P w = .ok r w) : Ex x s H ⟨some d, .typeAssert p t ti ok, ty, pos, af, gd⟩ r := fun a w hs => by
  simp [execOp, hs.eval hp, hr]
theorem e_cap {A : Option Addr} {cap : Nat} (hU : ∀ w, (underlying t).run x.P w = .ok (.slice e) w) (hp : ev s p = some (.slice A n cap)) : Ex x s H ⟨some d, .call { callee := .builtin .cap, args := #[p], argTypes := #[t] }, ty, pos, af, gd⟩ (.int .i64 cap) := fun a w hs => by
  simp [execOp, resolve, invoke, builtin, hs.eval hp, Builtin.cap_, hU, goInt]
/-- A built-in function, whatever it is, that leaves memory alone. -/
theorem e_blt {b : Builtin} {ps : List Operand} {ats : Array TypeId} (hps : evs s ps = some vs) (hr : ∀ w, (builtin b ats ty (ps.toArray.map fun | .const _ => true | _ => false) vs.toArray).run x.P w = .ok (.value r) w) :
    Ex x s H ⟨some d, .call { callee := .builtin b, args := ps.toArray, argTypes := ats }, ty, pos, af, gd⟩ r := fun a w hs => by
  have := evs_map hs hps
  have h2 : Array.map a.eval ps.toArray = vs.toArray := by rw [← this]; simp
  simp only [execOp, resolve, Sem.run_bind, Sem.run_pure, Result.andThen_ok, invoke, h2]
  exact hr w
end
end Go.Sl
namespace Go.Sl
open Go

section
variable {x : Cx} {ops : Array Oper} {k : List KI} {rest : List Oper} {s : Slots} {H H' : HP}
variable {d : Nat} {p q c : Operand} {ty t t' : TypeId} {pos : String} {af : Array Edge} {gd : Option (Nat × Bool)} {v u r : Value} {g off n m : Nat} {l l' vs : List Value} {e : TypeId} {fr : Nat × Nat} {lo hi : Nat}
variable {kd : IntKind} {ps : List (Int × Value)} {a : Int} {kt et : TypeId} {J : List Nat → HP}

def ME (kd : IntKind) : Nat → List (Int × Value) → List MapEntry
  | _, [] => []
  | i, p :: l => { key := .int kd p.1, val := p.2, born := i } :: ME kd (i + 1) l
/-- A map from which nothing was ever taken. -/
def Mo (kd : IntKind) (ps : List (Int × Value)) : Obj := .map (ME kd 0 ps).toArray ps.length
def mget : List (Int × Value) → Int → Option Value
  | [], _ => none
  | p :: l, a => if a = p.1 then some p.2 else mget l a
def mset : List (Int × Value) → Int → Value → List (Int × Value)
  | [], a, v => [(a, v)]
  | p :: l, a, v => if a = p.1 then (a, v) :: l else p :: mset l a v
def mix : List (Int × Value) → Int → Option Nat
  | [], _ => none
  | p :: l, a => if a = p.1 then some 0 else (mix l a).map (· + 1)

theorem ME_length (i : Nat) : (ME kd i ps).length = ps.length := by
  induction ps generalizing i with
  | nil => rfl
  | cons p l ih => simp [ME, ih]
theorem ME_get (i j : Nat) : (ME kd i ps)[j]? = (ps[j]?).map fun p => { key := .int kd p.1, val := p.2, born := i + j } := by
  induction ps generalizing i j with
  | nil => simp [ME]
  | cons p l ih =>
    cases j with
    | zero => simp [ME]
    | succ j => simp [ME, ih]; congr 1; funext q; congr 1; omega
theorem find_ME (i j : Nat) : Instr.findNow (.int kd) (.int kd a) (ME kd i ps) j = some (match mix ps a, mget ps a with | some n, some v => some (j + n, v) | _, _ => none) := by
  induction ps generalizing i j with
  | nil => rfl
  | cons p l ih =>
    by_cases h : a = p.1
    · subst h; simp [ME, Instr.findNow, Instr.sameNow, mix, mget]
    · have h' : (a == p.1) = false := by simpa using h
      simp only [ME, Instr.findNow, Instr.sameNow, if_true, h', ih, mix, mget, if_neg h]
      cases mix l a <;> cases mget l a <;> simp <;> omega
theorem mix_get : mix ps a = none ↔ mget ps a = none := by
  induction ps with
  | nil => simp [mix, mget]
  | cons p l ih =>
    by_cases h : a = p.1
    · simp [mix, mget, h]
    · simp [mix, mget, h, ih]
theorem mget_some_mix {v : Value} (h : mget ps a = some v) : ∃ n, mix ps a = some n ∧ ∃ q, ps[n]? = some q ∧ q.1 = a ∧ q.2 = v := by
  induction ps with
  | nil => simp [mget] at h
  | cons p l ih =>
    by_cases hp : a = p.1
    · subst hp; simp [mget] at h; exact ⟨0, by simp [mix], p, by simp, rfl, h⟩
    · simp [mget, hp] at h
      obtain ⟨n, h1, q, h2, h3⟩ := ih h
      exact ⟨n + 1, by simp [mix, hp, h1], q, by simpa using h2, h3⟩
theorem mset_new (v : Value) (h : mget ps a = none) : mset ps a v = ps ++ [(a, v)] := by
  induction ps with
  | nil => rfl
  | cons p l ih =>
    by_cases hp : a = p.1
    · simp [mget, hp] at h
    · simp [mget, hp] at h; simp [mset, hp, ih h]
theorem mset_old (v : Value) {n : Nat} (h : mix ps a = some n) : mset ps a v = ps.set n (a, v) := by
  induction ps generalizing n with
  | nil => simp [mix] at h
  | cons p l ih =>
    by_cases hp : a = p.1
    · simp [mix, hp] at h; subst h; simp [mset, hp]
    · simp [mix, hp] at h
      obtain ⟨m, h1, rfl⟩ := h
      simp [mset, hp, ih h1]
theorem ME_append (i : Nat) (ps' : List (Int × Value)) : ME kd i (ps ++ ps') = ME kd i ps ++ ME kd (i + ps.length) ps' := by
  induction ps generalizing i with
  | nil => simp [ME]
  | cons p l ih => simp [ME, ih, Nat.add_comm, Nat.add_left_comm]
theorem ME_set (i n : Nat) (v : Value) {q : Int × Value} (hq : ps[n]? = some q) : ME kd i (ps.set n (a, v)) = (ME kd i ps).modify n (fun e => { e with key := .int kd a, val := v }) := by
  induction ps generalizing i n with
  | nil => simp at hq
  | cons p l ih =>
    cases n with
    | zero => simp [ME, List.modify]
    | succ n => simp [ME]; rw [ih _ _ (by simpa using hq)]

theorem run_checkKey_int {P : Program} {w : World} (b : Bool) (hK : ∀ w, (underlying kt).run P w = .ok (.int kd) w) (v : Value) : (Instr.checkKey b 10000 kt v).run P w = .ok () w := by
  have : ∃ n, (10000 : Nat) = n + 1 := ⟨9999, rfl⟩
  obtain ⟨n, hn⟩ := this
  rw [hn]
  simp only [Instr.checkKey, Sem.run_bind, hK, Result.andThen_ok]
  rfl
theorem getObj_of {P : Program} {w : World} {es : Array MapEntry} {cl : Nat} (h : w.heap[g]? = some (.map es cl)) : (getObj g).run P w = .ok (.map es cl) w := by
  simp [getObj, Sem.run, h]
theorem run_find_ME {P : Program} {w : World} (hK : ∀ w, (underlying kt).run P w = .ok (.int kd) w) : (Instr.findKey kt (.int kd a) (ME kd 0 ps).toArray.toList).run P w = .ok (match mix ps a, mget ps a with | some n, some v => some (n, v) | _, _ => none) w := by
  simp only [Instr.findKey, Sem.run_bind, hK, Result.andThen_ok, find_ME, Nat.zero_add, Sem.run_pure]

theorem l_mkmap (hN : Nat.blt d x.N = true) (kd : IntKind) : Lo x s H ⟨some d, .makeMap t none, ty, pos, af, gd⟩ (Y := Nat) (fun g => (d, .map (some g)) :: s) (fun g => (g, Mo kd []) :: H) (fun _ => True) :=
  l_new (fun g => .map (some g)) rfl hN (fun a w hs => by simp [execOp, Instr.makeMap, Mo, ME])
theorem e_lookup {z : Value} (hU : ∀ w, (underlying t).run x.P w = .ok (.map kt et) w) (hK : ∀ w, (underlying kt).run x.P w = .ok (.int kd) w) (hz : ∀ w, (zeroValue et).run x.P w = .ok z w)
    (hp : ev s p = some (.map (some g))) (hq : ev s q = some (.int kd a)) (hm : (g, Mo kd ps) ∈ H ∨ (g, Mo kd ps) ∈ x.G) : Ex x s H ⟨some d, .lookup t p q false, ty, pos, af, gd⟩ ((mget ps a).getD z) := fun ac w hs => by
  simp only [execOp, hs.eval hp, hs.eval hq, Instr.lookup, Sem.run_bind, hU, getObj_of (hs.mem hm), Result.andThen_ok, run_checkKey_int _ hK, run_find_ME hK, Sem.run_pure]
  cases h : mget ps a with
  | none => rw [mix_get.2 h]; simp [hz]
  | some v => obtain ⟨n, hn, _⟩ := mget_some_mix h; rw [hn]; simp
theorem e_lookup2 {z : Value} (hU : ∀ w, (underlying t).run x.P w = .ok (.map kt et) w) (hK : ∀ w, (underlying kt).run x.P w = .ok (.int kd) w) (hz : ∀ w, (zeroValue et).run x.P w = .ok z w)
    (hp : ev s p = some (.map (some g))) (hq : ev s q = some (.int kd a)) (hm : (g, Mo kd ps) ∈ H ∨ (g, Mo kd ps) ∈ x.G) : Ex x s H ⟨some d, .lookup t p q true, ty, pos, af, gd⟩ (.tuple #[(mget ps a).getD z, .bool (mget ps a).isSome]) := fun ac w hs => by
  simp only [execOp, hs.eval hp, hs.eval hq, Instr.lookup, Sem.run_bind, hU, getObj_of (hs.mem hm), Result.andThen_ok, run_checkKey_int _ hK, run_find_ME hK, Sem.run_pure]
  cases h : mget ps a with
  | none => rw [mix_get.2 h]; simp [hz]
  | some v => obtain ⟨n, hn, _⟩ := mget_some_mix h; rw [hn]; simp
theorem setObj_of {P : Program} {w : World} {es : Array MapEntry} {cl : Nat} (h : w.heap[g]? = some (.map es cl)) (o : Obj) : (setObj g o).run P w = .ok () { w with heap := w.heap.setIfInBounds g o } := by
  simp [setObj, Sem.run, h]
theorem St.setObj {ac : Act} {w : World} {o o' : Obj} (hs : St x s H ac w) (hu : UpB H g o o' H') : St x s H' ac { w with heap := w.heap.setIfInBounds g o' } := by
  have hlt : g < w.heap.size := (Array.getElem?_eq_some_iff.1 (hs.heap _ hu.mem)).1
  refine hs.up hu ?_ ?_ rfl rfl rfl (by simp)
  · simp [hlt]
  · intro j hj
    simp only
    rw [Array.getElem?_setIfInBounds_ne (Ne.symm hj)]
theorem sameBits_int (n : Nat) (b : Int) : Instr.sameBits n (.int kd b) (.int kd b) = true := by
  cases n <;> simp [Instr.sameBits]
theorem l_mapup (hU : ∀ w, (underlying t).run x.P w = .ok (.map kt et) w) (hK : ∀ w, (underlying kt).run x.P w = .ok (.int kd) w)
    (hp : ev s p = some (.map (some g))) (hq : ev s q = some (.int kd a)) (hc : ev s c = some v) (hu : UpB H g (Mo kd ps) (Mo kd (mset ps a v)) H') :
    Lo x s H ⟨none, .mapUpdate t p q c, ty, pos, af, gd⟩ (Y := Unit) (fun _ => s) (fun _ => H') (fun _ => True) :=
  l_genu (Y := Unit) (fun _ => H') (fun _ => True) rfl (fun ac w hs => by
    refine ⟨_, (), ?_, trivial, hs.setObj hu⟩
    have hg := hs.heap _ hu.mem
    have hso := fun o => setObj_of (P := x.P) hg o
    simp only [execOp, hs.eval hp, hs.eval hq, hs.eval hc, Instr.mapUpdate, Sem.run_bind, hU, getObj_of hg, Mo, Result.andThen_ok, run_checkKey_int _ hK, run_find_ME hK]
    cases h : mget ps a with
    | none =>
      rw [mix_get.2 h]
      simp only [hso, Result.andThen_ok, Sem.run_pure]
      rw [mset_new v h, ME_append]
      simp [ME]
    | some v0 =>
      obtain ⟨n, hn, q', hq1, hq2, _⟩ := mget_some_mix h
      rw [hn]
      have hget : ((ME kd 0 ps).toArray[n]?).map (·.key) = some (.int kd a) := by
        simp [ME_get, hq1, hq2]
      simp only [hget, Option.getD_some, Instr.keyThatStays, sameBits_int, if_true, Sem.run_bind, Sem.run_pure, Result.andThen_ok, hso]
      rw [mset_old v hn, ME_set 0 n v hq1]
      simp)

/-! ### Going through a map -/
/-- An iterator over the map m that has n entries, seen those at these places. -/
def Io (m n : Nat) (seen : List Nat) : Obj := .mapIter (some m) n seen.toArray n
theorem l_range (hU : ∀ w, (underlying t).run x.P w = .ok (.map kt et) w) (hN : Nat.blt d x.N = true) (hp : ev s p = some (.map (some g))) (hm : (g, Mo kd ps) ∈ H ∨ (g, Mo kd ps) ∈ x.G) :
    Lo x s H ⟨some d, .range t p, ty, pos, af, gd⟩ (Y := Nat) (fun i => (d, .pointer (some ⟨i, 0, none⟩)) :: s) (fun i => (i, Io g ps.length []) :: H) (fun _ => True) :=
  l_new (fun i => .pointer (some ⟨i, 0, none⟩)) rfl hN (fun ac w hs => by
    simp only [execOp, hs.eval hp, Instr.range, Sem.run_bind, hU, getObj_of (hs.mem hm), Result.andThen_ok, Sem.run_pure, run_newObj]
    rfl)
theorem getIter_of {P : Program} {w : World} {a b c' d' : _} (h : w.heap[g]? = some (.mapIter a b c' d')) : (getObj g).run P w = .ok (.mapIter a b c' d') w := by
  simp [getObj, Sem.run, h]
theorem setIter_of {P : Program} {w : World} {a b c' d' : _} (h : w.heap[g]? = some (.mapIter a b c' d')) (o : Obj) : (setObj g o).run P w = .ok () { w with heap := w.heap.setIfInBounds g o } := by
  simp [setObj, Sem.run, h]
theorem mem_ME {i : Nat} {en : MapEntry} (h : en ∈ ME kd i ps) : ∃ j q, ps[j]? = some q ∧ en = { key := .int kd q.1, val := q.2, born := i + j } := by
  obtain ⟨j, hj⟩ := List.mem_iff_getElem?.1 h
  rw [ME_get] at hj
  cases hq : ps[j]? with
  | none => simp [hq] at hj
  | some q => simp [hq] at hj; exact ⟨j, q, hq, hj.symm⟩
theorem born_lt {i : Nat} {en : MapEntry} (h : en ∈ ME kd i ps) : en.born < i + ps.length := by
  obtain ⟨j, q, hq, rfl⟩ := mem_ME h
  have := (List.getElem?_eq_some_iff.1 hq).1
  simp; omega
/-- What a step comes to: some place not seen, or all are seen. -/
def stepV (kd : IntKind) (ps : List (Int × Value)) : Option Nat → Value
  | none => .tuple #[.bool false]
  | some i => match ps[i]? with
    | some q => .tuple #[.bool true, .int kd q.1, q.2]
    | none => undef
def stepOk (n : Nat) (seen : List Nat) : Option Nat → Prop
  | none => ∀ i, i < n → i ∈ seen
  | some i => i < n ∧ i ∉ seen
theorem l_next {it : Nat} {seen : List Nat} (hN : Nat.blt d x.N = true) (hp : ev s p = some (.pointer (some ⟨it, 0, none⟩))) (hm : (g, Mo kd ps) ∈ H ∨ (g, Mo kd ps) ∈ x.G) (hu : ∀ sn, UpB H it (Io g ps.length seen) (Io g ps.length sn) (J sn)) :
    Lo x s H ⟨some d, .next p false, ty, pos, af, gd⟩ (Y := Option Nat) (fun y => (d, stepV kd ps y) :: s) (fun y => J (match y with | none => seen | some i => seen ++ [i])) (stepOk ps.length seen) :=
  l_gen (Y := Option Nat) (stepV kd ps) _ (stepOk ps.length seen) rfl hN (fun ac w hs => by
    have hg := hs.mem hm
    have hi := hs.heap _ (hu seen).mem
    simp only [Mo] at hg
    simp only [Io] at hi
    have hold : ∀ x ∈ (ME kd 0 ps).toArray.toList, x.born < ps.length := fun en hen => by simpa using born_lt (i := 0) (by simpa using hen)
    rcases run_next_at (P := x.P) w ty it g ps.length ps.length seen.toArray (ME kd 0 ps).toArray ps.length hi hg hold (Nat.le_refl _) with ⟨h0, hr⟩ | ⟨en, hen, w1, hw1, hr⟩
    · refine ⟨w, none, ?_, ?_, ?_⟩
      · simp only [execOp, hs.eval hp, Sem.run_bind, hr, Result.andThen_ok, Sem.run_pure, stepV]
      · intro i hi'
        have hempty := Array.eq_empty_of_size_eq_zero h0
        unfold leftOf at hempty
        rw [Array.filter_eq_empty_iff] at hempty
        have hget := ME_get (kd := kd) (ps := ps) 0 i
        rw [List.getElem?_eq_getElem hi'] at hget
        have := hempty _ (by simpa using List.mem_of_getElem? hget)
        simpa using this
      · exact hs.up (hu seen) (by simpa [Io] using hi) (fun _ _ => rfl) rfl rfl rfl rfl
    · have hen' : en ∈ ME kd 0 ps ∧ en.born ∉ seen := by
        unfold leftOf at hen
        simpa using hen
      obtain ⟨j, q', hq', rfl⟩ := mem_ME hen'.1
      have hj := (List.getElem?_eq_some_iff.1 hq').1
      have hs1 : St x s H ac w1 := by
        rcases hw1 with rfl | rfl
        · exact hs
        · exact hs.drew
      have hs2 := hs1.setObj (hu (seen ++ [j]))
      have hob : Io g ps.length (seen ++ [j]) = Obj.mapIter (some g) ps.length (seen.toArray.push (0 + j)) ps.length := by simp [Io]
      rw [hob] at hs2
      refine ⟨_, some j, ?_, ⟨hj, by simpa using hen'.2⟩, hs2⟩
      simp only [execOp, hs.eval hp, Sem.run_bind, hr, Result.andThen_ok, Sem.run_pure, stepV, hq']
      rfl)
theorem born_nodup (i : Nat) : ((ME kd i ps).map (·.born)).Nodup := by
  induction ps generalizing i with
  | nil => simp [ME]
  | cons p l ih =>
    simp only [ME, List.map_cons, List.nodup_cons]
    refine ⟨fun h => ?_, ih _⟩
    obtain ⟨en, hen, hb⟩ := List.mem_map.1 h
    obtain ⟨j, q, hq, rfl⟩ := mem_ME hen
    simp at hb; omega
theorem e_entry {it j : Nat} {seen : List Nat} {q' : Int × Value} (hp : ev s p = some (.pointer (some ⟨it, 0, none⟩))) (hi : (it, Io g ps.length (seen ++ [j])) ∈ H ∨ (it, Io g ps.length (seen ++ [j])) ∈ x.G) (hm : (g, Mo kd ps) ∈ H ∨ (g, Mo kd ps) ∈ x.G) (hq : ps[j]? = some q') :
    Ex x s H ⟨some d, .entry p, ty, pos, af, gd⟩ (.tuple #[.int kd q'.1, q'.2]) := fun ac w hs => by
  have hget := ME_get (kd := kd) (ps := ps) 0 j
  rw [hq] at hget
  have h1 := hs.mem hi
  have h2 := hs.mem hm
  simp only [Io] at h1
  simp only [Mo] at h2
  have hr := run_entry_at (P := x.P) w it g ps.length seen.toArray (ME kd 0 ps).toArray ps.length { key := .int kd q'.1, val := q'.2, born := 0 + j } (by simpa using h1) h2 (by simpa using List.mem_of_getElem? hget) (by simpa using born_nodup 0)
  simp only [execOp, hs.eval hp, Sem.run_bind, hr, Result.andThen_ok, Sem.run_pure]
end
end Go.Sl
