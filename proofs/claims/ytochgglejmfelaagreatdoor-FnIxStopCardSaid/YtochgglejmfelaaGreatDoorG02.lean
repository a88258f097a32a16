/- The calculus, 9: runs whose values are known: contracts that tell all; slices with room behind them; The calculus, 10: one deferred closure that finds nothing to recover; The calculus, 11: what strings.Builder asks; The calculus, 12: regions that draw their order, in which loads come first and then stores; The calculus: short forms, their side conditions found by themselves. (A part of the proof of this: for every input laws.FnIxStop returns true and its arguments read as they did, the listed package variables being what the program lays.) -/
import Derived.Test.YtochgglejmfelaaGreatDoorG01
import Derived.Recover
import Derived.Lib.Builder
import Derived.Lib.UnsafeStr
import Derived.Lib.MakeNoZero
import Derived.KernelRfl
namespace Go.Sl
open Go

/-- A new block of which the first cells are told elsewhere: its number, how many elements it has room for, the other cells, its mark. -/
structure Tl where
  g : Nat
  cap : Nat
  rest : List Value
  lo : Nat
  hi : Nat
structure TlOk (sz n : Nat) (y : Tl) : Prop where
  rest : y.rest.length = (y.cap - n) * sz
  le : n ≤ y.cap
  lt : y.cap < 9223372036854775808
  mark : y.cap * sz ≤ y.lo ∨ y.hi = 0
/-- The block, its first cells these. -/
abbrev Ob (xs : List Value) (y : Tl) (e : TypeId) : Obj := .cells (xs ++ y.rest).toArray e (y.lo, y.hi)
theorem TlOk.len {sz n : Nat} {y : Tl} (h : TlOk sz n y) {xs : List Value} (hx : Nat.beq xs.length (n * sz) = true) : (xs ++ y.rest).length = y.cap * sz := by
  have := Nat.eq_of_beq_eq_true hx
  rw [List.length_append, this, h.rest, ← Nat.add_mul]
  congr 1
  have := h.le
  omega

section
variable {x : Cx} {ops : Array Oper} {k : List KI} {rest : List Oper} {s : Slots} {H H' : HP}
variable {d : Nat} {p q c : Operand} {ty t t' : TypeId} {pos : String} {af : Array Edge} {gd : Option (Nat × Bool)} {v u r : Value} {g off n m : Nat} {l l' vs : List Value} {e : TypeId} {fr : Nat × Nat} {lo hi : Nat}

/-- Lists put together, step by step. -/
inductive Cat : HP → HP → HP → Prop where
  | nil {K : HP} : Cat [] K K
  | cons {p : Nat × Obj} {H K L : HP} : Cat H K L → Cat (p :: H) K (p :: L)
inductive CatV : List Value → List Value → List Value → Prop where
  | nil {K : List Value} : CatV [] K K
  | cons {p : Value} {H K L : List Value} : CatV H K L → CatV (p :: H) K (p :: L)
theorem Cat.eq {H K L : HP} (h : Cat H K L) : H ++ K = L := by
  induction h with
  | nil => rfl
  | cons _ ih => simp [ih]
theorem CatV.eq {H K L : List Value} (h : CatV H K L) : H ++ K = L := by
  induction h with
  | nil => rfl
  | cons _ ih => simp [ih]
theorem o_cat {K L : HP} (h : Cat H K L) (hw : WO x ops k rest s L) : WO x ops k rest s (H ++ K) := h.eq ▸ hw
theorem d_cat {K L HS : HP} {fuel : Nat} {ls : Array Bool} (h : Cat H K L) (hw : DO x ops k HS fuel ls s L) : DO x ops k HS fuel ls s (H ++ K) := h.eq ▸ hw

/-- []byte(s). -/
theorem l_sbc {bs : List UInt8} {L : List Value} (hU : x.P.underlying t = some .string) (hU' : x.P.underlying t' = some (.slice e)) (hU8 : x.P.underlying e = some (.int .u8)) (hN : Nat.blt d x.N = true) (hp : ev s p = some (S bs)) (hb : Nat.ble bs.length 4611686018427387904 = true) (hn : bs.length = n) (hL : B bs = L) :
    Lo x s H ⟨some d, .convert t t' p, ty, pos, af, gd⟩ (Y := Tl) (fun y => (d, .slice (some ⟨y.g, 0, none⟩) n y.cap) :: s) (fun y => (y.g, Ob L y e) :: H) (TlOk 1 n) :=
  l_gen (Y := Tl) (fun y => .slice (some ⟨y.g, 0, none⟩) n y.cap) _ (TlOk 1 n) rfl hN (fun a w hs => by
    subst hL; subst hn
    have hb' : bs.length ≤ 4611686018427387904 := by simpa using hb
    have hr := run_bytes_of_string (P := x.P) w t t' e ⟨bs.toArray⟩ hU hU' hU8
    have hsz : (⟨bs.toArray⟩ : ByteArray).size = bs.length := size_S bs
    have hge : bs.length ≤ grownCap w bs.length 0 e := by simp [grownCap, Question.cut]
    have hlt : grownCap w bs.length 0 e < 9223372036854775808 := by
      have := Nat.mod_lt (w.tape w.drawn (.appendCap bs.length 0 e)) (show 0 < 2 ^ 63 - bs.length by omega)
      simp only [grownCap, Question.cut]; omega
    obtain ⟨c0, hc0⟩ : ∃ c0, grownCap w bs.length 0 e = bs.length + c0 := ⟨_, (Nat.add_sub_cancel' hge).symm⟩
    have hrow : bytesRow ⟨bs.toArray⟩ (bs.length + c0) = (B bs ++ List.replicate c0 (Value.int .u8 0)).toArray := by
      apply Array.ext'
      simp [bytesRow, B, hsz]
    have e2 : (B bs ++ List.replicate c0 (Value.int .u8 0)).toArray.size = bs.length + c0 := by simp [B]
    rw [hc0] at hlt
    rw [hsz, hc0, hrow, e2] at hr
    refine ⟨_, ⟨w.heap.size, bs.length + c0, List.replicate c0 (Value.int .u8 0), bs.length + c0, bs.length + c0 + 1⟩, ?_, ⟨by simp, by simp, hlt, .inl (by simp)⟩, hs.newd _⟩
    simp only [execOp, hs.eval hp, Sem.run_bind, hr, Result.andThen_ok, Sem.run_pure])

/-- append to nothing. -/
theorem l_app0 {sz : Nat} {i : TypeInfo} {z : Value} (hU : x.P.underlying t = some (.slice e)) (hI : x.P.info? e = some i) (hz : i.zero = some z) (hsz : i.size = sz) (hzs : z.cells.size = sz)
    (hN : Nat.blt d x.N = true) (hp : ev s p = some (.slice none 0 0)) (hq : ev s q = some u) (hsv : Sv x H sz t' u m vs) (h0 : Nat.blt 0 m = true) (hb : Nat.ble (m * i.bytes) 140737488355328 = true) (h63 : Nat.blt m 9223372036854775808 = true) :
    Lo x s H ⟨some d, .call { callee := .builtin .append, args := #[p, q], argTypes := #[t, t'] }, ty, pos, af, gd⟩ (Y := Tl) (fun y => (d, .slice (some ⟨y.g, 0, none⟩) m y.cap) :: s) (fun y => (y.g, Ob vs y e) :: H) (TlOk sz m) := by
  have h0' : 0 < m := by simpa [Nat.blt_eq] using h0
  have h63' : m < 9223372036854775808 := by simpa [Nat.blt_eq] using h63
  have hL := l_append (x := x) (s := s) (H := H) (ty := ty) (pos := pos) (af := af) (gd := gd) (n := 0) (HB := []) (Hr := H) hU hI hz hsz hzs hN hp hq .nil (.refl _) hsv (by simpa using hb) (by simpa using h63')
  intro a w hs K Q hK
  refine hL a w hs K Q (fun y a' w' hA hst => ?_)
  obtain ⟨g, cap, rest, lo, hi, h1, h2, h3, h4, h5, h6, h7⟩ := hA.open_ (by omega)
  simp only [Nat.zero_add, List.nil_append] at h1 h2 h3 h4 h5
  obtain ⟨y1, y2⟩ := y
  simp only at h1 h2 hst
  subst h1; subst h2
  exact hK ⟨g, cap, rest, lo, hi⟩ a' w' ⟨h4, h5, h6, h7⟩ hst
/-- append to a slice that begins where its block does. -/
theorem l_app {sz cap : Nat} {i : TypeInfo} {z : Value} {xs L : List Value} {H1 : HP} (hU : x.P.underlying t = some (.slice e)) (hI : x.P.info? e = some i) (hz : i.zero = some z) (hsz : i.size = sz) (hzs : z.cells.size = sz)
    (hN : Nat.blt d x.N = true) (hp : ev s p = some (.slice (some ⟨g, 0, none⟩) n cap)) (hq : ev s q = some u) (hr : Rem H (g, .cells l.toArray e (lo, hi)) H1) (hlen : l.length = cap * sz) (hle : n ≤ cap) (hlt : cap < 9223372036854775808) (hmk : cap * sz ≤ lo ∨ hi = 0)
    (hcut : CutL l 0 (n * sz) xs) (hsv : Sv x H sz t' u m vs) (hcat : CatV xs vs L) (h0 : Nat.blt 0 (n + m) = true) (hb : Nat.ble ((n + m) * i.bytes) 140737488355328 = true) (h63 : Nat.blt (n + m) 9223372036854775808 = true) (hnm : n + m = off) :
    Lo x s H ⟨some d, .call { callee := .builtin .append, args := #[p, q], argTypes := #[t, t'] }, ty, pos, af, gd⟩ (Y := Tl) (fun y => (d, .slice (some ⟨y.g, 0, none⟩) off y.cap) :: s) (fun y => (y.g, Ob L y e) :: H1) (TlOk sz off) := by
  subst hnm
  have h0' : 0 < n + m := by simpa [Nat.blt_eq] using h0
  have h63' : n + m < 9223372036854775808 := by simpa [Nat.blt_eq] using h63
  have hl : l = xs ++ l.drop (n * sz) := by rw [hcut.eq]; simp
  have hx : xs.length = n * sz := by rw [hcut.eq]; have := hcut.le; simp; omega
  have ho : Osl e sz (.slice (some ⟨g, 0, none⟩) n cap) n xs [(g, .cells l.toArray e (lo, hi))] := by
    rw [hl]
    exact .own hx (by rw [List.length_drop, hlen, Nat.sub_mul]) hle hlt hmk
  have hL := l_append (x := x) (s := s) (H := H) (ty := ty) (pos := pos) (af := af) (gd := gd) (Hr := H1) hU hI hz hsz hzs hN hp hq ho hr.perm hsv (by simpa using hb) h63'
  rw [hcat.eq] at hL
  intro a w hs K Q hK
  refine hL a w hs K Q (fun y a' w' hA hst => ?_)
  obtain ⟨g, cap, rest, lo, hi, h1, h2, h3, h4, h5, h6, h7⟩ := hA.open_ (by omega)
  obtain ⟨y1, y2⟩ := y
  simp only at h1 h2 hst
  subst h1; subst h2
  exact hK ⟨g, cap, rest, lo, hi⟩ a' w' ⟨h4, h5, h6, h7⟩ hst

/-! ### Contracts that tell all -/
/-- The result and the blocks, but for what is new of it. -/
def Tells {T : Type} (A : T → Prop) (V : T → Value) (HH : T → HP) (v : Value) (H' : HP) : Prop := ∃ y, A y ∧ v = V y ∧ H' = HH y
abbrev CtrE (P : Program) (f : FuncId) (args : List Value) (G H : HP) {T : Type} (A : T → Prop) (V : T → Value) (HH : T → HP) : Prop := Ctr P f args G H (Tells A V HH)
theorem lo_tells {o : Oper} {T : Type} {A : T → Prop} {V : T → Value} {HH : T → HP} {Hr : HP} (h : Lo x s H o (Y := Value × HP) (fun y => (d, y.1) :: s) (fun y => y.2 ++ Hr) (fun y => Tells A V HH y.1 y.2)) :
    Lo x s H o (Y := T) (fun y => (d, V y) :: s) (fun y => HH y ++ Hr) A := fun a w hs K Q hK =>
  h a w hs K Q (fun y a' w' hA hst => by
    obtain ⟨z, h1, h2, h3⟩ := hA
    obtain ⟨y1, y2⟩ := y
    simp only at h2 h3 hst
    subst h2; subst h3
    exact hK z a' w' h1 hst)
section
variable {T : Type} {A : T → Prop} {V : T → Value} {HH : T → HP} {HI Hr : HP} {args : List Value} {f : FuncId} {pl : List Operand} {ats : Array TypeId}
theorem l_calle (hf : ∀ az w, (callFunc f az).run x.P w = .ok (.enter f az) w) (hc : CtrE x.P f args x.G HI A V HH) (hN : Nat.blt d x.N = true) (hps : evs s pl = some args) (hsel : Sel H HI Hr) :
    Lo x s H ⟨some d, .call { callee := .value (.func f), args := pl.toArray, argTypes := ats }, ty, pos, af, gd⟩ (Y := T) (fun y => (d, V y) :: s) (fun y => HH y ++ Hr) A := lo_tells (l_call hf hc hN hps hsel)
theorem l_callce {cap : List Value} (hf : ∀ az w, (callFunc f az).run x.P w = .ok (.enter f az) w) (hc : CtrE x.P f (args ++ cap) x.G HI A V HH) (hN : Nat.blt d x.N = true) (hp : ev s p = some (.func (.func f) #[] cap.toArray)) (hps : evs s pl = some args) (hsel : Sel H HI Hr) :
    Lo x s H ⟨some d, .call { callee := .value p, args := pl.toArray, argTypes := ats }, ty, pos, af, gd⟩ (Y := T) (fun y => (d, V y) :: s) (fun y => HH y ++ Hr) A := lo_tells (l_callc (HJ := []) hf (by simpa using hc) hN hp hps hsel (by simp))
theorem l_callie {rv : Value} {nm : String} {tv : TypeId} (hf : ∀ az w, (callFunc f az).run x.P w = .ok (.enter f az) w) (hm : ∀ w, (method (x.P.types.size + Made.depth) tv v nm).run x.P w = .ok (f, rv) w) (hc : CtrE x.P f (rv :: args) x.G HI A V HH) (hN : Nat.blt d x.N = true) (hp : ev s p = some (.iface tv v)) (hps : evs s pl = some args) (hsel : Sel H HI Hr) :
    Lo x s H ⟨some d, .call { callee := .invoke p nm, args := pl.toArray, argTypes := ats }, ty, pos, af, gd⟩ (Y := T) (fun y => (d, V y) :: s) (fun y => HH y ++ Hr) A := lo_tells (l_calli (HJ := []) hf hm (by simpa using hc) hN hp hps hsel (by simp))
theorem l_callme {rv : Value} {nm : String} {tv : TypeId} (hf : ∀ az w, (callFunc f az).run x.P w = .ok (.enter f az) w) (hm : ∀ w, (method (x.P.types.size + Made.depth) tv v nm).run x.P w = .ok (f, rv) w) (hc : CtrE x.P f (rv :: args) x.G HI A V HH) (hN : Nat.blt d x.N = true) (hp : ev s p = some (.func (.method nm) #[.iface tv v] #[])) (hps : evs s pl = some args) (hsel : Sel H HI Hr) :
    Lo x s H ⟨some d, .call { callee := .value p, args := pl.toArray, argTypes := ats }, ty, pos, af, gd⟩ (Y := T) (fun y => (d, V y) :: s) (fun y => HH y ++ Hr) A := lo_tells (l_callm (HJ := []) hf hm (by simpa using hc) hN hp hps hsel (by simp))
end
end

/-- A type's row. -/
theorem info_of {P : Program} {t : TypeId} {i : TypeInfo} (h : ∀ w, (typeInfo t).run P w = .ok i w) : P.info? t = some i := by
  have h0 := h default
  unfold typeInfo at h0
  simp only [Sem.run_bind, run_program, Result.andThen] at h0
  cases hq : P.info? t with
  | none => rw [hq] at h0; simp at h0
  | some j => rw [hq] at h0; simp at h0; rw [h0]
theorem TlOk.nofr {sz n off : Nat} {y : Tl} (h : TlOk sz n y) (ho : Nat.blt off (n * sz) = true) : ¬ (y.lo ≤ off ∧ off < y.hi) := by
  have h1 : off < n * sz := by simpa [Nat.blt_eq] using ho
  have h2 : n * sz ≤ y.cap * sz := Nat.mul_le_mul_right _ h.le
  have := h.mark
  omega
theorem TlOk.nofrs {sz n off k : Nat} {y : Tl} (h : TlOk sz n y) (ho : Nat.ble (off + k) (n * sz) = true) : ∀ j, off ≤ j → j < off + k → ¬ (y.lo ≤ j ∧ j < y.hi) := by
  have h1 : off + k ≤ n * sz := by simpa using ho
  have h2 : n * sz ≤ y.cap * sz := Nat.mul_le_mul_right _ h.le
  have := h.mark
  intro j hj1 hj2
  omega
theorem TlOk.nofr' {sz n off k : Nat} {y : Tl} (h : TlOk sz n y) (ho : Nat.ble (off + k) (n * sz) = true) : off + k ≤ y.lo ∨ y.hi = 0 := by
  have h1 : off + k ≤ n * sz := by simpa using ho
  have h2 : n * sz ≤ y.cap * sz := Nat.mul_le_mul_right _ h.le
  have := h.mark
  omega
theorem nofr0 {off : Nat} : ¬ (0 ≤ off ∧ off < 0) := by omega
theorem nofrs0 {off k : Nat} : ∀ j, off ≤ j → j < off + k → ¬ (0 ≤ j ∧ j < 0) := by omega

section
variable {P : Program} {N : Nat} {w0 : World} {G H H1 Hr H0 : HP} {s : Slots} {k : List KI} {fn : Func} {T : Type} {A : T → Prop} {V : T → Value} {HH : T → HP} {x : Cx}
theorem WR.sel (hs : Sel H H1 Hr) (h : WR x k s H1) : WR x k s H := WR.perm hs.perm (WR.less (fun _ _ hv => hv) (List.sublist_append_left H1 Hr) h)
theorem WN.sel (hs : Sel H H1 Hr) (h : WN x k s H1) : WN x k s H := WN.perm hs.perm (WN.less (fun _ _ hv => hv) (List.sublist_append_left H1 Hr) h)
theorem tells {y : T} {v : Value} {H' : HP} (hA : A y) (hv : v = V y) (hh : H' = HH y) : Tells A V HH v H' := ⟨y, hA, hv, hh⟩
/-- The live slots alone. -/
theorem c_keep {s' : Slots} {c : Code} (hs : ∀ n v, lk s' n = some v → lk s n = some v) (h : WC x k c s' H) : WC x k c s H := WC.less hs (List.Sublist.refl _) h
theorem n_keep {s' : Slots} (hs : ∀ n v, lk s' n = some v → lk s n = some v) (h : WN x k s' H) : WN x k s H := WN.less hs (List.Sublist.refl _) h
/-- Results that lie in slots or in memory. -/
inductive Rs (x : Cx) (s : Slots) (H : HP) : List ResultVar → List Value → Prop where
  | nil : Rs x s H [] []
  | tmp {t : Nat} {v : Value} {l : List ResultVar} {vs : List Value} : lk s t = some v → Rs x s H l vs → Rs x s H (.tmp t :: l) (v :: vs)
  | cell {a : Nat} {t : TypeId} {g off : Nat} {c : List Value} {e : TypeId} {fr : Nat × Nat} {v : Value} {l : List ResultVar} {vs : List Value} : (∀ w, (isAgg t).run x.P w = .ok false w) → lk s a = some (.pointer (some ⟨g, off, none⟩)) →
      (g, .cells c.toArray e fr) ∈ H ∨ (g, Obj.cells c.toArray e fr) ∈ x.G → c[off]? = some v → Rs x s H l vs → Rs x s H (.cell a t :: l) (v :: vs)
  | cella {a n : Nat} {t : TypeId} {g off : Nat} {c us : List Value} {e : TypeId} {fr : Nat × Nat} {l : List ResultVar} {vs : List Value} : (∀ w, (isAgg t).run x.P w = .ok true w) → (∀ w, (sizeOf t).run x.P w = .ok n w) → lk s a = some (.pointer (some ⟨g, off, none⟩)) →
      (g, .cells c.toArray e fr) ∈ H ∨ (g, Obj.cells c.toArray e fr) ∈ x.G → CutL c off n us → Rs x s H l vs → Rs x s H (.cell a t :: l) (.agg us.toArray :: vs)
theorem Rs.run {a : Act} {w : World} {l : List ResultVar} {vs : List Value} (hst : St x s H a w) (h : Rs x s H l vs) : (l.mapM (resVar a.tmps)).run x.P w = .ok vs w := by
  induction h with
  | nil => simp [List.mapM_nil]
  | @tmp t v l vs hv _ ih =>
    have h1 : (resVar a.tmps (.tmp t)).run x.P w = .ok v w := by simp [resVar, hst.slots t v hv]
    simp only [List.mapM_cons, Sem.run_bind, h1, ih, Result.andThen_ok, Sem.run_pure]
  | @cell b t g off c e fr v l vs hA hp hm hv _ ih =>
    have h1 : (resVar a.tmps (.cell b t)).run x.P w = .ok v w := by
      simp only [resVar, Array.getD_eq_getD_getElem?, hst.slots b _ hp, Option.getD_some, asAddr, Sem.run_bind, Sem.run_pure, Result.andThen_ok, loadVar, hA, Bool.false_eq_true, if_false, run_load_of (hst.mem hm) hv]
    simp only [List.mapM_cons, Sem.run_bind, h1, ih, Result.andThen_ok, Sem.run_pure]
  | @cella b n t g off c us e fr l vs hA hS hp hm hv _ ih =>
    have h1 : (resVar a.tmps (.cell b t)).run x.P w = .ok (.agg us.toArray) w := by
      simp only [resVar, Array.getD_eq_getD_getElem?, hst.slots b _ hp, Option.getD_some, asAddr, Sem.run_bind, Sem.run_pure, Result.andThen_ok, loadVar, hA, hS, if_true, run_loadCells (hst.mem hm) hv]
    simp only [List.mapM_cons, Sem.run_bind, h1, ih, Result.andThen_ok, Sem.run_pure]
/-- One value for one result, a tuple for more. -/
def tupOf : List Value → Value
  | [v] => v
  | vs => .tuple vs.toArray
theorem tupOf_eq (vs : List Value) : (if h : vs.toArray.size = 1 then vs.toArray[0] else .tuple vs.toArray) = tupOf vs := by
  match vs with
  | [] => rfl
  | [v] => rfl
  | a :: b :: l => rfl
theorem r_fnx {R : Value → HP → Prop} {l : List ResultVar} {vs : List Value} {v : Value} (hl : fn.results = l.toArray) (hr : Rs ⟨P, N, w0, keys H0, [], G, bodyPost P fn (Post H0 R w0)⟩ s H l vs) (hsel : Sel H H1 Hr) (hv : tupOf vs = v) (hR : R v H1) :
    WR ⟨P, N, w0, keys H0, [], G, bodyPost P fn (Post H0 R w0)⟩ k s H :=
  r_any fun a w hst => ⟨hst.defers, v, by
    have h1 := hr.run hst
    have h0 : results fn a.tmps = (fn.results.mapM (resVar a.tmps) >>= fun vs => pure (if h : vs.size = 1 then vs[0] else .tuple vs)) := by
      unfold results
      congr 1
    rw [h0, hl, List.mapM_toArray]
    simp only [Sem.run_bind, Sem.run_map, h1, Result.andThen_ok, Sem.run_pure, tupOf_eq, hv],
    post_of (x := ⟨P, N, w0, keys H0, [], G, bodyPost P fn (Post H0 R w0)⟩) rfl ((hst.perm hsel.perm).less (fun _ _ hv => hv) (List.sublist_append_left H1 Hr)) hR⟩
end
end Go.Sl
namespace Go.Sl
open Go
section
variable {x : Cx} {ops : Array Oper} {k : List KI} {rest : List Oper} {s : Slots} {H H' H1 Hr H0 G : HP}
variable {d : Nat} {p q c : Operand} {ty t t' : TypeId} {pos : String} {af : Array Edge} {gd : Option (Nat × Bool)}
variable {P : Program} {N : Nat} {w0 : World} {fn : Func}

theorem fn_enterD {f : FuncId} {c : Code} {args : List Value} {R : Value → HP → Prop} (N : Nat)
    (hf : P.funcs[f]? = some fn) (hb : fn.body = some c) (hn : fn.ntmps = N) (ha : Nat.ble args.length N = true)
    (h : ∀ w0, WC ⟨P, N, w0, keys H, [], G, bodyPostD P fn (Post H R w0)⟩ [] c (zipSlots 0 args) H) : Ctr P f args G H R := by
  intro w hG hH hnd hap
  have ha' : args.length ≤ N := by simpa using ha
  refine calls_of_wp_defers hf hb (h w _ _ ?_)
  refine ⟨?_, rfl, ?_, hH, hG, hnd, hap, fun g hg => .inl hg, fun g hg => ⟨hG.lt hg, fun hk => hap g hk hg⟩, Fr.refl _ _⟩
  · simp [hn]; omega
  · intro n v hl
    obtain ⟨_, h2⟩ := lk_zipSlots _ _ _ _ hl
    simp only [Nat.sub_zero] at h2
    have hlt : n < args.length := (List.getElem?_eq_some_iff.1 h2).1
    show (args.toArray ++ Array.replicate (fn.ntmps - args.toArray.size) undef)[n]? = some v
    rw [Array.getElem?_append_left (by simpa using hlt)]
    simpa using h2
theorem o_defer {f : FuncId} {cap : Array Value} {Q : Exit → Act → World → Prop} {M : List Nat} (hp : ev s p = some (.func (.func f) #[] cap))
    (h : WO ⟨P, N, w0, M, [⟨.fn (.func f) cap, #[]⟩], G, Q⟩ ops k rest s H) : WO ⟨P, N, w0, M, [], G, Q⟩ ops k (⟨none, .defer { callee := .value p, args := #[], argTypes := #[] }, ty, pos, af, none⟩ :: rest) s H := fun a w hs => by
  refine wpList_step fun K hK => ?_
  rw [if_pos (by rfl)]
  unfold Oper.wp
  have hr : (execOp a.eval ⟨none, .defer { callee := .value p, args := #[], argTypes := #[] }, ty, pos, af, none⟩).run P w = .ok (.defer ⟨.fn (.func f) cap, #[]⟩) w := by
    simp [execOp, resolve, hs.eval hp, Deferred.ofValue]
  simp only [hr, Oper.upon]
  refine hK _ _ (h _ _ ?_)
  exact { size := hs.size, defers := by simp [Act.put, hs.defers], slots := hs.slots, heap := hs.heap, glob := hs.glob, nodup := hs.nodup, apart := hs.apart, own := hs.own, gown := hs.gown, fr := hs.fr }
/-- The deferred closure does nothing where nothing panics. -/
def Idle (P : Program) (f : FuncId) (cap : Array Value) : Prop := ∃ b, (∀ w, (invoke (.fn (.func f) cap) #[]).run P w = .ok (.enter f b) w) ∧ ∀ w, CallsD P f b .returning w fun e u' w' => (∃ v, e = .returned v) ∧ u' = .returning ∧ w' = w
theorem r_fnxD {f : FuncId} {cap : Array Value} {R : Value → HP → Prop} {l : List ResultVar} {vs : List Value} {v : Value} (hi : Idle P f cap) (hl : fn.results = l.toArray) (hr : Rs ⟨P, N, w0, keys H0, [⟨.fn (.func f) cap, #[]⟩], G, bodyPostD P fn (Post H0 R w0)⟩ s H l vs) (hsel : Sel H H1 Hr) (hv : tupOf vs = v) (hR : R v H1) :
    WR ⟨P, N, w0, keys H0, [⟨.fn (.func f) cap, #[]⟩], G, bodyPostD P fn (Post H0 R w0)⟩ k s H :=
  r_any fun a w hst => by
    obtain ⟨b, hi1, hi2⟩ := hi
    have h1 := hr.run hst
    have h0 : results fn a.tmps = (fn.results.mapM (resVar a.tmps) >>= fun vs => pure (if h : vs.size = 1 then vs[0] else .tuple vs)) := by
      unfold results
      congr 1
    have hres : (results fn a.tmps).run P w = .ok v w := by
      rw [h0, hl, List.mapM_toArray]
      simp only [Sem.run_bind, Sem.run_map, h1, Result.andThen_ok, Sem.run_pure, tupOf_eq, hv]
    have hpost := post_of (x := ⟨P, N, w0, keys H0, [⟨.fn (.func f) cap, #[]⟩], G, bodyPostD P fn (Post H0 R w0)⟩) (H0 := H0) rfl ((hst.perm hsel.perm).less (fun _ _ hv => hv) (List.sublist_append_left H1 Hr)) hR
    have hd : a.defers = [⟨.fn (.func f) cap, #[]⟩] := hst.defers
    show Leaves P fn a.tmps (Post H0 R w0) a.defers .returning w
    rw [hd]
    refine ⟨by simp, _, _, f, b, rfl, hi1 w, fun c cs hc => ?_⟩
    obtain ⟨e, u', w', fr, ⟨⟨ev, rfl⟩, rfl, rfl⟩, h3, h4, h5⟩ := hi2 w c cs hc
    exact ⟨.returned ev, .returning, w', fr, (show Leaves P fn a.tmps (Post H0 R w0) [] (settle .returning) w' from ⟨v, hres, hpost⟩), h3, h4, h5⟩
end
end Go.Sl
namespace Go.Sl
open Go
section
variable {x : Cx} {ops : Array Oper} {k : List KI} {rest : List Oper} {s : Slots} {H H' H1 : HP}
variable {d : Nat} {p q c : Operand} {ty t t' : TypeId} {pos : String} {af : Array Edge} {gd : Option (Nat × Bool)} {v u r : Value} {g off n m : Nat} {l l' vs : List Value} {e el : TypeId} {fr : Nat × Nat} {lo hi : Nat}

theorem shape_of {w : World} {g : Nat} {l : List Value} {e : TypeId} {fr : Nat × Nat} (h : w.heap[g]? = some (.cells l.toArray e fr)) : w.shape? g = some (e, l.length) := by
  simp [World.shape?, h]
theorem e_tou {j : TypeInfo} (hs1 : x.P.underlying t = some (.pointer el)) (hd1 : x.P.underlying t' = some .unsafePointer) (ht : x.P.info? el = some j) (hj : Nat.beq j.size 0 = false) (hp : ev s p = some (.pointer (some ⟨g, off, none⟩)))
    (hm : (g, .cells l.toArray e fr) ∈ H ∨ (g, Obj.cells l.toArray e fr) ∈ x.G) (ho : Nat.blt off l.length = true) : Ex x s H ⟨some d, .convert t t' p, ty, pos, af, gd⟩ (.pointer (some ⟨g, off, none⟩)) := fun a w hs => by
  have hj0 : j.size ≠ 0 := by intro h; rw [h] at hj; cases hj
  have := Lib.run_to_unsafe (P := x.P) w ⟨g, off, none⟩ hs1 hd1 ht hj0 (shape_of (hs.mem hm)) (by simpa [Nat.blt_eq] using ho)
  simp only [execOp, hs.eval hp, Sem.run_bind, this, Result.andThen_ok, Sem.run_pure]
theorem e_fromu {j : TypeInfo} (hs1 : x.P.underlying t = some .unsafePointer) (hd1 : x.P.underlying t' = some (.pointer el)) (ht : x.P.info? el = some j) (hp : ev s p = some (.pointer (some ⟨g, off, none⟩)))
    (hm : (g, .cells l.toArray e fr) ∈ H ∨ (g, Obj.cells l.toArray e fr) ∈ x.G) (hl : liesAt x.P x.P.depth e (l.length / x.P.cellsOf e) off el 1 = true) : Ex x s H ⟨some d, .convert t t' p, ty, pos, af, gd⟩ (.pointer (some ⟨g, off, none⟩)) := fun a w hs => by
  have := Lib.run_from_unsafe (P := x.P) w ⟨g, off, none⟩ hs1 hd1 ht (shape_of (hs.mem hm)) hl
  simp only [execOp, hs.eval hp, Sem.run_bind, this, Result.andThen_ok, Sem.run_pure]
theorem e_usd {A : Addr} {cap : Nat} (hp : ev s p = some (.slice (some A) n cap)) (hc : 0 < cap) : Ex x s H ⟨some d, .call { callee := .builtin .unsafeSliceData, args := #[p], argTypes := #[t] }, ty, pos, af, gd⟩ (.pointer (some A)) := fun a w hs => by
  have := Lib.run_unsafeSliceData_row (P := x.P) w #[t] ty A n cap (by omega)
  simp [execOp, resolve, invoke, builtin, hs.eval hp, this]
theorem freeze_facts {w : World} {fr : Nat × Nat} (h : w.heap[g]? = some (.cells l.toArray e fr)) : ∃ fr', (w.freeze ⟨g, 0, none⟩ n).heap[g]? = some (.cells l.toArray e fr') ∧ (∀ j, j ≠ g → (w.freeze ⟨g, 0, none⟩ n).heap[j]? = w.heap[j]?) ∧
    (w.freeze ⟨g, 0, none⟩ n).os = w.os ∧ (w.freeze ⟨g, 0, none⟩ n).tape = w.tape ∧ (w.freeze ⟨g, 0, none⟩ n).output = w.output ∧ (w.freeze ⟨g, 0, none⟩ n).heap.size = w.heap.size := by
  unfold World.freeze
  split
  · exact ⟨fr, h, fun _ _ => rfl, rfl, rfl, rfl, rfl⟩
  · obtain ⟨lo, hi⟩ := fr
    refine ⟨_, by simp only [Array.getElem?_modify, h, if_true, Option.map_some]; rfl, fun j hj => ?_, rfl, rfl, rfl, by simp⟩
    simp only [Array.getElem?_modify]
    rw [if_neg (Ne.symm hj)]
/-- Of the bytes nothing more is told. -/
theorem l_ustr {bs : List UInt8} (hU : x.P.underlying t = some (.pointer e)) (hc : x.P.cellsOf e = 1) (hN : Nat.blt d x.N = true) (hp : ev s p = some (.pointer (some ⟨g, 0, none⟩))) (hq : ev s q = some (.int .i64 n)) (hr : Rem H (g, .cells l.toArray e fr) H1) (hn : bs.length = n)
    (h0 : Nat.blt 0 n = true) (h63 : Nat.ble n 9223372036854775807 = true) (hcut : CutL l 0 n (B bs)) :
    Lo x s H ⟨some d, .call { callee := .builtin .unsafeString, args := #[p, q], argTypes := #[t, t'] }, ty, pos, af, gd⟩ (Y := Unit) (fun _ => (d, S bs) :: s) (fun _ => H1) (fun _ => True) :=
  l_gen (Y := Unit) (fun _ => S bs) (fun _ => H1) (fun _ => True) rfl hN (fun a w hs => by
    subst hn
    have h0' : 0 < bs.length := by simpa [Nat.blt_eq] using h0
    have h63' : bs.length ≤ 9223372036854775807 := by simpa using h63
    have hst := hs.perm hr.perm
    have hh : w.heap[g]? = some (.cells l.toArray e fr) := hst.heap (g, _) (.head _)
    have hle := hcut.le
    have hrun := Lib.run_unsafeString_row (P := x.P) w t t' ty e hU hc g l.length (shape_of hh) bs (by intro h; subst h; simp at h0') (by omega) h63' (fun j b hj => by
      rw [add_addr, Nat.zero_add, cell_of hh]
      have hlt := (List.getElem?_eq_some_iff.1 hj).1
      have := congrArg (fun z => z[j]?) hcut.eq
      simp only [List.drop_zero, List.getElem?_take_of_lt hlt] at this
      rw [← this]
      simp [B, hj])
    obtain ⟨fr', hfg, hfo, hf1, hf2, hf3, hf4⟩ := freeze_facts (n := bs.length) hh
    refine ⟨w.freeze ⟨g, 0, none⟩ bs.length, (), ?_, trivial, ?_⟩
    · simp [execOp, resolve, invoke, builtin, hs.eval hp, hs.eval hq, hrun]
    · exact (hst.up (UpB.head (o' := .cells l.toArray e fr')) hfg hfo hf1 hf2 hf3 hf4).less (fun _ _ hv => hv) (List.sublist_cons_self _ _))
theorem l_mnz {f : FuncId} {fn : Func} {ps : Array TypeId} {rt : TypeId} {ats : Array TypeId} (hf : x.P.funcs[f]? = some fn) (hname : (fn.name == "runtime.NumGoroutine") = false) (hb : fn.body.isNone = true) (hn : Extern.findNext fn = none) (hx : Extern.find fn = some (Extern.BytealgMakeNoZero.makeNoZero ps #[rt]))
    (ht : x.P.underlying rt = some (.slice e)) (hN : Nat.blt d x.N = true) (hp : ev s p = some (.int .i64 n)) (hle : Nat.ble n 281474976710656 = true) :
    Lo x s H ⟨some d, .call { callee := .value (.func f), args := #[p], argTypes := ats }, ty, pos, af, gd⟩ (Y := Tl) (fun y => (d, .slice (some ⟨y.g, 0, none⟩) n y.cap) :: s) (fun y => (y.g, Ob [] y e) :: H) (fun y => TlOk 1 0 y ∧ n ≤ y.cap) :=
  l_gen (Y := Tl) (fun y => .slice (some ⟨y.g, 0, none⟩) n y.cap) _ (fun y => TlOk 1 0 y ∧ n ≤ y.cap) rfl hN (fun a w hs => by
    have hle' : n ≤ 281474976710656 := by simpa using hle
    obtain ⟨cs, h1, h2, h3⟩ := Lib.run_makeNoZero (P := x.P) w ps rt e ht n hle'
    have h4 := h3 (by unfold maxLen; omega)
    unfold maxLen at h4
    refine ⟨w.drew.drew.alloc (.cells cs e), ⟨w.heap.size, cs.size, cs.toList, 0, 0⟩, ?_, ⟨⟨by simp, by simp, by simp only; omega, .inr rfl⟩, h2⟩, ?_⟩
    · have hr : (callFunc f #[.int .i64 n]).run x.P w = .ok (.value (.slice (some ⟨w.heap.size, 0, none⟩) n cs.size)) (w.drew.drew.alloc (.cells cs e)) := by
        rw [run_callFunc_extern hf hname hb hn hx, h1]; rfl
      have he : a.eval (.func f) = .func (.func f) #[] #[] := rfl
      simp [execOp, resolve, he, Deferred.ofValue, invoke, hs.eval hp, hr]
    · have := hs.drew.newd (.cells cs e)
      simpa [Ob] using this)
/-- A struct without fields: memory is not read. -/
theorem e_load0 {A : Addr} (hA : ∀ w, (isAgg t).run x.P w = .ok true w) (hS : ∀ w, (sizeOf t).run x.P w = .ok 0 w) (hp : ev s p = some (.pointer (some A))) : Ex x s H ⟨some d, .load t p, ty, pos, af, gd⟩ (.agg #[]) := fun a w hs => by
  simp only [execOp, hs.eval hp, Instr.loadAt, Instr.sureAddr, loadVar, Sem.run_bind, Sem.run_pure, Result.andThen_ok, hA, hS, if_true, loadCells, loadCellsFrom]
/-- A quiet operation, as a loud one. -/
theorem l_q {o : Oper} (hN : Nat.blt d x.N = true) (he : Ex x s H o v) (hd : o.dst = some d := by rfl) : Lo x s H o (Y := Unit) (fun _ => (d, v) :: s) (fun _ => H) (fun _ => True) := fun a w hs K Q hK => by
  unfold Oper.wp
  rw [he a w hs, Oper.upon_value, hd]
  exact hK () _ _ trivial (hs.put _ (by simpa [Nat.blt_eq] using hN))
theorem e_as {o : Oper} (he : Ex x s H o v) (h : v = r) : Ex x s H o r := h ▸ he

/-! ### Steps through a map that leave no choice; other makes of slices -/
variable {kd : IntKind} {ps : List (Int × Value)} {kt et : TypeId} {a : Int}
theorem next_run {it : Nat} {seen : List Nat} {ac : Act} {w : World} {o : Oper} (hs : St x s H ac w) (ho : o.op = .next p false) (hp : ev s p = some (.pointer (some ⟨it, 0, none⟩))) (hm : (g, Mo kd ps) ∈ H ∨ (g, Mo kd ps) ∈ x.G) (hi : (it, Io g ps.length seen) ∈ H) :
    (∀ i, i < ps.length → i ∈ seen) ∧ (execOp ac.eval o).run x.P w = .ok (.value (.tuple #[.bool false])) w ∨
    ∃ j q', ps[j]? = some q' ∧ j ∉ seen ∧ ∃ w1, (w1 = w ∨ w1 = w.drew) ∧ (execOp ac.eval o).run x.P w = .ok (.value (.tuple #[.bool true, .int kd q'.1, q'.2])) { w1 with heap := w1.heap.setIfInBounds it (Io g ps.length (seen ++ [j])) } := by
  have hg := hs.mem hm
  have hi := hs.heap _ hi
  simp only [Mo] at hg
  simp only [Io] at hi
  have hold : ∀ x ∈ (ME kd 0 ps).toArray.toList, x.born < ps.length := fun en hen => by simpa using born_lt (i := 0) (by simpa using hen)
  rcases run_next_at (P := x.P) w o.type it g ps.length ps.length seen.toArray (ME kd 0 ps).toArray ps.length hi hg hold (Nat.le_refl _) with ⟨h0, hr⟩ | ⟨en, hen, w1, hw1, hr⟩
  · refine .inl ⟨fun i hi' => ?_, ?_⟩
    · have hempty := Array.eq_empty_of_size_eq_zero h0
      unfold leftOf at hempty
      rw [Array.filter_eq_empty_iff] at hempty
      have hget := ME_get (kd := kd) (ps := ps) 0 i
      rw [List.getElem?_eq_getElem hi'] at hget
      have := hempty _ (by simpa using List.mem_of_getElem? hget)
      simpa using this
    · simp only [execOp, ho, hs.eval hp, Sem.run_bind, hr, Result.andThen_ok, Sem.run_pure]
  · have hen' : en ∈ ME kd 0 ps ∧ en.born ∉ seen := by
      unfold leftOf at hen
      simpa using hen
    obtain ⟨j, q', hq', rfl⟩ := mem_ME hen'.1
    refine .inr ⟨j, q', hq', by simpa using hen'.2, w1, hw1, ?_⟩
    have hob : Io g ps.length (seen ++ [j]) = Obj.mapIter (some g) ps.length (seen.toArray.push (0 + j)) ps.length := by simp [Io]
    simp only [execOp, ho, hs.eval hp, Sem.run_bind, hr, Result.andThen_ok, Sem.run_pure, hob]
    rfl
theorem l_next0 {it : Nat} {seen : List Nat} (hN : Nat.blt d x.N = true) (hp : ev s p = some (.pointer (some ⟨it, 0, none⟩))) (hm : (g, Mo kd ps) ∈ H ∨ (g, Mo kd ps) ∈ x.G) (hi : (it, Io g ps.length seen) ∈ H) (hall : (List.range ps.length).all (fun i => seen.contains i) = true) :
    Lo x s H ⟨some d, .next p false, ty, pos, af, gd⟩ (Y := Unit) (fun _ => (d, .tuple #[.bool false]) :: s) (fun _ => H) (fun _ => True) :=
  l_gen (Y := Unit) (fun _ => .tuple #[.bool false]) (fun _ => H) (fun _ => True) rfl hN (fun ac w hs => by
    rcases next_run (o := ⟨some d, .next p false, ty, pos, af, gd⟩) hs rfl hp hm hi with ⟨_, hr⟩ | ⟨j, q', hq, hj, _⟩
    · exact ⟨w, (), hr, trivial, hs⟩
    · have hlt := (List.getElem?_eq_some_iff.1 hq).1
      have := List.all_eq_true.1 hall j (by simpa using hlt)
      simp at this
      exact absurd this hj)
theorem l_next1 {it : Nat} {seen : List Nat} (j : Nat) {q' : Int × Value} (hN : Nat.blt d x.N = true) (hp : ev s p = some (.pointer (some ⟨it, 0, none⟩))) (hm : (g, Mo kd ps) ∈ H ∨ (g, Mo kd ps) ∈ x.G) (hu : UpB H it (Io g ps.length seen) (Io g ps.length (seen ++ [j])) H1)
    (hq : ps[j]? = some q') (hj : seen.contains j = false) (hall : (List.range ps.length).all (fun i => seen.contains i || i == j) = true) :
    Lo x s H ⟨some d, .next p false, ty, pos, af, gd⟩ (Y := Unit) (fun _ => (d, .tuple #[.bool true, .int kd q'.1, q'.2]) :: s) (fun _ => H1) (fun _ => True) :=
  l_gen (Y := Unit) (fun _ => .tuple #[.bool true, .int kd q'.1, q'.2]) (fun _ => H1) (fun _ => True) rfl hN (fun ac w hs => by
    rcases next_run (o := ⟨some d, .next p false, ty, pos, af, gd⟩) hs rfl hp hm hu.mem with ⟨hal, _⟩ | ⟨i, qi, hqi, hi, w1, hw1, hr⟩
    · have hlt := (List.getElem?_eq_some_iff.1 hq).1
      have := hal j hlt
      simp at hj
      exact absurd this hj
    · have hlt := (List.getElem?_eq_some_iff.1 hqi).1
      have h2 := List.all_eq_true.1 hall i (by simpa using hlt)
      simp [hi] at h2
      subst h2
      rw [hq] at hqi
      obtain rfl := Option.some.inj hqi
      have hs1 : St x s H ac w1 := by
        rcases hw1 with rfl | rfl
        · exact hs
        · exact hs.drew
      exact ⟨_, (), hr, trivial, hs1.setObj hu⟩)
theorem e_lenm (hU : ∀ w, (underlying t).run x.P w = .ok (.map kt et) w) (hp : ev s p = some (.map (some g))) (hm : (g, Mo kd ps) ∈ H ∨ (g, Mo kd ps) ∈ x.G) : Ex x s H ⟨some d, .call { callee := .builtin .len, args := #[p], argTypes := #[t] }, ty, pos, af, gd⟩ (.int .i64 ps.length) := fun ac w hs => by
  have := getObj_of (P := x.P) (hs.mem hm)
  simp [execOp, resolve, invoke, builtin, hs.eval hp, Builtin.len_, hU, this, goInt, ME_length]
/-- A slice literal. -/
theorem l_bs {z : Value} {n sz : Nat} {pl : List (Nat × Operand)} {pv : List (Nat × Value)} (hU : ∀ w, (underlying t).run x.P w = .ok (.slice e) w) (hS : ∀ w, (sizeOf e).run x.P w = .ok sz w) (hz : ∀ w, (zeroValue e).run x.P w = .ok z w) (hN : Nat.blt d x.N = true) (hps : evp s pl = some pv) (hn : Nat.blt 0 (n * sz) = true) (hn' : Nat.ble (n * sz) 16777216 = true)
    (hf : Instr.fill (fun i => some (i * sz, sz)) ((Array.range (n * sz)).map (z.cells[· % z.cells.size]!)) pv = some l.toArray) :
    Lo x s H ⟨some d, .buildSlice t n pl.toArray, ty, pos, af, gd⟩ (Y := Nat) (fun g => (d, .slice (some ⟨g, 0, none⟩) n n) :: s) (fun g => (g, C l e) :: H) (fun _ => True) :=
  l_new (fun g => .slice (some ⟨g, 0, none⟩) n n) rfl hN (fun a w hs => by
    have hn0 : 0 < n * sz := by simpa [Nat.blt_eq] using hn
    have hn1 : n * sz ≤ 16777216 := by simpa using hn'
    have h1 : ¬ (n * sz > 2 ^ 24) := by omega
    have h2 : ¬ (n * sz = 0) := by omega
    have hp := evp_map hs hps
    have hm : (pl.toArray.map fun (p : Nat × Operand) => (p.1, a.eval p.2)) = pv.toArray := by rw [← hp]; simp
    simp only [execOp, Instr.buildSlice, Sem.run_bind, hU, hS, Result.andThen_ok, if_neg h1, if_neg h2, hz, Sem.run_pure]
    rw [hm]
    simp only [hf, Result.andThen_ok, newRow, Sem.run_bind, run_newObj, Sem.run_pure]
    rfl)
theorem l_insert {v : Value} (hU : ∀ w, (underlying t).run x.P w = .ok (.map kt et) w) (hK : ∀ w, (underlying kt).run x.P w = .ok (.int kd) w)
    (hp : ev s p = some (.map (some g))) (hq : ev s q = some (.int kd a)) (hc : ev s c = some v) (hu : UpB H g (Mo kd ps) (Mo kd (mset ps a v)) H') :
    Lo x s H ⟨none, .insert t p q c, ty, pos, af, gd⟩ (Y := Unit) (fun _ => s) (fun _ => H') (fun _ => True) := fun ac w hs K Q hK' => l_mapup (ty := ty) (pos := pos) (af := af) (gd := gd) hU hK hp hq hc hu ac w hs K Q hK'
theorem hs_nil {L : HP} : ∀ p ∈ ([] : HP), p ∈ L := fun _ h => by cases h
theorem hs_cons {L K : HP} {q : Nat × Obj} (h : q ∈ L) (t : ∀ p ∈ K, p ∈ L) : ∀ p ∈ q :: K, p ∈ L := fun p hp => by
  rcases List.mem_cons.1 hp with rfl | hp
  · exact h
  · exact t p hp
theorem l_mksc {i : TypeInfo} {z : Value} {kl kc : IntKind} (hU : x.P.underlying t = some (.slice e)) (hI : x.P.info? e = some i) (hz : i.zero = some z) (hN : Nat.blt d x.N = true) (hp : ev s p = some (.int kl (n : Nat))) (hq : ev s q = some (.int kc (m : Nat)))
    (h1 : Nat.ble n m = true) (hb : Nat.ble (i.bytes * m) 281474976710656 = true) (h63 : Nat.ble m 9223372036854775807 = true) (hk : n ≤ m) (hl : madeCells z.cells (m * i.size) = l.toArray) :
    Lo x s H ⟨some d, .makeSlice t p q, ty, pos, af, gd⟩ (Y := Nat) (fun g => (d, .slice (some ⟨g, 0, none⟩) n m) :: s) (fun g => (g, C l e) :: H) (fun _ => True) := by
  have e1 : ((i.bytes * m : Nat) : Int) ≤ 281474976710656 := by
    have : i.bytes * m ≤ 281474976710656 := by simpa using hb
    omega
  rw [Int.natCast_mul] at e1
  have e2 : (m : Int) ≤ 9223372036854775807 := by
    have : m ≤ 9223372036854775807 := by simpa using h63
    omega
  have := l_mks (x := x) (s := s) (H := H) (d := d) (ty := ty) (pos := pos) (af := af) (gd := gd) hU hI hz hN hp hq (by omega) (by omega) e1 e2 (by simpa using hl)
  simpa using this
theorem l_bs0 {sz : Nat} (hU : ∀ w, (underlying t).run x.P w = .ok (.slice e) w) (hS : ∀ w, (sizeOf e).run x.P w = .ok sz w) (hN : Nat.blt d x.N = true) :
    Lo x s H ⟨some d, .buildSlice t 0 #[], ty, pos, af, gd⟩ (Y := Nat) (fun g => (d, .slice (some ⟨g, 0, none⟩) 0 0) :: s) (fun g => (g, C [] e) :: H) (fun _ => True) :=
  l_new (fun g => .slice (some ⟨g, 0, none⟩) 0 0) rfl hN (fun a w hs => by
    simp [execOp, Instr.buildSlice, hU, hS, Instr.fill, newRow, Array.range]
    congr 2
    exact Array.eq_empty_of_size_eq_zero (by simp))
theorem l_callcf {T : Type} {A : T → Prop} {V : T → Value} {HH : T → HP} {HI Hr : HP} {args cap full : List Value} {f : FuncId} {pl : List Operand} {ats : Array TypeId} (hf : ∀ az w, (callFunc f az).run x.P w = .ok (.enter f az) w) (hc : CtrE x.P f full x.G HI A V HH) (hN : Nat.blt d x.N = true) (hp : ev s p = some (.func (.func f) #[] cap.toArray)) (hps : evs s pl = some args) (hfull : args ++ cap = full) (hsel : Sel H HI Hr) :
    Lo x s H ⟨some d, .call { callee := .value p, args := pl.toArray, argTypes := ats }, ty, pos, af, gd⟩ (Y := T) (fun y => (d, V y) :: s) (fun y => HH y ++ Hr) A := l_callce hf (hfull ▸ hc) hN hp hps hsel

/-! ### Short names -/
theorem mv (hN : Nat.blt d x.N = true) (hp : ev s p = some v) (h : WO x ops k rest ((d, v) :: s) H) : WO x ops k (⟨some d, .move p, ty, pos, af, none⟩ :: rest) s H := o_e rfl rfl hN (e_move hp) h
theorem asg (hN : Nat.blt d x.N = true) (hp : ev s p = some v) (h : WO x ops k rest ((d, v) :: s) H) : WO x ops k (⟨some d, .assign p, ty, pos, af, none⟩ :: rest) s H := o_e rfl rfl hN (e_assign hp) h
theorem oe {op : Op} (hN : Nat.blt d x.N = true) (he : Ex x s H ⟨some d, op, ty, pos, af, none⟩ v) (h : WO x ops k rest ((d, v) :: s) H) : WO x ops k (⟨some d, op, ty, pos, af, none⟩ :: rest) s H := o_e rfl rfl hN he h
theorem oi {op : BinOp} {kd : IntKind} {a b : Int} (r : Value) (hN : Nat.blt d x.N = true) (hp : ev s p = some (.int kd a)) (hq : ev s q = some (.int kd b)) (hr : pint op kd a b = some r) (h : WO x ops k rest ((d, r) :: s) H) : WO x ops k (⟨some d, .binOp op t p q t', ty, pos, af, none⟩ :: rest) s H := o_e rfl rfl hN (e_int hp hq hr) h
/-- Indices that are natural numbers. -/
theorem e_ian {sz : Nat} {kd : IntKind} {i : Nat} {cap : Nat} (hU : ∀ w, (underlying t).run x.P w = .ok (.slice e) w) (hS : ∀ w, (sizeOf e).run x.P w = .ok sz w)
    (hp : ev s p = some (.slice (some ⟨g, off, none⟩) n cap)) (hq : ev s q = some (.int kd (i : Nat))) (h1 : i < n) : Ex x s H ⟨some d, .indexAddr t p q, ty, pos, af, gd⟩ (.pointer (some ⟨g, off + i * sz, none⟩)) := by
  have := e_ia (x := x) (s := s) (H := H) (d := d) (ty := ty) (pos := pos) (af := af) (gd := gd) hU hS hp hq (by omega) (by omega)
  simpa using this
theorem e_subN {m n : Nat} (hp : ev s p = some (.int .i64 (m : Nat))) (hq : ev s q = some (.int .i64 (n : Nat))) (h : n ≤ m ∧ m < 9223372036854775808) : Ex x s H ⟨some d, .binOp .sub t p q t', ty, pos, af, gd⟩ (.int .i64 ((m - n : Nat) : Int)) := by
  have := e_subn (x := x) (s := s) (H := H) (d := d) (ty := ty) (pos := pos) (af := af) (gd := gd) (t := t) (t' := t') hp hq (by simp only [inR]; omega)
  rw [Int.ofNat_sub h.1]
  exact this
theorem e_addN {m n : Nat} (hp : ev s p = some (.int .i64 (m : Nat))) (hq : ev s q = some (.int .i64 (n : Nat))) (h : m + n < 9223372036854775808) : Ex x s H ⟨some d, .binOp .add t p q t', ty, pos, af, gd⟩ (.int .i64 ((m + n : Nat) : Int)) := by
  have := e_addn (x := x) (s := s) (H := H) (d := d) (ty := ty) (pos := pos) (af := af) (gd := gd) (t := t) (t' := t') hp hq (by simp only [inR]; omega)
  exact this
theorem e_pred {m : Nat} (hp : ev s p = some (.int .i64 ((m + 1 : Nat) : Int))) (hq : ev s q = some (.int .i64 1)) (h : m < 9223372036854775807) : Ex x s H ⟨some d, .binOp .sub t p q t', ty, pos, af, gd⟩ (.int .i64 (m : Nat)) := by
  have := e_subN (x := x) (s := s) (H := H) (d := d) (ty := ty) (pos := pos) (af := af) (gd := gd) (t := t) (t' := t') (m := m + 1) (n := 1) hp hq (by omega)
  exact this
theorem l_callcq {f : FuncId} {args cap full : List Value} {HI HJ Hr : HP} {R : Value → HP → Prop} {pl : List Operand} {ats : Array TypeId} (hf : ∀ az w, (callFunc f az).run x.P w = .ok (.enter f az) w) (hc : Ctr x.P f full (x.G ++ HJ) HI R)
    (hN : Nat.blt d x.N = true) (hp : ev s p = some (.func (.func f) #[] cap.toArray)) (hps : evs s pl = some args) (hfull : args ++ cap = full) (hsel : Sel H HI Hr) (hj : ∀ p ∈ HJ, p ∈ Hr) :
    Lo x s H ⟨some d, .call { callee := .value p, args := pl.toArray, argTypes := ats }, ty, pos, af, gd⟩ (Y := Value × HP) (fun y => (d, y.1) :: s) (fun y => y.2 ++ Hr) (fun y => R y.1 y.2) := l_callc hf (hfull ▸ hc) hN hp hps hsel hj
theorem e_half {m : Nat} {kd kd' : IntKind} (hp : ev s p = some (.int kd (m : Nat))) (hq : ev s q = some (.int kd' 1)) : Ex x s H ⟨some d, .binOp .shr t p q t', ty, pos, af, gd⟩ (.int kd ((m / 2 : Nat) : Int)) := by
  have h := e_shr (x := x) (s := s) (H := H) (d := d) (ty := ty) (pos := pos) (af := af) (gd := gd) (t := t) (t' := t') hp hq (by omega)
  have h1 : min (1 : Int).toNat kd.bits = 1 := by cases kd <;> rfl
  rw [h1, Int.fdiv_eq_ediv_of_nonneg _ (by decide)] at h
  have h2 : ((m : Int) / 2 ^ 1) = ((m / 2 : Nat) : Int) := by omega
  rw [h2] at h
  exact h
theorem e_sub1 {m : Nat} (hp : ev s p = some (.int .i64 (m : Nat))) (hq : ev s q = some (.int .i64 1)) (h : 1 ≤ m ∧ m < 9223372036854775808) : Ex x s H ⟨some d, .binOp .sub t p q t', ty, pos, af, gd⟩ (.int .i64 ((m - 1 : Nat) : Int)) :=
  e_subN (n := 1) hp hq h
end
end Go.Sl
namespace Go.Sl
open Go
section
variable {P : Program} {ops : Array Oper} {Q : Exit → Act → World → Prop} {S S' : World → Prop} {L : List Nat}

/-- Until one of L comes up S holds; then S' does. -/
def wpTwo (P : Program) (ops : Array Oper) (Q : Exit → Act → World → Prop) (S S' : World → Prop) (L : List Nat) : Nat → Array Bool → Act → World → Prop
  | 0, done, a, _ => Region.ready .any ops done = [] ∧ ∀ w, Q .normal a w
  | f + 1, done, a, w => (Region.ready .any ops done = [] → Q .normal a w) ∧ ∀ n ∈ Region.ready .any ops done,
      (n ∈ L → wpOp P ops Q n (fun b u => S' u ∧ wpAnyH P .any ops Q S' f (done.setIfInBounds n true) b u) a w) ∧
      (n ∉ L → wpOp P ops Q n (fun b u => S u ∧ wpTwo P ops Q S S' L f (done.setIfInBounds n true) b u) a w)

theorem wpTwo.any : ∀ (f : Nat) (done : Array Bool) (a : Act) (w : World), wpTwo P ops Q S S' L f done a w → wpAny P .any ops Q f done a w := by
  intro f
  induction f with
  | zero => intro done a w h; exact ⟨h.1, h.2 w⟩
  | succ f ih =>
    intro done a w h
    refine ⟨h.1, fun n hn => ?_⟩
    by_cases hL : n ∈ L
    · exact wpOp_mono (fun b u k => wpAny_of_held f _ b u k.2) ((h.2 n hn).1 hL)
    · exact wpOp_mono (fun b u k => ih _ b u k.2) ((h.2 n hn).2 hL)

/-- Number j waits for number i, itself or by others that have not come up. -/
inductive Bl (ops : Array Oper) (done : Array Bool) (i : Nat) : Nat → Prop where
  | direct {j : Nat} {o : Oper} {e : Edge} : ops[j]? = some o → e ∈ o.after → Region.binds .any e = true → e.on = i → Bl ops done i j
  | step {j : Nat} {o : Oper} {e : Edge} : ops[j]? = some o → e ∈ o.after → Region.binds .any e = true → done.getD e.on true = false → Bl ops done i e.on → Bl ops done i j
theorem Bl.not_ready {done : Array Bool} {i j : Nat} (h : Bl ops done i j) (hi : done.getD i true = false) : j ∉ Region.ready .any ops done := fun hj => by
  obtain ⟨_, p, hp, hall⟩ := mem_ready.1 hj
  have hno : ∀ n, done.getD n true = false → done.getD n false = true → False := fun n h1 h2 => by
    rcases Nat.lt_or_ge n done.size with k | k
    · simp [k] at h1 h2; rw [h1] at h2; cases h2
    · simp [Array.getElem?_eq_none k] at h1
  cases h with
  | direct ho he hb heq =>
    obtain rfl := Option.some.inj (ho.symm.trans hp)
    exact hno i hi (heq ▸ hall _ he hb)
  | step ho he hb hd _ =>
    obtain rfl := Option.some.inj (ho.symm.trans hp)
    exact hno _ hd (hall _ he hb)
theorem Bl.set {done : Array Bool} {i j m : Nat} (h : Bl ops done i j) (hi : done.getD i true = false) (hm : m ∈ Region.ready .any ops done) : Bl ops (done.setIfInBounds m true) i j := by
  induction h with
  | direct ho he hb heq => exact .direct ho he hb heq
  | step ho he hb hd hB ih =>
    refine .step ho he hb ?_ ih
    rw [getD_set_ne true (fun he => hB.not_ready hi (by rw [← he]; exact hm))]
    exact hd
def blB (ops : Array Oper) (done : Array Bool) (i : Nat) : Nat → Nat → Bool
  | 0, _ => false
  | f + 1, j => match ops[j]? with
    | some o => o.after.any fun e => Region.binds .any e && (e.on == i || (!done.getD e.on true && blB ops done i f e.on))
    | none => false
theorem blB_spec {done : Array Bool} {i : Nat} : ∀ (f j : Nat), blB ops done i f j = true → Bl ops done i j := by
  intro f
  induction f with
  | zero => intro j h; cases h
  | succ f ih =>
    intro j h
    simp only [blB] at h
    split at h
    · rename_i o ho
      obtain ⟨e, he, hb⟩ := Array.any_eq_true'.1 h
      simp only [Bool.and_eq_true, Bool.or_eq_true, beq_iff_eq, Bool.not_eq_true'] at hb
      rcases hb.2 with h1 | h1
      · exact .direct ho he hb.1 h1
      · exact .step ho he hb.1 h1.1 (ih _ h1.2)
    · cases h
/-- All of L that have not come up wait for number i. -/
def waitL (ops : Array Oper) (done : Array Bool) (i : Nat) (L : List Nat) : Bool :=
  L.all fun j => done.getD j true || blB ops done i 4 j
theorem waitL_spec {done : Array Bool} {i j : Nat} (h : waitL ops done i L = true) (hj : j ∈ L) : done.getD j true = true ∨ Bl ops done i j := by
  have := List.all_eq_true.1 h j hj
  rw [Bool.or_eq_true] at this
  exact this.imp id (blB_spec _ _)

theorem wpTwo.first {i : Nat} {o : Oper} {v : Value} (hi : ops[i]? = some o) (hsel : ∀ (j : Nat) (p : Oper) cs b, ops[j]? = some p → p.op ≠ .select cs b)
    (hQ : ∀ c a w, Q (.panic c) (a.put o.dst v) w → Q (.panic c) a w) (hiL : i ∉ L) : ∀ (f : Nat) (done : Array Bool) (a : Act) (w : World),
      (∀ j p, ops[j]? = some p → j ≠ i → done.getD j true = false → (∀ e ∈ p.after, Region.binds .any e = true → e.on ≠ i) → o.apart ops p = true) → (∀ j ∈ L, done.getD j true = true ∨ Bl ops done i j) →
      i ∈ Region.ready .any ops done → YieldsIf P ops S o v a → S w → wpTwo P ops Q S S' L f (done.setIfInBounds i true) (a.put o.dst v) w → wpTwo P ops Q S S' L (f + 1) done a w := by
  intro f
  induction f with
  | zero =>
    intro done a w _ _ hr hy hS H
    refine ⟨fun h => (by rw [h] at hr; cases hr), fun j hj => ⟨fun hL => ?_, fun _ => ?_⟩⟩ <;> by_cases e : j = i
    · subst e; exact absurd hL hiL
    · have := ready_mono hj e; rw [H.1] at this; cases this
    · subst e; exact hy.wpOp hi hS ⟨hS, H⟩
    · have := ready_mono hj e; rw [H.1] at this; cases this
  | succ f ih =>
    intro done a w hfree hBl hr hy hS H
    refine ⟨fun h => (by rw [h] at hr; cases hr), fun j hj => ?_⟩
    by_cases e : j = i
    · subst e; exact ⟨fun hL => absurd hL hiL, fun _ => hy.wpOp hi hS ⟨hS, H⟩⟩
    · obtain ⟨hun, p, hp, hall⟩ := mem_ready.1 hj
      have hwait : ∀ e ∈ p.after, Region.binds .any e = true → e.on ≠ i := fun q hq hb he => by
        have k1 := hall q hq hb
        have k2 := (mem_ready.1 hr).1
        rw [he] at k1
        rcases Nat.lt_or_ge i done.size with k | k
        · simp [k] at k1 k2; rw [k2] at k1; cases k1
        · simp [Array.getElem?_eq_none k] at k1
      have hap := hfree j p hp e hun hwait
      have hi0 := (mem_ready.1 hr).1
      have hjL : j ∉ L := fun hL => by
        rcases hBl j hL with h1 | h1
        · rw [hun] at h1; cases h1
        · exact h1.not_ready hi0 hj
      refine ⟨fun hL => absurd hL hjL, fun _ => ?_⟩
      have k2 := wpOp_putIf hp hap (fun cs b => hsel i o cs b hi) (fun cs b => hsel j p cs b hp) hQ hy ((H.2 j (ready_mono hj e)).2 hjL)
      refine wpOp_mono (fun b u k3 => ⟨k3.2.1, ih (done.setIfInBounds j true) b u ?_ ?_ (ready_mono hr (Ne.symm e)) k3.1 k3.2.1 ?_⟩) k2
      · intro m q hq hmi hum hno
        refine hfree m q hq hmi ?_ hno
        by_cases hjm : j = m
        · subst hjm; exact hun
        · rwa [getD_set_ne true hjm] at hum
      · intro m hm
        rcases hBl m hm with h1 | h1
        · left
          by_cases hjm : j = m
          · subst hjm; exact absurd hm hjL
          · rwa [getD_set_ne true hjm]
        · exact .inr (h1.set hi0 hj)
      · rw [Array.setIfInBounds_comm _ _ e]; exact k3.2.2
theorem wpTwo.firstM {i : Nat} {o : Oper} {v : Value} (hi : ops[i]? = some o) (hsel : ∀ (j : Nat) (p : Oper) cs b, ops[j]? = some p → p.op ≠ .select cs b)
    (hQ : ∀ c a w, Q (.panic c) (a.put o.dst v) w → Q (.panic c) a w) (hiL : i ∉ L) (hSS : ∀ w, S w → S' w) : ∀ (f : Nat) (done : Array Bool) (a : Act) (w : World),
      (∀ j p, ops[j]? = some p → j ≠ i → done.getD j true = false → (∀ e ∈ p.after, Region.binds .any e = true → e.on ≠ i) → o.apart ops p = true) →
      i ∈ Region.ready .any ops done → YieldsIf P ops S' o v a → S w → wpTwo P ops Q S S' L f (done.setIfInBounds i true) (a.put o.dst v) w → wpTwo P ops Q S S' L (f + 1) done a w := by
  intro f
  induction f with
  | zero =>
    intro done a w _ hr hy hS H
    refine ⟨fun h => (by rw [h] at hr; cases hr), fun j hj => ⟨fun hL => ?_, fun _ => ?_⟩⟩ <;> by_cases e : j = i
    · subst e; exact absurd hL hiL
    · have := ready_mono hj e; rw [H.1] at this; cases this
    · subst e; exact hy.wpOp hi (hSS w hS) ⟨hS, H⟩
    · have := ready_mono hj e; rw [H.1] at this; cases this
  | succ f ih =>
    intro done a w hfree hr hy hS H
    refine ⟨fun h => (by rw [h] at hr; cases hr), fun j hj => ?_⟩
    by_cases e : j = i
    · subst e; exact ⟨fun hL => absurd hL hiL, fun _ => hy.wpOp hi (hSS w hS) ⟨hS, H⟩⟩
    · obtain ⟨hun, p, hp, hall⟩ := mem_ready.1 hj
      have hwait : ∀ e ∈ p.after, Region.binds .any e = true → e.on ≠ i := fun q hq hb he => by
        have k1 := hall q hq hb
        have k2 := (mem_ready.1 hr).1
        rw [he] at k1
        rcases Nat.lt_or_ge i done.size with k | k
        · simp [k] at k1 k2; rw [k2] at k1; cases k1
        · simp [Array.getElem?_eq_none k] at k1
      have hap := hfree j p hp e hun hwait
      have hfree' : ∀ m q, ops[m]? = some q → m ≠ i → (done.setIfInBounds j true).getD m true = false → (∀ e ∈ q.after, Region.binds .any e = true → e.on ≠ i) → o.apart ops q = true := fun m q hq hmi hum hno => by
        refine hfree m q hq hmi ?_ hno
        by_cases hjm : j = m
        · subst hjm; exact hun
        · rwa [getD_set_ne true hjm] at hum
      constructor
      · intro hL
        have k2 := wpOp_putIf hp hap (fun cs b => hsel i o cs b hi) (fun cs b => hsel j p cs b hp) hQ hy ((H.2 j (ready_mono hj e)).1 hL)
        refine wpOp_mono (fun b u k3 => ⟨k3.2.1, wpAnyH_first hi hsel hQ f (done.setIfInBounds j true) b u hfree' (ready_mono hr (Ne.symm e)) k3.1 k3.2.1 ?_⟩) k2
        rw [Array.setIfInBounds_comm _ _ e]; exact k3.2.2
      · intro hL
        have k2 := wpOp_putIf hp hap (fun cs b => hsel i o cs b hi) (fun cs b => hsel j p cs b hp) hQ hy ((H.2 j (ready_mono hj e)).2 hL)
        refine wpOp_mono (fun b u k3 => ⟨k3.2.1, ih (done.setIfInBounds j true) b u hfree' (ready_mono hr (Ne.symm e)) k3.1 k3.2.1 ?_⟩) k2
        rw [Array.setIfInBounds_comm _ _ e]; exact k3.2.2
end

section
variable {x : Cx} {ops : Array Oper} {k : List KI} {s : Slots} {H : HP} {L : List Nat}
/-- A region's first part: what is known holds till one of L comes up. -/
def GO (x : Cx) (ops : Array Oper) (k : List KI) (L : List Nat) (fuel : Nat) (done : Array Bool) (s : Slots) (H : HP) : Prop :=
  ∀ a w, St x s H a w → wpTwo x.P ops (kp x.P x.Q k) (Sw x H) (Sw x []) L fuel done a w
theorem c_regiong {id : Nat} {l : List Oper} (L : List Nat) (hm : x.P.follows .mixedOrders = true) (h : GO x l.toArray k L l.length (Array.replicate l.length false) s H) : WC x k (.region id l.toArray true) s H := fun a w hs =>
  wp_region_any hm (wpTwo.any _ _ _ _ (by simpa using h a _ hs.drew))
theorem g_e (i : Nat) {o : Oper} {d : Nat} {v : Value} {fuel : Nat} {done : Array Bool} (hQ : ∀ c a w d v, x.Q (.panic c) (Act.put a (some d) v) w → x.Q (.panic c) a w) (hi : ops[i]? = some o) (hs0 : Region.noSelect ops = true) (hf : (Region.free .any ops done i && waitL ops done i L && !L.contains i) = true) (hr : (Region.ready .any ops done).contains i = true)
    (hw : wantS ops s o = some true) (hd : o.dst = some d) (hN : Nat.blt d x.N = true) (he : Ex x s H o v) (h : GO x ops k L fuel (done.setIfInBounds i true) ((d, v) :: s) H) : GO x ops k L (fuel + 1) done s H := fun a w hs => by
  have hN' : d < x.N := by simpa [Nat.blt_eq] using hN
  simp only [Bool.and_eq_true, Bool.not_eq_true', List.contains_eq_mem, decide_eq_false_iff_not] at hf
  refine wpTwo.first hi (Region.noSelect_spec hs0) (v := v) (fun c a w hq => by rw [kp_panic] at hq ⊢; rw [hd] at hq; exact hQ _ _ _ _ _ hq) hf.2 fuel done a w (Region.free_spec hi hf.1.1) (fun j hj => waitL_spec hf.1.2 hj) (by simpa using hr) (.inl ⟨want_of hs hw, fun w' hw' => he a w' (hs.of_sw hw')⟩) (hs.sw fun _ hp => hp) ?_
  rw [hd]
  exact h _ w (hs.put _ hN')
/-- One that does not look at memory. -/
theorem g_m (i : Nat) {o : Oper} {d : Nat} {v : Value} {fuel : Nat} {done : Array Bool} (hQ : ∀ c a w d v, x.Q (.panic c) (Act.put a (some d) v) w → x.Q (.panic c) a w) (hi : ops[i]? = some o) (hs0 : Region.noSelect ops = true) (hf : (Region.free .any ops done i && !L.contains i) = true) (hr : (Region.ready .any ops done).contains i = true)
    (hw : wantS ops s o = some true) (hd : o.dst = some d) (hN : Nat.blt d x.N = true) (he : Ex x s [] o v) (h : GO x ops k L fuel (done.setIfInBounds i true) ((d, v) :: s) H) : GO x ops k L (fuel + 1) done s H := fun a w hs => by
  have hN' : d < x.N := by simpa [Nat.blt_eq] using hN
  simp only [Bool.and_eq_true, Bool.not_eq_true', List.contains_eq_mem, decide_eq_false_iff_not] at hf
  have hs' := hs.less (fun _ _ hv => hv) (List.nil_sublist H)
  refine wpTwo.firstM hi (Region.noSelect_spec hs0) (v := v) (fun c a w hq => by rw [kp_panic] at hq ⊢; rw [hd] at hq; exact hQ _ _ _ _ _ hq) hf.2 (fun w hw => ⟨fun _ hp => (by cases hp), hw.glob, hw.fr⟩) fuel done a w (Region.free_spec hi hf.1) (by simpa using hr) (.inl ⟨want_of hs hw, fun w' hw' => he a w' (hs'.of_sw hw')⟩) (hs.sw fun _ hp => hp) ?_
  rw [hd]
  exact h _ w (hs.put _ hN')
/-- One that is passed over. -/
theorem g_skip (i : Nat) {o : Oper} {d : Nat} {fuel : Nat} {done : Array Bool} (hQ : ∀ c a w d v, x.Q (.panic c) (Act.put a (some d) v) w → x.Q (.panic c) a w) (hi : ops[i]? = some o) (hs0 : Region.noSelect ops = true) (hf : (Region.free .any ops done i && !L.contains i) = true) (hr : (Region.ready .any ops done).contains i = true)
    (hw : wantS ops s o = some false) (hd : o.dst = some d) (hN : Nat.blt d x.N = true) (h : GO x ops k L fuel (done.setIfInBounds i true) ((d, .tuple #[]) :: s) H) : GO x ops k L (fuel + 1) done s H := fun a w hs => by
  have hN' : d < x.N := by simpa [Nat.blt_eq] using hN
  simp only [Bool.and_eq_true, Bool.not_eq_true', List.contains_eq_mem, decide_eq_false_iff_not] at hf
  refine wpTwo.firstM hi (Region.noSelect_spec hs0) (v := undef) (fun c a w hq => by rw [kp_panic] at hq ⊢; rw [hd] at hq; exact hQ _ _ _ _ _ hq) hf.2 (fun w hw => ⟨fun _ hp => (by cases hp), hw.glob, hw.fr⟩) fuel done a w (Region.free_spec hi hf.1) (by simpa using hr) (.inr ⟨want_of hs hw, rfl⟩) (hs.sw fun _ hp => hp) ?_
  rw [hd]
  exact h _ w (hs.put _ hN')
/-- The first of L comes up, alone. -/
theorem g_l (i : Nat) {o : Oper} {fuel : Nat} {done : Array Bool} {Y : Type} {s' : Y → Slots} {J : Y → HP} {A : Y → Prop} (hr : Region.ready .any ops done = [i]) (hL : L.contains i = true) (hi : ops[i]? = some o) (hw : wantS ops s o = some true) (hl : Lo x s H o s' J A)
    (h : ∀ y, A y → DO x ops k [] fuel (done.setIfInBounds i true) (s' y) (J y)) : GO x ops k L (fuel + 1) done s H := fun a w hs => by
  refine ⟨fun h0 => (by rw [hr] at h0; cases h0), fun j hj => ?_⟩
  rw [hr] at hj
  rcases List.mem_singleton.1 hj with rfl
  refine ⟨fun _ => d_op (HS := []) hi hw hl (fun _ _ _ hp => by cases hp) h hs ?_, fun hn => absurd (by simpa using hL) hn⟩
  exact hs.less (fun _ _ hv => hv) (List.nil_sublist _)
/-- One that yields alone, when nothing else may come up. -/
theorem d_le (i : Nat) {o : Oper} {d : Nat} {v : Value} {HS : HP} {fuel : Nat} {listed : Array Bool} (hr : Region.ready .any ops listed = [i]) (hi : ops[i]? = some o) (hw : wantS ops s o = some true) (hd : o.dst = some d) (hN : Nat.blt d x.N = true) (hHS : ∀ p ∈ HS, p ∈ H) (he : Ex x s H o v)
    (h : DO x ops k HS fuel (listed.setIfInBounds i true) ((d, v) :: s) H) : DO x ops k HS (fuel + 1) listed s H :=
  d_l (Y := Unit) (s' := fun _ => (d, v) :: s) (J := fun _ => H) (A := fun _ => True) i hr hi hw (fun a w hs K Q hK => by
    unfold Oper.wp
    rw [he a w hs, Oper.upon_value, hd]
    exact hK () _ _ trivial (hs.put _ (by simpa [Nat.blt_eq] using hN))) (fun _ _ => hHS) (fun _ _ => h)
end
section
variable {x : Cx} {s : Slots} {H : HP} {d : Nat} {p : Operand} {ty t : TypeId} {pos : String} {af : Array Edge} {gd : Option (Nat × Bool)} {g off n : Nat}
/-- A field's address, its offset a number. -/
theorem e_fak {fs : Array Field} {f : Field} {i m : Nat} (k : Nat) (hU : ∀ w, (underlying t).run x.P w = .ok (.struct fs) w) (hf : fs[i]? = some f) (hS : ∀ w, (sizeOf f.type).run x.P w = .ok m w) (hm : Nat.beq m 0 = false) (hp : ev s p = some (.pointer (some ⟨g, off, none⟩))) (hk : f.offset = k) : Ex x s H ⟨some d, .fieldAddr t p i, ty, pos, af, gd⟩ (.pointer (some ⟨g, off + k, none⟩)) := hk ▸ e_fa hU hf hS hm hp
end
section
variable {x : Cx} {s : Slots} {H : HP} {d : Nat} {p : Operand} {ty : TypeId} {pos : String} {af : Array Edge} {gd : Option (Nat × Bool)} {v : Value}
theorem l_calli0 {f : FuncId} {args : List Value} {rv : Value} {nm : String} {HI Hr : HP} {R : Value → HP → Prop} {ps : List Operand} {ats : Array TypeId} {tv : TypeId} (hf : ∀ az w, (callFunc f az).run x.P w = .ok (.enter f az) w)
    (hm : ∀ w, (method (x.P.types.size + Made.depth) tv v nm).run x.P w = .ok (f, rv) w) (hc : Ctr x.P f (rv :: args) x.G HI R)
    (hN : Nat.blt d x.N = true) (hp : ev s p = some (.iface tv v)) (hps : evs s ps = some args) (hsel : Sel H HI Hr) :
    Lo x s H ⟨some d, .call { callee := .invoke p nm, args := ps.toArray, argTypes := ats }, ty, pos, af, gd⟩ (Y := Value × HP) (fun y => (d, y.1) :: s) (fun y => y.2 ++ Hr) (fun y => R y.1 y.2) :=
  l_calli (HJ := []) hf hm (by simpa using hc) hN hp hps hsel (by simp)
theorem l_callm0 {f : FuncId} {args : List Value} {rv : Value} {nm : String} {HI Hr : HP} {R : Value → HP → Prop} {ps : List Operand} {ats : Array TypeId} {tv : TypeId} (hf : ∀ az w, (callFunc f az).run x.P w = .ok (.enter f az) w)
    (hm : ∀ w, (method (x.P.types.size + Made.depth) tv v nm).run x.P w = .ok (f, rv) w) (hc : Ctr x.P f (rv :: args) x.G HI R)
    (hN : Nat.blt d x.N = true) (hp : ev s p = some (.func (.method nm) #[.iface tv v] #[])) (hps : evs s ps = some args) (hsel : Sel H HI Hr) :
    Lo x s H ⟨some d, .call { callee := .value p, args := ps.toArray, argTypes := ats }, ty, pos, af, gd⟩ (Y := Value × HP) (fun y => (d, y.1) :: s) (fun y => y.2 ++ Hr) (fun y => R y.1 y.2) :=
  l_callm (HJ := []) hf hm (by simpa using hc) hN hp hps hsel (by simp)
end
end Go.Sl
namespace Go.Sl
open Go
section
variable {x : Cx} {ops : Array Oper} {k : List KI} {rest : List Oper} {s : Slots} {H HS : HP} {d : Nat} {p : Operand} {op : Op} {ty : TypeId} {pos : String} {af : Array Edge} {gd : Option (Nat × Bool)} {v : Value} {L : List Nat} {fuel : Nat} {listed : Array Bool}
theorem oM (hp : ev s p = some v) (h : WO x ops k rest ((d, v) :: s) H) (hw : wantS ops s ⟨some d, .move p, ty, pos, af, gd⟩ = some true := by rfl) (hN : Nat.blt d x.N = true := by rfl) : WO x ops k (⟨some d, .move p, ty, pos, af, gd⟩ :: rest) s H := o_e hw rfl hN (e_move hp) h
theorem oA (hp : ev s p = some v) (h : WO x ops k rest ((d, v) :: s) H) (hw : wantS ops s ⟨some d, .assign p, ty, pos, af, gd⟩ = some true := by rfl) (hN : Nat.blt d x.N = true := by rfl) : WO x ops k (⟨some d, .assign p, ty, pos, af, gd⟩ :: rest) s H := o_e hw rfl hN (e_assign hp) h
theorem oX (he : Ex x s H ⟨some d, op, ty, pos, af, gd⟩ v) (h : WO x ops k rest ((d, v) :: s) H) (hw : wantS ops s ⟨some d, op, ty, pos, af, gd⟩ = some true := by rfl) (hN : Nat.blt d x.N = true := by rfl) : WO x ops k (⟨some d, op, ty, pos, af, gd⟩ :: rest) s H := o_e hw rfl hN he h
theorem oS (h : WO x ops k rest ((d, .tuple #[]) :: s) H) (hw : wantS ops s ⟨some d, op, ty, pos, af, gd⟩ = some false := by rfl) (hN : Nat.blt d x.N = true := by rfl) : WO x ops k (⟨some d, op, ty, pos, af, gd⟩ :: rest) s H := o_skip hw rfl hN h
theorem qM (hp : ev s p = some v) (h : QO x ops k rest ((d, v) :: s) H) (hw : wantS ops s ⟨some d, .move p, ty, pos, af, gd⟩ = some true := by rfl) (hN : Nat.blt d x.N = true := by rfl) : QO x ops k (⟨some d, .move p, ty, pos, af, gd⟩ :: rest) s H := q_e hw rfl hN (e_move hp) h
theorem qA (hp : ev s p = some v) (h : QO x ops k rest ((d, v) :: s) H) (hw : wantS ops s ⟨some d, .assign p, ty, pos, af, gd⟩ = some true := by rfl) (hN : Nat.blt d x.N = true := by rfl) : QO x ops k (⟨some d, .assign p, ty, pos, af, gd⟩ :: rest) s H := q_e hw rfl hN (e_assign hp) h
theorem qX (he : Ex x s H ⟨some d, op, ty, pos, af, gd⟩ v) (h : QO x ops k rest ((d, v) :: s) H) (hw : wantS ops s ⟨some d, op, ty, pos, af, gd⟩ = some true := by rfl) (hN : Nat.blt d x.N = true := by rfl) : QO x ops k (⟨some d, op, ty, pos, af, gd⟩ :: rest) s H := q_e hw rfl hN he h
theorem qS (h : QO x ops k rest ((d, .tuple #[]) :: s) H) (hw : wantS ops s ⟨some d, op, ty, pos, af, gd⟩ = some false := by rfl) (hN : Nat.blt d x.N = true := by rfl) : QO x ops k (⟨some d, op, ty, pos, af, gd⟩ :: rest) s H := q_skip hw rfl hN h
theorem gM (i : Nat) (hi : ops[i]? = some ⟨some d, op, ty, pos, af, gd⟩) (he : Ex x s [] ⟨some d, op, ty, pos, af, gd⟩ v) (h : GO x ops k L fuel (listed.setIfInBounds i true) ((d, v) :: s) H) (hQ : ∀ c a w d v, x.Q (.panic c) (Act.put a (some d) v) w → x.Q (.panic c) a w := by exact fun _ _ _ _ _ h => h) (hs0 : Region.noSelect ops = true := by kernel_rfl) (hf : (Region.free .any ops listed i && !L.contains i) = true := by kernel_rfl) (hr : (Region.ready .any ops listed).contains i = true := by kernel_rfl)
    (hw : wantS ops s ⟨some d, op, ty, pos, af, gd⟩ = some true := by rfl) (hN : Nat.blt d x.N = true := by rfl) : GO x ops k L (fuel + 1) listed s H := g_m i hQ hi hs0 hf hr hw rfl hN he h
theorem gE (i : Nat) (hi : ops[i]? = some ⟨some d, op, ty, pos, af, gd⟩) (he : Ex x s H ⟨some d, op, ty, pos, af, gd⟩ v) (h : GO x ops k L fuel (listed.setIfInBounds i true) ((d, v) :: s) H) (hQ : ∀ c a w d v, x.Q (.panic c) (Act.put a (some d) v) w → x.Q (.panic c) a w := by exact fun _ _ _ _ _ h => h) (hs0 : Region.noSelect ops = true := by kernel_rfl) (hf : (Region.free .any ops listed i && waitL ops listed i L && !L.contains i) = true := by kernel_rfl) (hr : (Region.ready .any ops listed).contains i = true := by kernel_rfl)
    (hw : wantS ops s ⟨some d, op, ty, pos, af, gd⟩ = some true := by rfl) (hN : Nat.blt d x.N = true := by rfl) : GO x ops k L (fuel + 1) listed s H := g_e i hQ hi hs0 hf hr hw rfl hN he h
theorem gS (i : Nat) (hi : ops[i]? = some ⟨some d, op, ty, pos, af, gd⟩) (h : GO x ops k L fuel (listed.setIfInBounds i true) ((d, .tuple #[]) :: s) H) (hQ : ∀ c a w d v, x.Q (.panic c) (Act.put a (some d) v) w → x.Q (.panic c) a w := by exact fun _ _ _ _ _ h => h) (hs0 : Region.noSelect ops = true := by kernel_rfl) (hf : (Region.free .any ops listed i && !L.contains i) = true := by kernel_rfl) (hr : (Region.ready .any ops listed).contains i = true := by kernel_rfl)
    (hw : wantS ops s ⟨some d, op, ty, pos, af, gd⟩ = some false := by rfl) (hN : Nat.blt d x.N = true := by rfl) : GO x ops k L (fuel + 1) listed s H := g_skip i hQ hi hs0 hf hr hw rfl hN h
theorem dX (i : Nat) (hi : ops[i]? = some ⟨some d, op, ty, pos, af, gd⟩) (he : Ex x s HS ⟨some d, op, ty, pos, af, gd⟩ v) (h : DO x ops k HS fuel (listed.setIfInBounds i true) ((d, v) :: s) H) (hQ : ∀ c a w d v, x.Q (.panic c) (Act.put a (some d) v) w → x.Q (.panic c) a w := by exact fun _ _ _ _ _ h => h) (hs0 : Region.noSelect ops = true := by kernel_rfl) (hf : Region.free .any ops listed i = true := by kernel_rfl) (hr : (Region.ready .any ops listed).contains i = true := by kernel_rfl)
    (hw : wantS ops s ⟨some d, op, ty, pos, af, gd⟩ = some true := by rfl) (hN : Nat.blt d x.N = true := by rfl) : DO x ops k HS (fuel + 1) listed s H := d_e i hQ hi hs0 hf hr hw rfl hN he h
theorem dS (i : Nat) (hi : ops[i]? = some ⟨some d, op, ty, pos, af, gd⟩) (h : DO x ops k HS fuel (listed.setIfInBounds i true) ((d, .tuple #[]) :: s) H) (hQ : ∀ c a w d v, x.Q (.panic c) (Act.put a (some d) v) w → x.Q (.panic c) a w := by exact fun _ _ _ _ _ h => h) (hs0 : Region.noSelect ops = true := by kernel_rfl) (hf : Region.free .any ops listed i = true := by kernel_rfl) (hr : (Region.ready .any ops listed).contains i = true := by kernel_rfl)
    (hw : wantS ops s ⟨some d, op, ty, pos, af, gd⟩ = some false := by rfl) (hN : Nat.blt d x.N = true := by rfl) : DO x ops k HS (fuel + 1) listed s H := d_skip i hQ hi hs0 hf hr hw rfl hN h
theorem dN (h : WN x k s H) (hr : (Region.ready .any ops listed) = [] := by kernel_rfl) : DO x ops k HS fuel listed s H := d_nil hr h
theorem cQ {id : Nat} {l : List Oper} (h : QO x l.toArray k l s H) (hm : x.P.follows .mixedOrders = true := by kernel_rfl) (hB : Region.lexB .any l.toArray = true := by kernel_rfl) : WC x k (.region id l.toArray true) s H := c_regionq hm hB h
theorem cR {id : Nat} {c : Code} {l : List Oper} (h : WO x l.toArray (.code c :: k) l s H) : WC x k (.seq (.region id l.toArray false) c) s H := c_seq (c_region h)
theorem oN {c : Code} (h : WC x k c s H) : WO x ops (.code c :: k) [] s H := o_nil (n_code h)
theorem qN {c : Code} (h : WC x k c s H) : QO x ops (.code c :: k) [] s H := q_nil (n_code h)
theorem cL {c t : Code} {o : Operand} (hc : ev s o = some (.bool false)) (h : WC x k c s H) : WC x (.code c :: k) (.cond o t .skip) s H := c_else hc (c_skip (n_code h))
theorem oC {A : Addr} (hp : ev s p = some (.pointer (some A))) (h : WO x ops k rest ((d, .pointer (some A)) :: s) H) (hw : wantS ops s ⟨some d, .nilCheck p, ty, pos, af, gd⟩ = some true := by rfl) (hN : Nat.blt d x.N = true := by rfl) : WO x ops k (⟨some d, .nilCheck p, ty, pos, af, gd⟩ :: rest) s H := o_e hw rfl hN (e_nilCheck hp) h
theorem qC {A : Addr} (hp : ev s p = some (.pointer (some A))) (h : QO x ops k rest ((d, .pointer (some A)) :: s) H) (hw : wantS ops s ⟨some d, .nilCheck p, ty, pos, af, gd⟩ = some true := by rfl) (hN : Nat.blt d x.N = true := by rfl) : QO x ops k (⟨some d, .nilCheck p, ty, pos, af, gd⟩ :: rest) s H := q_e hw rfl hN (e_nilCheck hp) h
theorem eA {o : Oper} (r : Value) (he : Ex x s H o v) (h : v = r := by rfl) : Ex x s H o r := h ▸ he
theorem oI {b : BinOp} {kd : IntKind} {a c : Int} {q : Operand} {t t' : TypeId} (r : Value) (hp : ev s p = some (.int kd a)) (hq : ev s q = some (.int kd c)) (h : WO x ops k rest ((d, r) :: s) H) (hr : pint b kd a c = some r := by kernel_rfl) (hN : Nat.blt d x.N = true := by rfl) : WO x ops k (⟨some d, .binOp b t p q t', ty, pos, af, none⟩ :: rest) s H := oi r hN hp hq hr h
theorem sK {s s' : Slots} (k : Nat) {u : Value} (h : lk s k = some u) (hs : ∀ n v, lk s' n = some v → lk s n = some v) : ∀ n v, lk ((k, u) :: s') n = some v → lk s n = some v := sub_cons h hs
/-- Places in lists. -/
theorem M0 {α : Type} {a : α} {l : List α} : a ∈ a :: l := .head _
theorem M1 {α : Type} {a b : α} {l : List α} : a ∈ b :: a :: l := .tail _ (.head _)
theorem M2 {α : Type} {a b c : α} {l : List α} : a ∈ b :: c :: a :: l := .tail _ (.tail _ (.head _))
theorem M3 {α : Type} {a b c e : α} {l : List α} : a ∈ b :: c :: e :: a :: l := .tail _ M2
theorem M4 {α : Type} {a b c e f : α} {l : List α} : a ∈ b :: c :: e :: f :: a :: l := .tail _ M3
theorem M5 {α : Type} {a b c e f g : α} {l : List α} : a ∈ b :: c :: e :: f :: g :: a :: l := .tail _ M4
theorem M6 {α : Type} {a b c e f g h : α} {l : List α} : a ∈ b :: c :: e :: f :: g :: h :: a :: l := .tail _ M5
theorem M7 {α : Type} {a b0 b1 b2 b3 b4 b5 b6 : α} {l : List α} : a ∈ b0 :: b1 :: b2 :: b3 :: b4 :: b5 :: b6 :: a :: l := .tail _ M6
theorem M8 {α : Type} {a b0 b1 b2 b3 b4 b5 b6 b7 : α} {l : List α} : a ∈ b0 :: b1 :: b2 :: b3 :: b4 :: b5 :: b6 :: b7 :: a :: l := .tail _ M7
theorem M9 {α : Type} {a b0 b1 b2 b3 b4 b5 b6 b7 b8 : α} {l : List α} : a ∈ b0 :: b1 :: b2 :: b3 :: b4 :: b5 :: b6 :: b7 :: b8 :: a :: l := .tail _ M8
theorem M10 {α : Type} {a b0 b1 b2 b3 b4 b5 b6 b7 b8 b9 : α} {l : List α} : a ∈ b0 :: b1 :: b2 :: b3 :: b4 :: b5 :: b6 :: b7 :: b8 :: b9 :: a :: l := .tail _ M9
theorem M11 {α : Type} {a b0 b1 b2 b3 b4 b5 b6 b7 b8 b9 b10 : α} {l : List α} : a ∈ b0 :: b1 :: b2 :: b3 :: b4 :: b5 :: b6 :: b7 :: b8 :: b9 :: b10 :: a :: l := .tail _ M10
theorem M12 {α : Type} {a b0 b1 b2 b3 b4 b5 b6 b7 b8 b9 b10 b11 : α} {l : List α} : a ∈ b0 :: b1 :: b2 :: b3 :: b4 :: b5 :: b6 :: b7 :: b8 :: b9 :: b10 :: b11 :: a :: l := .tail _ M11
theorem M13 {α : Type} {a b0 b1 b2 b3 b4 b5 b6 b7 b8 b9 b10 b11 b12 : α} {l : List α} : a ∈ b0 :: b1 :: b2 :: b3 :: b4 :: b5 :: b6 :: b7 :: b8 :: b9 :: b10 :: b11 :: b12 :: a :: l := .tail _ M12
theorem M14 {α : Type} {a b0 b1 b2 b3 b4 b5 b6 b7 b8 b9 b10 b11 b12 b13 : α} {l : List α} : a ∈ b0 :: b1 :: b2 :: b3 :: b4 :: b5 :: b6 :: b7 :: b8 :: b9 :: b10 :: b11 :: b12 :: b13 :: a :: l := .tail _ M13
theorem M15 {α : Type} {a b0 b1 b2 b3 b4 b5 b6 b7 b8 b9 b10 b11 b12 b13 b14 : α} {l : List α} : a ∈ b0 :: b1 :: b2 :: b3 :: b4 :: b5 :: b6 :: b7 :: b8 :: b9 :: b10 :: b11 :: b12 :: b13 :: b14 :: a :: l := .tail _ M14
theorem M16 {α : Type} {a b0 b1 b2 b3 b4 b5 b6 b7 b8 b9 b10 b11 b12 b13 b14 b15 : α} {l : List α} : a ∈ b0 :: b1 :: b2 :: b3 :: b4 :: b5 :: b6 :: b7 :: b8 :: b9 :: b10 :: b11 :: b12 :: b13 :: b14 :: b15 :: a :: l := .tail _ M15
theorem M17 {α : Type} {a b0 b1 b2 b3 b4 b5 b6 b7 b8 b9 b10 b11 b12 b13 b14 b15 b16 : α} {l : List α} : a ∈ b0 :: b1 :: b2 :: b3 :: b4 :: b5 :: b6 :: b7 :: b8 :: b9 :: b10 :: b11 :: b12 :: b13 :: b14 :: b15 :: b16 :: a :: l := .tail _ M16
theorem M18 {α : Type} {a b0 b1 b2 b3 b4 b5 b6 b7 b8 b9 b10 b11 b12 b13 b14 b15 b16 b17 : α} {l : List α} : a ∈ b0 :: b1 :: b2 :: b3 :: b4 :: b5 :: b6 :: b7 :: b8 :: b9 :: b10 :: b11 :: b12 :: b13 :: b14 :: b15 :: b16 :: b17 :: a :: l := .tail _ M17
theorem M19 {α : Type} {a b0 b1 b2 b3 b4 b5 b6 b7 b8 b9 b10 b11 b12 b13 b14 b15 b16 b17 b18 : α} {l : List α} : a ∈ b0 :: b1 :: b2 :: b3 :: b4 :: b5 :: b6 :: b7 :: b8 :: b9 :: b10 :: b11 :: b12 :: b13 :: b14 :: b15 :: b16 :: b17 :: b18 :: a :: l := .tail _ M18
theorem M20 {α : Type} {a b0 b1 b2 b3 b4 b5 b6 b7 b8 b9 b10 b11 b12 b13 b14 b15 b16 b17 b18 b19 : α} {l : List α} : a ∈ b0 :: b1 :: b2 :: b3 :: b4 :: b5 :: b6 :: b7 :: b8 :: b9 :: b10 :: b11 :: b12 :: b13 :: b14 :: b15 :: b16 :: b17 :: b18 :: b19 :: a :: l := .tail _ M19
theorem M21 {α : Type} {a b0 b1 b2 b3 b4 b5 b6 b7 b8 b9 b10 b11 b12 b13 b14 b15 b16 b17 b18 b19 b20 : α} {l : List α} : a ∈ b0 :: b1 :: b2 :: b3 :: b4 :: b5 :: b6 :: b7 :: b8 :: b9 :: b10 :: b11 :: b12 :: b13 :: b14 :: b15 :: b16 :: b17 :: b18 :: b19 :: b20 :: a :: l := .tail _ M20
abbrev pv (g : Nat) : Value := .pointer (some ⟨g, 0, none⟩)
abbrev ad (g o : Nat) : Option Addr := some ⟨g, o, none⟩
abbrev vq (n : Int) : Value := .int .u64 n
abbrev vi (n : Int) : Value := .int .i64 n
abbrev vd (n : Int) : Value := .int .u32 n
end
end Go.Sl
