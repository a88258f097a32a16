/- The calculus: short forms, their side conditions found by themselves; append of so many zeros to nothing; More of the calculus: an append that finds room; Permutations by counting. (A part of the proof of this: for every input laws.FnWrOptions returns true and its arguments read as they did, the listed package variables being what the program lays) -/
import Derived.Test.YtochgglejmfelaaGreatDoorL03
import Derived.KernelRfl
import Derived.Lib.AppendZeros
import Derived.Lib.AppendZerosOnto
set_option linter.unusedVariables false
set_option linter.unusedSimpArgs false
namespace Go.Sl
open Go
section
variable {x : Cx} {ops : Array Oper} {k : List KI} {rest : List Oper} {s : Slots} {H HS : HP} {d : Nat} {p : Operand} {op : Op} {ty : TypeId} {pos : String} {af : Array Edge} {gd : Option (Nat × Bool)} {v : Value} {L : List Nat} {fuel : Nat} {listed : Array Bool}
theorem oM (hp : ev s p = some v) (h : WO x ops k rest ((d, v) :: s) H) (hw : wantS ops s ⟨some d, .move p, ty, pos, af, gd⟩ = some true := by rfl) (hN : Nat.blt d x.N = true := by rfl) : WO x ops k (⟨some d, .move p, ty, pos, af, gd⟩ :: rest) s H := o_e hw rfl hN (e_move hp) h
theorem oA (hp : ev s p = some v) (h : WO x ops k rest ((d, v) :: s) H) (hw : wantS ops s ⟨some d, .assign p, ty, pos, af, gd⟩ = some true := by rfl) (hN : Nat.blt d x.N = true := by rfl) : WO x ops k (⟨some d, .assign p, ty, pos, af, gd⟩ :: rest) s H := o_e hw rfl hN (e_assign hp) h
theorem oX (he : Ex x s H ⟨some d, op, ty, pos, af, gd⟩ v) (h : WO x ops k rest ((d, v) :: s) H) (hw : wantS ops s ⟨some d, op, ty, pos, af, gd⟩ = some true := by rfl) (hN : Nat.blt d x.N = true := by rfl) : WO x ops k (⟨some d, op, ty, pos, af, gd⟩ :: rest) s H := o_e hw rfl hN he h
theorem oS (h : WO x ops k rest ((d, .tuple #[]) :: s) H) (hw : wantS ops s ⟨some d, op, ty, pos, af, gd⟩ = some false := by rfl) (hN : Nat.blt d x.N = true := by rfl) : WO x ops k (⟨some d, op, ty, pos, af, gd⟩ :: rest) s H := o_skip hw rfl hN h
theorem qM (hp : ev s p = some v) (h : QO x ops k rest ((d, v) :: s) H) (hw : wantS ops s ⟨some d, .move p, ty, pos, af, gd⟩ = some true := by rfl) (hN : Nat.blt d x.N = true := by rfl) : QO x ops k (⟨some d, .move p, ty, pos, af, gd⟩ :: rest) s H := q_e hw rfl hN (e_move hp) h
theorem qA (hp : ev s p = some v) (h : QO x ops k rest ((d, v) :: s) H) (hw : wantS ops s ⟨some d, .assign p, ty, pos, af, gd⟩ = some true := by rfl) (hN : Nat.blt d x.N = true := by rfl) : QO x ops k (⟨some d, .assign p, ty, pos, af, gd⟩ :: rest) s H := q_e hw rfl hN (e_assign hp) h
theorem qX (he : Ex x s H ⟨some d, op, ty, pos, af, gd⟩ v) (h : QO x ops k rest ((d, v) :: s) H) (hw : wantS ops s ⟨some d, op, ty, pos, af, gd⟩ = some true := by rfl) (hN : Nat.blt d x.N = true := by rfl) : QO x ops k (⟨some d, op, ty, pos, af, gd⟩ :: rest) s H := q_e hw rfl hN he h
theorem qS (h : QO x ops k rest ((d, .tuple #[]) :: s) H) (hw : wantS ops s ⟨some d, op, ty, pos, af, gd⟩ = some false := by rfl) (hN : Nat.blt d x.N = true := by rfl) : QO x ops k (⟨some d, op, ty, pos, af, gd⟩ :: rest) s H := q_skip hw rfl hN h
theorem gM (i : Nat) (hi : ops[i]? = some ⟨some d, op, ty, pos, af, gd⟩) (he : Ex x s [] ⟨some d, op, ty, pos, af, gd⟩ v) (h : GO x ops k L fuel (listed.setIfInBounds i true) ((d, v) :: s) H) (hQ : ∀ c a w d v, x.Q (.panic c) (Act.put a (some d) v) w → x.Q (.panic c) a w := by exact fun _ _ _ _ _ h => h) (hs0 : Region.noSelect ops = true := by kernel_rfl) (hf : (Region.free .any ops listed i && !L.contains i) = true := by kernel_rfl) (hr : (Region.ready .any ops listed).contains i = true := by kernel_rfl)
    (hw : wantS ops s ⟨some d, op, ty, pos, af, gd⟩ = some true := by rfl) (hN : Nat.blt d x.N = true := by rfl) : GO x ops k L (fuel + 1) listed s H := g_m i hQ hi hs0 hf hr hw rfl hN he h
theorem gE (i : Nat) (hi : ops[i]? = some ⟨some d, op, ty, pos, af, gd⟩) (he : Ex x s H ⟨some d, op, ty, pos, af, gd⟩ v) (h : GO x ops k L fuel (listed.setIfInBounds i true) ((d, v) :: s) H) (hQ : ∀ c a w d v, x.Q (.panic c) (Act.put a (some d) v) w → x.Q (.panic c) a w := by exact fun _ _ _ _ _ h => h) (hs0 : Region.noSelect ops = true := by kernel_rfl) (hf : (Region.free .any ops listed i && waitL ops listed i L && !L.contains i) = true := by kernel_rfl) (hr : (Region.ready .any ops listed).contains i = true := by kernel_rfl)
    (hw : wantS ops s ⟨some d, op, ty, pos, af, gd⟩ = some true := by rfl) (hN : Nat.blt d x.N = true := by rfl) : GO x ops k L (fuel + 1) listed s H := g_e i hQ hi hs0 hf hr hw rfl hN he h
theorem gS (i : Nat) (hi : ops[i]? = some ⟨some d, op, ty, pos, af, gd⟩) (h : GO x ops k L fuel (listed.setIfInBounds i true) ((d, .tuple #[]) :: s) H) (hQ : ∀ c a w d v, x.Q (.panic c) (Act.put a (some d) v) w → x.Q (.panic c) a w := by exact fun _ _ _ _ _ h => h) (hs0 : Region.noSelect ops = true := by kernel_rfl) (hf : (Region.free .any ops listed i && !L.contains i) = true := by kernel_rfl) (hr : (Region.ready .any ops listed).contains i = true := by kernel_rfl)
    (hw : wantS ops s ⟨some d, op, ty, pos, af, gd⟩ = some false := by rfl) (hN : Nat.blt d x.N = true := by rfl) : GO x ops k L (fuel + 1) listed s H := g_skip i hQ hi hs0 hf hr hw rfl hN h
theorem dX (i : Nat) (hi : ops[i]? = some ⟨some d, op, ty, pos, af, gd⟩) (he : Ex x s HS ⟨some d, op, ty, pos, af, gd⟩ v) (h : DO x ops k HS fuel (listed.setIfInBounds i true) ((d, v) :: s) H) (hQ : ∀ c a w d v, x.Q (.panic c) (Act.put a (some d) v) w → x.Q (.panic c) a w := by exact fun _ _ _ _ _ h => h) (hs0 : Region.noSelect ops = true := by kernel_rfl) (hf : Region.free .any ops listed i = true := by kernel_rfl) (hr : (Region.ready .any ops listed).contains i = true := by kernel_rfl)
    (hw : wantS ops s ⟨some d, op, ty, pos, af, gd⟩ = some true := by rfl) (hN : Nat.blt d x.N = true := by rfl) : DO x ops k HS (fuel + 1) listed s H := d_e i hQ hi hs0 hf hr hw rfl hN he h
theorem dS (i : Nat) (hi : ops[i]? = some ⟨some d, op, ty, pos, af, gd⟩) (h : DO x ops k HS fuel (listed.setIfInBounds i true) ((d, .tuple #[]) :: s) H) (hQ : ∀ c a w d v, x.Q (.panic c) (Act.put a (some d) v) w → x.Q (.panic c) a w := by exact fun _ _ _ _ _ h => h) (hs0 : Region.noSelect ops = true := by kernel_rfl) (hf : Region.free .any ops listed i = true := by kernel_rfl) (hr : (Region.ready .any ops listed).contains i = true := by kernel_rfl)
    (hw : wantS ops s ⟨some d, op, ty, pos, af, gd⟩ = some false := by rfl) (hN : Nat.blt d x.N = true := by rfl) : DO x ops k HS (fuel + 1) listed s H := d_skip i hQ hi hs0 hf hr hw rfl hN h
theorem dN (h : WN x k s H) (hr : (Region.ready .any ops listed) = [] := by kernel_rfl) : DO x ops k HS fuel listed s H := d_nil hr h
theorem cQ {id : Nat} {l : List Oper} (h : QO x l.toArray k l s H) (hm : x.P.follows .mixedOrders = true := by kernel_rfl) (hB : Region.lexB .any l.toArray = true := by kernel_rfl) : WC x k (.region id l.toArray true) s H := c_regionq hm hB h
theorem cR {id : Nat} {c : Code} {l : List Oper} (h : WO x l.toArray (.code c :: k) l s H) : WC x k (.seq (.region id l.toArray false) c) s H := c_seq (c_region h)
theorem oN {c : Code} (h : WC x k c s H) : WO x ops (.code c :: k) [] s H := o_nil (n_code h)
theorem qN {c : Code} (h : WC x k c s H) : QO x ops (.code c :: k) [] s H := q_nil (n_code h)
theorem cL {c t : Code} {o : Operand} (hc : ev s o = some (.bool false)) (h : WC x k c s H) : WC x (.code c :: k) (.cond o t .skip) s H := c_else hc (c_skip (n_code h))
theorem oC {A : Addr} (hp : ev s p = some (.pointer (some A))) (h : WO x ops k rest ((d, .pointer (some A)) :: s) H) (hw : wantS ops s ⟨some d, .nilCheck p, ty, pos, af, gd⟩ = some true := by rfl) (hN : Nat.blt d x.N = true := by rfl) : WO x ops k (⟨some d, .nilCheck p, ty, pos, af, gd⟩ :: rest) s H := o_e hw rfl hN (e_nilCheck hp) h
theorem qC {A : Addr} (hp : ev s p = some (.pointer (some A))) (h : QO x ops k rest ((d, .pointer (some A)) :: s) H) (hw : wantS ops s ⟨some d, .nilCheck p, ty, pos, af, gd⟩ = some true := by rfl) (hN : Nat.blt d x.N = true := by rfl) : QO x ops k (⟨some d, .nilCheck p, ty, pos, af, gd⟩ :: rest) s H := q_e hw rfl hN (e_nilCheck hp) h
theorem eA {o : Oper} (r : Value) (he : Ex x s H o v) (h : v = r := by rfl) : Ex x s H o r := h ▸ he
theorem oI {b : BinOp} {kd : IntKind} {a c : Int} {q : Operand} {t t' : TypeId} (r : Value) (hp : ev s p = some (.int kd a)) (hq : ev s q = some (.int kd c)) (h : WO x ops k rest ((d, r) :: s) H) (hr : pint b kd a c = some r := by kernel_rfl) (hN : Nat.blt d x.N = true := by rfl) : WO x ops k (⟨some d, .binOp b t p q t', ty, pos, af, none⟩ :: rest) s H := oi r hN hp hq hr h
theorem sK {s s' : Slots} (k : Nat) {u : Value} (h : lk s k = some u) (hs : ∀ n v, lk s' n = some v → lk s n = some v) : ∀ n v, lk ((k, u) :: s') n = some v → lk s n = some v := sub_cons h hs
/-- Places in lists. -/
theorem M0 {α : Type} {a : α} {l : List α} : a ∈ a :: l := .head _
theorem M1 {α : Type} {a b : α} {l : List α} : a ∈ b :: a :: l := .tail _ (.head _)
theorem M2 {α : Type} {a b c : α} {l : List α} : a ∈ b :: c :: a :: l := .tail _ (.tail _ (.head _))
theorem M3 {α : Type} {a b c e : α} {l : List α} : a ∈ b :: c :: e :: a :: l := .tail _ M2
theorem M4 {α : Type} {a b c e f : α} {l : List α} : a ∈ b :: c :: e :: f :: a :: l := .tail _ M3
theorem M5 {α : Type} {a b c e f g : α} {l : List α} : a ∈ b :: c :: e :: f :: g :: a :: l := .tail _ M4
theorem M6 {α : Type} {a b c e f g h : α} {l : List α} : a ∈ b :: c :: e :: f :: g :: h :: a :: l := .tail _ M5
theorem M7 {α : Type} {a b0 b1 b2 b3 b4 b5 b6 : α} {l : List α} : a ∈ b0 :: b1 :: b2 :: b3 :: b4 :: b5 :: b6 :: a :: l := .tail _ M6
theorem M8 {α : Type} {a b0 b1 b2 b3 b4 b5 b6 b7 : α} {l : List α} : a ∈ b0 :: b1 :: b2 :: b3 :: b4 :: b5 :: b6 :: b7 :: a :: l := .tail _ M7
theorem M9 {α : Type} {a b0 b1 b2 b3 b4 b5 b6 b7 b8 : α} {l : List α} : a ∈ b0 :: b1 :: b2 :: b3 :: b4 :: b5 :: b6 :: b7 :: b8 :: a :: l := .tail _ M8
theorem M10 {α : Type} {a b0 b1 b2 b3 b4 b5 b6 b7 b8 b9 : α} {l : List α} : a ∈ b0 :: b1 :: b2 :: b3 :: b4 :: b5 :: b6 :: b7 :: b8 :: b9 :: a :: l := .tail _ M9
theorem M11 {α : Type} {a b0 b1 b2 b3 b4 b5 b6 b7 b8 b9 b10 : α} {l : List α} : a ∈ b0 :: b1 :: b2 :: b3 :: b4 :: b5 :: b6 :: b7 :: b8 :: b9 :: b10 :: a :: l := .tail _ M10
theorem M12 {α : Type} {a b0 b1 b2 b3 b4 b5 b6 b7 b8 b9 b10 b11 : α} {l : List α} : a ∈ b0 :: b1 :: b2 :: b3 :: b4 :: b5 :: b6 :: b7 :: b8 :: b9 :: b10 :: b11 :: a :: l := .tail _ M11
theorem M13 {α : Type} {a b0 b1 b2 b3 b4 b5 b6 b7 b8 b9 b10 b11 b12 : α} {l : List α} : a ∈ b0 :: b1 :: b2 :: b3 :: b4 :: b5 :: b6 :: b7 :: b8 :: b9 :: b10 :: b11 :: b12 :: a :: l := .tail _ M12
theorem M14 {α : Type} {a b0 b1 b2 b3 b4 b5 b6 b7 b8 b9 b10 b11 b12 b13 : α} {l : List α} : a ∈ b0 :: b1 :: b2 :: b3 :: b4 :: b5 :: b6 :: b7 :: b8 :: b9 :: b10 :: b11 :: b12 :: b13 :: a :: l := .tail _ M13
theorem M15 {α : Type} {a b0 b1 b2 b3 b4 b5 b6 b7 b8 b9 b10 b11 b12 b13 b14 : α} {l : List α} : a ∈ b0 :: b1 :: b2 :: b3 :: b4 :: b5 :: b6 :: b7 :: b8 :: b9 :: b10 :: b11 :: b12 :: b13 :: b14 :: a :: l := .tail _ M14
theorem M16 {α : Type} {a b0 b1 b2 b3 b4 b5 b6 b7 b8 b9 b10 b11 b12 b13 b14 b15 : α} {l : List α} : a ∈ b0 :: b1 :: b2 :: b3 :: b4 :: b5 :: b6 :: b7 :: b8 :: b9 :: b10 :: b11 :: b12 :: b13 :: b14 :: b15 :: a :: l := .tail _ M15
theorem M17 {α : Type} {a b0 b1 b2 b3 b4 b5 b6 b7 b8 b9 b10 b11 b12 b13 b14 b15 b16 : α} {l : List α} : a ∈ b0 :: b1 :: b2 :: b3 :: b4 :: b5 :: b6 :: b7 :: b8 :: b9 :: b10 :: b11 :: b12 :: b13 :: b14 :: b15 :: b16 :: a :: l := .tail _ M16
theorem M18 {α : Type} {a b0 b1 b2 b3 b4 b5 b6 b7 b8 b9 b10 b11 b12 b13 b14 b15 b16 b17 : α} {l : List α} : a ∈ b0 :: b1 :: b2 :: b3 :: b4 :: b5 :: b6 :: b7 :: b8 :: b9 :: b10 :: b11 :: b12 :: b13 :: b14 :: b15 :: b16 :: b17 :: a :: l := .tail _ M17
theorem M19 {α : Type} {a b0 b1 b2 b3 b4 b5 b6 b7 b8 b9 b10 b11 b12 b13 b14 b15 b16 b17 b18 : α} {l : List α} : a ∈ b0 :: b1 :: b2 :: b3 :: b4 :: b5 :: b6 :: b7 :: b8 :: b9 :: b10 :: b11 :: b12 :: b13 :: b14 :: b15 :: b16 :: b17 :: b18 :: a :: l := .tail _ M18
theorem M20 {α : Type} {a b0 b1 b2 b3 b4 b5 b6 b7 b8 b9 b10 b11 b12 b13 b14 b15 b16 b17 b18 b19 : α} {l : List α} : a ∈ b0 :: b1 :: b2 :: b3 :: b4 :: b5 :: b6 :: b7 :: b8 :: b9 :: b10 :: b11 :: b12 :: b13 :: b14 :: b15 :: b16 :: b17 :: b18 :: b19 :: a :: l := .tail _ M19
theorem M21 {α : Type} {a b0 b1 b2 b3 b4 b5 b6 b7 b8 b9 b10 b11 b12 b13 b14 b15 b16 b17 b18 b19 b20 : α} {l : List α} : a ∈ b0 :: b1 :: b2 :: b3 :: b4 :: b5 :: b6 :: b7 :: b8 :: b9 :: b10 :: b11 :: b12 :: b13 :: b14 :: b15 :: b16 :: b17 :: b18 :: b19 :: b20 :: a :: l := .tail _ M20
abbrev pv (g : Nat) : Value := .pointer (some ⟨g, 0, none⟩)
abbrev ad (g o : Nat) : Option Addr := some ⟨g, o, none⟩
abbrev vq (n : Int) : Value := .int .u64 n
abbrev vi (n : Int) : Value := .int .i64 n
abbrev vd (n : Int) : Value := .int .u32 n
end
end Go.Sl
namespace Go.Sl
open Go
section
variable {x : Cx} {s : Slots} {H : HP} {d n : Nat} {p q : Operand} {ty t t' e : TypeId} {pos : String} {af : Array Edge} {gd : Option (Nat × Bool)}
theorem l_appZ {i : TypeInfo} {z : Value} {k kn : IntKind} (hU : x.P.underlying t = some (.slice e)) (hT : x.P.underlying t' = some (.int kn)) (hI : x.P.info? e = some i) (hz : i.zero = some z) (hs1 : i.size = 1) (hb1 : i.bytes = 1) (hzs : z.cells.size = 1)
    (hN : Nat.blt d x.N = true) (hp : ev s p = some (.slice none 0 0)) (hq : ev s q = some (.int k (n : Nat))) (h0 : 0 < n) (hb : n ≤ 140737488355328) :
    Lo x s H ⟨some d, .call { callee := .builtin .append, args := #[p, q], argTypes := #[t, t'] }, ty, pos, af, gd⟩ (Y := Nat × List Value) (fun y => (d, .slice (some ⟨y.1, 0, none⟩) n y.2.length) :: s) (fun y => (y.1, C y.2 e) :: H) (fun y => n ≤ y.2.length ∧ y.2.length < 9223372036854775808) :=
  l_gen (Y := Nat × List Value) (fun y => .slice (some ⟨y.1, 0, none⟩) n y.2.length) (fun y => (y.1, C y.2 e) :: H) (fun y => n ≤ y.2.length ∧ y.2.length < 9223372036854775808) rfl hN (fun a w hs => by
    have hr := Lib.run_append_nil_zeros (P := x.P) w t t' ty e i z k kn hU hT hI hz n h0 (by omega) (by omega) (by rw [hb1]; omega)
    have hge : n ≤ grownCap w n 0 e := by simp [grownCap, Question.cut]
    have hlt : grownCap w n 0 e < 9223372036854775808 := by
      have := Nat.mod_lt (w.tape w.drawn (.appendCap n 0 e)) (show 0 < 2 ^ 63 - n by omega)
      simp only [grownCap, Question.cut]; omega
    generalize grownCap w n 0 e = c at hr hge hlt
    have hsz : (Builtin.zeroCells z.cells n ++ Builtin.zeroCells z.cells (c - n)).size = c := by simp [size_zeroCells, hzs]; omega
    generalize Builtin.zeroCells z.cells n ++ Builtin.zeroCells z.cells (c - n) = Z at hr hsz
    refine ⟨w.drew.alloc (.cells Z.toList.toArray e), (w.heap.size, Z.toList), ?_, ⟨by simpa [hsz] using hge, by simpa [hsz] using hlt⟩, ?_⟩
    · show (execOp a.eval ⟨some d, .call { callee := .builtin .append, args := #[p, q], argTypes := #[t, t'] }, ty, pos, af, gd⟩).run x.P w = .ok (.value (.slice (some ⟨w.heap.size, 0, none⟩) n Z.toList.length)) (w.drew.alloc (.cells Z.toList.toArray e))
      simp only [Array.length_toList, hsz, Array.toArray_toList]
      simp [execOp, resolve, invoke, builtin, hs.eval hp, hs.eval hq, hr]
    · exact hs.newd _)
end
end Go.Sl
namespace Go.Sl
open Go
section
variable {x : Cx} {s : Slots} {H H' : HP} {d : Nat} {p q : Operand} {ty t t' : TypeId} {pos : String} {af : Array Edge} {gd : Option (Nat × Bool)} {u : Value} {g n m : Nat} {e : TypeId}
theorem l_appR {sz cap : Nat} {i : TypeInfo} {l L news : List Value} {fr : Nat × Nat} (hU : x.P.underlying t = some (.slice e)) (hI : x.P.info? e = some i) (hsz : i.size = sz)
    (hN : Nat.blt d x.N = true) (hp : ev s p = some (.slice (some ⟨g, 0, none⟩) n cap)) (hq : ev s q = some u) (hu : UpB H g (.cells l.toArray e fr) (.cells L.toArray e fr) H') (hlen : l.length = cap * sz) (hroom : n + m ≤ cap) (hmk : cap * sz ≤ fr.1 ∨ fr.2 = 0) (hsv : Sv x H sz t' u m news)
    (hL : l.take (n * sz) ++ news ++ l.drop (n * sz + news.length) = L) :
    Lo x s H ⟨some d, .call { callee := .builtin .append, args := #[p, q], argTypes := #[t, t'] }, ty, pos, af, gd⟩ (Y := Unit) (fun _ => (d, .slice (some ⟨g, 0, none⟩) (n + m) cap) :: s) (fun _ => H') (fun _ => True) :=
  l_gen (Y := Unit) (fun _ => .slice (some ⟨g, 0, none⟩) (n + m) cap) (fun _ => H') (fun _ => True) rfl hN (fun a w hs => by
    have hsrc := hsv.src hs
    rw [← hsz] at hsrc
    have hex : ∀ r w', (Builtin.append_ #[t, t'] ty #[.slice (some ⟨g, 0, none⟩) n cap, u]).run x.P w = .ok r w' → (execOp a.eval ⟨some d, .call { callee := .builtin .append, args := #[p, q], argTypes := #[t, t'] }, ty, pos, af, gd⟩).run x.P w = .ok (.value r) w' := fun r w' hr => by
      simp [execOp, resolve, invoke, builtin, hs.eval hp, hs.eval hq, hr]
    have hnl : news.length = m * sz := by rw [← hsz]; exact hsrc.newsLen
    have hm : w.heap[g]? = some (.cells l.toArray e fr) := hs.heap (g, _) hu.mem
    have hle : n * sz + m * sz ≤ cap * sz := by rw [← Nat.add_mul]; exact Nat.mul_le_mul_right _ hroom
    have hr := run_append_room_src (P := x.P) w t t' ty e i hU hI g 0 n cap u m news hsrc hroom (fun j hj => by
        rw [hsz, Nat.zero_add, cell_of hm, List.getElem?_eq_getElem (by rw [hlen]; omega)]; rfl)
      (fun j hj => frozen_of hm (by rw [hsz, Nat.zero_add]; omega))
    rw [hsz, Nat.zero_add] at hr
    obtain ⟨e2, e3, e4, e5, e6, e7⟩ := setCells_get news w g (n * sz) l e fr hm (by rw [hlen]; omega)
    rw [hL] at e2
    exact ⟨_, (), hex _ _ hr, trivial, hs.up hu e2 e3 e4 e5 e6 e7⟩)
/-- Zero bytes put behind a slice that has no room for them: a new block. -/
theorem l_appZO {cap : Nat} {i : TypeInfo} {z : Value} {k kn : IntKind} {xs l : List Value} {fr : Nat × Nat} (hU : x.P.underlying t = some (.slice e)) (hT : x.P.underlying t' = some (.int kn)) (hI : x.P.info? e = some i) (hz : i.zero = some z) (hs1 : i.size = 1) (hb1 : i.bytes = 1) (hzs : z.cells.size = 1)
    (hN : Nat.blt d x.N = true) (hp : ev s p = some (.slice (some ⟨g, 0, none⟩) n cap)) (hq : ev s q = some (.int k (m : Nat))) (hm : (g, .cells l.toArray e fr) ∈ H) (hcut : CutL l 0 n xs) (h0 : 0 < m) (hg : cap < n + m) (hb : n + m ≤ 1000000) :
    Lo x s H ⟨some d, .call { callee := .builtin .append, args := #[p, q], argTypes := #[t, t'] }, ty, pos, af, gd⟩ (Y := Nat × List Value) (fun y => (d, .slice (some ⟨y.1, 0, none⟩) (n + m) (n + y.2.length)) :: s) (fun y => (y.1, C (xs ++ y.2) e) :: H) (fun y => m ≤ y.2.length ∧ n + y.2.length < 9223372036854775808) :=
  l_gen (Y := Nat × List Value) (fun y => .slice (some ⟨y.1, 0, none⟩) (n + m) (n + y.2.length)) (fun y => (y.1, C (xs ++ y.2) e) :: H) (fun y => m ≤ y.2.length ∧ n + y.2.length < 9223372036854775808) rfl hN (fun a w hs => by
    have hxl : xs.length = n := by have := congrArg List.length hcut.eq; have := hcut.le; simp at *; omega
    have hfc := run_firstCells_some (P := x.P) w.drew i.size n ⟨g, 0, none⟩ n cap xs (by rw [hs1]; omega) (fun j u' hj => by
        have hj' : j < xs.length := (List.getElem?_eq_some_iff.1 hj).1
        rw [add_addr, Nat.zero_add, cell_of (hs.drew.heap (g, _) hm)]
        rw [hcut.eq] at hj
        rw [List.getElem?_take_of_lt (by omega), List.drop_zero] at hj
        exact hj)
    have hr := Lib.run_append_grow_zeros (P := x.P) w t t' ty e i z k kn hU hT hI hz (some ⟨g, 0, none⟩) n cap xs hfc m h0 (by omega) hg (by omega) (by rw [hb1]; omega) (growslice_fits hg (by rw [hb1]; omega))
    have hge : n + m ≤ grownCap w (n + m) cap e := by simp [grownCap, Question.cut]
    have hlt : grownCap w (n + m) cap e < 9223372036854775808 := by
      have := Nat.mod_lt (w.tape w.drawn (.appendCap (n + m) cap e)) (show 0 < 2 ^ 63 - (n + m) by omega)
      simp only [grownCap, Question.cut]; omega
    generalize grownCap w (n + m) cap e = c at hr hge hlt
    have hsz : (Builtin.zeroCells z.cells m ++ Builtin.zeroCells z.cells (c - (n + m))).size = c - n := by simp [size_zeroCells, hzs]; omega
    rw [Array.append_assoc] at hr
    generalize Builtin.zeroCells z.cells m ++ Builtin.zeroCells z.cells (c - (n + m)) = Z at hr hsz
    have hrow : xs.toArray ++ Z = (xs ++ Z.toList).toArray := by apply Array.ext'; simp
    rw [hrow] at hr
    refine ⟨w.drew.alloc (.cells (xs ++ Z.toList).toArray e), (w.heap.size, Z.toList), ?_, ⟨by simp [hsz]; omega, by simp [hsz]; omega⟩, ?_⟩
    · show (execOp a.eval ⟨some d, .call { callee := .builtin .append, args := #[p, q], argTypes := #[t, t'] }, ty, pos, af, gd⟩).run x.P w = .ok (.value (.slice (some ⟨w.heap.size, 0, none⟩) (n + m) (n + Z.toList.length))) (w.drew.alloc (.cells (xs ++ Z.toList).toArray e))
      have e1 : n + Z.toList.length = c := by simp [hsz]; omega
      rw [e1]
      simp [execOp, resolve, invoke, builtin, hs.eval hp, hs.eval hq, hr]
    · exact hs.newd _)
/-- copy into a block of whatever make. -/
theorem l_copyE {x : Cx} {s : Slots} {H H' : HP} {d : Nat} {p q : Operand} {ty t t' : TypeId} {pos : String} {af : Array Edge} {gd : Option (Nat × Bool)} {u : Value} {g n m off cap k' lo hi : Nat} {e e' : TypeId} {l l' vs : List Value} (hU : ∀ w, (underlying t).run x.P w = .ok (.slice e') w) (hS : ∀ w, (sizeOf e').run x.P w = .ok 1 w) (hN : Nat.blt d x.N = true)
    (hp : ev s p = some (.slice (some ⟨g, off, none⟩) n cap)) (hq : ev s q = some u) (hsv : Sv x H 1 t' u m vs) (hk : Nat.min m n = k') (hu : UpB H g (.cells l.toArray e (lo, hi)) (.cells l'.toArray e (lo, hi)) H') (hs' : PutL l off (vs.take k') l') (hf : off + k' ≤ lo ∨ hi = 0) :
    Lo x s H ⟨some d, .call { callee := .builtin .copy, args := #[p, q], argTypes := #[t, t'] }, ty, pos, af, gd⟩ (Y := Unit) (fun _ => (d, .int .i64 k') :: s) (fun _ => H') (fun _ => True) :=
  l_gen (Y := Unit) (fun _ => .int .i64 k') (fun _ => H') (fun _ => True) rfl hN (fun a w hs => by
    have hh := hs.heap _ hu.mem
    have hle : k' ≤ m := by rw [← hk]; exact Nat.min_le_left _ _
    have hlen : (vs.take k').length = k' := by rw [List.length_take, hsv.newsLen, Nat.mul_one, Nat.min_eq_left hle]
    have hfst := hsv.first hs hle
    obtain ⟨w', e1, e2, e3, e4, e5, e6, e7⟩ := run_storeCells (P := x.P) (vs.take k') w 0 l (off := off) hh (by have := hs'.le; omega) (fun u hu => hsv.one u (List.mem_of_mem_take hu)) (fun j h1 h2 => by rw [hlen] at h2; omega)
    refine ⟨w', (), ?_, trivial, hs.up hu (by rw [hs'.eq]; simpa using e2) e3 e4 e5 e6 e7⟩
    simp only [execOp, resolve, invoke, builtin, Sem.run_bind, Sem.run_pure, Result.andThen_ok]
    simp [hs.eval hp, hs.eval hq, Builtin.copy_, hU, hS, hsv.lenq, hk, hfst, e1, goInt])
end
section
variable {x : Cx} {s : Slots} {H : HP} {d : Nat} {p : Operand} {ty t t' : TypeId} {pos : String} {af : Array Edge} {gd : Option (Nat × Bool)} {g n off : Nat} {e e' : TypeId} {l : List Value} {fr : Nat × Nat}
/-- string(b), b's cells the bytes bs, in a block of whatever make. -/
theorem e_bsE {bs : List UInt8} {cap : Nat} (hU : x.P.underlying t = some (.slice e)) (hU8 : x.P.underlying e = some (.int .u8)) (hU' : x.P.underlying t' = some .string) (hp : ev s p = some (.slice (some ⟨g, off, none⟩) n cap))
    (hm : (g, .cells l.toArray e' fr) ∈ H ∨ (g, Obj.cells l.toArray e' fr) ∈ x.G) (hc : CutL l off n (B bs)) : Ex x s H ⟨some d, .convert t t' p, ty, pos, af, gd⟩ (S bs) := fun a w hs => by
  have hn : n = bs.length := by
    have := congrArg List.length hc.eq
    have h2 := hc.le
    simp [B] at this; omega
  subst hn
  have hcells : ∀ j (hj : j < bs.length), w.cell? ((⟨g, off, none⟩ : Addr).add j) = some (.int .u8 (bs[j].toNat : Int)) := fun j hj => by
    rw [add_addr, cell_of (hs.mem hm)]
    have := congrArg (fun z => z[j]?) hc.eq
    simp [B, hj] at this
    exact this.symm
  simp only [execOp, hs.eval hp, Sem.run_bind, run_convert_bytes_back w t t' e ⟨g, off, none⟩ cap bs hU hU8 hU' hcells, Result.andThen_ok, Sem.run_pure]
end
section
variable {x : Cx} {ops : Array Oper} {k : List KI} {s : Slots} {H HS : HP} {L : List Nat}
/-- A region whose louder part leaves HS alone till one of L comes up. -/
def TO (x : Cx) (ops : Array Oper) (k : List KI) (HS : HP) (L : List Nat) (fuel : Nat) (done : Array Bool) (s : Slots) (H : HP) : Prop :=
  ∀ a w, St x s H a w → St x s HS a w → wpTwo x.P ops (kp x.P x.Q k) (Sw x HS) (Sw x []) L fuel done a w
theorem c_regiont {id : Nat} {l : List Oper} (HS : HP) (L : List Nat) (hm : x.P.follows .mixedOrders = true) (hHS : HS.Sublist H) (h : TO x l.toArray k HS L l.length (Array.replicate l.length false) s H) : WC x k (.region id l.toArray true) s H := fun a w hs =>
  wp_region_any hm (wpTwo.any _ _ _ _ (by simpa using h a _ hs.drew (hs.drew.less (fun _ _ hv => hv) hHS)))
theorem t_e (i : Nat) {o : Oper} {d : Nat} {v : Value} {fuel : Nat} {done : Array Bool} (hQ : ∀ c a w d v, x.Q (.panic c) (Act.put a (some d) v) w → x.Q (.panic c) a w) (hi : ops[i]? = some o) (hs0 : Region.noSelect ops = true) (hf : (Region.free .any ops done i && waitL ops done i L && !L.contains i) = true) (hr : (Region.ready .any ops done).contains i = true)
    (hw : wantS ops s o = some true) (hd : o.dst = some d) (hN : Nat.blt d x.N = true) (he : Ex x s HS o v) (h : TO x ops k HS L fuel (done.setIfInBounds i true) ((d, v) :: s) H) : TO x ops k HS L (fuel + 1) done s H := fun a w hs hS => by
  have hN' : d < x.N := by simpa [Nat.blt_eq] using hN
  simp only [Bool.and_eq_true, Bool.not_eq_true', List.contains_eq_mem, decide_eq_false_iff_not] at hf
  refine wpTwo.first hi (Region.noSelect_spec hs0) (v := v) (fun c a w hq => by rw [kp_panic] at hq ⊢; rw [hd] at hq; exact hQ _ _ _ _ _ hq) hf.2 fuel done a w (Region.free_spec hi hf.1.1) (fun j hj => waitL_spec hf.1.2 hj) (by simpa using hr) (.inl ⟨want_of hs hw, fun w' hw' => he a w' (hS.of_sw hw')⟩) (hS.sw fun _ hp => hp) ?_
  rw [hd]
  exact h _ w (hs.put _ hN') (hS.put _ hN')
theorem t_m (i : Nat) {o : Oper} {d : Nat} {v : Value} {fuel : Nat} {done : Array Bool} (hQ : ∀ c a w d v, x.Q (.panic c) (Act.put a (some d) v) w → x.Q (.panic c) a w) (hi : ops[i]? = some o) (hs0 : Region.noSelect ops = true) (hf : (Region.free .any ops done i && !L.contains i) = true) (hr : (Region.ready .any ops done).contains i = true)
    (hw : wantS ops s o = some true) (hd : o.dst = some d) (hN : Nat.blt d x.N = true) (he : Ex x s [] o v) (h : TO x ops k HS L fuel (done.setIfInBounds i true) ((d, v) :: s) H) : TO x ops k HS L (fuel + 1) done s H := fun a w hs hS => by
  have hN' : d < x.N := by simpa [Nat.blt_eq] using hN
  simp only [Bool.and_eq_true, Bool.not_eq_true', List.contains_eq_mem, decide_eq_false_iff_not] at hf
  have hs' := hs.less (fun _ _ hv => hv) (List.nil_sublist H)
  refine wpTwo.firstM hi (Region.noSelect_spec hs0) (v := v) (fun c a w hq => by rw [kp_panic] at hq ⊢; rw [hd] at hq; exact hQ _ _ _ _ _ hq) hf.2 (fun w hw => ⟨fun _ hp => (by cases hp), hw.glob, hw.fr⟩) fuel done a w (Region.free_spec hi hf.1) (by simpa using hr) (.inl ⟨want_of hs hw, fun w' hw' => he a w' (hs'.of_sw hw')⟩) (hS.sw fun _ hp => hp) ?_
  rw [hd]
  exact h _ w (hs.put _ hN') (hS.put _ hN')
theorem t_skip (i : Nat) {o : Oper} {d : Nat} {fuel : Nat} {done : Array Bool} (hQ : ∀ c a w d v, x.Q (.panic c) (Act.put a (some d) v) w → x.Q (.panic c) a w) (hi : ops[i]? = some o) (hs0 : Region.noSelect ops = true) (hf : (Region.free .any ops done i && !L.contains i) = true) (hr : (Region.ready .any ops done).contains i = true)
    (hw : wantS ops s o = some false) (hd : o.dst = some d) (hN : Nat.blt d x.N = true) (h : TO x ops k HS L fuel (done.setIfInBounds i true) ((d, .tuple #[]) :: s) H) : TO x ops k HS L (fuel + 1) done s H := fun a w hs hS => by
  have hN' : d < x.N := by simpa [Nat.blt_eq] using hN
  simp only [Bool.and_eq_true, Bool.not_eq_true', List.contains_eq_mem, decide_eq_false_iff_not] at hf
  refine wpTwo.firstM hi (Region.noSelect_spec hs0) (v := undef) (fun c a w hq => by rw [kp_panic] at hq ⊢; rw [hd] at hq; exact hQ _ _ _ _ _ hq) hf.2 (fun w hw => ⟨fun _ hp => (by cases hp), hw.glob, hw.fr⟩) fuel done a w (Region.free_spec hi hf.1) (by simpa using hr) (.inr ⟨want_of hs hw, rfl⟩) (hS.sw fun _ hp => hp) ?_
  rw [hd]
  exact h _ w (hs.put _ hN') (hS.put _ hN')
/-- A loud one, alone, that leaves HS as it is. -/
theorem t_k (i : Nat) {o : Oper} {fuel : Nat} {done : Array Bool} {Y : Type} {s' : Y → Slots} {J : Y → HP} {A : Y → Prop} (hr : Region.ready .any ops done = [i]) (hL : L.contains i = false) (hi : ops[i]? = some o) (hw : wantS ops s o = some true) (hl : Lo x s H o s' J A) (hHS : ∀ y, A y → ∀ p ∈ HS, p ∈ J y)
    (h : ∀ y, A y → TO x ops k HS L fuel (done.setIfInBounds i true) (s' y) (J y)) : TO x ops k HS L (fuel + 1) done s H := fun a w hs hS => by
  refine ⟨fun h0 => (by rw [hr] at h0; cases h0), fun j hj => ?_⟩
  rw [hr] at hj
  rcases List.mem_singleton.1 hj with rfl
  refine ⟨fun hn => absurd hn (by simpa using hL), fun _ => ?_⟩
  unfold wpOp
  rw [hi]
  simp only [want_of hs hw, if_true]
  refine .inl (hl a w hs _ _ fun y a' w' hA hst => ?_)
  have hsw := hst.sw (hHS y hA)
  refine ⟨hsw, h y hA a' w' hst ?_⟩
  exact { size := hst.size, defers := hst.defers, slots := hst.slots, heap := hsw.heap, glob := hst.glob, nodup := hS.nodup, apart := hS.apart, own := hS.own, gown := hst.gown, fr := hst.fr }
/-- The first of L, alone. -/
theorem t_l (i : Nat) {o : Oper} {fuel : Nat} {done : Array Bool} {Y : Type} {s' : Y → Slots} {J : Y → HP} {A : Y → Prop} (hr : Region.ready .any ops done = [i]) (hL : L.contains i = true) (hi : ops[i]? = some o) (hw : wantS ops s o = some true) (hl : Lo x s H o s' J A)
    (h : ∀ y, A y → DO x ops k [] fuel (done.setIfInBounds i true) (s' y) (J y)) : TO x ops k HS L (fuel + 1) done s H := fun a w hs _ => by
  refine ⟨fun h0 => (by rw [hr] at h0; cases h0), fun j hj => ?_⟩
  rw [hr] at hj
  rcases List.mem_singleton.1 hj with rfl
  refine ⟨fun _ => d_op (HS := []) hi hw hl (fun _ _ _ hp => by cases hp) h hs ?_, fun hn => absurd (by simpa using hL) hn⟩
  exact hs.less (fun _ _ hv => hv) (List.nil_sublist _)
end
/-- The same with its blocks in another order, and what is left told in another order. -/
theorem Ctr.perm {P : Program} {f : FuncId} {args : List Value} {G H H1 : HP} {R R1 : Value → HP → Prop} (h : Ctr P f args G H R) (hp : H1.Perm H) (hR : ∀ v K, R v K → ∃ K1, K.Perm K1 ∧ R1 v K1) : Ctr P f args G H1 R1 := by
  intro w hG hH hnd hap
  have hk : (keys H1).Perm (keys H) := hp.map _
  refine Calls.mono (h w hG (fun p hm => hH p (hp.symm.subset hm)) (hk.nodup_iff.1 hnd) (fun g hg => hap g (hk.symm.subset hg))) ?_
  rintro e w' ⟨v, K, rfl, hv, h1, h2, h3, h4⟩
  obtain ⟨K1, hpk, hv1⟩ := hR v K hv
  have hkk : (keys K).Perm (keys K1) := hpk.map _
  exact ⟨v, K1, rfl, hv1, fun p hm => h1 p (hpk.symm.subset hm), hkk.nodup_iff.1 h2, h3.mono (fun g hg => hk.symm.subset hg), fun g hg => (h4 g (hkk.symm.subset hg)).imp (fun hm => hk.symm.subset hm) id⟩
end Go.Sl
namespace Go.Sl
open Go
theorem perm_of_count {H H' : HP} (h : ∀ (c : Nat × Obj → HP → Nat) (e : Nat × Obj → Nat × Obj → Nat), (∀ a, c a [] = 0) → (∀ a b l, c a (b :: l) = e a b + c a l) → (∀ a l l', c a (l ++ l') = c a l + c a l') → ∀ a, c a H = c a H') : H.Perm H' := by
  classical
  rw [List.perm_iff_count]
  exact h (fun a l => l.count a) (fun a b => List.count a [b]) (fun a => List.count_nil) (fun a b l => by show List.count a (b :: l) = List.count a [b] + List.count a l; rw [List.count_cons, List.count_cons, List.count_nil, Nat.zero_add, Nat.add_comm]) (fun a l l' => List.count_append)
end Go.Sl
