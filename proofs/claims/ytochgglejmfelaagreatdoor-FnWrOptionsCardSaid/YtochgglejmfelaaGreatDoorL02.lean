/- The calculus, 6: bytes, copies, what is appended, new slices, structs, functions of the machine; The calculus, 7: copies, new slices, structs, closures, functions of the machine, maps; The calculus, 8: maps whose keys are numbers; The calculus, 9: runs whose values are known: contracts that tell all; slices with room behind them; The calculus, 10: one deferred closure that finds nothing to recover; The calculus, 11: what strings.Builder asks. (A part of the proof of this: for every input laws.FnWrOptions returns true and its arguments read as they did, the listed package variables being what the program lays) -/
import Derived.Test.YtochgglejmfelaaGreatDoorL01
import Derived.Laws.OwnMore
import Derived.MapKept
import Derived.Maps.RangeRun
import Derived.Recover
import Derived.Lib.Builder
import Derived.Lib.UnsafeStr
import Derived.Lib.MakeNoZero
set_option linter.unusedVariables false
set_option linter.unusedSimpArgs false
namespace Go.Sl
open Go

section
variable {x : Cx} {ops : Array Oper} {k : List KI} {rest : List Oper} {s : Slots} {H H' : HP}
variable {d : Nat} {p q c : Operand} {ty t t' : TypeId} {pos : String} {af : Array Edge} {gd : Option (Nat × Bool)} {v u r : Value} {g off n m : Nat} {l l' vs : List Value} {e : TypeId} {fr : Nat × Nat} {lo hi : Nat}

def B (bs : List UInt8) : List Value := bs.map fun b => .int .u8 b.toNat
theorem B_length (bs : List UInt8) : (B bs).length = bs.length := by simp [B]
theorem B_append (a b : List UInt8) : B (a ++ b) = B a ++ B b := by simp [B]
theorem B_one (bs : List UInt8) : ∀ v ∈ B bs, v.oneCell' = true := by
  intro v hv
  obtain ⟨b, _, rfl⟩ := List.mem_map.1 hv
  rfl

/-! ### Bytes of strings, strings of bytes -/
/-- A new block in a world that has drawn. -/
theorem St.newd {a : Act} {w : World} (h : St x s H a w) (o : Obj) : St x s ((w.heap.size, o) :: H) a (w.drew.alloc o) := h.drew.new o

/-- string(b), b's cells the bytes bs. -/
theorem e_bs {bs : List UInt8} {cap : Nat} (hU : x.P.underlying t = some (.slice e)) (hU8 : x.P.underlying e = some (.int .u8)) (hU' : x.P.underlying t' = some .string) (hp : ev s p = some (.slice (some ⟨g, off, none⟩) n cap))
    (hm : (g, .cells l.toArray e fr) ∈ H ∨ (g, Obj.cells l.toArray e fr) ∈ x.G) (hc : CutL l off n (B bs)) : Ex x s H ⟨some d, .convert t t' p, ty, pos, af, gd⟩ (S bs) := fun a w hs => by
  have hn : n = bs.length := by
    have := congrArg List.length hc.eq
    have h2 := hc.le
    simp [B] at this; omega
  subst hn
  have hcells : ∀ j (hj : j < bs.length), w.cell? ((⟨g, off, none⟩ : Addr).add j) = some (.int .u8 (bs[j].toNat : Int)) := fun j hj => by
    rw [add_addr, cell_of (hs.mem hm)]
    have := congrArg (fun z => z[j]?) hc.eq
    simp [B, hj] at this
    exact this.symm
  simp only [execOp, hs.eval hp, Sem.run_bind, run_convert_bytes_back w t t' e ⟨g, off, none⟩ cap bs hU hU8 hU' hcells, Result.andThen_ok, Sem.run_pure]
theorem e_bsn {cap : Nat} (hU : x.P.underlying t = some (.slice e)) (hU8 : x.P.underlying e = some (.int .u8)) (hU' : x.P.underlying t' = some .string) (hp : ev s p = some (.slice none n cap)) : Ex x s H ⟨some d, .convert t t' p, ty, pos, af, gd⟩ (S []) := fun a w hs => by
  have h0 : ByteArray.empty = ⟨[].toArray⟩ := rfl
  simp only [execOp, hs.eval hp, Sem.run_bind, run_convert_bytes_string w t t' e none n cap hU hU8 hU', Conv.bytesToString, Result.andThen_ok, Sem.run_pure, h0]

/-! ### What is appended or copied -/
/-- The operand's value yields n elements, whose cells are news, each element of sz cells. -/
inductive Sv (x : Cx) (H : HP) (sz : Nat) (t : TypeId) : Value → Nat → List Value → Prop where
  | str {bs : List UInt8} (hU : x.P.underlying t = some .string) (h1 : sz = 1) : Sv x H sz t (S bs) bs.length (B bs)
  | nil {e : TypeId} {cap : Nat} (hU : x.P.underlying t = some (.slice e)) : Sv x H sz t (.slice none 0 cap) 0 []
  | zero {e : TypeId} {A : Addr} {cap : Nat} (hU : x.P.underlying t = some (.slice e)) : Sv x H sz t (.slice (some A) 0 cap) 0 []
  | blk {e e' : TypeId} {g off n cap : Nat} {l vs : List Value} {fr : Nat × Nat} (hU : x.P.underlying t = some (.slice e)) (hm : (g, .cells l.toArray e' fr) ∈ H ∨ (g, Obj.cells l.toArray e' fr) ∈ x.G) (hc : CutL l off (n * sz) vs) (h1 : ∀ v ∈ vs, v.oneCell' = true) :
      Sv x H sz t (.slice (some ⟨g, off, none⟩) n cap) n vs

theorem Sv.src {sz : Nat} {a : Act} {w : World} (hs : St x s H a w) (h : Sv x H sz t v n vs) : Src x.P sz t v n vs w := by
  cases h with
  | @str bs hU h1 =>
    subst h1
    have := Src.ofString (P := x.P) w hU (⟨bs.toArray⟩ : ByteArray)
    have e2 : byteCells (⟨bs.toArray⟩ : ByteArray) = B bs := by simp [byteCells, B]
    rw [e2, size_S] at this
    exact this
  | nil hU => exact Src.ofNil w hU _
  | zero hU => exact Src.ofSlice w hU _ 0 _ [] (by simp) (fun j u hj => by simp at hj) (fun u hu => by cases hu)
  | @blk e e' g off n cap l vs fr hU hm hc h1 =>
    refine Src.ofSlice w hU _ _ _ _ ?_ ?_ h1
    · have := congrArg List.length hc.eq
      have h2 := hc.le
      simp at this; omega
    · intro j u hj
      rw [add_addr, cell_of (hs.mem hm)]
      rw [hc.eq] at hj
      have hlt := (List.getElem?_eq_some_iff.1 hj).1
      simp at hlt
      rw [List.getElem?_take_of_lt (by omega), List.getElem?_drop] at hj
      exact hj

/-- A slice from its block's begin, its elements' cells, its blocks. -/
inductive Osl (e : TypeId) (sz : Nat) : Value → Nat → List Value → HP → Prop where
  | nil : Osl e sz (.slice none 0 0) 0 [] []
  | own {g n cap lo hi : Nat} {xs rest : List Value} (h1 : xs.length = n * sz) (h2 : rest.length = (cap - n) * sz) (h3 : n ≤ cap) (h4 : cap < 9223372036854775808) (h5 : cap * sz ≤ lo ∨ hi = 0) : Osl e sz (.slice (some ⟨g, 0, none⟩) n cap) n xs [(g, .cells (xs ++ rest).toArray e (lo, hi))]

theorem setCells_get : ∀ (vs : List Value) (w : World) (g off : Nat) (l : List Value) (e : TypeId) (fr : Nat × Nat), w.heap[g]? = some (.cells l.toArray e fr) → off + vs.length ≤ l.length →
    (w.setCells g off vs).heap[g]? = some (.cells (l.take off ++ vs ++ l.drop (off + vs.length)).toArray e fr) ∧ (∀ j, j ≠ g → (w.setCells g off vs).heap[j]? = w.heap[j]?) ∧ (w.setCells g off vs).os = w.os ∧ (w.setCells g off vs).tape = w.tape ∧ (w.setCells g off vs).output = w.output ∧ (w.setCells g off vs).heap.size = w.heap.size := by
  intro vs
  induction vs with
  | nil => intro w g off l e fr h hl; exact ⟨by simpa [World.setCells] using h, fun _ _ => rfl, rfl, rfl, rfl, rfl⟩
  | cons v vs ih =>
    intro w g off l e fr h hl
    simp only [List.length_cons] at hl
    obtain ⟨e2, e3, e4, e5, e6, e7⟩ := ih (w.setCell ⟨g, off, none⟩ v) g (off + 1) (l.set off v) e fr (heap_set_same v h) (by simp; omega)
    refine ⟨?_, fun j hj => (e3 j hj).trans (heap_set_other v hj), e4, e5, e6, by rw [World.setCells, e7]; simp⟩
    rw [World.setCells, e2]
    congr 3
    have hlt : off < l.length := by omega
    rw [List.take_set, List.drop_set_of_lt (by omega)]
    rw [List.take_succ_eq_append_getElem hlt, List.set_append_right _ _ (by simp; omega)]
    simp [Nat.min_eq_left (Nat.le_of_lt hlt)]
    omega

theorem Osl.open_ {sz : Nat} {xs : List Value} {HB : HP} (h : Osl e sz v n xs HB) (hn : 0 < n) : ∃ g cap rest lo hi, v = .slice (some ⟨g, 0, none⟩) n cap ∧ HB = [(g, .cells (xs ++ rest).toArray e (lo, hi))] ∧ xs.length = n * sz ∧ rest.length = (cap - n) * sz ∧ n ≤ cap ∧ cap < 9223372036854775808 ∧ (cap * sz ≤ lo ∨ hi = 0) := by
  cases h with
  | nil => cases hn
  | own h1 h2 h3 h4 h5 => exact ⟨_, _, _, _, _, rfl, rfl, h1, h2, h3, h4, h5⟩
theorem Osl.len {sz : Nat} {xs : List Value} {HB : HP} (h : Osl e sz v n xs HB) : xs.length = n * sz := by
  cases h with
  | nil => simp
  | own h1 h2 h3 h4 h5 => exact h1

/-- append: the result is a slice whose elements' cells are the old ones and then the new ones; the old block is not spoken of any more. -/
theorem l_append {sz : Nat} {i : TypeInfo} {z : Value} {xs news : List Value} {HB Hr : HP} (hU : x.P.underlying t = some (.slice e)) (hI : x.P.info? e = some i) (hz : i.zero = some z) (hsz : i.size = sz) (hzs : z.cells.size = sz)
    (hN : Nat.blt d x.N = true) (hp : ev s p = some v) (hq : ev s q = some u) (ho : Osl e sz v n xs HB) (hsel : H.Perm (HB ++ Hr)) (hsv : Sv x H sz t' u m news) (hb : (n + m) * i.bytes ≤ 140737488355328) (h63 : n + m < 9223372036854775808) :
    Lo x s H ⟨some d, .call { callee := .builtin .append, args := #[p, q], argTypes := #[t, t'] }, ty, pos, af, gd⟩ (Y := Value × HP) (fun y => (d, y.1) :: s) (fun y => y.2 ++ Hr) (fun y => Osl e sz y.1 (n + m) (xs ++ news) y.2) :=
  l_gen (Y := Value × HP) (fun y => y.1) (fun y => y.2 ++ Hr) (fun y => Osl e sz y.1 (n + m) (xs ++ news) y.2) rfl hN (fun a w hs => by
    have hsrc := hsv.src hs
    rw [← hsz] at hsrc
    have hst := hs.perm hsel
    have hex : ∀ r w', (Builtin.append_ #[t, t'] ty #[v, u]).run x.P w = .ok r w' → (execOp a.eval ⟨some d, .call { callee := .builtin .append, args := #[p, q], argTypes := #[t, t'] }, ty, pos, af, gd⟩).run x.P w = .ok (.value r) w' := fun r w' hr => by
      simp [execOp, resolve, invoke, builtin, hs.eval hp, hs.eval hq, hr]
    have hnl : news.length = m * sz := by rw [← hsz]; exact hsrc.newsLen
    have grow : ∀ (A : Option Addr) (cap : Nat), v = .slice A n cap → cap < n + m → (Builtin.firstCells i.size n (.slice A n cap)).run x.P w.drew = .ok xs.toArray w.drew →
        ∃ w', ∃ y : Value × HP, (execOp a.eval ⟨some d, .call { callee := .builtin .append, args := #[p, q], argTypes := #[t, t'] }, ty, pos, af, gd⟩).run x.P w = .ok (.value y.1) w' ∧ Osl e sz y.1 (n + m) (xs ++ news) y.2 ∧ St x s (y.2 ++ Hr) a w' := fun A cap hv hg hold => by
      subst hv
      have hr := run_append_grow_src (P := x.P) w t t' ty e i z hU hI hz A n cap xs hold u m news hsrc hg (by omega) (growslice_fits hg hb)
      obtain ⟨c0, hc0⟩ : ∃ c0, grownCap w (n + m) cap e = n + m + c0 := by
        have : n + m ≤ grownCap w (n + m) cap e := by simp [grownCap, Question.cut]
        exact ⟨_, (Nat.add_sub_cancel' this).symm⟩
      have hc1 : n + m + c0 < 9223372036854775808 := by
        rw [← hc0]
        have := Nat.mod_lt (w.tape w.drawn (.appendCap (n + m) cap e)) (show 0 < 2 ^ 63 - (n + m) by omega)
        simp only [grownCap, Question.cut]; omega
      rw [hc0] at hr
      have hz0 : (Builtin.zeroCells z.cells (n + m + c0 - (n + m))).toList.length = c0 * sz := by simp [size_zeroCells, hzs]
      have hrow : (xs ++ news).toArray ++ Builtin.zeroCells z.cells (n + m + c0 - (n + m)) = ((xs ++ news) ++ (Builtin.zeroCells z.cells (n + m + c0 - (n + m))).toList).toArray := by
        apply Array.ext'; simp
      rw [hrow] at hr
      refine ⟨_, (.slice (some ⟨w.heap.size, 0, none⟩) (n + m) (n + m + c0), [(w.heap.size, _)]), hex _ _ hr, .own (lo := 0) (by simp [ho.len, hnl, Nat.add_mul]) (by rw [hz0]; congr 1; omega) (by omega) hc1 (.inr rfl), ?_⟩
      exact (hst.less (fun _ _ hv => hv) (List.sublist_append_right HB Hr)).newd _
    cases ho with
    | nil =>
      by_cases h0 : m = 0
      · subst h0
        have hnil : news = [] := List.length_eq_zero_iff.1 (by simpa using hnl)
        subst hnil
        refine ⟨w, (.slice none 0 0, []), hex _ _ ?_, by simpa using Osl.nil, hst⟩
        have hc := hsrc.cells
        have hl := hsrc.len
        rcases hsrc.kind with ⟨e', hk⟩ | hk <;> simp [Builtin.append_, run_underlying hU, run_underlying hk, sizeOf, typeInfo, hI, hl, hc]
      · exact grow none 0 rfl (by omega) (run_firstCells_none w.drew i.size 0 0 0)
    | @own g n cap lo hi xs rest h1 h2 h3 h4 h5 =>
      have hm : w.heap[g]? = some (.cells (xs ++ rest).toArray e (lo, hi)) := hst.heap (g, _) (.head _)
      by_cases hroom : n + m ≤ cap
      · have hlen : (xs ++ rest).length = cap * sz := by rw [List.length_append, h1, h2, ← Nat.add_mul]; congr 1; omega
        have hle : n * sz + m * sz ≤ cap * sz := by rw [← Nat.add_mul]; exact Nat.mul_le_mul_right _ hroom
        have hr := run_append_room_src (P := x.P) w t t' ty e i hU hI g 0 n cap u m news hsrc hroom (fun j hj => by
            rw [hsz, Nat.zero_add, cell_of hm, List.getElem?_eq_getElem (by rw [hlen]; omega)]; rfl)
          (fun j hj => frozen_of hm (by rw [hsz, Nat.zero_add]; omega))
        rw [hsz, Nat.zero_add] at hr
        obtain ⟨e2, e3, e4, e5, e6, e7⟩ := setCells_get news w g (n * sz) (xs ++ rest) e (lo, hi) hm (by rw [hlen]; omega)
        have hcut : (xs ++ rest).take (n * sz) ++ news ++ (xs ++ rest).drop (n * sz + news.length) = (xs ++ news) ++ rest.drop (m * sz) := by
          rw [← h1, List.take_left', List.drop_append, hnl]
          · simp
          · rfl
        rw [hcut] at e2
        refine ⟨_, (.slice (some ⟨g, 0, none⟩) (n + m) cap, [(g, .cells ((xs ++ news) ++ rest.drop (m * sz)).toArray e (lo, hi))]), hex _ _ hr, .own (by simp [h1, hnl, Nat.add_mul]) (by rw [List.length_drop, h2, ← Nat.sub_mul]; congr 1; omega) hroom h4 h5, ?_⟩
        exact hst.up UpB.head e2 e3 e4 e5 e6 e7
      · refine grow _ cap rfl (by omega) ?_
        have := run_firstCells_some (P := x.P) w.drew i.size n ⟨g, 0, none⟩ n cap xs (by rw [hsz]; exact h1) (fun j u' hj => by
          rw [add_addr, Nat.zero_add, cell_of (hst.drew.heap (g, _) (.head _)), List.getElem?_append_left (List.getElem?_eq_some_iff.1 hj).1]; exact hj)
        exact this)
end
end Go.Sl
namespace Go.Sl
open Go

section
variable {x : Cx} {ops : Array Oper} {k : List KI} {rest : List Oper} {s : Slots} {H H' : HP}
variable {d : Nat} {p q c : Operand} {ty t t' : TypeId} {pos : String} {af : Array Edge} {gd : Option (Nat × Bool)} {v u r : Value} {g off n m : Nat} {l l' vs : List Value} {e : TypeId} {fr : Nat × Nat} {lo hi : Nat}

/-! ### copy, at elements of one cell -/
theorem Sv.first {a : Act} {w : World} (hs : St x s H a w) (h : Sv x H 1 t v n vs) {j : Nat} (hj : j ≤ n) : (Builtin.firstCells 1 j v).run x.P w = .ok (vs.take j).toArray w := by
  cases h with
  | @str bs hU h1 =>
    have := firstCells_string (P := x.P) ((⟨bs.toArray⟩ : ByteArray).extract 0 j) w
    simp only [Builtin.firstCells, Sem.run_pure]
    congr 1
    apply Array.ext'
    simp [B]
  | nil hU => simp at hj; subst hj; simp [Builtin.firstCells]
  | zero hU => simp at hj; subst hj; simp [Builtin.firstCells, loadCells, loadCellsFrom]
  | @blk e e' g off n cap l vs fr hU hm hc h1 =>
    have hle := hc.le
    simp only [Nat.mul_one] at hc hle
    have := run_loadCells (P := x.P) (hs.mem hm) (CutL.of (l := l) (i := off) (n := j) (by omega))
    simp only [Builtin.firstCells, Nat.mul_one, this]
    rw [hc.eq, List.take_take, Nat.min_eq_left hj]
theorem Sv.lenq {sz : Nat} (h : Sv x H sz t v n vs) (w : World) : (Builtin.lenOf v).run x.P w = .ok n w := by
  cases h with
  | str => simp [Builtin.lenOf, size_S]
  | nil => rfl
  | zero => rfl
  | blk => rfl
theorem Sv.newsLen {sz : Nat} (h : Sv x H sz t v n vs) : vs.length = n * sz := by
  cases h with
  | str hU h1 => subst h1; simp [B]
  | nil => simp
  | zero => simp
  | blk hU hm hc h1 =>
    have := congrArg List.length hc.eq
    have h2 := hc.le
    simp at this; omega
theorem Sv.one {sz : Nat} (h : Sv x H sz t v n vs) : ∀ u ∈ vs, u.oneCell' = true := by
  cases h with
  | str hU h1 => exact B_one _
  | nil => intro u hu; cases hu
  | zero => intro u hu; cases hu
  | blk hU hm hc h1 => exact h1
theorem l_copy {cap k' : Nat} (hU : ∀ w, (underlying t).run x.P w = .ok (.slice e) w) (hS : ∀ w, (sizeOf e).run x.P w = .ok 1 w) (hN : Nat.blt d x.N = true)
    (hp : ev s p = some (.slice (some ⟨g, off, none⟩) n cap)) (hq : ev s q = some u) (hsv : Sv x H 1 t' u m vs) (hk : Nat.min m n = k') (hu : UpB H g (.cells l.toArray e (lo, hi)) (.cells l'.toArray e (lo, hi)) H') (hs' : PutL l off (vs.take k') l') (hf : off + k' ≤ lo ∨ hi = 0) :
    Lo x s H ⟨some d, .call { callee := .builtin .copy, args := #[p, q], argTypes := #[t, t'] }, ty, pos, af, gd⟩ (Y := Unit) (fun _ => (d, .int .i64 k') :: s) (fun _ => H') (fun _ => True) :=
  l_gen (Y := Unit) (fun _ => .int .i64 k') (fun _ => H') (fun _ => True) rfl hN (fun a w hs => by
    have hh := hs.heap _ hu.mem
    have hle : k' ≤ m := by rw [← hk]; exact Nat.min_le_left _ _
    have hlen : (vs.take k').length = k' := by rw [List.length_take, hsv.newsLen, Nat.mul_one, Nat.min_eq_left hle]
    have hfst := hsv.first hs hle
    obtain ⟨w', e1, e2, e3, e4, e5, e6, e7⟩ := run_storeCells (P := x.P) (vs.take k') w 0 l (off := off) hh (by have := hs'.le; omega) (fun u hu => hsv.one u (List.mem_of_mem_take hu)) (fun j h1 h2 => by rw [hlen] at h2; omega)
    refine ⟨w', (), ?_, trivial, hs.up hu (by rw [hs'.eq]; simpa using e2) e3 e4 e5 e6 e7⟩
    simp only [execOp, resolve, invoke, builtin, Sem.run_bind, Sem.run_pure, Result.andThen_ok]
    simp [hs.eval hp, hs.eval hq, Builtin.copy_, hU, hS, hsv.lenq, hk, hfst, e1, goInt])
/-! ### make -/
theorem l_mks {i : TypeInfo} {z : Value} {kl kc : IntKind} {a b : Int} (hU : x.P.underlying t = some (.slice e)) (hI : x.P.info? e = some i) (hz : i.zero = some z) (hN : Nat.blt d x.N = true) (hp : ev s p = some (.int kl a)) (hq : ev s q = some (.int kc b))
    (h0 : 0 ≤ a) (h1 : a ≤ b) (hb : (i.bytes : Int) * b ≤ 281474976710656) (h63 : b ≤ 9223372036854775807) (hl : madeCells z.cells (b.toNat * i.size) = l.toArray) :
    Lo x s H ⟨some d, .makeSlice t p q, ty, pos, af, gd⟩ (Y := Nat) (fun g => (d, .slice (some ⟨g, 0, none⟩) a.toNat b.toNat) :: s) (fun g => (g, C l e) :: H) (fun _ => True) :=
  l_new (fun g => .slice (some ⟨g, 0, none⟩) a.toNat b.toNat) rfl hN (fun ac w hs => by
    have hr := run_make (P := x.P) w t e i z hU hI hz kl kc a b h0 h1 hb h63
    rw [hl] at hr
    simp only [execOp, hs.eval hp, hs.eval hq, Sem.run_bind, hr, Result.andThen_ok, Sem.run_pure])
theorem made_one (z : Value) (n : Nat) (h : z.cells = #[z]) : madeCells z.cells (n * 1) = (List.replicate n z).toArray := by
  rw [h, Nat.mul_one]; apply Array.ext'; rw [toList_madeCells_one]
/-! ### Structs -/
inductive Szs (P : Program) : List Field → List (Nat × Nat) → Prop where
  | nil : Szs P [] []
  | cons {f : Field} {fs : List Field} {n : Nat} {l : List (Nat × Nat)} : (∀ w, (sizeOf f.type).run P w = .ok n w) → Szs P fs l → Szs P (f :: fs) ((f.offset, n) :: l)
theorem Szs.run {P : Program} {fs : List Field} {l : List (Nat × Nat)} (h : Szs P fs l) (w : World) : ((fs.toArray).mapM fun f => (do pure (f.offset, ← sizeOf f.type) : Sem (Nat × Nat))).run P w = .ok l.toArray w := by
  rw [List.mapM_toArray]
  have : (fs.mapM fun f => (do pure (f.offset, ← sizeOf f.type) : Sem (Nat × Nat))).run P w = .ok l w := by
    induction h with
    | nil => rfl
    | cons h1 h2 ih =>
      simp only [List.mapM_cons, Sem.run_bind, h1, Result.andThen_ok, Sem.run_pure, ih]
  simp only [Sem.run_map, this, Result.andThen_ok]
/-- The parts' values. -/
def evp (s : Slots) : List (Nat × Operand) → Option (List (Nat × Value))
  | [] => some []
  | p :: l => (ev s p.2).bind fun v => (evp s l).map ((p.1, v) :: ·)
theorem evp_map {a : Act} {w : World} (hs : St x s H a w) : ∀ {l : List (Nat × Operand)} {vs : List (Nat × Value)}, evp s l = some vs → l.map (fun p => (p.1, a.eval p.2)) = vs := by
  intro l
  induction l with
  | nil => intro vs h; simp [evp] at h; subst h; rfl
  | cons p l ih =>
    intro vs h
    simp only [evp, Option.bind_eq_some_iff, Option.map_eq_some_iff] at h
    obtain ⟨v, hv, vs', hvs, rfl⟩ := h
    simp [hs.eval hv, ih hvs]
theorem e_build {fs : List Field} {pl : List (Nat × Nat)} {ps : List (Nat × Operand)} {pv : List (Nat × Value)} {z : Value} (hU : ∀ w, (underlying t).run x.P w = .ok (.struct fs.toArray) w) (hz : ∀ w, (zeroValue t).run x.P w = .ok z w) (hsz : Szs x.P fs pl)
    (hps : evp s ps = some pv) (hfill : Instr.fill (pl.toArray[·]?) z.cells pv = some vs.toArray) : Ex x s H ⟨some d, .build t ps.toArray, ty, pos, af, gd⟩ (.agg vs.toArray) := fun a w hs => by
  have := evp_map hs hps
  have hm : (ps.toArray.map fun (p : Nat × Operand) => (p.1, a.eval p.2)) = pv.toArray := by rw [← this]; simp
  have hr := hsz.run w
  simp only [execOp, Instr.build, Sem.run_bind, hz, hU, Result.andThen_ok, hr]
  rw [hm]
  simp only [hfill, Sem.run_pure, Result.andThen_ok]
theorem e_field {fs : Array Field} {f : Field} {i : Nat} {cs : Array Value} (hU : ∀ w, (underlying t).run x.P w = .ok (.struct fs) w) (hf : fs[i]? = some f) (hA : ∀ w, (isAgg f.type).run x.P w = .ok false w) (hp : ev s p = some (.agg cs)) (hv : cs[f.offset]? = some v) : Ex x s H ⟨some d, .field t p i, ty, pos, af, gd⟩ v := fun a w hs => by
  simp [execOp, hs.eval hp, Instr.field, hU, hf, part, hA, asAgg, hv]

/-! ### Closures, method values, functions of the machine -/
theorem e_func {fn : Fn} {fi ca : List Operand} {fv cv : List Value} (hf : evs s fi = some fv) (hc : evs s ca = some cv) : Ex x s H ⟨some d, .makeFunc fn fi.toArray ca.toArray, ty, pos, af, gd⟩ (.func fn fv.toArray cv.toArray) := fun a w hs => by
  have h1 := evs_map hs hf
  have h2 := evs_map hs hc
  simp [execOp, Instr.makeFunc, h1, h2]
theorem e_nilm {nm : String} {tv : TypeId} {cv : Array Value} (hn : ∀ w, (nilAhead (x.P.types.size + Made.depth) tv v nm).run x.P w = .ok (some false) w) (hp : ev s p = some (.func (.method nm) #[.iface tv v] cv)) :
    Ex x s H ⟨some d, .nilCheck p, ty, pos, af, gd⟩ (.func (.method nm) #[.iface tv v] cv) := fun a w hs => by
  simp [execOp, hs.eval hp, hn]
/-- A function for which the machine stands in and that leaves memory alone. -/
theorem e_ext {f : FuncId} {ps : List Operand} {ats : Array TypeId} (hps : evs s ps = some vs) (hx : ∀ w, (callFunc f vs.toArray).run x.P w = .ok (.value r) w) :
    Ex x s H ⟨some d, .call { callee := .value (.func f), args := ps.toArray, argTypes := ats }, ty, pos, af, gd⟩ r := fun a w hs => by
  have := evs_map hs hps
  simp [execOp, resolve, Act.eval, Deferred.ofValue, invoke, this, hx]
/-- One that makes a block. -/
theorem l_extn {f : FuncId} {ps : List Operand} {ats : Array TypeId} {ob : Obj} (V : Nat → Value) (hN : Nat.blt d x.N = true) (hps : evs s ps = some vs) (hx : ∀ w, (callFunc f vs.toArray).run x.P w = .ok (.value (V w.heap.size)) (w.alloc ob)) :
    Lo x s H ⟨some d, .call { callee := .value (.func f), args := ps.toArray, argTypes := ats }, ty, pos, af, gd⟩ (Y := Nat) (fun g => (d, V g) :: s) (fun g => (g, ob) :: H) (fun _ => True) :=
  l_new V rfl hN (fun a w hs => by
    have := evs_map hs hps
    simp [execOp, resolve, Act.eval, Deferred.ofValue, invoke, this, hx])
theorem e_ta {ok : Bool} {ti : TypeId} (hp : ev s p = some v) (hr : ∀ w, (Instr.typeAssert v t ti ok).run x.P w = .ok r w) : Ex x s H ⟨some d, .typeAssert p t ti ok, ty, pos, af, gd⟩ r := fun a w hs => by
  simp [execOp, hs.eval hp, hr]
theorem e_cap {A : Option Addr} {cap : Nat} (hU : ∀ w, (underlying t).run x.P w = .ok (.slice e) w) (hp : ev s p = some (.slice A n cap)) : Ex x s H ⟨some d, .call { callee := .builtin .cap, args := #[p], argTypes := #[t] }, ty, pos, af, gd⟩ (.int .i64 cap) := fun a w hs => by
  simp [execOp, resolve, invoke, builtin, hs.eval hp, Builtin.cap_, hU, goInt]
end
end Go.Sl
namespace Go.Sl
open Go

section
variable {x : Cx} {ops : Array Oper} {k : List KI} {rest : List Oper} {s : Slots} {H H' : HP}
variable {d : Nat} {p q c : Operand} {ty t t' : TypeId} {pos : String} {af : Array Edge} {gd : Option (Nat × Bool)} {v u r : Value} {g off n m : Nat} {l l' vs : List Value} {e : TypeId} {fr : Nat × Nat} {lo hi : Nat}
variable {kd : IntKind} {ps : List (Int × Value)} {a : Int} {kt et : TypeId} {J : List Nat → HP}

def ME (kd : IntKind) : Nat → List (Int × Value) → List MapEntry
  | _, [] => []
  | i, p :: l => { key := .int kd p.1, val := p.2, born := i } :: ME kd (i + 1) l
/-- A map from which nothing was ever taken. -/
def Mo (kd : IntKind) (ps : List (Int × Value)) : Obj := .map (ME kd 0 ps).toArray ps.length
def mget : List (Int × Value) → Int → Option Value
  | [], _ => none
  | p :: l, a => if a = p.1 then some p.2 else mget l a
def mset : List (Int × Value) → Int → Value → List (Int × Value)
  | [], a, v => [(a, v)]
  | p :: l, a, v => if a = p.1 then (a, v) :: l else p :: mset l a v
def mix : List (Int × Value) → Int → Option Nat
  | [], _ => none
  | p :: l, a => if a = p.1 then some 0 else (mix l a).map (· + 1)

theorem ME_length (i : Nat) : (ME kd i ps).length = ps.length := by
  induction ps generalizing i with
  | nil => rfl
  | cons p l ih => simp [ME, ih]
theorem ME_get (i j : Nat) : (ME kd i ps)[j]? = (ps[j]?).map fun p => { key := .int kd p.1, val := p.2, born := i + j } := by
  induction ps generalizing i j with
  | nil => simp [ME]
  | cons p l ih =>
    cases j with
    | zero => simp [ME]
    | succ j => simp [ME, ih]; congr 1; funext q; congr 1; omega
theorem find_ME (i j : Nat) : Instr.findNow (.int kd) (.int kd a) (ME kd i ps) j = some (match mix ps a, mget ps a with | some n, some v => some (j + n, v) | _, _ => none) := by
  induction ps generalizing i j with
  | nil => rfl
  | cons p l ih =>
    by_cases h : a = p.1
    · subst h; simp [ME, Instr.findNow, Instr.sameNow, mix, mget]
    · have h' : (a == p.1) = false := by simpa using h
      simp only [ME, Instr.findNow, Instr.sameNow, if_true, h', ih, mix, mget, if_neg h]
      cases mix l a <;> cases mget l a <;> simp <;> omega
theorem mix_get : mix ps a = none ↔ mget ps a = none := by
  induction ps with
  | nil => simp [mix, mget]
  | cons p l ih =>
    by_cases h : a = p.1
    · simp [mix, mget, h]
    · simp [mix, mget, h, ih]
theorem mget_some_mix {v : Value} (h : mget ps a = some v) : ∃ n, mix ps a = some n ∧ ∃ q, ps[n]? = some q ∧ q.1 = a ∧ q.2 = v := by
  induction ps with
  | nil => simp [mget] at h
  | cons p l ih =>
    by_cases hp : a = p.1
    · subst hp; simp [mget] at h; exact ⟨0, by simp [mix], p, by simp, rfl, h⟩
    · simp [mget, hp] at h
      obtain ⟨n, h1, q, h2, h3⟩ := ih h
      exact ⟨n + 1, by simp [mix, hp, h1], q, by simpa using h2, h3⟩
theorem mset_new (v : Value) (h : mget ps a = none) : mset ps a v = ps ++ [(a, v)] := by
  induction ps with
  | nil => rfl
  | cons p l ih =>
    by_cases hp : a = p.1
    · simp [mget, hp] at h
    · simp [mget, hp] at h; simp [mset, hp, ih h]
theorem mset_old (v : Value) {n : Nat} (h : mix ps a = some n) : mset ps a v = ps.set n (a, v) := by
  induction ps generalizing n with
  | nil => simp [mix] at h
  | cons p l ih =>
    by_cases hp : a = p.1
    · simp [mix, hp] at h; subst h; simp [mset, hp]
    · simp [mix, hp] at h
      obtain ⟨m, h1, rfl⟩ := h
      simp [mset, hp, ih h1]
theorem ME_append (i : Nat) (ps' : List (Int × Value)) : ME kd i (ps ++ ps') = ME kd i ps ++ ME kd (i + ps.length) ps' := by
  induction ps generalizing i with
  | nil => simp [ME]
  | cons p l ih => simp [ME, ih, Nat.add_comm, Nat.add_left_comm]
theorem ME_set (i n : Nat) (v : Value) {q : Int × Value} (hq : ps[n]? = some q) : ME kd i (ps.set n (a, v)) = (ME kd i ps).modify n (fun e => { e with key := .int kd a, val := v }) := by
  induction ps generalizing i n with
  | nil => simp at hq
  | cons p l ih =>
    cases n with
    | zero => simp [ME, List.modify]
    | succ n => simp [ME]; rw [ih _ _ (by simpa using hq)]

theorem run_checkKey_int {P : Program} {w : World} (b : Bool) (hK : ∀ w, (underlying kt).run P w = .ok (.int kd) w) (v : Value) : (Instr.checkKey b 10000 kt v).run P w = .ok () w := by
  have : ∃ n, (10000 : Nat) = n + 1 := ⟨9999, rfl⟩
  obtain ⟨n, hn⟩ := this
  rw [hn]
  simp only [Instr.checkKey, Sem.run_bind, hK, Result.andThen_ok]
  rfl
theorem getObj_of {P : Program} {w : World} {es : Array MapEntry} {cl : Nat} (h : w.heap[g]? = some (.map es cl)) : (getObj g).run P w = .ok (.map es cl) w := by
  simp [getObj, Sem.run, h]
theorem run_find_ME {P : Program} {w : World} (hK : ∀ w, (underlying kt).run P w = .ok (.int kd) w) : (Instr.findKey kt (.int kd a) (ME kd 0 ps).toArray.toList).run P w = .ok (match mix ps a, mget ps a with | some n, some v => some (n, v) | _, _ => none) w := by
  simp only [Instr.findKey, Sem.run_bind, hK, Result.andThen_ok, find_ME, Nat.zero_add, Sem.run_pure]

theorem l_mkmap (hN : Nat.blt d x.N = true) (kd : IntKind) : Lo x s H ⟨some d, .makeMap t none, ty, pos, af, gd⟩ (Y := Nat) (fun g => (d, .map (some g)) :: s) (fun g => (g, Mo kd []) :: H) (fun _ => True) :=
  l_new (fun g => .map (some g)) rfl hN (fun a w hs => by simp [execOp, Instr.makeMap, Mo, ME])
theorem e_lookup {z : Value} (hU : ∀ w, (underlying t).run x.P w = .ok (.map kt et) w) (hK : ∀ w, (underlying kt).run x.P w = .ok (.int kd) w) (hz : ∀ w, (zeroValue et).run x.P w = .ok z w)
    (hp : ev s p = some (.map (some g))) (hq : ev s q = some (.int kd a)) (hm : (g, Mo kd ps) ∈ H ∨ (g, Mo kd ps) ∈ x.G) : Ex x s H ⟨some d, .lookup t p q false, ty, pos, af, gd⟩ ((mget ps a).getD z) := fun ac w hs => by
  simp only [execOp, hs.eval hp, hs.eval hq, Instr.lookup, Sem.run_bind, hU, getObj_of (hs.mem hm), Result.andThen_ok, run_checkKey_int _ hK, run_find_ME hK, Sem.run_pure]
  cases h : mget ps a with
  | none => rw [mix_get.2 h]; simp [hz]
  | some v => obtain ⟨n, hn, _⟩ := mget_some_mix h; rw [hn]; simp
theorem e_lookup2 {z : Value} (hU : ∀ w, (underlying t).run x.P w = .ok (.map kt et) w) (hK : ∀ w, (underlying kt).run x.P w = .ok (.int kd) w) (hz : ∀ w, (zeroValue et).run x.P w = .ok z w)
    (hp : ev s p = some (.map (some g))) (hq : ev s q = some (.int kd a)) (hm : (g, Mo kd ps) ∈ H ∨ (g, Mo kd ps) ∈ x.G) : Ex x s H ⟨some d, .lookup t p q true, ty, pos, af, gd⟩ (.tuple #[(mget ps a).getD z, .bool (mget ps a).isSome]) := fun ac w hs => by
  simp only [execOp, hs.eval hp, hs.eval hq, Instr.lookup, Sem.run_bind, hU, getObj_of (hs.mem hm), Result.andThen_ok, run_checkKey_int _ hK, run_find_ME hK, Sem.run_pure]
  cases h : mget ps a with
  | none => rw [mix_get.2 h]; simp [hz]
  | some v => obtain ⟨n, hn, _⟩ := mget_some_mix h; rw [hn]; simp
theorem setObj_of {P : Program} {w : World} {es : Array MapEntry} {cl : Nat} (h : w.heap[g]? = some (.map es cl)) (o : Obj) : (setObj g o).run P w = .ok () { w with heap := w.heap.setIfInBounds g o } := by
  simp [setObj, Sem.run, h]
theorem St.setObj {ac : Act} {w : World} {o o' : Obj} (hs : St x s H ac w) (hu : UpB H g o o' H') : St x s H' ac { w with heap := w.heap.setIfInBounds g o' } := by
  have hlt : g < w.heap.size := (Array.getElem?_eq_some_iff.1 (hs.heap _ hu.mem)).1
  refine hs.up hu ?_ ?_ rfl rfl rfl (by simp)
  · simp [hlt]
  · intro j hj
    simp only
    rw [Array.getElem?_setIfInBounds_ne (Ne.symm hj)]
theorem sameBits_int (n : Nat) (b : Int) : Instr.sameBits n (.int kd b) (.int kd b) = true := by
  cases n <;> simp [Instr.sameBits]
theorem l_mapup (hU : ∀ w, (underlying t).run x.P w = .ok (.map kt et) w) (hK : ∀ w, (underlying kt).run x.P w = .ok (.int kd) w)
    (hp : ev s p = some (.map (some g))) (hq : ev s q = some (.int kd a)) (hc : ev s c = some v) (hu : UpB H g (Mo kd ps) (Mo kd (mset ps a v)) H') :
    Lo x s H ⟨none, .mapUpdate t p q c, ty, pos, af, gd⟩ (Y := Unit) (fun _ => s) (fun _ => H') (fun _ => True) :=
  l_genu (Y := Unit) (fun _ => H') (fun _ => True) rfl (fun ac w hs => by
    refine ⟨_, (), ?_, trivial, hs.setObj hu⟩
    have hg := hs.heap _ hu.mem
    have hso := fun o => setObj_of (P := x.P) hg o
    simp only [execOp, hs.eval hp, hs.eval hq, hs.eval hc, Instr.mapUpdate, Sem.run_bind, hU, getObj_of hg, Mo, Result.andThen_ok, run_checkKey_int _ hK, run_find_ME hK]
    cases h : mget ps a with
    | none =>
      rw [mix_get.2 h]
      simp only [hso, Result.andThen_ok, Sem.run_pure]
      rw [mset_new v h, ME_append]
      simp [ME]
    | some v0 =>
      obtain ⟨n, hn, q', hq1, hq2, _⟩ := mget_some_mix h
      rw [hn]
      have hget : ((ME kd 0 ps).toArray[n]?).map (·.key) = some (.int kd a) := by
        simp [ME_get, hq1, hq2]
      simp only [hget, Option.getD_some, Instr.keyThatStays, sameBits_int, if_true, Sem.run_bind, Sem.run_pure, Result.andThen_ok, hso]
      rw [mset_old v hn, ME_set 0 n v hq1]
      simp)

/-! ### Going through a map -/
/-- An iterator over the map m that has n entries, seen those at these places. -/
def Io (m n : Nat) (seen : List Nat) : Obj := .mapIter (some m) n seen.toArray n
theorem l_range (hU : ∀ w, (underlying t).run x.P w = .ok (.map kt et) w) (hN : Nat.blt d x.N = true) (hp : ev s p = some (.map (some g))) (hm : (g, Mo kd ps) ∈ H ∨ (g, Mo kd ps) ∈ x.G) :
    Lo x s H ⟨some d, .range t p, ty, pos, af, gd⟩ (Y := Nat) (fun i => (d, .pointer (some ⟨i, 0, none⟩)) :: s) (fun i => (i, Io g ps.length []) :: H) (fun _ => True) :=
  l_new (fun i => .pointer (some ⟨i, 0, none⟩)) rfl hN (fun ac w hs => by
    simp only [execOp, hs.eval hp, Instr.range, Sem.run_bind, hU, getObj_of (hs.mem hm), Result.andThen_ok, Sem.run_pure, run_newObj]
    rfl)
theorem mem_ME {i : Nat} {en : MapEntry} (h : en ∈ ME kd i ps) : ∃ j q, ps[j]? = some q ∧ en = { key := .int kd q.1, val := q.2, born := i + j } := by
  obtain ⟨j, hj⟩ := List.mem_iff_getElem?.1 h
  rw [ME_get] at hj
  cases hq : ps[j]? with
  | none => simp [hq] at hj
  | some q => simp [hq] at hj; exact ⟨j, q, hq, hj.symm⟩
theorem born_lt {i : Nat} {en : MapEntry} (h : en ∈ ME kd i ps) : en.born < i + ps.length := by
  obtain ⟨j, q, hq, rfl⟩ := mem_ME h
  have := (List.getElem?_eq_some_iff.1 hq).1
  simp; omega
/-- What a step comes to: some place not seen, or all are seen. -/
def stepV (kd : IntKind) (ps : List (Int × Value)) : Option Nat → Value
  | none => .tuple #[.bool false]
  | some i => match ps[i]? with
    | some q => .tuple #[.bool true, .int kd q.1, q.2]
    | none => undef
def stepOk (n : Nat) (seen : List Nat) : Option Nat → Prop
  | none => ∀ i, i < n → i ∈ seen
  | some i => i < n ∧ i ∉ seen
theorem l_next {it : Nat} {seen : List Nat} (hN : Nat.blt d x.N = true) (hp : ev s p = some (.pointer (some ⟨it, 0, none⟩))) (hm : (g, Mo kd ps) ∈ H ∨ (g, Mo kd ps) ∈ x.G) (hu : ∀ sn, UpB H it (Io g ps.length seen) (Io g ps.length sn) (J sn)) :
    Lo x s H ⟨some d, .next p false, ty, pos, af, gd⟩ (Y := Option Nat) (fun y => (d, stepV kd ps y) :: s) (fun y => J (match y with | none => seen | some i => seen ++ [i])) (stepOk ps.length seen) :=
  l_gen (Y := Option Nat) (stepV kd ps) _ (stepOk ps.length seen) rfl hN (fun ac w hs => by
    have hg := hs.mem hm
    have hi := hs.heap _ (hu seen).mem
    simp only [Mo] at hg
    simp only [Io] at hi
    have hold : ∀ x ∈ (ME kd 0 ps).toArray.toList, x.born < ps.length := fun en hen => by simpa using born_lt (i := 0) (by simpa using hen)
    rcases run_next_at (P := x.P) w ty it g ps.length ps.length seen.toArray (ME kd 0 ps).toArray ps.length hi hg hold (Nat.le_refl _) with ⟨h0, hr⟩ | ⟨en, hen, w1, hw1, hr⟩
    · refine ⟨w, none, ?_, ?_, ?_⟩
      · simp only [execOp, hs.eval hp, Sem.run_bind, hr, Result.andThen_ok, Sem.run_pure, stepV]
      · intro i hi'
        have hempty := Array.eq_empty_of_size_eq_zero h0
        unfold leftOf at hempty
        rw [Array.filter_eq_empty_iff] at hempty
        have hget := ME_get (kd := kd) (ps := ps) 0 i
        rw [List.getElem?_eq_getElem hi'] at hget
        have := hempty _ (by simpa using List.mem_of_getElem? hget)
        simpa using this
      · exact hs.up (hu seen) (by simpa [Io] using hi) (fun _ _ => rfl) rfl rfl rfl rfl
    · have hen' : en ∈ ME kd 0 ps ∧ en.born ∉ seen := by
        unfold leftOf at hen
        simpa using hen
      obtain ⟨j, q', hq', rfl⟩ := mem_ME hen'.1
      have hj := (List.getElem?_eq_some_iff.1 hq').1
      have hs1 : St x s H ac w1 := by
        rcases hw1 with rfl | rfl
        · exact hs
        · exact hs.drew
      have hs2 := hs1.setObj (hu (seen ++ [j]))
      have hob : Io g ps.length (seen ++ [j]) = Obj.mapIter (some g) ps.length (seen.toArray.push (0 + j)) ps.length := by simp [Io]
      rw [hob] at hs2
      refine ⟨_, some j, ?_, ⟨hj, by simpa using hen'.2⟩, hs2⟩
      simp only [execOp, hs.eval hp, Sem.run_bind, hr, Result.andThen_ok, Sem.run_pure, stepV, hq']
      rfl)
theorem born_nodup (i : Nat) : ((ME kd i ps).map (·.born)).Nodup := by
  induction ps generalizing i with
  | nil => simp [ME]
  | cons p l ih =>
    simp only [ME, List.map_cons, List.nodup_cons]
    refine ⟨fun h => ?_, ih _⟩
    obtain ⟨en, hen, hb⟩ := List.mem_map.1 h
    obtain ⟨j, q, hq, rfl⟩ := mem_ME hen
    simp at hb; omega
theorem e_entry {it j : Nat} {seen : List Nat} {q' : Int × Value} (hp : ev s p = some (.pointer (some ⟨it, 0, none⟩))) (hi : (it, Io g ps.length (seen ++ [j])) ∈ H ∨ (it, Io g ps.length (seen ++ [j])) ∈ x.G) (hm : (g, Mo kd ps) ∈ H ∨ (g, Mo kd ps) ∈ x.G) (hq : ps[j]? = some q') :
    Ex x s H ⟨some d, .entry p, ty, pos, af, gd⟩ (.tuple #[.int kd q'.1, q'.2]) := fun ac w hs => by
  have hget := ME_get (kd := kd) (ps := ps) 0 j
  rw [hq] at hget
  have h1 := hs.mem hi
  have h2 := hs.mem hm
  simp only [Io] at h1
  simp only [Mo] at h2
  have hr := run_entry_at (P := x.P) w it g ps.length seen.toArray (ME kd 0 ps).toArray ps.length { key := .int kd q'.1, val := q'.2, born := 0 + j } (by simpa using h1) h2 (by simpa using List.mem_of_getElem? hget) (by simpa using born_nodup 0)
  simp only [execOp, hs.eval hp, Sem.run_bind, hr, Result.andThen_ok, Sem.run_pure]
end
end Go.Sl
namespace Go.Sl
open Go

/-- A new block of which the first cells are told elsewhere: its number, how many elements it has room for, the other cells, its mark. -/
structure Tl where
  g : Nat
  cap : Nat
  rest : List Value
  lo : Nat
  hi : Nat
structure TlOk (sz n : Nat) (y : Tl) : Prop where
  rest : y.rest.length = (y.cap - n) * sz
  le : n ≤ y.cap
  lt : y.cap < 9223372036854775808
  mark : y.cap * sz ≤ y.lo ∨ y.hi = 0
/-- The block, its first cells these. -/
abbrev Ob (xs : List Value) (y : Tl) (e : TypeId) : Obj := .cells (xs ++ y.rest).toArray e (y.lo, y.hi)
theorem TlOk.len {sz n : Nat} {y : Tl} (h : TlOk sz n y) {xs : List Value} (hx : Nat.beq xs.length (n * sz) = true) : (xs ++ y.rest).length = y.cap * sz := by
  have := Nat.eq_of_beq_eq_true hx
  rw [List.length_append, this, h.rest, ← Nat.add_mul]
  congr 1
  have := h.le
  omega

section
variable {x : Cx} {ops : Array Oper} {k : List KI} {rest : List Oper} {s : Slots} {H H' : HP}
variable {d : Nat} {p q c : Operand} {ty t t' : TypeId} {pos : String} {af : Array Edge} {gd : Option (Nat × Bool)} {v u r : Value} {g off n m : Nat} {l l' vs : List Value} {e : TypeId} {fr : Nat × Nat} {lo hi : Nat}

/-- Lists put together, step by step. -/
inductive Cat : HP → HP → HP → Prop where
  | nil {K : HP} : Cat [] K K
  | cons {p : Nat × Obj} {H K L : HP} : Cat H K L → Cat (p :: H) K (p :: L)
inductive CatV : List Value → List Value → List Value → Prop where
  | nil {K : List Value} : CatV [] K K
  | cons {p : Value} {H K L : List Value} : CatV H K L → CatV (p :: H) K (p :: L)
theorem Cat.eq {H K L : HP} (h : Cat H K L) : H ++ K = L := by
  induction h with
  | nil => rfl
  | cons _ ih => simp [ih]
theorem CatV.eq {H K L : List Value} (h : CatV H K L) : H ++ K = L := by
  induction h with
  | nil => rfl
  | cons _ ih => simp [ih]
/-- []byte(s). -/
theorem l_sbc {bs : List UInt8} {L : List Value} (hU : x.P.underlying t = some .string) (hU' : x.P.underlying t' = some (.slice e)) (hU8 : x.P.underlying e = some (.int .u8)) (hN : Nat.blt d x.N = true) (hp : ev s p = some (S bs)) (hb : Nat.ble bs.length 4611686018427387904 = true) (hn : bs.length = n) (hL : B bs = L) :
    Lo x s H ⟨some d, .convert t t' p, ty, pos, af, gd⟩ (Y := Tl) (fun y => (d, .slice (some ⟨y.g, 0, none⟩) n y.cap) :: s) (fun y => (y.g, Ob L y e) :: H) (TlOk 1 n) :=
  l_gen (Y := Tl) (fun y => .slice (some ⟨y.g, 0, none⟩) n y.cap) _ (TlOk 1 n) rfl hN (fun a w hs => by
    subst hL; subst hn
    have hb' : bs.length ≤ 4611686018427387904 := by simpa using hb
    have hr := run_bytes_of_string (P := x.P) w t t' e ⟨bs.toArray⟩ hU hU' hU8
    have hsz : (⟨bs.toArray⟩ : ByteArray).size = bs.length := size_S bs
    have hge : bs.length ≤ grownCap w bs.length 0 e := by simp [grownCap, Question.cut]
    have hlt : grownCap w bs.length 0 e < 9223372036854775808 := by
      have := Nat.mod_lt (w.tape w.drawn (.appendCap bs.length 0 e)) (show 0 < 2 ^ 63 - bs.length by omega)
      simp only [grownCap, Question.cut]; omega
    obtain ⟨c0, hc0⟩ : ∃ c0, grownCap w bs.length 0 e = bs.length + c0 := ⟨_, (Nat.add_sub_cancel' hge).symm⟩
    have hrow : bytesRow ⟨bs.toArray⟩ (bs.length + c0) = (B bs ++ List.replicate c0 (Value.int .u8 0)).toArray := by
      apply Array.ext'
      simp [bytesRow, B, hsz]
    have e2 : (B bs ++ List.replicate c0 (Value.int .u8 0)).toArray.size = bs.length + c0 := by simp [B]
    rw [hc0] at hlt
    rw [hsz, hc0, hrow, e2] at hr
    refine ⟨_, ⟨w.heap.size, bs.length + c0, List.replicate c0 (Value.int .u8 0), bs.length + c0, bs.length + c0 + 1⟩, ?_, ⟨by simp, by simp, hlt, .inl (by simp)⟩, hs.newd _⟩
    simp only [execOp, hs.eval hp, Sem.run_bind, hr, Result.andThen_ok, Sem.run_pure])

/-- append to nothing. -/
theorem l_app0 {sz : Nat} {i : TypeInfo} {z : Value} (hU : x.P.underlying t = some (.slice e)) (hI : x.P.info? e = some i) (hz : i.zero = some z) (hsz : i.size = sz) (hzs : z.cells.size = sz)
    (hN : Nat.blt d x.N = true) (hp : ev s p = some (.slice none 0 0)) (hq : ev s q = some u) (hsv : Sv x H sz t' u m vs) (h0 : Nat.blt 0 m = true) (hb : Nat.ble (m * i.bytes) 140737488355328 = true) (h63 : Nat.blt m 9223372036854775808 = true) :
    Lo x s H ⟨some d, .call { callee := .builtin .append, args := #[p, q], argTypes := #[t, t'] }, ty, pos, af, gd⟩ (Y := Tl) (fun y => (d, .slice (some ⟨y.g, 0, none⟩) m y.cap) :: s) (fun y => (y.g, Ob vs y e) :: H) (TlOk sz m) := by
  have h0' : 0 < m := by simpa [Nat.blt_eq] using h0
  have h63' : m < 9223372036854775808 := by simpa [Nat.blt_eq] using h63
  have hL := l_append (x := x) (s := s) (H := H) (ty := ty) (pos := pos) (af := af) (gd := gd) (n := 0) (HB := []) (Hr := H) hU hI hz hsz hzs hN hp hq .nil (.refl _) hsv (by simpa using hb) (by simpa using h63')
  intro a w hs K Q hK
  refine hL a w hs K Q (fun y a' w' hA hst => ?_)
  obtain ⟨g, cap, rest, lo, hi, h1, h2, h3, h4, h5, h6, h7⟩ := hA.open_ (by omega)
  simp only [Nat.zero_add, List.nil_append] at h1 h2 h3 h4 h5
  obtain ⟨y1, y2⟩ := y
  simp only at h1 h2 hst
  subst h1; subst h2
  exact hK ⟨g, cap, rest, lo, hi⟩ a' w' ⟨h4, h5, h6, h7⟩ hst
/-! ### Contracts that tell all -/
end

/-- A type's row. -/
theorem info_of {P : Program} {t : TypeId} {i : TypeInfo} (h : ∀ w, (typeInfo t).run P w = .ok i w) : P.info? t = some i := by
  have h0 := h default
  unfold typeInfo at h0
  simp only [Sem.run_bind, run_program, Result.andThen] at h0
  cases hq : P.info? t with
  | none => rw [hq] at h0; simp at h0
  | some j => rw [hq] at h0; simp at h0; rw [h0]
theorem nofr0 {off : Nat} : ¬ (0 ≤ off ∧ off < 0) := by omega
theorem nofrs0 {off k : Nat} : ∀ j, off ≤ j → j < off + k → ¬ (0 ≤ j ∧ j < 0) := by omega

section
variable {P : Program} {N : Nat} {w0 : World} {G H H1 Hr H0 : HP} {s : Slots} {k : List KI} {fn : Func} {T : Type} {A : T → Prop} {V : T → Value} {HH : T → HP} {x : Cx}
theorem WR.sel (hs : Sel H H1 Hr) (h : WR x k s H1) : WR x k s H := WR.perm hs.perm (WR.less (fun _ _ hv => hv) (List.sublist_append_left H1 Hr) h)
theorem WN.sel (hs : Sel H H1 Hr) (h : WN x k s H1) : WN x k s H := WN.perm hs.perm (WN.less (fun _ _ hv => hv) (List.sublist_append_left H1 Hr) h)
/-- Results that lie in slots or in memory. -/
inductive Rs (x : Cx) (s : Slots) (H : HP) : List ResultVar → List Value → Prop where
  | nil : Rs x s H [] []
  | tmp {t : Nat} {v : Value} {l : List ResultVar} {vs : List Value} : lk s t = some v → Rs x s H l vs → Rs x s H (.tmp t :: l) (v :: vs)
  | cell {a : Nat} {t : TypeId} {g off : Nat} {c : List Value} {e : TypeId} {fr : Nat × Nat} {v : Value} {l : List ResultVar} {vs : List Value} : (∀ w, (isAgg t).run x.P w = .ok false w) → lk s a = some (.pointer (some ⟨g, off, none⟩)) →
      (g, .cells c.toArray e fr) ∈ H ∨ (g, Obj.cells c.toArray e fr) ∈ x.G → c[off]? = some v → Rs x s H l vs → Rs x s H (.cell a t :: l) (v :: vs)
  | cella {a n : Nat} {t : TypeId} {g off : Nat} {c us : List Value} {e : TypeId} {fr : Nat × Nat} {l : List ResultVar} {vs : List Value} : (∀ w, (isAgg t).run x.P w = .ok true w) → (∀ w, (sizeOf t).run x.P w = .ok n w) → lk s a = some (.pointer (some ⟨g, off, none⟩)) →
      (g, .cells c.toArray e fr) ∈ H ∨ (g, Obj.cells c.toArray e fr) ∈ x.G → CutL c off n us → Rs x s H l vs → Rs x s H (.cell a t :: l) (.agg us.toArray :: vs)
theorem Rs.run {a : Act} {w : World} {l : List ResultVar} {vs : List Value} (hst : St x s H a w) (h : Rs x s H l vs) : (l.mapM (resVar a.tmps)).run x.P w = .ok vs w := by
  induction h with
  | nil => simp [List.mapM_nil]
  | @tmp t v l vs hv _ ih =>
    have h1 : (resVar a.tmps (.tmp t)).run x.P w = .ok v w := by simp [resVar, hst.slots t v hv]
    simp only [List.mapM_cons, Sem.run_bind, h1, ih, Result.andThen_ok, Sem.run_pure]
  | @cell b t g off c e fr v l vs hA hp hm hv _ ih =>
    have h1 : (resVar a.tmps (.cell b t)).run x.P w = .ok v w := by
      simp only [resVar, Array.getD_eq_getD_getElem?, hst.slots b _ hp, Option.getD_some, asAddr, Sem.run_bind, Sem.run_pure, Result.andThen_ok, loadVar, hA, Bool.false_eq_true, if_false, run_load_of (hst.mem hm) hv]
    simp only [List.mapM_cons, Sem.run_bind, h1, ih, Result.andThen_ok, Sem.run_pure]
  | @cella b n t g off c us e fr l vs hA hS hp hm hv _ ih =>
    have h1 : (resVar a.tmps (.cell b t)).run x.P w = .ok (.agg us.toArray) w := by
      simp only [resVar, Array.getD_eq_getD_getElem?, hst.slots b _ hp, Option.getD_some, asAddr, Sem.run_bind, Sem.run_pure, Result.andThen_ok, loadVar, hA, hS, if_true, run_loadCells (hst.mem hm) hv]
    simp only [List.mapM_cons, Sem.run_bind, h1, ih, Result.andThen_ok, Sem.run_pure]
/-- One value for one result, a tuple for more. -/
def tupOf : List Value → Value
  | [v] => v
  | vs => .tuple vs.toArray
theorem tupOf_eq (vs : List Value) : (if h : vs.toArray.size = 1 then vs.toArray[0] else .tuple vs.toArray) = tupOf vs := by
  match vs with
  | [] => rfl
  | [v] => rfl
  | a :: b :: l => rfl
theorem r_fnx {R : Value → HP → Prop} {l : List ResultVar} {vs : List Value} {v : Value} (hl : fn.results = l.toArray) (hr : Rs ⟨P, N, w0, keys H0, [], G, bodyPost P fn (Post H0 R w0)⟩ s H l vs) (hsel : Sel H H1 Hr) (hv : tupOf vs = v) (hR : R v H1) :
    WR ⟨P, N, w0, keys H0, [], G, bodyPost P fn (Post H0 R w0)⟩ k s H :=
  r_any fun a w hst => ⟨hst.defers, v, by
    have h1 := hr.run hst
    have h0 : results fn a.tmps = (fn.results.mapM (resVar a.tmps) >>= fun vs => pure (if h : vs.size = 1 then vs[0] else .tuple vs)) := by
      unfold results
      congr 1
    rw [h0, hl, List.mapM_toArray]
    simp only [Sem.run_bind, Sem.run_map, h1, Result.andThen_ok, Sem.run_pure, tupOf_eq, hv],
    post_of (x := ⟨P, N, w0, keys H0, [], G, bodyPost P fn (Post H0 R w0)⟩) rfl ((hst.perm hsel.perm).less (fun _ _ hv => hv) (List.sublist_append_left H1 Hr)) hR⟩
end
end Go.Sl
namespace Go.Sl
open Go
section
variable {x : Cx} {ops : Array Oper} {k : List KI} {rest : List Oper} {s : Slots} {H H' H1 Hr H0 G : HP}
variable {d : Nat} {p q c : Operand} {ty t t' : TypeId} {pos : String} {af : Array Edge} {gd : Option (Nat × Bool)}
variable {P : Program} {N : Nat} {w0 : World} {fn : Func}

theorem fn_enterD {f : FuncId} {c : Code} {args : List Value} {R : Value → HP → Prop} (N : Nat)
    (hf : P.funcs[f]? = some fn) (hb : fn.body = some c) (hn : fn.ntmps = N) (ha : Nat.ble args.length N = true)
    (h : ∀ w0, WC ⟨P, N, w0, keys H, [], G, bodyPostD P fn (Post H R w0)⟩ [] c (zipSlots 0 args) H) : Ctr P f args G H R := by
  intro w hG hH hnd hap
  have ha' : args.length ≤ N := by simpa using ha
  refine calls_of_wp_defers hf hb (h w _ _ ?_)
  refine ⟨?_, rfl, ?_, hH, hG, hnd, hap, fun g hg => .inl hg, fun g hg => ⟨hG.lt hg, fun hk => hap g hk hg⟩, Fr.refl _ _⟩
  · simp [hn]; omega
  · intro n v hl
    obtain ⟨_, h2⟩ := lk_zipSlots _ _ _ _ hl
    simp only [Nat.sub_zero] at h2
    have hlt : n < args.length := (List.getElem?_eq_some_iff.1 h2).1
    show (args.toArray ++ Array.replicate (fn.ntmps - args.toArray.size) undef)[n]? = some v
    rw [Array.getElem?_append_left (by simpa using hlt)]
    simpa using h2
theorem o_defer {f : FuncId} {cap : Array Value} {Q : Exit → Act → World → Prop} {M : List Nat} (hp : ev s p = some (.func (.func f) #[] cap))
    (h : WO ⟨P, N, w0, M, [⟨.fn (.func f) cap, #[]⟩], G, Q⟩ ops k rest s H) : WO ⟨P, N, w0, M, [], G, Q⟩ ops k (⟨none, .defer { callee := .value p, args := #[], argTypes := #[] }, ty, pos, af, none⟩ :: rest) s H := fun a w hs => by
  refine wpList_step fun K hK => ?_
  rw [if_pos (by rfl)]
  unfold Oper.wp
  have hr : (execOp a.eval ⟨none, .defer { callee := .value p, args := #[], argTypes := #[] }, ty, pos, af, none⟩).run P w = .ok (.defer ⟨.fn (.func f) cap, #[]⟩) w := by
    simp [execOp, resolve, hs.eval hp, Deferred.ofValue]
  simp only [hr, Oper.upon]
  refine hK _ _ (h _ _ ?_)
  exact { size := hs.size, defers := by simp [Act.put, hs.defers], slots := hs.slots, heap := hs.heap, glob := hs.glob, nodup := hs.nodup, apart := hs.apart, own := hs.own, gown := hs.gown, fr := hs.fr }
/-- The deferred closure does nothing where nothing panics. -/
def Idle (P : Program) (f : FuncId) (cap : Array Value) : Prop := ∃ b, (∀ w, (invoke (.fn (.func f) cap) #[]).run P w = .ok (.enter f b) w) ∧ ∀ w, CallsD P f b .returning w fun e u' w' => (∃ v, e = .returned v) ∧ u' = .returning ∧ w' = w
theorem r_fnxD {f : FuncId} {cap : Array Value} {R : Value → HP → Prop} {l : List ResultVar} {vs : List Value} {v : Value} (hi : Idle P f cap) (hl : fn.results = l.toArray) (hr : Rs ⟨P, N, w0, keys H0, [⟨.fn (.func f) cap, #[]⟩], G, bodyPostD P fn (Post H0 R w0)⟩ s H l vs) (hsel : Sel H H1 Hr) (hv : tupOf vs = v) (hR : R v H1) :
    WR ⟨P, N, w0, keys H0, [⟨.fn (.func f) cap, #[]⟩], G, bodyPostD P fn (Post H0 R w0)⟩ k s H :=
  r_any fun a w hst => by
    obtain ⟨b, hi1, hi2⟩ := hi
    have h1 := hr.run hst
    have h0 : results fn a.tmps = (fn.results.mapM (resVar a.tmps) >>= fun vs => pure (if h : vs.size = 1 then vs[0] else .tuple vs)) := by
      unfold results
      congr 1
    have hres : (results fn a.tmps).run P w = .ok v w := by
      rw [h0, hl, List.mapM_toArray]
      simp only [Sem.run_bind, Sem.run_map, h1, Result.andThen_ok, Sem.run_pure, tupOf_eq, hv]
    have hpost := post_of (x := ⟨P, N, w0, keys H0, [⟨.fn (.func f) cap, #[]⟩], G, bodyPostD P fn (Post H0 R w0)⟩) (H0 := H0) rfl ((hst.perm hsel.perm).less (fun _ _ hv => hv) (List.sublist_append_left H1 Hr)) hR
    have hd : a.defers = [⟨.fn (.func f) cap, #[]⟩] := hst.defers
    show Leaves P fn a.tmps (Post H0 R w0) a.defers .returning w
    rw [hd]
    refine ⟨by simp, _, _, f, b, rfl, hi1 w, fun c cs hc => ?_⟩
    obtain ⟨e, u', w', fr, ⟨⟨ev, rfl⟩, rfl, rfl⟩, h3, h4, h5⟩ := hi2 w c cs hc
    exact ⟨.returned ev, .returning, w', fr, (show Leaves P fn a.tmps (Post H0 R w0) [] (settle .returning) w' from ⟨v, hres, hpost⟩), h3, h4, h5⟩
end
end Go.Sl
namespace Go.Sl
open Go
section
variable {x : Cx} {ops : Array Oper} {k : List KI} {rest : List Oper} {s : Slots} {H H' H1 : HP}
variable {d : Nat} {p q c : Operand} {ty t t' : TypeId} {pos : String} {af : Array Edge} {gd : Option (Nat × Bool)} {v u r : Value} {g off n m : Nat} {l l' vs : List Value} {e el : TypeId} {fr : Nat × Nat} {lo hi : Nat}

/-- A struct without fields: memory is not read. -/
theorem e_load0 {A : Addr} (hA : ∀ w, (isAgg t).run x.P w = .ok true w) (hS : ∀ w, (sizeOf t).run x.P w = .ok 0 w) (hp : ev s p = some (.pointer (some A))) : Ex x s H ⟨some d, .load t p, ty, pos, af, gd⟩ (.agg #[]) := fun a w hs => by
  simp only [execOp, hs.eval hp, Instr.loadAt, Instr.sureAddr, loadVar, Sem.run_bind, Sem.run_pure, Result.andThen_ok, hA, hS, if_true, loadCells, loadCellsFrom]
/-- A quiet operation, as a loud one. -/
theorem l_q {o : Oper} (hN : Nat.blt d x.N = true) (he : Ex x s H o v) (hd : o.dst = some d := by rfl) : Lo x s H o (Y := Unit) (fun _ => (d, v) :: s) (fun _ => H) (fun _ => True) := fun a w hs K Q hK => by
  unfold Oper.wp
  rw [he a w hs, Oper.upon_value, hd]
  exact hK () _ _ trivial (hs.put _ (by simpa [Nat.blt_eq] using hN))
theorem e_as {o : Oper} (he : Ex x s H o v) (h : v = r) : Ex x s H o r := h ▸ he

/-! ### Steps through a map that leave no choice; other makes of slices -/
variable {kd : IntKind} {ps : List (Int × Value)} {kt et : TypeId} {a : Int}
theorem e_lenm (hU : ∀ w, (underlying t).run x.P w = .ok (.map kt et) w) (hp : ev s p = some (.map (some g))) (hm : (g, Mo kd ps) ∈ H ∨ (g, Mo kd ps) ∈ x.G) : Ex x s H ⟨some d, .call { callee := .builtin .len, args := #[p], argTypes := #[t] }, ty, pos, af, gd⟩ (.int .i64 ps.length) := fun ac w hs => by
  have := getObj_of (P := x.P) (hs.mem hm)
  simp [execOp, resolve, invoke, builtin, hs.eval hp, Builtin.len_, hU, this, goInt, ME_length]
/-- A slice literal. -/
theorem l_bs {z : Value} {n sz : Nat} {pl : List (Nat × Operand)} {pv : List (Nat × Value)} (hU : ∀ w, (underlying t).run x.P w = .ok (.slice e) w) (hS : ∀ w, (sizeOf e).run x.P w = .ok sz w) (hz : ∀ w, (zeroValue e).run x.P w = .ok z w) (hN : Nat.blt d x.N = true) (hps : evp s pl = some pv) (hn : Nat.blt 0 (n * sz) = true) (hn' : Nat.ble (n * sz) 16777216 = true)
    (hf : Instr.fill (fun i => some (i * sz, sz)) ((Array.range (n * sz)).map (z.cells[· % z.cells.size]!)) pv = some l.toArray) :
    Lo x s H ⟨some d, .buildSlice t n pl.toArray, ty, pos, af, gd⟩ (Y := Nat) (fun g => (d, .slice (some ⟨g, 0, none⟩) n n) :: s) (fun g => (g, C l e) :: H) (fun _ => True) :=
  l_new (fun g => .slice (some ⟨g, 0, none⟩) n n) rfl hN (fun a w hs => by
    have hn0 : 0 < n * sz := by simpa [Nat.blt_eq] using hn
    have hn1 : n * sz ≤ 16777216 := by simpa using hn'
    have h1 : ¬ (n * sz > 2 ^ 24) := by omega
    have h2 : ¬ (n * sz = 0) := by omega
    have hp := evp_map hs hps
    have hm : (pl.toArray.map fun (p : Nat × Operand) => (p.1, a.eval p.2)) = pv.toArray := by rw [← hp]; simp
    simp only [execOp, Instr.buildSlice, Sem.run_bind, hU, hS, Result.andThen_ok, if_neg h1, if_neg h2, hz, Sem.run_pure]
    rw [hm]
    simp only [hf, Result.andThen_ok, newRow, Sem.run_bind, run_newObj, Sem.run_pure]
    rfl)
theorem hs_nil {L : HP} : ∀ p ∈ ([] : HP), p ∈ L := fun _ h => by cases h
theorem l_bs0 {sz : Nat} (hU : ∀ w, (underlying t).run x.P w = .ok (.slice e) w) (hS : ∀ w, (sizeOf e).run x.P w = .ok sz w) (hN : Nat.blt d x.N = true) :
    Lo x s H ⟨some d, .buildSlice t 0 #[], ty, pos, af, gd⟩ (Y := Nat) (fun g => (d, .slice (some ⟨g, 0, none⟩) 0 0) :: s) (fun g => (g, C [] e) :: H) (fun _ => True) :=
  l_new (fun g => .slice (some ⟨g, 0, none⟩) 0 0) rfl hN (fun a w hs => by
    simp [execOp, Instr.buildSlice, hU, hS, Instr.fill, newRow, Array.range]
    congr 2
    exact Array.eq_empty_of_size_eq_zero (by simp))
/-! ### Short names -/
theorem oe {op : Op} (hN : Nat.blt d x.N = true) (he : Ex x s H ⟨some d, op, ty, pos, af, none⟩ v) (h : WO x ops k rest ((d, v) :: s) H) : WO x ops k (⟨some d, op, ty, pos, af, none⟩ :: rest) s H := o_e rfl rfl hN he h
theorem oi {op : BinOp} {kd : IntKind} {a b : Int} (r : Value) (hN : Nat.blt d x.N = true) (hp : ev s p = some (.int kd a)) (hq : ev s q = some (.int kd b)) (hr : pint op kd a b = some r) (h : WO x ops k rest ((d, r) :: s) H) : WO x ops k (⟨some d, .binOp op t p q t', ty, pos, af, none⟩ :: rest) s H := o_e rfl rfl hN (e_int hp hq hr) h
/-- Indices that are natural numbers. -/
theorem e_ian {sz : Nat} {kd : IntKind} {i : Nat} {cap : Nat} (hU : ∀ w, (underlying t).run x.P w = .ok (.slice e) w) (hS : ∀ w, (sizeOf e).run x.P w = .ok sz w)
    (hp : ev s p = some (.slice (some ⟨g, off, none⟩) n cap)) (hq : ev s q = some (.int kd (i : Nat))) (h1 : i < n) : Ex x s H ⟨some d, .indexAddr t p q, ty, pos, af, gd⟩ (.pointer (some ⟨g, off + i * sz, none⟩)) := by
  have := e_ia (x := x) (s := s) (H := H) (d := d) (ty := ty) (pos := pos) (af := af) (gd := gd) hU hS hp hq (by omega) (by omega)
  simpa using this
theorem e_subN {m n : Nat} (hp : ev s p = some (.int .i64 (m : Nat))) (hq : ev s q = some (.int .i64 (n : Nat))) (h : n ≤ m ∧ m < 9223372036854775808) : Ex x s H ⟨some d, .binOp .sub t p q t', ty, pos, af, gd⟩ (.int .i64 ((m - n : Nat) : Int)) := by
  have := e_subn (x := x) (s := s) (H := H) (d := d) (ty := ty) (pos := pos) (af := af) (gd := gd) (t := t) (t' := t') hp hq (by simp only [inR]; omega)
  rw [Int.ofNat_sub h.1]
  exact this
theorem e_addN {m n : Nat} (hp : ev s p = some (.int .i64 (m : Nat))) (hq : ev s q = some (.int .i64 (n : Nat))) (h : m + n < 9223372036854775808) : Ex x s H ⟨some d, .binOp .add t p q t', ty, pos, af, gd⟩ (.int .i64 ((m + n : Nat) : Int)) := by
  have := e_addn (x := x) (s := s) (H := H) (d := d) (ty := ty) (pos := pos) (af := af) (gd := gd) (t := t) (t' := t') hp hq (by simp only [inR]; omega)
  exact this
theorem e_pred {m : Nat} (hp : ev s p = some (.int .i64 ((m + 1 : Nat) : Int))) (hq : ev s q = some (.int .i64 1)) (h : m < 9223372036854775807) : Ex x s H ⟨some d, .binOp .sub t p q t', ty, pos, af, gd⟩ (.int .i64 (m : Nat)) := by
  have := e_subN (x := x) (s := s) (H := H) (d := d) (ty := ty) (pos := pos) (af := af) (gd := gd) (t := t) (t' := t') (m := m + 1) (n := 1) hp hq (by omega)
  exact this
theorem l_callcq {f : FuncId} {args cap full : List Value} {HI HJ Hr : HP} {R : Value → HP → Prop} {pl : List Operand} {ats : Array TypeId} (hf : ∀ az w, (callFunc f az).run x.P w = .ok (.enter f az) w) (hc : Ctr x.P f full (x.G ++ HJ) HI R)
    (hN : Nat.blt d x.N = true) (hp : ev s p = some (.func (.func f) #[] cap.toArray)) (hps : evs s pl = some args) (hfull : args ++ cap = full) (hsel : Sel H HI Hr) (hj : ∀ p ∈ HJ, p ∈ Hr) :
    Lo x s H ⟨some d, .call { callee := .value p, args := pl.toArray, argTypes := ats }, ty, pos, af, gd⟩ (Y := Value × HP) (fun y => (d, y.1) :: s) (fun y => y.2 ++ Hr) (fun y => R y.1 y.2) := l_callc hf (hfull ▸ hc) hN hp hps hsel hj
theorem e_half {m : Nat} {kd kd' : IntKind} (hp : ev s p = some (.int kd (m : Nat))) (hq : ev s q = some (.int kd' 1)) : Ex x s H ⟨some d, .binOp .shr t p q t', ty, pos, af, gd⟩ (.int kd ((m / 2 : Nat) : Int)) := by
  have h := e_shr (x := x) (s := s) (H := H) (d := d) (ty := ty) (pos := pos) (af := af) (gd := gd) (t := t) (t' := t') hp hq (by omega)
  have h1 : min (1 : Int).toNat kd.bits = 1 := by cases kd <;> rfl
  rw [h1, Int.fdiv_eq_ediv_of_nonneg _ (by decide)] at h
  have h2 : ((m : Int) / 2 ^ 1) = ((m / 2 : Nat) : Int) := by omega
  rw [h2] at h
  exact h
theorem e_sub1 {m : Nat} (hp : ev s p = some (.int .i64 (m : Nat))) (hq : ev s q = some (.int .i64 1)) (h : 1 ≤ m ∧ m < 9223372036854775808) : Ex x s H ⟨some d, .binOp .sub t p q t', ty, pos, af, gd⟩ (.int .i64 ((m - 1 : Nat) : Int)) :=
  e_subN (n := 1) hp hq h
end
end Go.Sl
