/- What the row says of memory, in the walk's terms: a file's roots and blocks. (A part of the proof of this: for every input laws.FnWrOptions returns true and its arguments read as they did, the listed package variables being what the program lays) -/
import Derived.Test.YtochgglejmfelaaGreatDoorRows
import Derived.Deep.Slices
import Derived.ChangeSame
import Derived.ChangeVars
import Derived.JoinedOf
import Derived.RowKit
import Derived.RowKitTokens
import Derived.LaidLaws
import Derived.Stop.Joined
import Derived.Carry
import Derived.ChangeMaps5
import Derived.Test.YtochgglejmfelaaGreatDoorL21
set_option linter.unusedVariables false
set_option linter.unusedSimpArgs false
namespace Go.Proofs.YtochgglejmfelaaGreatDoor
set_option maxRecDepth 100000
open Go Go.Sl Go.Proofs Go.ChangeShapes Go.WideShapes Go.RowKit
theorem len5 {α : Type} {l : List α} (h : l.length = 5) : ∃ a b c d e, l = [a, b, c, d, e] := by
  match l, h with
  | [a, b, c, d, e], _ => exact ⟨a, b, c, d, e, rfl⟩
theorem len4 {α : Type} {l : List α} (h : l.length = 4) : ∃ a b c d, l = [a, b, c, d] := by
  match l, h with
  | [a, b, c, d], _ => exact ⟨a, b, c, d, rfl⟩
theorem len2 {α : Type} {l : List α} (h : l.length = 2) : ∃ a b, l = [a, b] := by
  match l, h with
  | [a, b], _ => exact ⟨a, b, rfl⟩
instance : Inhabited En := ⟨⟨0, 0, 0, [], 0⟩⟩
section
variable {H : Type} {enc : TypeId × Value → H} {W : World} {spare : Nat → Bool} {held : Bool}
theorem c25 : Tryz.prog.cellsOf 25 = 4 := by kernel_rfl
theorem c23 : Tryz.prog.cellsOf 23 = 1 := by kernel_rfl
theorem c9 : Tryz.prog.cellsOf 9 = 1 := by kernel_rfl
theorem c98 : Tryz.prog.cellsOf 98 = 5 := by kernel_rfl
theorem c44 : Tryz.prog.cellsOf 44 = 1 := by kernel_rfl
theorem c45 : Tryz.prog.cellsOf 45 = 1 := by kernel_rfl
theorem c47 : Tryz.prog.cellsOf 47 = 2 := by kernel_rfl
/-- A number of 64 bits is within its bounds. -/
theorem u64_wf {n : Int} (h : (Lit.int .u64 n).wf = true) : 0 ≤ n ∧ n < 18446744073709551616 := by
  simp [Lit.wf, IntKind.min, IntKind.max, IntKind.bits, IntKind.signed] at h
  omega
/-- An identifier's four cells. -/
theorem cid_of_trod {fuel : Nat} {cs : List Value} {x : DataW H × List MemPlace} (h : DataW.trod enc Tryz.prog W 0 spare held fuel 25 cs = some x) : ∃ e : En, cs = cC e ∧ EnFit e := by
  obtain ⟨xs, n, _, _, hl, hxl, hf⟩ := DataW.trod_struct Tryz.underlying25 h
  rw [c25] at hl
  have k0 := hf 0 _ rfl
  have k1 := hf 1 _ rfl
  have k2 := hf 2 _ rfl
  have k3 := hf 3 _ rfl
  have hx : xs.length = 4 := by rw [hxl]; rfl
  clear hf
  obtain ⟨u0, u1, u2, u3, rfl⟩ := len4 hl
  obtain ⟨y0, y1, y2, y3, rfl⟩ := len4 hx
  simp only [c23, c9, List.getElem?_cons_zero, List.getElem?_cons_succ] at k0 k1 k2 k3
  obtain ⟨a, h0, _, wa⟩ := DataW.trod_int Tryz.underlying23 (x := y0) (cs := [u0]) k0
  obtain ⟨b, h1, _, wb⟩ := DataW.trod_int Tryz.underlying23 (x := y1) (cs := [u1]) k1
  obtain ⟨c, h2, _, wc⟩ := DataW.trod_int Tryz.underlying23 (x := y2) (cs := [u2]) k2
  obtain ⟨s, h3, _⟩ := DataW.trod_string Tryz.underlying9 (x := y3) (cs := [u3]) k3
  simp only [List.cons.injEq, and_true] at h0 h1 h2 h3
  exact ⟨⟨a, b, c, s.data.toList, 0⟩, by rw [h0, h1, h2, h3]; rfl, ⟨(u64_wf wa).1, (u64_wf wa).2, (u64_wf wb).1, (u64_wf wb).2, (u64_wf wc).1, (u64_wf wc).2, Int.le_refl _, (show (0 : Int) < 18446744073709551616 by decide)⟩⟩
/-- A block's five cells. -/
theorem blk_of_trod {fuel : Nat} {cs : List Value} {x : DataW H × List MemPlace} (h : DataW.trod enc Tryz.prog W 0 spare held fuel 98 cs = some x) : ∃ b : Blk, cs = bC b ∧ EnFit b.1 := by
  obtain ⟨xs, n, _, _, hl, hxl, hf⟩ := DataW.trod_struct Tryz.underlying98 h
  rw [c98] at hl
  have k0 := hf 0 _ rfl
  have k1 := hf 1 _ rfl
  have hx : xs.length = 2 := by rw [hxl]; rfl
  clear hf
  obtain ⟨u0, u1, u2, u3, u4, rfl⟩ := len5 hl
  obtain ⟨y0, y1, rfl⟩ := len2 hx
  simp only [c9, c25, List.getElem?_cons_zero, List.getElem?_cons_succ] at k0 k1
  obtain ⟨e, h0, he⟩ := cid_of_trod (x := y0) (cs := [u0, u1, u2, u3]) k0
  obtain ⟨s, h1, _⟩ := DataW.trod_string Tryz.underlying9 (x := y1) (cs := [u4]) k1
  refine ⟨(e, s.data.toList), ?_, he⟩
  simp only [List.cons.injEq, and_true] at h1
  show [u0, u1, u2, u3] ++ [u4] = cC e ++ [_]
  rw [h0, h1]
theorem cut_of_cells {b off n : Nat} (h0 : 0 < n) {c : Array Value} {e : TypeId} {fr : Nat × Nat} {cs : List Value} (hb : W.heap[b]? = some (.cells c e fr)) (h : W.cells? 0 ⟨b, off, none⟩ n = some cs) : CutL c.toList off n cs := by
  obtain ⟨_, hl, hc⟩ := World.cells?_some h
  have hc' : ∀ i, i < n → c.toList[off + i]? = cs[i]? := fun i hi => by
    rw [← hc i hi, add_addr, World.cell?, hb]; simp
  have hle : off + n ≤ c.toList.length := by
    have h1 := hc' (n - 1) (by omega)
    rw [List.getElem?_eq_getElem (by omega : n - 1 < cs.length)] at h1
    have := (List.getElem?_eq_some_iff.1 h1).1
    omega
  have e : cs = (c.toList.drop off).take n := by
    apply List.ext_getElem?
    intro i
    by_cases hi : i < n
    · rw [← hc' i hi, List.getElem?_take_of_lt hi, List.getElem?_drop]
    · rw [List.getElem?_eq_none (by omega), List.getElem?_eq_none (by simp; omega)]
  rw [e]
  exact CutL.of hle
/-- A row that was handed in. -/
theorem row_of_trod {α : Type} [Inhabited α] {f : α → List Value} {Q : α → Prop} {sz : Nat} {tS tE : TypeId} (hu : Tryz.prog.underlying tS = some (.slice tE)) (hc : Tryz.prog.cellsOf tE = sz) (hsz : 0 < sz) (hq : ∀ {fuel : Nat} {cs : List Value} {x : DataW H × List MemPlace}, DataW.trod enc Tryz.prog W 0 spare held fuel tE cs = some x → ∃ a, cs = f a ∧ Q a)
    {fuel : Nat} {cs : List Value} {x : DataW H × List MemPlace} (h : DataW.trod enc Tryz.prog W 0 spare held fuel tS cs = some x) : ∃ (v : Value) (G : HP) (l : List α), cs = [v] ∧ Has W G ∧ RwS f sz G v l ∧ l.length ≤ maxLen ∧ ∀ x ∈ l, Q x := by
  rcases Deep.open_slice hu h with ⟨rfl, _⟩ | ⟨a, len, cap, m, n, D, Pl, rfl, _, hlc, hcap, hm, _, hel⟩
  · exact ⟨_, [], [], rfl, (fun _ h => by cases h), .emp, Nat.zero_le _, fun _ h => by cases h⟩
  · by_cases hl0 : len = 0
    · subst hl0
      exact ⟨_, [], [], rfl, (fun _ h => by cases h), .emp, Nat.zero_le _, fun _ h => by cases h⟩
    · have hlm : len ≤ m := by rw [hm]; split <;> omega
      rw [hc] at hel
      obtain ⟨cs0, hc0, _⟩ := hel 0 (by omega)
      obtain ⟨b, off, sp⟩ := a
      have hsp : sp = none ∧ ∃ c e fr, W.heap[b]? = some (.cells c e fr) := by
        obtain ⟨_, hl5, hc⟩ := World.cells?_some hc0
        have h1 := hc 0 hsz
        rw [List.getElem?_eq_getElem (by omega : 0 < cs0.length)] at h1
        have e0 : ((⟨b, off, sp⟩ : Addr).add (0 * sz)).add 0 = ⟨b, off, sp⟩ := by simp [Addr.add]
        rw [e0, World.cell?] at h1
        split at h1
        · rename_i c e fr hb
          split at h1
          · cases h1
          · rename_i hs
            exact ⟨by simpa using hs, c, e, fr, hb⟩
        · cases h1
      obtain ⟨rfl, c, e, fr, hb⟩ := hsp
      obtain ⟨g, hf⟩ := Deep.choose_lt (α := α) (n := len) (p := fun i x => CutL c.toList (off + i * sz) sz (f x) ∧ Q x) (fun i hi => by
        obtain ⟨cs, h1, h2⟩ := hel i (by omega)
        obtain ⟨x, rfl, hfx⟩ := hq h2
        rw [add_addr] at h1
        exact ⟨x, cut_of_cells hsz hb h1, hfx⟩)
      refine ⟨_, [(b, .cells c.toList.toArray e fr)], (List.range len).map g, rfl, ?_, ?_, by simp; omega, ?_⟩
      · intro p hp
        rcases List.mem_singleton.1 hp with rfl
        simpa using hb
      · refine .blk (.head _) (by simp) (fun i hi => ?_)
        have hi' : i < len := by simpa using hi
        simpa using (hf i hi').1
      · intro x hx
        obtain ⟨i, hi, rfl⟩ := List.mem_map.1 hx
        exact (hf i (List.mem_range.1 hi)).2
/-- A file's data that were handed in. -/
theorem car_of_trod {v : Value} {d : DataW H} {ps : List MemPlace} (h : DataW.Trod enc Tryz.prog W 0 spare held 47 v d ps) : ∃ (vr vb : Value) (G1 G2 : HP) (xs : List En) (blks : List Blk), v = .agg #[vr, vb] ∧ Has W G1 ∧ Has W G2 ∧ RwS cC 4 G1 vr xs ∧ xs.length ≤ maxLen ∧ (∀ x ∈ xs, EnFit x) ∧ RwS bC 5 G2 vb blks ∧ blks.length ≤ maxLen ∧ ∀ b ∈ blks, EnFit b.1 := by
  obtain ⟨fuel, h⟩ := h
  obtain ⟨xs, n, _, _, hl, hxl, hf⟩ := DataW.trod_struct Tryz.underlying47 h
  rw [c47] at hl
  have k0 := hf 0 _ rfl
  have k1 := hf 1 _ rfl
  have hx : xs.length = 2 := by rw [hxl]; rfl
  clear hf
  generalize hcs : v.cells.toList = cs at *
  obtain ⟨u0, u1, rfl⟩ := len2 hl
  obtain ⟨y0, y1, rfl⟩ := len2 hx
  simp only [c44, c45, List.getElem?_cons_zero, List.getElem?_cons_succ] at k0 k1
  obtain ⟨vr, G1, l1, e1, hG1, hr1, hn1, hq1⟩ := row_of_trod (f := cC) (Q := EnFit) Tryz.underlying44 c25 (by decide) cid_of_trod (x := y0) (cs := [u0]) k0
  obtain ⟨vb, G2, l2, e2, hG2, hr2, hn2, hq2⟩ := row_of_trod (f := bC) (Q := fun b : Blk => EnFit b.1) Tryz.underlying45 c98 (by decide) blk_of_trod (x := y1) (cs := [u1]) k1
  simp only [List.cons.injEq, and_true] at e1 e2
  subst e1; subst e2
  refine ⟨u0, u1, G1, G2, l1, l2, ?_, hG1, hG2, hr1, hn1, hq1, hr2, hn2, hq2⟩
  cases v with
  | agg cs =>
    simp only [Value.cells] at hcs
    show Value.agg cs = Value.agg [u0, u1].toArray
    rw [← hcs]
  | _ => simp [Value.cells] at hcs
end
end Go.Proofs.YtochgglejmfelaaGreatDoor
