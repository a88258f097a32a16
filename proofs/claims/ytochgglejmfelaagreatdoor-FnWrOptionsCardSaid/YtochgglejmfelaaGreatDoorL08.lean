/- The stable sort, walked; The stable sort of at most one entry; sort.SliceStable of entries; Entries sorted by digests; ByDigest: a sorted copy; The stable sort gives the same entries in another order; The lengths of digests, each once, in order; The library's sort.Slice over numbers; The codes of hash functions, each once, in order; What an index has besides its codes: the entries sorted by digests, by lengths. (A part of the proof of this: for every input laws.FnWrOptions returns true and its arguments read as they did, the listed package variables being what the program lays) -/
import Derived.Test.YtochgglejmfelaaGreatDoorLSlZ
import Derived.Test.YtochgglejmfelaaGreatDoorL07
import Derived.Test.YtochgglejmfelaaGreatDoorL06
import Derived.Test.YtochgglejmfelaaGreatDoorL03
import Derived.Deep.QuietTactic
import Derived.Shelf.GgSortFunc.Tiny
import Derived.Sort.LotA
import Derived.WalkKit
set_option linter.unusedVariables false
set_option linter.unusedSimpArgs false
namespace Go.Proofs
open Go Go.Sl Tryz
set_option maxRecDepth 100000
set_option maxHeartbeats 1000000

def isP (n : Nat) : Nat → Nat → List En → List En
  | 0, a, l => isortN a (n - (a + 1)) l
  | f + 1, a, l => if a + 20 ≤ n then isP n f (a + 20) (isortN a 19 l) else isortN a (n - (a + 1)) l
theorem isP_fuel (n : Nat) : ∀ (f f' a : Nat) (l : List En), n - a ≤ f → n - a ≤ f' → isP n f a l = isP n f' a l := by
  intro f
  induction f with
  | zero =>
    intro f' a l h h'
    cases f' with
    | zero => rfl
    | succ f' => simp only [isP]; rw [if_neg (by omega)]
  | succ f ih =>
    intro f' a l h h'
    cases f' with
    | zero => simp only [isP]; rw [if_neg (by omega)]
    | succ f' =>
      simp only [isP]
      split
      · exact ih _ _ _ (by omega) (by omega)
      · rfl
theorem isP_length (n : Nat) : ∀ (f a : Nat) (l : List En), (isP n f a l).length = l.length := by
  intro f
  induction f with
  | zero => intro a l; exact isortN_length ..
  | succ f ih => intro a l; simp only [isP]; split <;> simp [ih, isortN_length]
def mgP (n s : Nat) : Nat → Nat → List En → List En
  | 0, a, l => if a + s < n then symM (n - a) l a (a + s) n else l
  | f + 1, a, l => if a + 2 * s ≤ n then mgP n s f (a + 2 * s) (symM (2 * s) l a (a + s) (a + 2 * s)) else if a + s < n then symM (n - a) l a (a + s) n else l
theorem mgP_fuel (n s : Nat) (hs : 0 < s) : ∀ (f f' a : Nat) (l : List En), n - a ≤ f → n - a ≤ f' → mgP n s f a l = mgP n s f' a l := by
  intro f
  induction f with
  | zero =>
    intro f' a l h h'
    cases f' with
    | zero => rfl
    | succ f' => simp only [mgP]; rw [if_neg (show ¬ a + 2 * s ≤ n by omega)]
  | succ f ih =>
    intro f' a l h h'
    cases f' with
    | zero => simp only [mgP]; rw [if_neg (show ¬ a + 2 * s ≤ n by omega)]
    | succ f' =>
      simp only [mgP]
      split
      · exact ih _ _ _ (by omega) (by omega)
      · rfl
theorem mgP_length (n s : Nat) : ∀ (f a : Nat) (l : List En), (mgP n s f a l).length = l.length := by
  intro f
  induction f with
  | zero => intro a l; simp only [mgP]; split <;> simp [symM_length]
  | succ f ih => intro a l; simp only [mgP]; split <;> (try split) <;> simp [ih, symM_length]
def stM (n : Nat) : Nat → Nat → List En → List En
  | 0, _, l => l
  | f + 1, s, l => if s < n then stM n f (2 * s) (mgP n s n 0 l) else l
theorem stM_fuel (n : Nat) : ∀ (f f' s : Nat) (l : List En), 0 < s → n - s ≤ f → n - s ≤ f' → stM n f s l = stM n f' s l := by
  intro f
  induction f with
  | zero =>
    intro f' s l h0 h h'
    cases f' with
    | zero => rfl
    | succ f' => simp only [stM]; rw [if_neg (by omega)]
  | succ f ih =>
    intro f' s l h0 h h'
    cases f' with
    | zero => simp only [stM]; rw [if_neg (by omega)]
    | succ f' =>
      simp only [stM]
      split
      · exact ih _ _ _ (by omega) (by omega) (by omega)
      · rfl
theorem isP_step {n f a : Nat} {l : List En} (h : a + 20 ≤ n) (hf : n - a ≤ f) : isP n f (a + 20) (isortN a 19 l) = isP n f a l := by
  cases f with
  | zero => omega
  | succ f =>
    show isP n (f + 1) (a + 20) (isortN a 19 l) = if a + 20 ≤ n then isP n f (a + 20) (isortN a 19 l) else isortN a (n - (a + 1)) l
    rw [if_pos h]
    exact isP_fuel n (f + 1) f _ _ (by omega) (by omega)
theorem isP_end {n f a : Nat} {l : List En} (h : ¬ a + 20 ≤ n) : isP n f a l = isortN a (n - (a + 1)) l := by
  cases f <;> simp [isP, h]
theorem mgP_step {n s f a : Nat} {l : List En} (hs : 0 < s) (h : a + 2 * s ≤ n) (hf : n - a ≤ f) : mgP n s f (a + 2 * s) (symM (2 * s) l a (a + s) (a + 2 * s)) = mgP n s f a l := by
  cases f with
  | zero => omega
  | succ f =>
    show mgP n s (f + 1) (a + 2 * s) (symM (2 * s) l a (a + s) (a + 2 * s)) = if a + 2 * s ≤ n then mgP n s f (a + 2 * s) (symM (2 * s) l a (a + s) (a + 2 * s)) else _
    rw [if_pos h]
    exact mgP_fuel n s hs (f + 1) f _ _ (by omega) (by omega)
theorem mgP_end {n s f a : Nat} {l : List En} (h : ¬ a + 2 * s ≤ n) : mgP n s f a l = if a + s < n then symM (n - a) l a (a + s) n else l := by
  cases f <;> simp [mgP, h]
theorem stM_step {n f s : Nat} {l : List En} (h0 : 0 < s) (h : s < n) (hf : n - s ≤ f) : stM n f (2 * s) (mgP n s n 0 l) = stM n f s l := by
  cases f with
  | zero => omega
  | succ f =>
    show stM n (f + 1) (2 * s) (mgP n s n 0 l) = if s < n then stM n f (2 * s) (mgP n s n 0 l) else l
    rw [if_pos h]
    exact stM_fuel n (f + 1) f _ _ (by omega) (by omega) (by omega)
theorem stM_end {n f s : Nat} {l : List En} (h : ¬ s < n) : stM n f s l = l := by
  cases f <;> simp [stM, h]
def stable (l : List En) : List En := stM l.length l.length 20 (isP l.length l.length 0 l)
section
variable {G : HP} {gs g n cap lo hi : Nat} {rest : List Value}
theorem stable_is {l : List En} (hn : l.length = n) (hf : n * 5 ≤ lo ∨ hi = 0) (h1 : n ≤ 1000) :
    Ctr prog 219 [.agg (Dv gs g n cap).toArray, .int .i64 (n : Nat)] G (SH gs g n cap rest lo hi l) (fun r H' => r = .tuple #[] ∧ H' = SH gs g n cap rest lo hi (stable l)) := by
  simp only [Dv, SH]
  refine fn_enter 57 func219 rfl ntmps219 rfl ?_
  intro w0
  refine gn 2 ?_
  refine oB ?_; intro g2 _
  refine gn 16 ?_
  refine c_loop (X := Nat × List En) (fun y => [(1, .int .i64 n), (2, .pointer (some ⟨g2, 0, none⟩)), (4, .int .i64 20), (5, .int .i64 y.1), (6, .int .i64 (y.1 + 20 : Nat))]) (fun y => (g2, C [.func (.func 193) #[] #[.pointer (some ⟨gs, 0, none⟩)], .func (.func 121) #[] #[.slice (some ⟨g, 0, none⟩) n cap, .pointer (some ⟨26, 56, none⟩)]] 134) :: SH gs g n cap rest lo hi y.2) (fun y => y.1 ≤ n ∧ y.2.length = n ∧ isP n n y.1 y.2 = isP n n 0 l) (fun y => n - y.1) (0, l) ⟨Nat.zero_le _, hn, rfl⟩ aK (.refl _) ?_
  rintro ⟨a, l1⟩ ⟨ha, hl1, hp⟩
  simp only at ha hl1 hp
  simp only [SH]
  refine gn 8 ?_
  refine c_ifp rfl (fun c1 => ?_) (fun c1 => ?_)
  · have c1' : a + 20 ≤ n := by omega
    refine gn 8 ?_
    refine oL (lC (isort_is (rest := rest) (l := l1) (a := a) (b := a + 20) hl1 hf h1 (by omega) (by omega)) rfl (.cons (.tail .head) (.cons (.tail .head) .nil))) ?_
    rintro ⟨r, H'⟩ ⟨rfl, rfl⟩
    rw [show a + 20 - (a + 1) = 19 by omega]
    simp only [SH, List.cons_append, List.nil_append]
    refine gn 15 ?_
    refine n_round' (y := (a, l1)) (a + 20, isortN a 19 l1) (by show n - (a + 20) < n - a; omega) ?_ aK _ (List.perm_append_comm (l₁ := [_, _])) (List.Sublist.refl _)
    refine ⟨by show a + 20 ≤ n; omega, by show (isortN a 19 l1).length = n; rw [isortN_length, hl1], ?_⟩
    rw [← hp]
    exact isP_step c1' (by omega)
  · skip
    have c1' : ¬ a + 20 ≤ n := by omega
    refine gn 10 ?_
    refine oL (lC (isort_is (rest := rest) (l := l1) (a := a) (b := n) hl1 hf h1 (by omega) (by omega)) rfl (.cons (.tail .head) (.cons (.tail .head) .nil))) ?_
    rintro ⟨r, H'⟩ ⟨rfl, rfl⟩
    have hl2 : isortN a (n - (a + 1)) l1 = isP n n 0 l := by rw [← hp, isP_end c1']
    rw [hl2]
    have hn2 : (isP n n 0 l).length = n := by rw [isP_length, hn]
    have hst : stable l = stM n n 20 (isP n n 0 l) := by simp only [stable, hn]
    rw [hst]
    generalize isP n n 0 l = l2 at *
    simp only [SH, List.cons_append, List.nil_append]
    refine gn 3 ?_
    refine c_loop (X := Nat × List En) (fun y => [(1, .int .i64 n), (2, .pointer (some ⟨g2, 0, none⟩)), (4, .int .i64 y.1)]) (fun y => (g2, C [.func (.func 193) #[] #[.pointer (some ⟨gs, 0, none⟩)], .func (.func 121) #[] #[.slice (some ⟨g, 0, none⟩) n cap, .pointer (some ⟨26, 56, none⟩)]] 134) :: SH gs g n cap rest lo hi y.2) (fun y => 0 < y.1 ∧ y.1 ≤ 2000 ∧ y.2.length = n ∧ stM n n y.1 y.2 = stM n n 20 l2) (fun y => n - y.1) (20, l2) ⟨by show 0 < 20; decide, by show 20 ≤ 2000; decide, hn2, rfl⟩ aK (List.perm_append_comm (l₁ := [_, _])) ?_
    rintro ⟨s, l3⟩ ⟨hs0, hs1, hl3, hq⟩
    simp only at hs0 hs1 hl3 hq
    simp only [SH]
    refine gn 8 ?_
    refine c_ifp rfl (fun c2 => ?_) (fun c2 => ?_)
    · have c2' : s < n := by omega
      refine gn 13 ?_
      refine c_loop (X := Nat × List En) (fun y => [(1, .int .i64 n), (2, .pointer (some ⟨g2, 0, none⟩)), (4, .int .i64 s), (5, .int .i64 y.1), (6, .int .i64 (y.1 + 2 * s : Nat))]) (fun y => (g2, C [.func (.func 193) #[] #[.pointer (some ⟨gs, 0, none⟩)], .func (.func 121) #[] #[.slice (some ⟨g, 0, none⟩) n cap, .pointer (some ⟨26, 56, none⟩)]] 134) :: SH gs g n cap rest lo hi y.2) (fun y => y.1 ≤ n ∧ y.2.length = n ∧ mgP n s n y.1 y.2 = mgP n s n 0 l3) (fun y => n - y.1) (0, l3) ⟨Nat.zero_le _, hl3, rfl⟩ (sub_cons rfl (sub_cons rfl (sub_cons rfl (sub_cons rfl (sub_cons ?_ sub_nil))))) (.refl _) ?_
      · show lk _ 6 = some (Value.int .i64 ((0 + 2 * s : Nat) : Int))
        rw [Nat.zero_add]
        rfl
      rintro ⟨a, l4⟩ ⟨ha4, hl4, hm⟩
      simp only at ha4 hl4 hm
      simp only [SH]
      refine gn 8 ?_
      refine c_ifp rfl (fun c3 => ?_) (fun c3 => ?_)
      · have c3' : a + 2 * s ≤ n := by omega
        refine gn 11 ?_
        refine oL (lC (symM_is (rest := rest) hf h1 (2 * s) (l := l4) (a := a) (m := a + s) (b := a + 2 * s) hl4 (by omega) (by omega) (by omega) (by omega)) rfl (.cons (.tail .head) (.cons (.tail .head) .nil))) ?_
        rintro ⟨r, H'⟩ ⟨rfl, rfl⟩
        simp only [SH, List.cons_append, List.nil_append]
        refine gn 16 ?_
        refine n_round' (y := (a, l4)) (a + 2 * s, symM (2 * s) l4 a (a + s) (a + 2 * s)) (by show n - (a + 2 * s) < n - a; omega) ?_ aK _ (List.perm_append_comm (l₁ := [_, _])) (List.Sublist.refl _)
        refine ⟨by show a + 2 * s ≤ n; omega, by show (symM (2 * s) l4 a (a + s) (a + 2 * s)).length = n; rw [symM_length, hl4], ?_⟩
        rw [← hm]
        exact mgP_step hs0 c3' (by omega)
      · skip
        have c3' : ¬ a + 2 * s ≤ n := by omega
        have hend := mgP_end (n := n) (s := s) (f := n) (a := a) (l := l4) c3'
        rw [hm] at hend
        have hmn : (mgP n s n 0 l3).length = n := by rw [mgP_length, hl3]
        refine gn 21 ?_
        refine c_ifp rfl (fun c4 => ?_) (fun c4 => ?_)
        · refine gn 5 ?_
          refine oL (lC (symM_is (rest := rest) hf h1 (n - a) (l := l4) (a := a) (m := a + s) (b := n) hl4 (by omega) (by omega) (by omega) (by omega)) rfl (.cons (.tail .head) (.cons (.tail .head) .nil))) ?_
          rintro ⟨r, H'⟩ ⟨rfl, rfl⟩
          rw [if_pos (by omega)] at hend
          rw [← hend]
          simp only [SH, List.cons_append, List.nil_append]
          refine gn 8 ?_
          refine n_round' (y := (s, l3)) (s * 2, mgP n s n 0 l3) (by show n - s * 2 < n - s; omega) ?_ aK _ (List.perm_append_comm (l₁ := [_, _])) (List.Sublist.refl _)
          refine ⟨by show 0 < s * 2; omega, by show s * 2 ≤ 2000; omega, hmn, ?_⟩
          rw [← hq]
          show stM n n (s * 2) (mgP n s n 0 l3) = _
          rw [Nat.mul_comm]
          exact stM_step hs0 c2' (by omega)
        · skip
          rw [if_neg (by omega)] at hend
          refine gn 8 ?_
          refine n_round' (y := (s, l3)) (s * 2, mgP n s n 0 l3) (by show n - s * 2 < n - s; omega) ?_ aK _ (.refl _) (by rw [hend]; exact List.Sublist.refl _)
          refine ⟨by show 0 < s * 2; omega, by show s * 2 ≤ 2000; omega, hmn, ?_⟩
          rw [← hq]
          show stM n n (s * 2) (mgP n s n 0 l3) = _
          rw [Nat.mul_comm]
          exact stM_step hs0 c2' (by omega)
    · skip
      refine gn 4 ?_
      refine WN.sel (.cons (.tail .head) (.cons (.tail .head) .nil)) ?_
      refine n_fn0 results219 ?_
      exact ⟨rfl, by rw [← hq, stM_end (by omega)]⟩
end
end Go.Proofs
namespace Go.Proofs
open Go Go.Sl Tryz
set_option maxRecDepth 100000
set_option maxHeartbeats 1000000
section
variable {G : HP} {n : Nat} {u v : Value}
theorem isort01 (h1 : n ≤ 1) (hu : u.oneCell' = true) (hv : v.oneCell' = true) : Ctr prog 124 [.agg #[u, v], .int .i64 (0 : Nat), .int .i64 (n : Nat)] G [] (fun r H' => r = .tuple #[] ∧ H' = []) := by
  refine fn_enter 35 func124 rfl ntmps124 rfl ?_
  intro w0
  refine gn 2 ?_
  refine oB ?_; intro g3 _
  refine gn 10 ?_
  refine c_rounds 1 ?_
  refine gn 8 ?_
  refine c_ifp rfl (fun h2 => ?_) (fun h2 => ?_)
  · exact absurd h2 (by omega)
  · skip
    refine gn 4 ?_
    refine WN.less (fun _ _ h => h) (List.nil_sublist _) ?_
    refine n_fn0 results124 ?_
    exact ⟨rfl, rfl⟩
theorem stable01 (h1 : n ≤ 1) (hu : u.oneCell' = true) (hv : v.oneCell' = true) : Ctr prog 219 [.agg #[u, v], .int .i64 (n : Nat)] G [] (fun r H' => r = .tuple #[] ∧ H' = []) := by
  refine fn_enter 57 func219 rfl ntmps219 rfl ?_
  intro w0
  refine gn 2 ?_
  refine oB ?_; intro g2 _
  refine gn 16 ?_
  refine c_rounds 1 ?_
  refine gn 8 ?_
  refine c_ifp rfl (fun h2 => ?_) (fun h2 => ?_)
  · exact absurd h2 (by omega)
  · skip
    refine gn 10 ?_
    refine oL (lC (isort01 h1 hu hv) rfl .nil) ?_
    rintro ⟨r, H'⟩ ⟨rfl, rfl⟩
    simp only [List.nil_append]
    refine gn 3 ?_
    refine c_rounds 1 ?_
    refine gn 8 ?_
    refine c_ifp rfl (fun h3 => ?_) (fun h3 => ?_)
    · exact absurd h3 (by omega)
    · skip
      refine gn 4 ?_
      refine WN.less (fun _ _ h => h) (List.nil_sublist _) ?_
      refine n_fn0 results219 ?_
      exact ⟨rfl, rfl⟩
end
end Go.Proofs
namespace Go.Proofs
open Go Go.Sl Tryz
set_option maxRecDepth 100000
set_option maxHeartbeats 1000000
theorem stable_small {l : List En} (h : l.length ≤ 1) : stable l = l := by
  match l, h with
  | [], _ => rfl
  | [x], _ => rfl
theorem kind56 (w : World) : (Extern.Rtype.kind 56).run prog w = .ok 25 w := by kernel_rfl
theorem k9 {n : Nat} (h : 2 ≤ n) : Lib.swapperK n t56 25 = 9 := by
  have h0 : (n == 0) = false := by simp; omega
  have h1 : (n == 1) = false := by simp; omega
  simp only [Lib.swapperK, h0, h1, Bool.false_eq_true, if_false]
  rfl
theorem ext64_9 {n : Nat} (h : 2 ≤ n) (q : Option Addr) (c : Nat) (w : World) : (callFunc 64 #[.iface 22 (.slice q n c)]).run prog w = .ok (.value (.func (.func 121) #[] #[.slice q n c, .pointer (some ⟨26, 56, none⟩)])) w :=
  ext64 typeInfo22 rfl typeInfo56 25 kind56 q n c 9 121 (k9 h) (by kernel_rfl) w
theorem ext64_1 (q : Option Addr) (c : Nat) (w : World) : (callFunc 64 #[.iface 22 (.slice q 1 c)]).run prog w = .ok (.value (.func (.func 114) #[] #[])) w :=
  ext64 typeInfo22 rfl typeInfo56 25 kind56 q 1 c 2 114 rfl (by kernel_rfl) w
theorem ext64_0 (q : Option Addr) (c : Nat) (w : World) : (callFunc 64 #[.iface 22 (.slice q 0 c)]).run prog w = .ok (.value (.func (.func 113) #[] #[])) w :=
  ext64 typeInfo22 rfl typeInfo56 25 kind56 q 0 c 1 113 rfl (by kernel_rfl) w
section
variable {G : HP} {gs g n cap lo hi : Nat} {rest : List Value}
theorem sliceStable_big {l : List En} (hn : l.length = n) (hf : n * 5 ≤ lo ∨ hi = 0) (h1 : n ≤ 1000) (h2 : 2 ≤ n) :
    Ctr prog 192 [.iface 22 (.slice (some ⟨g, 0, none⟩) n cap), .func (.func 193) #[] #[.pointer (some ⟨gs, 0, none⟩)]] G (SH gs g n cap rest lo hi l) (fun r H' => r = .tuple #[] ∧ H' = SH gs g n cap rest lo hi (stable l)) := by
  simp only [SH]
  refine fn_enter 16 func192 rfl ntmps192 rfl ?_
  intro w0
  refine gn 3 ?_
  refine oL (l_extn (V := fun g => Value.agg #[Value.pointer (some ⟨26, 22, none⟩), Value.pointer (some ⟨g, 0, none⟩), Value.int .u64 151]) (ob := C [.slice (some ⟨g, 0, none⟩) n cap] 22) rfl rfl (fun w => ext63 typeInfo22 rfl _ _ _ w)) ?_
  intro g7 _
  refine oZ ?_; intro g4 _
  refine oL (l_storea sizeOf126 rfl rfl rfl (by simp [Value.oneCell']) .head (.take (.take (.take .done))) nofrs0) ?_
  intro _ _
  refine gn 5 ?_
  refine oX (e_ext rfl (fun w => ext64_9 h2 _ _ w)) ?_
  refine gn 6 ?_
  refine oX (eB [.func (.func 193) #[] #[.pointer (some ⟨gs, 0, none⟩)], .func (.func 121) #[] #[.slice (some ⟨g, 0, none⟩) n cap, .pointer (some ⟨26, 56, none⟩)]]) ?_
  refine gn 1 ?_
  refine oX (e_vlen rfl typeInfo22 rfl (by kernel_rfl) rfl (.inl (.tail _ (.head _))) rfl) ?_
  refine oL (lC (stable_is (rest := rest) (l := l) hn hf h1) rfl (.cons (.tail (.tail .head)) (.cons (.tail (.tail .head)) .nil))) ?_
  rintro ⟨r, H'⟩ ⟨rfl, rfl⟩
  simp only [SH, List.cons_append, List.nil_append]
  refine gn 1 ?_
  refine WN.sel (.cons .head (.cons .head .nil)) ?_
  refine n_fn0 results192 ?_
  exact ⟨rfl, rfl⟩
theorem sliceStable_0 {A : Option Addr} {fn : Fn} {ua uc : Array Value} :
    Ctr prog 192 [.iface 22 (.slice A 0 cap), .func fn ua uc] G [] (fun r H' => r = .tuple #[] ∧ H' = []) := by
  refine fn_enter 16 func192 rfl ntmps192 rfl ?_
  intro w0
  refine gn 3 ?_
  refine oL (l_extn (V := fun g => Value.agg #[Value.pointer (some ⟨26, 22, none⟩), Value.pointer (some ⟨g, 0, none⟩), Value.int .u64 151]) (ob := C [.slice A 0 cap] 22) rfl rfl (fun w => ext63 typeInfo22 rfl _ _ _ w)) ?_
  intro g7 _
  refine oZ ?_; intro g4 _
  refine oL (l_storea sizeOf126 rfl rfl rfl (by simp [Value.oneCell']) .head (.take (.take (.take .done))) nofrs0) ?_
  intro _ _
  refine gn 5 ?_
  refine oX (e_ext rfl (fun w => ext64_0 _ _ w)) ?_
  refine gn 6 ?_
  refine oX (eB [.func fn ua uc, .func (.func 113) #[] #[]]) ?_
  refine gn 1 ?_
  refine oX (e_vlen rfl typeInfo22 rfl (by kernel_rfl) rfl (.inl (.tail _ (.head _))) rfl) ?_
  refine oL (lC (stable01 (n := 0) (by decide) rfl rfl) rfl .nil) ?_
  rintro ⟨r, H'⟩ ⟨rfl, rfl⟩
  simp only [List.nil_append]
  refine gn 1 ?_
  refine WN.less (fun _ _ h => h) (List.nil_sublist _) ?_
  refine n_fn0 results192 ?_
  exact ⟨rfl, rfl⟩
theorem sliceStable_1 {A : Option Addr} {fn : Fn} {ua uc : Array Value} :
    Ctr prog 192 [.iface 22 (.slice A 1 cap), .func fn ua uc] G [] (fun r H' => r = .tuple #[] ∧ H' = []) := by
  refine fn_enter 16 func192 rfl ntmps192 rfl ?_
  intro w0
  refine gn 3 ?_
  refine oL (l_extn (V := fun g => Value.agg #[Value.pointer (some ⟨26, 22, none⟩), Value.pointer (some ⟨g, 0, none⟩), Value.int .u64 151]) (ob := C [.slice A 1 cap] 22) rfl rfl (fun w => ext63 typeInfo22 rfl _ _ _ w)) ?_
  intro g7 _
  refine oZ ?_; intro g4 _
  refine oL (l_storea sizeOf126 rfl rfl rfl (by simp [Value.oneCell']) .head (.take (.take (.take .done))) nofrs0) ?_
  intro _ _
  refine gn 5 ?_
  refine oX (e_ext rfl (fun w => ext64_1 _ _ w)) ?_
  refine gn 6 ?_
  refine oX (eB [.func fn ua uc, .func (.func 114) #[] #[]]) ?_
  refine gn 1 ?_
  refine oX (e_vlen rfl typeInfo22 rfl (by kernel_rfl) rfl (.inl (.tail _ (.head _))) rfl) ?_
  refine oL (lC (stable01 (n := 1) (by decide) rfl rfl) rfl .nil) ?_
  rintro ⟨r, H'⟩ ⟨rfl, rfl⟩
  simp only [List.nil_append]
  refine gn 1 ?_
  refine WN.less (fun _ _ h => h) (List.nil_sublist _) ?_
  refine n_fn0 results192 ?_
  exact ⟨rfl, rfl⟩
end
end Go.Proofs
namespace Go.Proofs
open Go Go.Sl
set_option maxRecDepth 100000
set_option maxHeartbeats 1000000
theorem cut_app {l a b : List Value} {i n m : Nat} (h1 : CutL l i n a) (h2 : CutL l (i + n) m b) : CutL l i (n + m) (a ++ b) := by
  have e1 := h1.eq
  have e2 := h2.eq
  have l1 := h1.le
  have l2 := h2.le
  have : a ++ b = (l.drop i).take (n + m) := by
    rw [e1, e2, ← List.drop_drop, List.take_add]
  rw [this]
  exact CutL.of (by omega)
theorem cut_all {L : List Value} {off : Nat} : ∀ {l : List En}, (∀ i (h : i < l.length), CutL L (off + i * 5) 5 (cE l[i])) → off ≤ L.length → CutL L off (l.length * 5) (cells5 l) := by
  intro l
  induction l generalizing off with
  | nil => intro _ h; simpa [cells5] using CutL.of (l := L) (i := off) (n := 0) (by omega)
  | cons x l ih =>
    intro h _
    have h0 : CutL L off 5 (cE x) := by
      have := h 0 (by simp)
      rw [Nat.zero_mul, Nat.add_zero] at this
      exact this
    have h1 := ih (off := off + 5) (fun i hi => by
      have := h (i + 1) (by simpa using hi)
      rw [show off + 5 + i * 5 = off + (i + 1) * 5 by omega]
      exact this) (by have := h0.le; omega)
    have := cut_app h0 h1
    rw [show (x :: l).length * 5 = 5 + l.length * 5 by simp; omega]
    simpa [cells5] using this
end Go.Proofs
namespace Go.Proofs
open Go Go.Sl Tryz
set_option maxRecDepth 100000
set_option maxHeartbeats 1000000
theorem EnS.src {x : Cx} {H : HP} {v : Value} {l : List En} (h : EnS x.G v l) (hU : x.P.underlying 22 = some (.slice 56)) : Sv x H 5 22 v l.length (cells5 l) := by
  cases h with
  | @none A cap =>
    cases A with
    | none => exact .nil hU
    | some a => exact .zero hU
  | @blk _ L g off n cap e fr hm hn hc =>
    by_cases h0 : l = []
    · subst h0; simp at hn; subst hn; exact .zero hU
    · have hpos : 0 < l.length := List.length_pos_iff.2 h0
      have hle := (hc 0 hpos).le
      have := cut_all hc (by omega)
      subst hn
      exact .blk hU (.inr hm) this (by
        intro v hv
        simp only [cells5, List.mem_flatMap] at hv
        obtain ⟨x, _, hx⟩ := hv
        exact cE_one x v hx)
theorem stM_length (n : Nat) : ∀ (f s : Nat) (l : List En), (stM n f s l).length = l.length := by
  intro f
  induction f with
  | zero => intro s l; rfl
  | succ f ih => intro s l; simp only [stM]; split <;> simp [ih, mgP_length]
theorem stable_length (l : List En) : (stable l).length = l.length := by rw [stable, stM_length, isP_length]
theorem byDigest_is {G : HP} {v : Value} {l : List En} (h : EnS G v l) (hl : l.length ≤ 1000) :
    Ctr prog 137 [v] G [] (fun r H' => Osl 56 5 r l.length (cells5 (stable l)) H') := by
  refine fn_enter 12 func137 rfl ntmps137 rfl ?_
  intro w0
  refine gn 7 ?_
  refine oL (l_bs0 runUnderlying22 sizeOf56 rfl) ?_
  intro g4 _
  refine gn 1 ?_
  refine oL (l_append (sz := 5) (n := 0) (xs := []) (HB := [(g4, C [] 56)]) underlying22 (info_of typeInfo56) rfl rfl rfl rfl rfl rfl (.own (rest := []) (lo := 0) (hi := 0) rfl rfl (Nat.le_refl _) (by decide) (.inr rfl)) (.refl _) (h.src underlying22) (by show _ * 48 ≤ _; omega) (by omega)) ?_
  rintro ⟨v2, HB2⟩ ho
  simp only [Nat.zero_add, List.nil_append] at ho
  have hno : ∀ u w, Osl 56 5 u l.length (cells5 l) w → (u = .slice none 0 0 ∧ w = [] ∧ l = []) ∨ ∃ g cap rest lo hi, u = .slice (some ⟨g, 0, none⟩) l.length cap ∧ w = [(g, .cells (cells5 l ++ rest).toArray 56 (lo, hi))] ∧ rest.length = (cap - l.length) * 5 ∧ l.length ≤ cap ∧ cap < 9223372036854775808 ∧ (cap * 5 ≤ lo ∨ hi = 0) := by
    intro u w hu
    generalize hN : l.length = N at hu
    generalize hX : cells5 l = X at hu
    cases hu with
    | nil => exact .inl ⟨rfl, rfl, List.length_eq_zero_iff.1 hN⟩
    | own a1 a2 a3 a4 a5 => exact .inr ⟨_, _, _, _, _, rfl, rfl, a2, a3, a4, a5⟩
  rcases hno v2 HB2 ho with ⟨rfl, rfl, rfl⟩ | ⟨gb, cap, rest, lo, hi, rfl, rfl, a2, a3, a4, a5⟩
  · refine oZ ?_; intro g3 _
    refine oL (l_store sizeOf22 rfl rfl rfl (by repeat (first | exact UpB.head | refine UpB.tail ?_)) (by repeat (first | exact SetAt.head | refine SetAt.tail ?_)) (by omega)) ?_; intro _ _
    refine gn 7 ?_
    refine oL (lC (sliceStable_0 (A := none) (cap := 0)) rfl .nil) ?_
    rintro ⟨r, H'⟩ ⟨rfl, rfl⟩
    simp only [List.nil_append]
    refine gn 9 ?_
    refine WR.less (fun _ _ h => h) (List.nil_sublist _) ?_
    refine r_fn1 results137 rfl ?_
    exact .nil
  · skip
    refine oZ ?_; intro g3 _
    refine oL (l_store sizeOf22 rfl rfl rfl (by repeat (first | exact UpB.head | refine UpB.tail ?_)) (by repeat (first | exact SetAt.head | refine SetAt.tail ?_)) (by omega)) ?_; intro _ _
    refine gn 7 ?_
    have hsm : l.length ≤ 1 ∨ 2 ≤ l.length := by omega
    rcases hsm with h01 | h2
    · have hst := stable_small h01
      have hk : l.length = 0 ∨ l.length = 1 := by omega
      rcases hk with hk | hk
      · rw [hk] at a2 a3 ⊢
        refine oL (lC (sliceStable_0 (A := some ⟨gb, 0, none⟩) (cap := cap)) rfl .nil) ?_
        rintro ⟨r, H'⟩ ⟨rfl, rfl⟩
        simp only [List.nil_append]
        refine gn 9 ?_
        refine WR.sel (.cons (.tail .head) .nil) ?_
        refine r_fn1 results137 rfl ?_
        rw [hst]
        exact .own (by rw [cells5_length, hk]) a2 a3 a4 a5
      · skip
        rw [hk] at a2 a3 ⊢
        refine oL (lC (sliceStable_1 (A := some ⟨gb, 0, none⟩) (cap := cap)) rfl .nil) ?_
        rintro ⟨r, H'⟩ ⟨rfl, rfl⟩
        simp only [List.nil_append]
        refine gn 9 ?_
        refine WR.sel (.cons (.tail .head) .nil) ?_
        refine r_fn1 results137 rfl ?_
        rw [hst]
        exact .own (by rw [cells5_length, hk]) a2 a3 a4 a5
    · skip
      refine oL (lC (sliceStable_big (rest := rest) (l := l) (cap := cap) (lo := lo) (hi := hi) rfl (by omega) hl h2) rfl (.cons .head (.cons .head .nil))) ?_
      rintro ⟨r, H'⟩ ⟨rfl, rfl⟩
      simp only [SH, List.cons_append, List.nil_append]
      refine gn 9 ?_
      refine WR.sel (.cons (.tail .head) .nil) ?_
      refine r_fn1 results137 rfl ?_
      exact .own (by rw [cells5_length, stable_length]) a2 a3 a4 a5
end Go.Proofs
namespace Go.Proofs
open Go Go.Sl
theorem sw_perm (l : List En) (i j : Nat) : (sw l i j).Perm l := by
  unfold sw
  split
  · rename_i h
    have h2 := Array.swap_perm (xs := l.toArray) (i := i) (j := j) (by simpa using h.1) (by simpa using h.2)
    rw [Array.perm_iff_toList_perm] at h2
    simpa [swapL] using h2
  · exact .refl _
theorem swR_perm (l : List En) (a b m : Nat) : (swR l a b m).Perm l := by
  induction m with
  | zero => exact .refl _
  | succ m ih => rw [swR]; exact (sw_perm ..).trans ih
theorem rotL_perm (m f : Nat) (l : List En) (i j : Nat) : (rotL m f l i j).Perm l := by
  induction f generalizing l i j with
  | zero => exact .refl _
  | succ f ih =>
    simp only [rotL]
    split
    · exact swR_perm ..
    · split
      · exact (ih ..).trans (swR_perm ..)
      · exact (ih ..).trans (swR_perm ..)
theorem insJ_perm (a j : Nat) (l : List En) : (insJ a j l).Perm l := by
  induction j generalizing l with
  | zero => exact .refl _
  | succ j ih =>
    simp only [insJ]
    split
    · exact (ih _).trans (sw_perm ..)
    · exact .refl _
theorem isortN_perm (a k : Nat) (l : List En) : (isortN a k l).Perm l := by
  induction k with
  | zero => exact .refl _
  | succ k ih => rw [isortN]; exact (insJ_perm ..).trans ih
theorem upS_perm (l : List En) (k c : Nat) : (upS l k c).Perm l := by
  induction c with
  | zero => exact .refl _
  | succ c ih => rw [upS]; exact (sw_perm ..).trans ih
theorem dnS_perm (l : List En) (k c : Nat) : (dnS l k c).Perm l := by
  induction c with
  | zero => exact .refl _
  | succ c ih => rw [dnS]; exact (sw_perm ..).trans ih
theorem symM_perm : ∀ (f : Nat) (l : List En) (a m b : Nat), (symM f l a m b).Perm l := by
  intro f
  induction f with
  | zero => intros; exact .refl _
  | succ f ih =>
    intro l a m b
    simp only [symM]
    split
    · exact upS_perm ..
    · split
      · exact dnS_perm ..
      · split <;> (repeat (first | exact .refl _ | exact rotL_perm .. | refine (ih ..).trans ?_ | split))
theorem isP_perm (n : Nat) : ∀ (f a : Nat) (l : List En), (isP n f a l).Perm l := by
  intro f
  induction f with
  | zero => intro a l; exact isortN_perm ..
  | succ f ih =>
    intro a l; simp only [isP]
    split
    · exact (ih ..).trans (isortN_perm ..)
    · exact isortN_perm ..
theorem mgP_perm (n s : Nat) : ∀ (f a : Nat) (l : List En), (mgP n s f a l).Perm l := by
  intro f
  induction f with
  | zero =>
    intro a l; simp only [mgP]
    split
    · exact symM_perm ..
    · exact .refl _
  | succ f ih =>
    intro a l; simp only [mgP]
    split
    · exact (ih ..).trans (symM_perm ..)
    · split
      · exact symM_perm ..
      · exact .refl _
theorem stM_perm (n : Nat) : ∀ (f s : Nat) (l : List En), (stM n f s l).Perm l := by
  intro f
  induction f with
  | zero => intros; exact .refl _
  | succ f ih =>
    intro s l; simp only [stM]
    split
    · exact (ih ..).trans (mgP_perm ..)
    · exact .refl _
theorem stable_perm (l : List En) : (stable l).Perm l := by rw [stable]; exact (stM_perm ..).trans (isP_perm ..)
end Go.Proofs
namespace Go.Proofs
open Go Go.Sl Tryz
set_option maxRecDepth 100000
set_option maxHeartbeats 1000000
theorem ints_0 {G : HP} {A : Option Addr} {cap : Nat} : CtrP prog 191 [.slice A 0 cap] G (.tuple #[]) := fun w _ _ _ _ => by
  have h := Any.sort_Ints_none laysInts A cap w
  refine h.mono ?_
  rintro e w' ⟨rfl, rfl⟩
  exact ⟨_, [], rfl, ⟨rfl, rfl⟩, (fun _ h => by cases h), by simp [keys], Fr.refl _ _, by simp [keys]⟩
theorem ints_is {G : HP} {g n cap lo hi : Nat} {l : List Int} {rest : List Value} {e : TypeId} (hn : l.length = n) (hf : n ≤ lo ∨ hi = 0) (hl : n < 4611686018427387904) :
    Ctr prog 191 [.slice (some ⟨g, 0, none⟩) n cap] G [(g, VB .i64 l rest e lo hi)] (fun r H' => r = .tuple #[] ∧ H' = [(g, VB .i64 (srt l) rest e lo hi)]) := fun w _ hH _ _ => by
  subst hn
  have hb := hH _ (.head _)
  have h := Any.sort_Ints laysInts g 0 cap l w (holds_row hb hf) (Array.getElem?_eq_some_iff.1 hb).1 hl
  refine h.mono ?_
  rintro e' w' ⟨rfl, m, os, hw⟩
  obtain ⟨h1, h2⟩ := post_put (l' := srt l) hb (srt_length l) hw
  exact ⟨_, _, rfl, ⟨rfl, rfl⟩, h1, by simp [keys], h2, fun k hk => .inl hk⟩
def lens (l : List En) : List Int := l.map fun x => (x.d.length : Int)
def widths (l : List En) : List Int := srt (distI (lens l))
theorem lens_take {l : List En} {i : Nat} (h : i < l.length) : distI (lens (l.take (i + 1))) = addN (distI (lens (l.take i))) (l[i].d.length : Int) := by
  have := distI_take (l := lens l) (i := i) (by simpa [lens] using h)
  simpa [lens, List.map_take] using this
theorem widths_nil : widths [] = [] := by simp [widths, lens, distI, srt]
theorem widths_is {G : HP} {v : Value} {l : List En} (h : EnS G v l) (hl : l.length ≤ 1000) (hd : ∀ x ∈ l, x.d.length ≤ 1000000000) :
    Ctr prog 136 [v] G [] (fun r H' => Osl 3 1 r (widths l).length (V .i64 (widths l)) H') := by
  cases h with
  | none =>
    refine fn_enter 33 func136 rfl ntmps136 rfl ?_
    intro w0
    refine gn 12 ?_
    refine oL (l_mkmap rfl .i64) ?_
    intro gm _
    refine gn 12 ?_
    refine c_rounds 1 ?_
    refine gn 15 ?_
    refine oL (lC ints_0 rfl .nil) ?_
    rintro ⟨r, H'⟩ ⟨rfl, rfl⟩
    simp only [List.nil_append]
    refine gn 9 ?_
    refine WR.less (fun _ _ h => h) (List.nil_sublist _) ?_
    refine r_fn1 results136 rfl ?_
    rw [widths_nil]
    exact .nil
  | @blk l L g off n cap e fr hm hn hc =>
    refine fn_enter 33 func136 rfl ntmps136 rfl ?_
    intro w0
    refine gn 12 ?_
    refine oL (l_mkmap rfl .i64) ?_
    intro gm _
    refine gn 12 ?_
    refine c_loop (X := Nat × Value × HP) (fun y => [(3, y.2.1), (4, .map (some gm)), (9, .slice (some ⟨g, off, none⟩) n cap), (10, .int .i64 n), (11, .int .i64 y.1)]) (fun y => (gm, Mo .i64 (MT (distI (lens (l.take y.1))))) :: y.2.2) (fun y => y.1 ≤ n ∧ Osl 3 1 y.2.1 (distI (lens (l.take y.1))).length (V .i64 (distI (lens (l.take y.1)))) y.2.2) (fun y => n - y.1) (0, .slice none 0 0, []) ⟨Nat.zero_le _, .nil⟩ aK (.refl _) ?_
    rintro ⟨i, v', HB'⟩ ⟨hi, ho⟩
    simp only at hi ho ⊢
    refine gn 6 ?_
    refine c_ifp rfl (fun h2 => ?_) (fun h2 => ?_)
    · have hi2 : i < l.length := by omega
      have hci := hc i hi2
      have hnx := lens_take hi2
      have hdi := hd l[i] (List.getElem_mem hi2)
      have hlen : (distI (lens (l.take i))).length ≤ 1000 := Nat.le_trans (distI_length _) (by simp [lens]; omega)
      generalize l[i] = x at hci hnx hdi
      obtain ⟨xv, xc, xh, xd, xo⟩ := x
      simp only [cE] at hci hnx hdi
      generalize hacc : distI (lens (l.take i)) = acc at ho hnx hlen ⊢
      refine gn 7 ?_
      refine oX (e_loada isAgg56 sizeOf56 rfl (.inr hm) hci) ?_
      refine oZ ?_; intro g6 _
      refine oL (l_storea sizeOf56 rfl rfl rfl (by simp [Value.oneCell']) .head (.take (.take (.take (.take (.take .done))))) nofrs0) ?_
      intro _ _
      refine gn 15 ?_
      refine oX (e_lookMT runUnderlying311 runUnderlying3 zeroValue4 rfl rfl (.inl (.tail _ (.head _)))) ?_
      refine gn 3 ?_
      refine c_if rfl (fun h3 => ?_) (fun h3 => ?_)
      · have h3' : ¬ ((xd.length : Int) ∈ acc) := by simpa using h3
        rw [show addN acc (xd.length : Int) = acc ++ [(xd.length : Int)] by simp [addN, h3']] at hnx
        refine gn 4 ?_
        refine oL (l_mapup runUnderlying311 runUnderlying3 rfl rfl rfl (.tail .head)) ?_
        intro _ _
        rw [mset_MT h3']
        refine gn 5 ?_
        refine oL (l_bs1 runUnderlying99 sizeOf3 zeroValue3 rfl rfl rfl) ?_; intro g27 _
        refine oL (l_append (sz := 1) underlying99 (info_of typeInfo3) rfl rfl rfl rfl rfl rfl ho (List.perm_append_comm (l₁ := [_, _, _])) (.blk underlying99 (.inl (.head _)) (.take .done) (by simp [Value.oneCell'])) (by show _ * 8 ≤ _; omega) (by omega)) ?_
        rintro ⟨v2, HB2⟩ ho2
        refine gn 8 ?_
        refine n_round' (y := (i, v', HB')) (i + 1, v2, HB2) (by show n - (i + 1) < n - i; omega) ?_ aK _ (List.perm_append_comm (l₂ := [_, _, _])) ?_
        · refine ⟨by show i + 1 ≤ n; omega, ?_⟩
          simp only [hnx]
          simpa using ho2
        · simp only [hnx]
          exact .cons _ (.cons _ (.cons_cons _ (List.Sublist.refl _)))
      · have h3' : (xd.length : Int) ∈ acc := by simpa using h3
        rw [show addN acc (xd.length : Int) = acc by simp [addN, h3']] at hnx
        refine gn 7 ?_
        refine n_round' (y := (i, v', HB')) (i + 1, v', HB') (by show n - (i + 1) < n - i; omega) ?_ aK _ (.refl _) ?_
        · refine ⟨by show i + 1 ≤ n; omega, ?_⟩
          simp only [hnx]
          exact ho
        · simp only [hnx]
          exact .cons _ (List.Sublist.refl _)
    · skip
      have : i = l.length := by omega
      subst this
      have hlen : (distI (lens l)).length ≤ 1000 := Nat.le_trans (distI_length _) (by simp [lens]; omega)
      rw [List.take_length] at ho ⊢
      refine gn 8 ?_
      rcases ho.openV with ⟨rfl, rfl, h0⟩ | ⟨g2, cap2, rest, lo, hi, rfl, rfl, a2, a3, a4, a5⟩
      · refine oL (lC ints_0 rfl .nil) ?_
        rintro ⟨r, H'⟩ ⟨rfl, rfl⟩
        simp only [List.nil_append]
        refine gn 9 ?_
        refine WR.less (fun _ _ h => h) (List.nil_sublist _) ?_
        refine r_fn1 results136 rfl ?_
        rw [widths, h0, srt, List.mergeSort_nil]
        exact .nil
      · skip
        refine oL (lC (ints_is rfl (by omega) (by omega)) rfl (.cons (.tail .head) .nil)) ?_
        rintro ⟨r, H'⟩ ⟨rfl, rfl⟩
        simp only [List.cons_append, List.nil_append]
        refine gn 9 ?_
        refine WR.sel (.cons .head .nil) ?_
        refine r_fn1 results136 rfl ?_
        rw [show (distI (lens l)).length = (widths l).length by rw [widths, srt_length]] at a2 a3 ⊢
        exact .own (by simp) a2 a3 a4 a5
end Go.Proofs
namespace Go.Proofs
open Go Go.Sl Tryz Go.RowKit
set_option maxRecDepth 100000
theorem kind23 (w : World) : (Extern.Rtype.kind 23).run prog w = .ok 11 w := by kernel_rfl
theorem k5 {n : Nat} (h : 2 ≤ n) : Lib.swapperK n t23 11 = 5 := by
  have h0 : (n == 0) = false := by simp; omega
  have h1 : (n == 1) = false := by simp; omega
  simp only [Lib.swapperK, h0, h1, Bool.false_eq_true, if_false]
  rfl
theorem srt_of_sorted {l : List Int} {d' : Array Int} (hp : Sort.PermIn 0 l.toArray.size l.toArray d') (hs : Sort.SortedIn Sort.ltInt 0 l.toArray.size d') : d' = (srt l).toArray := by
  have h := Sort.sorted_unique_holds (lt := Sort.ltInt) Sort.swo_ltInt (fun x y h1 h2 => by simp only [Sort.ltInt, decide_eq_false_iff_not] at h1 h2; omega) l.toArray d' hp hs
  have e : (fun x y : Int => !Sort.ltInt y x) = fun x y => decide (x ≤ y) := by
    funext x y
    simp only [Sort.ltInt]
    by_cases h : x ≤ y
    · first | (simp [h]; done) | (simp [h]; omega)
    · first | (simp [h]; done) | (simp [h]; omega)
  rw [e] at h
  rw [srt, ← h]
/-- A closure that compares two numbers of a row that a captured variable holds. -/
def LessU (f : FuncId) : Prop := ∀ (blk off c Bs size : Nat) (W : World) (G : Nat → Int), W.cell? ⟨Bs, 0, none⟩ = some (.slice (some ⟨blk, off, none⟩) size c) → (∀ t, t < size → W.cell? ⟨blk, off + t, none⟩ = some (.int .u64 (G t))) → ∀ i j : Nat, i < size → j < size →
    Calls prog f #[.int .i64 i, .int .i64 j, .pointer (some ⟨Bs, 0, none⟩)] W fun e w' => e = .returned (.bool (decide (G i < G j))) ∧ ∃ q, w' = W.drewN q
set_option maxHeartbeats 2000000 in
theorem less138 : LessU 138 := by
  intro blk off c Bs size W G hs hc i j hi hj
  have ci := hc i hi
  have cj := hc j hj
  go_enter func138, ntmps138
  go_wp2
  go_quiet (fail)
  go_wp2
  go_ret
  exact ⟨rfl, nq, rfl⟩
theorem slice_is {G : HP} {f g gs n cap lo hi : Nat} {l : List Int} {rest : List Value} {e : TypeId} (hf : LessU f) (eg : ∀ args w, (callFunc f args).run prog w = .ok (.enter f args) w) (hn : l.length = n) (hfz : n ≤ lo ∨ hi = 0) (h2 : 2 ≤ n) (hl : n < 4611686018427387904) :
    Ctr prog 34 [.iface 29 (.slice (some ⟨g, 0, none⟩) n cap), .func (.func f) #[] #[.pointer (some ⟨gs, 0, none⟩)]] G [(gs, C [.slice (some ⟨g, 0, none⟩) n cap] 29), (g, VB .u64 l rest e lo hi)] (fun r H' => r = .tuple #[] ∧ H' = [(gs, C [.slice (some ⟨g, 0, none⟩) n cap] 29), (g, VB .u64 (srt l) rest e lo hi)]) := fun w _ hH hnd _ => by
  subst hn
  have hb := hH (g, _) (.tail _ (.head _))
  have hs := hH (gs, _) (.head _)
  have hblk : g < w.heap.size := (Array.getElem?_eq_some_iff.1 hb).1
  have hgs : gs < w.heap.size := (Array.getElem?_eq_some_iff.1 hs).1
  have hne : gs ≠ g := fun e => by subst e; simp [keys] at hnd
  have hHo := holds_row hb hfz
  have hless : LessReads prog f #[.pointer (some ⟨gs, 0, none⟩)] (Value.int .u64) Sort.ltInt g 0 l.length w := by
    intro m os dk hsz i j hi hj
    have hd : dk.size = l.toArray.size := by simpa using hsz
    refine hf g 0 cap gs l.length _ (fun t => dk[t]!) ?_ (fun t ht => ?_) i j hi hj
    · rw [sortWorld, Sort.cell?_grow _ _ _ (by simpa [Sort.ahead] using hgs), Sort.cell?_putRow_other _ _ g 0 dk _ (.inl hne)]
      exact cell_of (off := 0) hs
    · rw [sortWorld, Sort.cell?_grow _ _ _ (by simpa [Sort.ahead] using hblk)]
      exact Sort.cell?_putRow _ _ g 0 l.toArray dk hHo hd t (by rw [hsz]; exact ht)
  have hS := Any.sort_Slice_sorted laysSlice 29 23 t29 t23 (info_of typeInfo29) rfl (by kernel_rfl) (info_of typeInfo23) 11 kind23 rfl isAgg23 (Value.int .u64) (fun _ => rfl) Sort.ltInt Sort.swo_ltInt f #[.pointer (some ⟨gs, 0, none⟩)] eg
    g 0 cap l.toArray (by simpa using h2) (by simpa using hl) 117 (by rw [List.size_toArray, k5 h2]; kernel_rfl) true
    (fun args W => run_callFunc_extern func117 (by kernel_rfl) (by kernel_rfl) (by kernel_rfl) (e := Extern.ReflectliteSwapper.swap true) (by kernel_rfl) args W) w (by simpa using hless) hHo hblk
  rw [List.size_toArray] at hS
  refine Calls.mono hS ?_
  rintro e' w' ⟨rfl, d', m, os, hp, hso, hw⟩
  rw [srt_of_sorted (l := l) (d' := d') (by simpa using hp) (by simpa using hso)] at hw
  obtain ⟨h1, h2⟩ := post_put (l' := srt l) hb (srt_length l) hw
  refine ⟨_, _, rfl, ⟨rfl, rfl⟩, ?_, by simpa [keys] using hnd, h2.mono (fun i hi => by simp [keys] at hi ⊢; exact .inr hi), fun k hk => .inl hk⟩
  intro p hp
  rcases List.mem_cons.1 hp with rfl | hp
  · rw [h2.keep _ hgs (by simpa using hne)]; exact hs
  · exact h1 p hp
theorem slice_01 {G : HP} {A : Option Addr} {n cap : Nat} {fn : Fn} {ua uc : Array Value} (h : n ≤ 1) :
    CtrP prog 34 [.iface 29 (.slice A n cap), .func fn ua uc] G (.tuple #[]) := fun w _ _ _ _ => by
  have hk : ∃ f, prog.funcs.findIdx? (·.name == "internal/reflectlite" ++ ".Swapper$" ++ toString (Lib.swapperK n t23 11)) = some f := by
    match n, h with
    | 0, _ => exact ⟨113, by kernel_rfl⟩
    | 1, _ => exact ⟨114, by kernel_rfl⟩
  obtain ⟨f, hk⟩ := hk
  have hS := Any.sort_Slice_tiny laysSlice 29 23 t29 t23 (info_of typeInfo29) rfl (by kernel_rfl) (info_of typeInfo23) 11 kind23 A n cap h f hk fn ua uc w
  refine Calls.mono hS ?_
  rintro e w' ⟨rfl, os, rfl⟩
  refine ⟨_, [], rfl, ⟨rfl, rfl⟩, (fun _ h => by cases h), by simp [keys], ⟨rfl, rfl, rfl, by simp, fun k hk _ => ?_⟩, by simp [keys]⟩
  exact Sort.heap_grow_old _ _ hk
end Go.Proofs
namespace Go.Proofs
open Go Go.Sl Tryz
set_option maxRecDepth 100000
set_option maxHeartbeats 1000000
def hcs (l : List En) : List Int := l.map fun x => x.h
def codes (l : List En) : List Int := srt (distI (hcs l))
theorem hcs_take {l : List En} {i : Nat} (h : i < l.length) : distI (hcs (l.take (i + 1))) = addN (distI (hcs (l.take i))) l[i].h := by
  have := distI_take (l := hcs l) (i := i) (by simpa [hcs] using h)
  simpa [hcs, List.map_take] using this
theorem codes_nil : codes [] = [] := by simp [codes, hcs, distI, srt]
theorem srt_small {l : List Int} (h : l.length ≤ 1) : srt l = l := by
  match l, h with
  | [], _ => simp [srt]
  | [a], _ => simp [srt]
theorem codes_is {G : HP} {v : Value} {l : List En} (h : EnS G v l) (hl : l.length ≤ 1000) :
    Ctr prog 72 [v] G [] (fun r H' => Osl 23 1 r (codes l).length (V .u64 (codes l)) H') := by
  cases h with
  | none =>
    refine fn_enter 36 func72 rfl ntmps72 rfl ?_
    intro w0
    refine gn 7 ?_
    refine oZ ?_; intro g3 _
    refine gn 4 ?_
    refine oL (l_mkmap rfl .u64) ?_
    intro gm _
    refine gn 12 ?_
    refine c_rounds 1 ?_
    refine gn 17 ?_
    refine oL (lC (slice_01 (by decide)) rfl .nil) ?_
    rintro ⟨r, H'⟩ ⟨rfl, rfl⟩
    simp only [List.nil_append]
    refine gn 9 ?_
    refine WR.less (fun _ _ h => h) (List.nil_sublist _) ?_
    refine r_fn1 results72 rfl ?_
    rw [codes_nil]
    exact .nil
  | @blk l L g off n cap e fr hm hn hc =>
    refine fn_enter 36 func72 rfl ntmps72 rfl ?_
    intro w0
    refine gn 7 ?_
    refine oZ ?_; intro g3 _
    refine gn 4 ?_
    refine oL (l_mkmap rfl .u64) ?_
    intro gm _
    refine gn 12 ?_
    refine c_loop (X := Nat × Value × HP) (fun y => [(3, .pointer (some ⟨g3, 0, none⟩)), (4, .map (some gm)), (8, .slice (some ⟨g, off, none⟩) n cap), (9, .int .i64 n), (10, .int .i64 y.1)]) (fun y => (gm, Mo .u64 (MT (distI (hcs (l.take y.1))))) :: (g3, C [y.2.1] 29) :: y.2.2) (fun y => y.1 ≤ n ∧ Osl 23 1 y.2.1 (distI (hcs (l.take y.1))).length (V .u64 (distI (hcs (l.take y.1)))) y.2.2) (fun y => n - y.1) (0, .slice none 0 0, []) ⟨Nat.zero_le _, .nil⟩ aK (.refl _) ?_
    rintro ⟨i, v', HB'⟩ ⟨hi, ho⟩
    simp only at hi ho ⊢
    refine gn 6 ?_
    refine c_ifp rfl (fun h2 => ?_) (fun h2 => ?_)
    · have hi2 : i < l.length := by omega
      have hci := hc i hi2
      have hnx := hcs_take hi2
      have hlen : (distI (hcs (l.take i))).length ≤ 1000 := Nat.le_trans (distI_length _) (by simp [hcs]; omega)
      generalize l[i] = x at hci hnx
      obtain ⟨xv, xc, xh, xd, xo⟩ := x
      simp only [cE] at hci hnx
      generalize hacc : distI (hcs (l.take i)) = acc at ho hnx hlen ⊢
      refine gn 7 ?_
      refine oX (e_loada isAgg56 sizeOf56 rfl (.inr hm) hci) ?_
      refine oZ ?_; intro g6 _
      refine oL (l_storea sizeOf56 rfl rfl rfl (by simp [Value.oneCell']) .head (.take (.take (.take (.take (.take .done))))) nofrs0) ?_
      intro _ _
      refine gn 8 ?_
      refine oX (e_lookMT runUnderlying227 runUnderlying23 zeroValue4 rfl rfl (.inl (.tail _ (.head _)))) ?_
      refine gn 3 ?_
      refine c_if rfl (fun h3 => ?_) (fun h3 => ?_)
      · have h3' : ¬ (xh ∈ acc) := by simpa using h3
        rw [show addN acc xh = acc ++ [xh] by simp [addN, h3']] at hnx
        refine gn 6 ?_
        refine oL (l_mapup runUnderlying227 runUnderlying23 rfl rfl rfl (.tail .head)) ?_
        intro _ _
        rw [mset_MT h3']
        refine gn 7 ?_
        refine oL (l_bs1 runUnderlying29 sizeOf23 zeroValue23 rfl rfl rfl) ?_; intro g28 _
        refine oL (l_append (sz := 1) underlying29 (info_of typeInfo23) rfl rfl rfl rfl rfl rfl ho (List.perm_append_comm (l₁ := [_, _, _, _])) (.blk underlying29 (.inl (.head _)) (.take .done) (by simp [Value.oneCell'])) (by show _ * 8 ≤ _; omega) (by omega)) ?_
        rintro ⟨v2, HB2⟩ ho2
        refine o_perm (List.perm_append_comm (l₂ := [_, _, _, _])) ?_
        refine oL (l_store sizeOf29 rfl rfl ho2.one (.tail (.tail (.tail .head))) .head (by omega)) ?_
        intro _ _
        refine gn 7 ?_
        refine n_round' (y := (i, v', HB')) (i + 1, v2, HB2) (by show n - (i + 1) < n - i; omega) ?_ aK _ (.refl _) ?_
        · refine ⟨by show i + 1 ≤ n; omega, ?_⟩
          simp only [hnx]
          simpa using ho2
        · simp only [hnx]
          exact .cons _ (.cons _ (.cons_cons _ (.cons_cons _ (List.Sublist.refl _))))
      · have h3' : xh ∈ acc := by simpa using h3
        rw [show addN acc xh = acc by simp [addN, h3']] at hnx
        refine gn 7 ?_
        refine n_round' (y := (i, v', HB')) (i + 1, v', HB') (by show n - (i + 1) < n - i; omega) ?_ aK _ (.refl _) ?_
        · refine ⟨by show i + 1 ≤ n; omega, ?_⟩
          simp only [hnx]
          exact ho
        · simp only [hnx]
          exact .cons _ (List.Sublist.refl _)
    · skip
      have : i = l.length := by omega
      subst this
      have hlen : (distI (hcs l)).length ≤ 1000 := Nat.le_trans (distI_length _) (by simp [hcs]; omega)
      rw [List.take_length] at ho ⊢
      refine gn 10 ?_
      rcases ho.openV with ⟨rfl, rfl, h0⟩ | ⟨g2, cap2, rest, lo, hi, rfl, rfl, a2, a3, a4, a5⟩
      · refine oL (lC (slice_01 (by decide)) rfl .nil) ?_
        rintro ⟨r, H'⟩ ⟨rfl, rfl⟩
        simp only [List.nil_append]
        refine gn 9 ?_
        refine WR.less (fun _ _ h => h) (List.nil_sublist _) ?_
        refine r_fn1 results72 rfl ?_
        rw [codes, h0, srt, List.mergeSort_nil]
        exact .nil
      · skip
        by_cases h1 : (distI (hcs l)).length ≤ 1
        · skip
          refine oL (lC (slice_01 h1) rfl .nil) ?_
          rintro ⟨r, H'⟩ ⟨rfl, rfl⟩
          simp only [List.nil_append]
          refine gn 9 ?_
          refine WR.sel (.cons (.tail (.tail .head)) .nil) ?_
          refine r_fn1 results72 rfl ?_
          rw [codes, srt_small h1]
          exact .own (by simp) a2 a3 a4 a5
        · skip
          refine oL (lC (slice_is less138 (fun _ _ => call138 _ _) rfl (by omega) (by omega) (by omega)) rfl (.cons (.tail .head) (.cons (.tail .head) .nil))) ?_
          rintro ⟨r, H'⟩ ⟨rfl, rfl⟩
          simp only [List.cons_append, List.nil_append]
          refine gn 9 ?_
          refine WR.sel (.cons (.tail .head) .nil) ?_
          refine r_fn1 results72 rfl ?_
          rw [show (distI (hcs l)).length = (codes l).length by rw [codes, srt_length]] at a2 a3 ⊢
          exact .own (by simp) a2 a3 a4 a5
end Go.Proofs
namespace Go.Proofs
open Go Go.Sl
set_option maxRecDepth 100000
set_option maxHeartbeats 1000000
def rowsB (st : List En) (n : Int) : List UInt8 := (st.filter fun x => decide ((x.d.length : Int) = n)).flatMap fun x => x.d ++ lowB x.o 8
def partB (st : List En) (n : Int) : List UInt8 := lowB (n + 8) 4 ++ (lowB ((rowsB st n).length : Nat) 8 ++ rowsB st n)
def sortedB (l : List En) : List UInt8 := lowB ((widths l).length : Nat) 4 ++ (widths l).flatMap (partB (stable l))
theorem rowsB_take {st : List En} {n : Int} {i : Nat} (h : i < st.length) : rowsB (st.take (i + 1)) n = rowsB (st.take i) n ++ if (st[i].d.length : Int) = n then st[i].d ++ lowB st[i].o 8 else [] := by
  simp only [rowsB]
  rw [List.take_succ_eq_append_getElem h, List.filter_append, List.flatMap_append]
  congr 1
  by_cases hc : (st[i].d.length : Int) = n <;> simp [hc]
theorem rowsB_length (st : List En) (n : Int) (k : Nat) (hd : ∀ x ∈ st, x.d.length ≤ k) : (rowsB st n).length ≤ st.length * (k + 8) := by
  induction st with
  | nil => simp [rowsB]
  | cons x st ih =>
    have h1 := ih (fun y hy => hd y (.tail _ hy))
    have h2 := hd x (.head _)
    have e : rowsB (x :: st) n = (if (x.d.length : Int) = n then x.d ++ lowB x.o 8 else []) ++ rowsB st n := by
      simp only [rowsB, List.filter_cons]
      by_cases hc : (x.d.length : Int) = n <;> simp [hc]
    rw [e, List.length_append, List.length_cons, Nat.add_mul]
    have : (if (x.d.length : Int) = n then x.d ++ lowB x.o 8 else []).length ≤ k + 8 := by
      split
      · simp [lowB_length]; omega
      · simp
    omega
theorem partB_length (st : List En) (n : Int) (hd : ∀ x ∈ st, x.d.length ≤ 200) (hl : st.length ≤ 100) : (partB st n).length ≤ 21000 := by
  have := rowsB_length st n 200 hd
  have h2 : st.length * 208 ≤ 100 * 208 := Nat.mul_le_mul_right _ hl
  simp only [partB, List.length_append, lowB_length]
  omega
theorem flat_length (W : List Int) (f : Int → List UInt8) (k : Nat) (h : ∀ n, (f n).length ≤ k) : (W.flatMap f).length ≤ W.length * k := by
  induction W with
  | nil => simp
  | cons a W ih => simp only [List.flatMap_cons, List.length_append, List.length_cons, Nat.add_mul]; have := h a; omega
theorem flat_take {W : List Int} {f : Int → List UInt8} {i : Nat} (h : i < W.length) : (W.take (i + 1)).flatMap f = (W.take i).flatMap f ++ f (gd W i) := by
  rw [List.take_succ_eq_append_getElem h, List.flatMap_append]
  simp [gd, h]
theorem widths_mem {l : List En} {a : Int} : a ∈ widths l ↔ ∃ x ∈ l, (x.d.length : Int) = a := by
  rw [widths, srt_mem, distI_mem, lens, List.mem_map]
theorem widths_len (l : List En) : (widths l).length ≤ l.length := by
  rw [widths, srt_length]
  exact Nat.le_trans (distI_length _) (by simp [lens])
theorem gd_mem {l : List Int} {i : Nat} (h : i < l.length) : gd l i ∈ l := by
  have : gd l i = l[i] := by simp [gd, h]
  rw [this]; exact List.getElem_mem h
theorem sortedB_length (l : List En) (hd : ∀ x ∈ l, x.d.length ≤ 200) (hl : l.length ≤ 100) : (sortedB l).length ≤ 2200000 := by
  have h1 := flat_length (widths l) (partB (stable l)) 21000 (fun n => partB_length _ n (fun x hx => hd x ((stable_perm l).mem_iff.1 hx)) (by rw [stable_length]; exact hl))
  have h2 := widths_len l
  have h3 : (widths l).length * 21000 ≤ 100 * 21000 := Nat.mul_le_mul_right _ (by omega)
  simp only [sortedB, List.length_append, lowB_length]
  omega
end Go.Proofs
