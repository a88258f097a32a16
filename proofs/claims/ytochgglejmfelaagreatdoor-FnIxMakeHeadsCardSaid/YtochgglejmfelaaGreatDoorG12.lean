/- A record's row written; A row that is sorted through its methods Len, Less and Swap: insertion; Rows of numbers, sorted in memory: heaps; Rows of numbers, sorted in memory: the pivot; Rows of numbers, sorted in memory: turning a range, partial insertion. (A part of the proof of this: for every input laws.FnIxMakeHeads returns true and its arguments read as they did, the listed package variables being what the program lays) -/
import Derived.Test.YtochgglejmfelaaGreatDoorSlZ
import Derived.Test.YtochgglejmfelaaGreatDoorG06
import Derived.Test.YtochgglejmfelaaGreatDoorG04
import Derived.Test.YtochgglejmfelaaGreatDoorG11
import Derived.Test.YtochgglejmfelaaGreatDoorG03
set_option linter.unusedVariables false
set_option linter.unusedSimpArgs false
namespace Go.Sl
open Go
theorem SetAt.app' {l l' : List Value} {k : Nat} {v : Value} (h : SetAt l k v l') : ∀ p : List Value, SetAt (p ++ l) (p.length + k) v (p ++ l')
  | [] => by simpa using h
  | a :: p => by
    have := SetAt.tail (a := a) (SetAt.app' h p)
    rw [show (a :: p).length + k = p.length + k + 1 by simp; omega]
    exact this
/-- A contract holds with more to be read. -/
theorem Ctr.subG {P : Program} {f : FuncId} {args : List Value} {G G1 H : HP} {R : Value → HP → Prop} (h : Ctr P f args G1 H R) (hs : ∀ p ∈ G1, p ∈ G) : Ctr P f args G H R := fun w hG hH hnd hap =>
  h w (fun p hp => hG p (hs p hp)) hH hnd (fun g hg hk => hap g hg (by
    obtain ⟨p, hp, rfl⟩ := List.mem_map.1 hk
    exact List.mem_map_of_mem (hs p hp)))
end Go.Sl
namespace Go.Proofs
open Go Go.Sl Tryz
set_option maxRecDepth 100000
set_option maxHeartbeats 1000000
section
variable {G : HP} {g off c k : Nat} {p q : List Value} {c0 c1 c2 c3 c4 c5 c6 c7 : Int}
theorem put64g_is (hoff : p.length = off) : Ctr prog 179 [.agg #[], .slice (some ⟨g, off, none⟩) 8 c, .int .u64 k] G [(g, C (p ++ .int .u8 c0 :: .int .u8 c1 :: .int .u8 c2 :: .int .u8 c3 :: .int .u8 c4 :: .int .u8 c5 :: .int .u8 c6 :: .int .u8 c7 :: q) 5)] (fun r H' => r = .tuple #[] ∧ H' = [(g, C (p ++ (B (lowB (k : Nat) 8) ++ q)) 5)]) := by
  subst hoff
  have h7 : (p ++ .int .u8 c0 :: .int .u8 c1 :: .int .u8 c2 :: .int .u8 c3 :: .int .u8 c4 :: .int .u8 c5 :: .int .u8 c6 :: .int .u8 c7 :: q)[p.length + Int.toNat 7 * 1]? = some (.int .u8 c7) := by
    show (p ++ _)[p.length + 7]? = _
    rw [List.getElem?_append_right (by omega), Nat.add_sub_cancel_left]; rfl
  refine fn_enter 48 func179 rfl ntmps179 rfl ?_
  intro w0
  refine gn 2 ?_
  refine oB ?_; intro g3 _
  refine gn 15 ?_
  refine oL (l_store sizeOf5 rfl rfl rfl (.tail .head) (SetAt.app' .head p) (by omega)) ?_
  intro _ _
  refine gn 9 ?_
  refine oL (l_store sizeOf5 rfl rfl rfl (.tail .head) (SetAt.app' (.tail .head) p) (by omega)) ?_
  intro _ _
  refine gn 9 ?_
  refine oL (l_store sizeOf5 rfl rfl rfl (.tail .head) (SetAt.app' (.tail (.tail .head)) p) (by omega)) ?_
  intro _ _
  refine gn 9 ?_
  refine oL (l_store sizeOf5 rfl rfl rfl (.tail .head) (SetAt.app' (.tail (.tail (.tail .head))) p) (by omega)) ?_
  intro _ _
  refine gn 9 ?_
  refine oL (l_store sizeOf5 rfl rfl rfl (.tail .head) (SetAt.app' (.tail (.tail (.tail (.tail .head)))) p) (by omega)) ?_
  intro _ _
  refine gn 9 ?_
  refine oL (l_store sizeOf5 rfl rfl rfl (.tail .head) (SetAt.app' (.tail (.tail (.tail (.tail (.tail .head))))) p) (by omega)) ?_
  intro _ _
  refine gn 9 ?_
  refine oL (l_store sizeOf5 rfl rfl rfl (.tail .head) (SetAt.app' (.tail (.tail (.tail (.tail (.tail (.tail .head)))))) p) (by omega)) ?_
  intro _ _
  refine gn 8 ?_
  refine oL (l_store sizeOf5 rfl rfl rfl (.tail .head) (SetAt.app' (.tail (.tail (.tail (.tail (.tail (.tail (.tail .head))))))) p) (by omega)) ?_
  intro _ _
  refine gn 1 ?_
  refine WN.sel (.cons (.tail .head) .nil) ?_
  refine n_fn0 results179 ?_
  refine ⟨rfl, ?_⟩
  have e0 : IntKind.u8.wrap (k : Int) = ((lowb (k : Nat) 0).toNat : Int) := by
    have := low_eq (k : Nat) 0 (by decide)
    simpa using this
  have e1 : IntKind.u8.wrap (((k : Nat) : Int).fdiv (2 ^ min (Int.toNat 8) IntKind.u64.bits)) = ((lowb (k : Nat) 1).toNat : Int) := low_eq (k : Nat) 1 (by decide)
  have e2 : IntKind.u8.wrap (((k : Nat) : Int).fdiv (2 ^ min (Int.toNat 16) IntKind.u64.bits)) = ((lowb (k : Nat) 2).toNat : Int) := low_eq (k : Nat) 2 (by decide)
  have e3 : IntKind.u8.wrap (((k : Nat) : Int).fdiv (2 ^ min (Int.toNat 24) IntKind.u64.bits)) = ((lowb (k : Nat) 3).toNat : Int) := low_eq (k : Nat) 3 (by decide)
  have e4 : IntKind.u8.wrap (((k : Nat) : Int).fdiv (2 ^ min (Int.toNat 32) IntKind.u64.bits)) = ((lowb (k : Nat) 4).toNat : Int) := low_eq (k : Nat) 4 (by decide)
  have e5 : IntKind.u8.wrap (((k : Nat) : Int).fdiv (2 ^ min (Int.toNat 40) IntKind.u64.bits)) = ((lowb (k : Nat) 5).toNat : Int) := low_eq (k : Nat) 5 (by decide)
  have e6 : IntKind.u8.wrap (((k : Nat) : Int).fdiv (2 ^ min (Int.toNat 48) IntKind.u64.bits)) = ((lowb (k : Nat) 6).toNat : Int) := low_eq (k : Nat) 6 (by decide)
  have e7 : IntKind.u8.wrap (((k : Nat) : Int).fdiv (2 ^ min (Int.toNat 56) IntKind.u64.bits)) = ((lowb (k : Nat) 7).toNat : Int) := low_eq (k : Nat) 7 (by decide)
  show [(g, C (p ++ .int .u8 (IntKind.u8.wrap (k : Int)) :: .int .u8 (IntKind.u8.wrap (((k : Nat) : Int).fdiv (2 ^ min (Int.toNat 8) IntKind.u64.bits))) :: .int .u8 (IntKind.u8.wrap (((k : Nat) : Int).fdiv (2 ^ min (Int.toNat 16) IntKind.u64.bits))) :: .int .u8 (IntKind.u8.wrap (((k : Nat) : Int).fdiv (2 ^ min (Int.toNat 24) IntKind.u64.bits))) :: .int .u8 (IntKind.u8.wrap (((k : Nat) : Int).fdiv (2 ^ min (Int.toNat 32) IntKind.u64.bits))) :: .int .u8 (IntKind.u8.wrap (((k : Nat) : Int).fdiv (2 ^ min (Int.toNat 40) IntKind.u64.bits))) :: .int .u8 (IntKind.u8.wrap (((k : Nat) : Int).fdiv (2 ^ min (Int.toNat 48) IntKind.u64.bits))) :: .int .u8 (IntKind.u8.wrap (((k : Nat) : Int).fdiv (2 ^ min (Int.toNat 56) IntKind.u64.bits))) :: q) 5)] = _
  rw [e0, e1, e2, e3, e4, e5, e6, e7]
  rfl
theorem _root_.Go.Sl.BS.sv {x : Cx} {H : HP} {v : Value} {bs : List UInt8} {t e : TypeId} (h : BS x.G v bs) (hU : x.P.underlying t = some (.slice e)) : Sv x H 1 t v bs.length (B bs) := by
  cases h with
  | @emp A cap =>
    cases A with
    | none => exact .nil hU
    | some a => exact .zero hU
  | @blk g off n cap l e' fr _ hm hc hn h63 =>
    rw [hc.len]
    exact .blk hU (.inr hm) (by rw [Nat.mul_one]; exact hc) (B_one _)
theorem _root_.Go.Sl.BS.one {H : HP} {v : Value} {bs : List UInt8} (h : BS H v bs) : v.oneCell' = true := by cases h <;> rfl
theorem _root_.Go.Sl.BS.sl {H : HP} {v : Value} {bs : List UInt8} (h : BS H v bs) : ∃ A c, v = .slice A bs.length c := by
  cases h with
  | @emp A cap => exact ⟨_, _, rfl⟩
  | @blk g off n cap l e' fr _ hm hc hn h63 => rw [hc.len]; exact ⟨_, _, rfl⟩
theorem recw_is {w o : Nat} {d : List UInt8} {dv : Value} (hd : BS G dv d) (hl : d.length ≤ 200) (hoff : p.length = off) (hw : w = d.length + 8) (hc : w ≤ c) (hc63 : c < 9223372036854775808) :
    Ctr prog 325 [.agg #[dv, .int .u64 (o : Nat)], .slice (some ⟨g, off, none⟩) w c] G [(g, C (p ++ (List.replicate w (.int .u8 0) ++ q)) 5)] (fun r H' => r = .tuple #[] ∧ H' = [(g, C (p ++ (B (d ++ lowB (o : Nat) 8) ++ q)) 5)]) := by
  subst hw
  obtain ⟨A, ca, rfl⟩ := hd.sl
  refine fn_enter 17 func325 rfl ntmps325 rfl ?_
  intro w0
  refine gn 2 ?_
  refine oB ?_; intro g2 _
  refine gn 3 ?_
  refine c_regiong [4] (by kernel_rfl) ?_
  refine lg [0, 1, 2, 1003] ?_
  have hput : PutL (p ++ (List.replicate (d.length + 8) (.int .u8 0) ++ q)) off ((B d).take d.length) (p ++ (B d ++ (List.replicate 8 (.int .u8 0) ++ q))) := by
    have ht : (B d).take d.length = B d := List.take_of_length_le (by rw [B_length]; exact Nat.le_refl _)
    have h := PutL.of (l := p ++ (List.replicate (d.length + 8) (.int .u8 0) ++ q)) (i := off) (vs := B d) (by simp [B_length]; omega)
    rw [ht]
    have e1 : (p ++ (List.replicate (d.length + 8) (Value.int .u8 0) ++ q)).take off = p := List.take_left' hoff
    have e2 : (p ++ (List.replicate (d.length + 8) (Value.int .u8 0) ++ q)).drop (off + (B d).length) = List.replicate 8 (Value.int .u8 0) ++ q := by
      rw [← hoff, List.drop_append, B_length, List.drop_eq_nil_of_le (by omega), List.nil_append, Nat.add_sub_cancel_left, List.drop_append_of_le_length (by simp), List.drop_replicate, Nat.add_sub_cancel_left]
    rw [e1, e2, List.append_assoc] at h
    exact h
  refine gL 4 rfl (l_copy runUnderlying72 sizeOf5 rfl rfl rfl (hd.sv underlying72) (Nat.min_eq_left (by omega)) (.tail .head) hput (.inr rfl)) ?_
  intro _ _
  refine ld [5] ?_
  refine gn 2 ?_
  refine c_regiong [6] (by kernel_rfl) ?_
  refine gM 0 rfl (e_load0 isAgg294 sizeOf294 rfl) ?_
  refine lg [1, 2, 3, 4, 1005] ?_
  simp only [Int.toNat_natCast, Nat.mul_one]
  rw [show d.length + 8 - d.length = 8 by omega, ← List.append_assoc p (B d)]
  refine gL 6 rfl (lC (put64g_is (by rw [List.length_append, B_length, hoff])) rfl (.cons (.tail .head) .nil)) ?_
  rintro ⟨r, H'⟩ ⟨rfl, rfl⟩
  simp only [List.cons_append, List.nil_append]
  refine gn 1 ?_
  refine WN.sel (.cons .head .nil) ?_
  refine n_fn0 results325 ?_
  refine ⟨rfl, ?_⟩
  rw [B_append, List.append_assoc, List.append_assoc]
  rfl
end
end Go.Proofs
namespace Go.Sl
open Go
section
variable {x : Cx} {ops : Array Oper} {k : List KI} {rest : List Oper} {s : Slots} {H HI Hr : HP} {d : Nat} {p : Operand} {ty : TypeId} {pos : String} {af : Array Edge} {gd : Option (Nat × Bool)} {v val : Value}
/-- A method that changes nothing. -/
theorem o_inv {f : FuncId} {args : List Value} {rv : Value} {nm : String} {ps : List Operand} {ats : Array TypeId} {tv : TypeId} (hw : wantS ops s ⟨some d, .call { callee := .invoke p nm, args := ps.toArray, argTypes := ats }, ty, pos, af, gd⟩ = some true) (hf : ∀ az w, (callFunc f az).run x.P w = .ok (.enter f az) w)
    (hm : ∀ w, (method (x.P.types.size + Made.depth) tv v nm).run x.P w = .ok (f, rv) w) (hc : Ctr x.P f (rv :: args) x.G HI (fun r H' => r = val ∧ H' = HI))
    (hN : Nat.blt d x.N = true) (hp : ev s p = some (.iface tv v)) (hps : evs s ps = some args) (hsel : Sel H HI Hr) (h : WO x ops k rest ((d, val) :: s) H) :
    WO x ops k (⟨some d, .call { callee := .invoke p nm, args := ps.toArray, argTypes := ats }, ty, pos, af, gd⟩ :: rest) s H := by
  refine o_l hw (l_calli0 hf hm hc hN hp hps hsel) ?_
  rintro ⟨r, H'⟩ ⟨rfl, rfl⟩
  exact o_perm hsel.perm.symm h
end
end Go.Sl
namespace Go.Proofs.AI
open Go Go.Sl Tryz
set_option maxRecDepth 100000
set_option maxHeartbeats 1000000
/-- A row that is sorted through methods: what it holds is told by numbers. -/
structure SoC (G : HP) (tv : TypeId) (v : Value) (n : Nat) where
  X : List Int → Nat × Obj
  Lg : List Int → Prop
  len : ∀ {l}, Lg l → l.length = n
  sw : ∀ {l i j}, Lg l → i < n → j < n → Lg (swp l i j)
  fN : FuncId
  fL : FuncId
  fS : FuncId
  rv : Value
  hfN : ∀ az w, (callFunc fN az).run prog w = .ok (.enter fN az) w
  hfL : ∀ az w, (callFunc fL az).run prog w = .ok (.enter fL az) w
  hfS : ∀ az w, (callFunc fS az).run prog w = .ok (.enter fS az) w
  hmN : ∀ w, (method (prog.types.size + Made.depth) tv v "Len").run prog w = .ok (fN, rv) w
  hmL : ∀ w, (method (prog.types.size + Made.depth) tv v "Less").run prog w = .ok (fL, rv) w
  hmS : ∀ w, (method (prog.types.size + Made.depth) tv v "Swap").run prog w = .ok (fS, rv) w
  lenc : Ctr prog fN [rv] G [] (fun r H' => r = .int .i64 n ∧ H' = [])
  less : ∀ {l} {i j : Nat}, Lg l → i < n → j < n → Ctr prog fL [rv, .int .i64 i, .int .i64 j] G [X l] (fun r H' => r = .bool (decide (gd l i < gd l j)) ∧ H' = [X l])
  swap : ∀ {l} {i j : Nat}, Lg l → i < n → j < n → Ctr prog fS [rv, .int .i64 i, .int .i64 j] G [X l] (fun r H' => r = .tuple #[] ∧ H' = [X (swp l i j)])
theorem SoC.pr {G : HP} {tv : TypeId} {v : Value} {n : Nat} (Q : SoC G tv v n) {a b : Nat} {l l' : List Int} (h : PR a b l l') (hb : b ≤ n) (hg : Q.Lg l) : Q.Lg l' := by
  induction h with
  | refl => exact hg
  | swap _ h1 h2 h3 h4 _ ih => exact Q.sw ih (by omega) (by omega)
section
variable {G : HP} {n : Nat} {tv : TypeId} {v : Value} {l : List Int} {Q : SoC G tv v n}
theorem ins_is {a b : Nat} (hg : Q.Lg l) (h1 : n ≤ 100000) (hab : a ≤ b) (hb : b ≤ n) :
    Ctr prog 343 [.iface tv v, .int .i64 a, .int .i64 b] G [(Q.X l)] (fun r H' => r = .tuple #[] ∧ ∃ l', (PR a b l l' ∧ SR a b l') ∧ H' = [(Q.X l')]) := by
  have hn := Q.len hg
  refine fn_enter 33 func343 rfl ntmps343 rfl ?_
  intro w0
  refine gn 8 ?_
  refine c_loop (X := List Int × Nat) (fun y => [(0, .iface tv v), (1, .int .i64 a), (2, .int .i64 b), (6, .int .i64 (a + 1 + y.2 : Nat))]) (fun y => [(Q.X y.1)]) (fun y => PR a b l y.1 ∧ SR a (a + 1 + y.2) y.1 ∧ (y.2 = 0 ∨ a + 1 + y.2 ≤ b)) (fun y => b - y.2) (l, 0) ⟨.refl, .small (by omega), .inl rfl⟩ aK (.refl _) ?_
  rintro ⟨m, i⟩ ⟨hp, hs, hi0⟩
  simp only at hp hs hi0 ⊢
  refine gn 8 ?_
  refine c_ifp rfl (fun h2 => ?_) (fun h2 => ?_)
  · refine gn 11 ?_
    refine c_loop (X := List Int × Nat) (fun y => [(0, .iface tv v), (1, .int .i64 a), (2, .int .i64 b), (6, .int .i64 (a + 1 + i : Nat)), (7, .int .i64 y.2)]) (fun y => [(Q.X y.1)]) (fun y => PR a b l y.1 ∧ Ins a y.2 (a + 1 + i + 1) y.1 ∧ a ≤ y.2 ∧ y.2 ≤ a + 1 + i) (fun y => y.2) (m, a + 1 + i) ⟨hp, .start hs, by omega, Nat.le_refl _⟩ aK (.refl _) ?_
    rintro ⟨q, j⟩ ⟨hq, hi, haj, hj⟩
    simp only at hq hi haj hj ⊢
    have hl := hq.len
    have hg' := Q.pr hq (by omega) hg
    refine gn 7 ?_
    refine o_splitp 19 rfl (fun h3 => ?_) (fun h3 => ?_)
    · refine gn 4 ?_
      refine o_inv rfl Q.hfL Q.hmL (Q.less (by first | assumption | exact Q.sw (by assumption) (by omega) (by omega)) (by omega) (by omega)) rfl rfl rfl (.cons .head .nil) ?_
      refine gn 3 ?_
      refine c_if rfl (fun h4 => ?_) (fun h4 => ?_)
      · refine gn 9 ?_
        refine oL (l_calli0 Q.hfS Q.hmS (Q.swap (by first | assumption | exact Q.sw (by assumption) (by omega) (by omega)) (by omega) (by omega)) rfl rfl rfl (by first | exact .cons .head .nil | exact .cons (.tail .head) .nil)) ?_
        rintro ⟨r, H'⟩ ⟨rfl, rfl⟩
        simp only [List.cons_append, List.nil_append]
        refine gn 8 ?_
        have hjl : j < q.length := by omega
        refine n_round' (y := (q, j)) (swp q j (j - 1), j - 1) (by show j - 1 < j; omega) ?_ aK _ (.refl _) (List.Sublist.refl _)
        exact ⟨hq.swap (by omega) (by omega) (by omega) (by omega) (by omega), hi.step (of_decide_eq_true h4) (by omega) (by omega) (by omega), by show a ≤ j - 1; omega, by show j - 1 ≤ a + 1 + i; omega⟩
      · skip
        refine gn 11 ?_
        refine n_round' (y := (m, i)) (q, i + 1) (by show b - (i + 1) < b - i; omega) ?_ aK _ (.refl _) (List.Sublist.refl _)
        exact ⟨hq, hi.stop (.inr (of_decide_eq_false h4)), .inr (by show a + 1 + (i + 1) ≤ b; omega)⟩
    · skip
      refine gn 20 ?_
      refine n_round' (y := (m, i)) (q, i + 1) (by show b - (i + 1) < b - i; omega) ?_ aK _ (.refl _) (List.Sublist.refl _)
      exact ⟨hq, hi.stop (.inl (by omega)), .inr (by show a + 1 + (i + 1) ≤ b; omega)⟩
  · skip
    refine gn 4 ?_
    refine n_fn0 results343 ?_
    exact ⟨rfl, m, ⟨hp, hs.less (Nat.le_refl _) (by omega)⟩, rfl⟩
end
end Go.Proofs.AI
namespace Go.Proofs.AI
open Go Go.Sl Tryz
set_option maxRecDepth 100000
set_option maxHeartbeats 1000000
section
variable {G : HP} {n : Nat} {tv : TypeId} {v : Value} {l : List Int} {Q : SoC G tv v n}
theorem sift_is {f s h : Nat} (hg : Q.Lg l) (h1 : n ≤ 100000) (hb : f + h ≤ n) (hs : s ≤ h) (hp : Hp f (s + 1) h l) :
    Ctr prog 363 [.iface tv v, .int .i64 s, .int .i64 h, .int .i64 f] G [(Q.X l)] (fun r H' => r = .tuple #[] ∧ ∃ l', (PR (f + s) (f + h) l l' ∧ Hp f s h l') ∧ H' = [(Q.X l')]) := by
  have hn := Q.len hg
  refine fn_enter 52 func363 rfl ntmps363 rfl ?_
  intro w0
  refine gn 7 ?_
  refine c_loop (X := List Int × Nat) (fun y => [(0, .iface tv v), (2, .int .i64 h), (3, .int .i64 f), (8, .int .i64 y.2)]) (fun y => [(Q.X y.1)]) (fun y => PR (f + s) (f + h) l y.1 ∧ HQ f s h y.2 y.1 ∧ (y.2 = s ∨ y.2 < h)) (fun y => 2 * h - y.2) (l, s) ⟨.refl, .start hp, .inl rfl⟩ aK (.refl _) ?_
  rintro ⟨m, i⟩ ⟨hm, hq, hi0⟩
  simp only at hm hq hi0 ⊢
  have hl := hm.len
  have hg' := Q.pr hm (by omega) hg
  have hsi := hq.le
  refine gn 17 ?_
  refine c_ifp rfl (fun h2 => ?_) (fun h2 => ?_)
  · refine gn 5 ?_
    refine n_fn0 results363 ?_
    exact ⟨rfl, m, ⟨hm, hq.stop fun c h3 h4 => by omega⟩, rfl⟩
  · skip
    refine gn 3 ?_
    refine c_cut (X := Nat) (fun c => [(0, .iface tv v), (2, .int .i64 h), (3, .int .i64 f), (8, .int .i64 i), (9, .int .i64 c)]) (fun _ => [(Q.X m)]) (fun d => (d = 2 * i + 1 ∨ d = 2 * i + 2) ∧ d < h ∧ ∀ c, c = 2 * i + 1 ∨ c = 2 * i + 2 → c < h → gd m (f + c) ≤ gd m (f + d)) ?_ ?_
    · skip
      refine gn 7 ?_
      refine o_splitp 21 rfl (fun h3 => ?_) (fun h3 => ?_)
      · refine gn 8 ?_
        refine o_inv rfl Q.hfL Q.hmL (Q.less (by first | assumption | exact Q.sw (by assumption) (by omega) (by omega)) (by first | omega | (simp; omega)) (by first | omega | (simp; omega))) rfl rfl rfl (.cons .head .nil) ?_
        refine gn 3 ?_
        refine c_if rfl (fun h4 => ?_) (fun h4 => ?_)
        · have h4' := of_decide_eq_true h4
          refine gn 5 ?_
          refine n_cut (2 * i + 2) ⟨.inr rfl, by omega, fun c h5 h6 => ?_⟩ aK (.refl _)
          rcases h5 with rfl | rfl
          · rw [← Nat.add_assoc f]; exact Int.le_of_lt h4'
          · exact Int.le_refl _
        · have h4' := of_decide_eq_false h4
          refine gn 1 ?_
          refine n_cut (2 * i + 1) ⟨.inl rfl, by omega, fun c h5 h6 => ?_⟩ aK (.refl _)
          rcases h5 with rfl | rfl
          · exact Int.le_refl _
          · exact Int.not_lt.1 h4'
      · skip
        refine gn 14 ?_
        refine n_cut (2 * i + 1) ⟨.inl rfl, by omega, fun c h5 h6 => ?_⟩ aK (.refl _)
        rcases h5 with rfl | rfl
        · exact Int.le_refl _
        · omega
    · rintro d ⟨hd, hdh, hmax⟩
      refine gn 11 ?_
      refine o_inv rfl Q.hfL Q.hmL (Q.less (by first | assumption | exact Q.sw (by assumption) (by omega) (by omega)) (by first | omega | (simp; omega)) (by first | omega | (simp; omega))) rfl rfl rfl (.cons .head .nil) ?_
      refine gn 3 ?_
      refine c_if rfl (fun h5 => ?_) (fun h5 => ?_)
      · have h5' : ¬ gd m (f + i) < gd m (f + d) := by simpa using h5
        refine gn 1 ?_
        refine r_fn0 results363 ?_
        exact ⟨rfl, m, ⟨hm, hq.stop fun c h6 h7 => Int.le_trans (hmax c h6 h7) (Int.not_lt.1 h5')⟩, rfl⟩
      · skip
        have h5' : gd m (f + i) < gd m (f + d) := by simpa using h5
        refine gn 11 ?_
        refine oL (l_calli0 Q.hfS Q.hmS (Q.swap (by first | assumption | exact Q.sw (by assumption) (by omega) (by omega)) (by first | omega | (simp; omega)) (by first | omega | (simp; omega))) rfl rfl rfl (by first | exact .cons .head .nil | exact .cons (.tail .head) .nil)) ?_
        rintro ⟨r, H'⟩ ⟨rfl, rfl⟩
        simp only [List.cons_append, List.nil_append]
        refine gn 7 ?_
        refine n_round' (y := (m, i)) (swp m (f + i) (f + d), d) (by show 2 * h - d < 2 * h - i; omega) ?_ aK _ (.refl _) (List.Sublist.refl _)
        exact ⟨hm.swap (by omega) (by omega) (by omega) (by omega) (by omega), hq.step hd hdh (by omega) hmax h5', .inr hdh⟩
theorem heap_is {a b : Nat} (hg : Q.Lg l) (h1 : n ≤ 100000) (hab : a < b) (hb : b ≤ n) :
    Ctr prog 344 [.iface tv v, .int .i64 a, .int .i64 b] G [(Q.X l)] (fun r H' => r = .tuple #[] ∧ ∃ l', (PR a b l l' ∧ SR a b l') ∧ H' = [(Q.X l')]) := by
  have hn := Q.len hg
  obtain ⟨h, rfl⟩ : ∃ h, b = a + h := ⟨b - a, by omega⟩
  refine fn_enter 44 func344 rfl ntmps344 rfl ?_
  intro w0
  refine gn 29 ?_
  simp only [Nat.add_sub_cancel_left]
  refine c_loop (X := List Int × Int) (fun y => [(0, .iface tv v), (6, .int .i64 a), (7, .int .i64 (0 : Nat)), (8, .int .i64 h), (9, .int .i64 y.2)]) (fun y => [(Q.X y.1)]) (fun y => PR a (a + h) l y.1 ∧ -1 ≤ y.2 ∧ y.2 < h ∧ Hp a (y.2 + 1).toNat h y.1) (fun y => (y.2 + 1).toNat) (l, ((h - 1 : Nat) : Int) / 2) ⟨.refl, by omega, by omega, .none (by omega)⟩ aK (.refl _) ?_
  rintro ⟨m, i⟩ ⟨hm, hi0, hi1, hp⟩
  simp only at hm hi0 hi1 hp ⊢
  have hl := hm.len
  have hg' := Q.pr hm (by omega) hg
  refine gn 7 ?_
  refine c_ifp rfl (fun h2 => ?_) (fun h2 => ?_)
  · obtain ⟨k, rfl⟩ := Int.eq_ofNat_of_zero_le h2
    refine gn 9 ?_
    refine oL (lC (sift_is (f := a) (s := k) (h := h) (Q.pr hm (by omega) hg) h1 hb (by omega) hp) rfl (.cons .head .nil)) ?_
    rintro ⟨r, H'⟩ ⟨rfl, m', ⟨hp1, hp2⟩, rfl⟩
    simp only [List.cons_append, List.nil_append]
    refine gn 8 ?_
    refine n_round' (y := (m, (k : Int))) (m', (k : Int) - 1) (by show ((k : Int) - 1 + 1).toNat < ((k : Int) + 1).toNat; omega) ?_ aK _ (.refl _) (List.Sublist.refl _)
    refine ⟨hm.trans (hp1.mono (by omega) (Nat.le_refl _) (by omega)), by show -1 ≤ (k : Int) - 1; omega, by show (k : Int) - 1 < h; omega, ?_⟩
    show Hp a ((k : Int) - 1 + 1).toNat h m'
    rw [show ((k : Int) - 1 + 1).toNat = k by omega]
    exact hp2
  · skip
    have hp0 : Hp a 0 h m := by rw [show (i + 1).toNat = 0 by omega] at hp; exact hp
    refine gn 13 ?_
    refine c_loop (X := List Int × Int) (fun y => [(0, .iface tv v), (6, .int .i64 a), (7, .int .i64 (0 : Nat)), (10, .int .i64 y.2)]) (fun y => [(Q.X y.1)]) (fun y => PR a (a + h) l y.1 ∧ -1 ≤ y.2 ∧ y.2 < h ∧ Pop a (y.2 + 1).toNat h y.1) (fun y => (y.2 + 1).toNat) (m, ((h - 1 : Nat) : Int)) ⟨hm, by omega, by omega, by show Pop a (((h - 1 : Nat) : Int) + 1).toNat h m; rw [show (((h - 1 : Nat) : Int) + 1).toNat = h by omega]; exact .start hp0⟩ aK (.refl _) ?_
    clear hm hi0 hi1 hp hl hp0 h2
    rintro ⟨m, i⟩ ⟨hm, hi0, hi1, hp⟩
    simp only at hm hi0 hi1 hp ⊢
    have hl := hm.len
    have hg' := Q.pr hm (by omega) hg
    refine gn 7 ?_
    refine c_ifp rfl (fun h2 => ?_) (fun h2 => ?_)
    · obtain ⟨k, rfl⟩ := Int.eq_ofNat_of_zero_le h2
      rw [show ((k : Int) + 1).toNat = k + 1 by omega] at hp
      refine gn 11 ?_
      refine oL (l_calli0 Q.hfS Q.hmS (Q.swap (by first | assumption | exact Q.sw (by assumption) (by omega) (by omega)) (by first | omega | (simp; omega)) (by first | omega | (simp; omega))) rfl rfl rfl (by first | exact .cons .head .nil | exact .cons (.tail .head) .nil)) ?_
      rintro ⟨r, H'⟩ ⟨rfl, rfl⟩
      simp only [List.cons_append, List.nil_append]
      refine gn 7 ?_
      have hp1 := hp.swap (by omega) (by omega)
      refine oL (lC (sift_is (f := a) (s := 0) (h := k) (l := swp m a (a + k)) (Q.sw (Q.pr hm (by omega) hg) (by omega) (by omega)) h1 (by omega) (Nat.zero_le _) hp1.heap) rfl (.cons .head .nil)) ?_
      rintro ⟨r, H'⟩ ⟨rfl, m', ⟨hp2, hp3⟩, rfl⟩
      simp only [List.cons_append, List.nil_append]
      refine gn 8 ?_
      have hsw : PR a (a + h) m (swp m a (a + k)) := .one (by omega) (by omega) (by omega) (by omega) (by omega)
      refine n_round' (y := (m, (k : Int))) (m', (k : Int) - 1) (by show ((k : Int) - 1 + 1).toNat < ((k : Int) + 1).toNat; omega) ?_ aK _ (.refl _) (List.Sublist.refl _)
      refine ⟨(hm.trans hsw).trans (hp2.mono (by omega) (by omega) (by rw [swp_length]; omega)), by show -1 ≤ (k : Int) - 1; omega, by show (k : Int) - 1 < h; omega, ?_⟩
      show Pop a ((k : Int) - 1 + 1).toNat h m'
      rw [show ((k : Int) - 1 + 1).toNat = k by omega]
      exact hp1.sift hp2 hp3
    · skip
      refine gn 4 ?_
      refine n_fn0 results344 ?_
      rw [show (i + 1).toNat = 0 by omega] at hp
      exact ⟨rfl, m, ⟨hm, hp.done⟩, rfl⟩
end
end Go.Proofs.AI
namespace Go.Proofs.AI
open Go Go.Sl Tryz
set_option maxRecDepth 100000
set_option maxHeartbeats 1000000
section
variable {gz u v : Nat} {z : Int} {G : HP} {n : Nat} {tv : TypeId} {vv : Value} {l : List Int} {Q : SoC G tv vv n}
theorem ord_is {a b : Nat} (hg : Q.Lg l) (h1 : n ≤ 100000) (ha : u ≤ a ∧ a < v) (hb : u ≤ b ∧ b < v) (hv : v ≤ n) :
    Ctr prog 379 [.iface tv vv, .int .i64 a, .int .i64 b, .pointer (some ⟨gz, 0, none⟩)] G [(Q.X l), (gz, C [.int .i64 z] 3)] (fun r H' => ∃ (x y : Nat) (z' : Int), r = .tuple #[.int .i64 x, .int .i64 y] ∧ (u ≤ x ∧ x < v) ∧ (u ≤ y ∧ y < v) ∧ H' = [(Q.X l), (gz, C [.int .i64 z'] 3)]) := by
  have hn := Q.len hg
  refine fn_enter 23 func379 rfl ntmps379 rfl ?_
  intro w0
  refine gn 12 ?_
  refine o_inv rfl Q.hfL Q.hmL (Q.less (by first | assumption | exact Q.sw (by assumption) (by omega) (by omega)) (by first | omega | (simp; omega)) (by first | omega | (simp; omega))) rfl rfl rfl (.cons .head .nil) ?_
  refine gn 2 ?_
  refine c_if rfl (fun h2 => ?_) (fun h2 => ?_)
  · refine gn 7 ?_
    refine oT ?_; intro _ _
    refine gn 11 ?_
    refine r_fn (l := [.tmp 8, .tmp 9]) results379 rfl rfl ?_
    exact ⟨b, a, _, rfl, hb, ha, rfl⟩
  · skip
    refine gn 11 ?_
    refine r_fn (l := [.tmp 8, .tmp 9]) results379 rfl rfl ?_
    exact ⟨a, b, _, rfl, ha, hb, rfl⟩
theorem med_is {a b c : Nat} (hg : Q.Lg l) (h1 : n ≤ 100000) (ha : u ≤ a ∧ a < v) (hb : u ≤ b ∧ b < v) (hc : u ≤ c ∧ c < v) (hv : v ≤ n) :
    Ctr prog 365 [.iface tv vv, .int .i64 a, .int .i64 b, .int .i64 c, .pointer (some ⟨gz, 0, none⟩)] G [(Q.X l), (gz, C [.int .i64 z] 3)] (fun r H' => ∃ (x : Nat) (z' : Int), r = .int .i64 x ∧ (u ≤ x ∧ x < v) ∧ H' = [(Q.X l), (gz, C [.int .i64 z'] 3)]) := by
  have hn := Q.len hg
  refine fn_enter 36 func365 rfl ntmps365 rfl ?_
  intro w0
  refine gn 11 ?_
  refine oL (lC (ord_is hg h1 ha hb hv) rfl (.cons .head (.cons .head .nil))) ?_
  rintro ⟨r, H'⟩ ⟨x0, y0, z0, rfl, hx0, hy0, rfl⟩
  simp only [List.cons_append, List.nil_append]
  refine gn 13 ?_
  refine oL (lC (ord_is hg h1 hy0 hc hv) rfl (.cons .head (.cons .head .nil))) ?_
  rintro ⟨r, H'⟩ ⟨x1, y1, z1, rfl, hx1, hy1, rfl⟩
  simp only [List.cons_append, List.nil_append]
  refine gn 13 ?_
  refine oL (lC (ord_is hg h1 hx0 hx1 hv) rfl (.cons .head (.cons .head .nil))) ?_
  rintro ⟨r, H'⟩ ⟨x2, y2, z2, rfl, hx2, hy2, rfl⟩
  simp only [List.cons_append, List.nil_append]
  refine gn 14 ?_
  refine r_fn1 results365 rfl ?_
  exact ⟨_, _, rfl, hy2, rfl⟩
theorem adj_is {a : Nat} (hg : Q.Lg l) (h1 : n ≤ 100000) (ha : u + 1 ≤ a ∧ a + 1 < v) (hv : v ≤ n) :
    Ctr prog 364 [.iface tv vv, .int .i64 a, .pointer (some ⟨gz, 0, none⟩)] G [(Q.X l), (gz, C [.int .i64 z] 3)] (fun r H' => ∃ (x : Nat) (z' : Int), r = .int .i64 x ∧ (u ≤ x ∧ x < v) ∧ H' = [(Q.X l), (gz, C [.int .i64 z'] 3)]) := by
  have hn := Q.len hg
  obtain ⟨a, rfl⟩ : ∃ a', a = a' + 1 := ⟨a - 1, by omega⟩
  refine fn_enter 15 func364 rfl ntmps364 rfl ?_
  intro w0
  refine gn 14 ?_
  refine oL (lC (med_is (a := a) (b := a + 1) (c := a + 2) (u := u) (v := v) hg h1 (by omega) (by omega) (by omega) hv) rfl (.cons .head (.cons .head .nil))) ?_
  rintro ⟨r, H'⟩ ⟨x, z', rfl, hx, rfl⟩
  simp only [List.cons_append, List.nil_append]
  refine gn 4 ?_
  refine r_fn1 results364 rfl ?_
  exact ⟨_, _, rfl, hx, rfl⟩
theorem piv_is {a b : Nat} (hg : Q.Lg l) (h1 : n ≤ 100000) (hab : a + 8 ≤ b) (hb : b ≤ n) :
    Ctr prog 346 [.iface tv vv, .int .i64 a, .int .i64 b] G [(Q.X l)] (fun r H' => ∃ (x : Nat) (z' : Int), r = .tuple #[.int .i64 x, .int .i64 z'] ∧ (a ≤ x ∧ x < b) ∧ H' = [(Q.X l)]) := by
  have hn := Q.len hg
  obtain ⟨h, rfl⟩ : ∃ h, b = a + h := ⟨b - a, by omega⟩
  refine fn_enter 57 func346 rfl ntmps346 rfl ?_
  intro w0
  refine gn 16 ?_
  refine oZ ?_; intro g9 _
  refine gn 39 ?_
  have e1 : (a : Int) + ((a + h - a : Nat) : Int) / 4 * 1 = ((a + h / 4 : Nat) : Int) := by omega
  have e2 : (a : Int) + ((a + h - a : Nat) : Int) / 4 * 2 = ((a + h / 4 * 2 : Nat) : Int) := by omega
  have e3 : (a : Int) + ((a + h - a : Nat) : Int) / 4 * 3 = ((a + h / 4 * 3 : Nat) : Int) := by omega
  rw [e1, e2, e3]
  refine c_ifp rfl (fun h2 => ?_) (fun h2 => ?_)
  · refine c_cut (X := Nat × Int) (fun y => [(11, .int .i64 y.1), (9, .pointer (some ⟨g9, 0, none⟩))]) (fun y => [(Q.X l), (g9, C [.int .i64 y.2] 3)]) (fun y => a ≤ y.1 ∧ y.1 < a + h) ?_ ?_
    · skip
      refine gn 1 ?_
      refine c_cut (X := Nat × Nat × Nat × Int) (fun y => [(0, .iface tv vv), (9, .pointer (some ⟨g9, 0, none⟩)), (10, .int .i64 y.1), (11, .int .i64 y.2.1), (12, .int .i64 y.2.2.1)]) (fun y => [(Q.X l), (g9, C [.int .i64 y.2.2.2] 3)]) (fun y => (a ≤ y.1 ∧ y.1 < a + h) ∧ (a ≤ y.2.1 ∧ y.2.1 < a + h) ∧ (a ≤ y.2.2.1 ∧ y.2.2.1 < a + h)) ?_ ?_
      · skip
        refine gn 6 ?_
        refine c_ifp rfl (fun h3 => ?_) (fun h3 => ?_)
        · refine gn 4 ?_
          refine oL (lC (adj_is (u := a) (v := a + h) hg h1 (by omega) hb) rfl (.cons (.tail .head) (.cons .head .nil))) ?_
          rintro ⟨r, H'⟩ ⟨x1, z1, rfl, hx1, rfl⟩
          simp only [List.cons_append, List.nil_append]
          refine gn 7 ?_
          refine oL (lC (adj_is (u := a) (v := a + h) hg h1 (by omega) hb) rfl (.cons .head (.cons .head .nil))) ?_
          rintro ⟨r, H'⟩ ⟨x2, z2, rfl, hx2, rfl⟩
          simp only [List.cons_append, List.nil_append]
          refine gn 6 ?_
          refine oL (lC (adj_is (u := a) (v := a + h) hg h1 (by omega) hb) rfl (.cons .head (.cons .head .nil))) ?_
          rintro ⟨r, H'⟩ ⟨x3, z3, rfl, hx3, rfl⟩
          simp only [List.cons_append, List.nil_append]
          refine gn 2 ?_
          exact n_cut (x1, x2, x3, z3) ⟨hx1, hx2, hx3⟩ aK (.refl _)
        · skip
          refine gn 1 ?_
          exact n_cut (a + h / 4, a + h / 4 * 2, a + h / 4 * 3, 0) ⟨by show a ≤ a + h / 4 ∧ a + h / 4 < a + h; omega, by show a ≤ a + h / 4 * 2 ∧ a + h / 4 * 2 < a + h; omega, by show a ≤ a + h / 4 * 3 ∧ a + h / 4 * 3 < a + h; omega⟩ aK (List.Perm.swap _ _ _)
      · rintro ⟨x1, x2, x3, z3⟩ ⟨hx1, hx2, hx3⟩
        simp only at hx1 hx2 hx3 ⊢
        refine gn 6 ?_
        refine oL (lC (med_is (u := a) (v := a + h) hg h1 hx1 hx2 hx3 hb) rfl (.cons .head (.cons .head .nil))) ?_
        rintro ⟨r, H'⟩ ⟨x4, z4, rfl, hx4, rfl⟩
        simp only [List.cons_append, List.nil_append]
        refine gn 2 ?_
        exact n_cut (x4, z4) hx4 aK (.refl _)
    · rintro ⟨x4, z4⟩ hx4
      simp only at hx4 ⊢
      refine gn 13 ?_
      refine c_if rfl (fun h5 => ?_) (fun h5 => ?_)
      · refine gn 8 ?_
        refine WR.sel (.cons .head .nil) ?_
        refine r_fn (l := [.tmp 6, .tmp 7]) results346 rfl rfl ?_
        exact ⟨_, _, rfl, hx4, rfl⟩
      · skip
        refine gn 6 ?_
        refine c_if rfl (fun h6 => ?_) (fun h6 => ?_)
        · refine gn 8 ?_
          refine WR.sel (.cons .head .nil) ?_
          refine r_fn (l := [.tmp 6, .tmp 7]) results346 rfl rfl ?_
          exact ⟨_, _, rfl, hx4, rfl⟩
        · skip
          refine gn 8 ?_
          refine WR.sel (.cons .head .nil) ?_
          refine r_fn (l := [.tmp 6, .tmp 7]) results346 rfl rfl ?_
          exact ⟨_, _, rfl, hx4, rfl⟩
  · exact absurd h2 (by omega)
end
end Go.Proofs.AI
namespace Go.Proofs.AI
open Go Go.Sl Tryz
set_option maxRecDepth 100000
set_option maxHeartbeats 1000000
section
variable {G : HP} {n : Nat} {tv : TypeId} {vv : Value} {l : List Int} {Q : SoC G tv vv n}
theorem rev_is {a b : Nat} (hg : Q.Lg l) (h1 : n ≤ 100000) (hab : a < b) (hb : b ≤ n) :
    Ctr prog 347 [.iface tv vv, .int .i64 a, .int .i64 b] G [(Q.X l)] (fun r H' => r = .tuple #[] ∧ ∃ l', PR a b l l' ∧ H' = [(Q.X l')]) := by
  have hn := Q.len hg
  refine fn_enter 22 func347 rfl ntmps347 rfl ?_
  intro w0
  refine gn 14 ?_
  refine c_loop (X := List Int × Nat × Nat) (fun y => [(0, .iface tv vv), (6, .int .i64 y.2.1), (7, .int .i64 y.2.2)]) (fun y => [(Q.X y.1)]) (fun y => PR a b l y.1 ∧ a ≤ y.2.1 ∧ y.2.2 < b) (fun y => y.2.2 - y.2.1) (l, a, b - 1) ⟨.refl, Nat.le_refl _, by show b - 1 < b; omega⟩ aK (.refl _) ?_
  rintro ⟨m, i, j⟩ ⟨hm, hi0, hj⟩
  simp only at hm hi0 hj ⊢
  have hl := hm.len
  have hg' := Q.pr hm (by omega) hg
  refine gn 8 ?_
  refine c_ifp rfl (fun h2 => ?_) (fun h2 => ?_)
  · refine gn 8 ?_
    refine oL (l_calli0 Q.hfS Q.hmS (Q.swap (by first | assumption | exact Q.sw (by assumption) (by omega) (by omega)) (by first | omega | (simp; omega)) (by first | omega | (simp; omega))) rfl rfl rfl (by first | exact .cons .head .nil | exact .cons (.tail .head) .nil)) ?_
    rintro ⟨r, H'⟩ ⟨rfl, rfl⟩
    simp only [List.cons_append, List.nil_append]
    refine gn 15 ?_
    refine n_round' (y := (m, i, j)) (swp m i j, i + 1, j - 1) (by show j - 1 - (i + 1) < j - i; omega) ?_ aK _ (.refl _) (List.Sublist.refl _)
    exact ⟨hm.swap (by omega) (by omega) (by omega) (by omega) (by omega), by show a ≤ i + 1; omega, by show j - 1 < b; omega⟩
  · skip
    refine gn 4 ?_
    refine n_fn0 results347 ?_
    exact ⟨rfl, m, hm, rfl⟩
theorem part_is {a b : Nat} (hg : Q.Lg l) (h1 : n ≤ 100000) (hab : a < b) (hb : b ≤ n) (hlb : Lb a b l) :
    Ctr prog 348 [.iface tv vv, .int .i64 a, .int .i64 b] G [(Q.X l)] (fun r H' => ∃ (t : Bool) (l' : List Int), r = .bool t ∧ PR a b l l' ∧ (t = true → SR a b l') ∧ H' = [(Q.X l')]) := by
  have hn := Q.len hg
  refine fn_enter 85 func348 rfl ntmps348 rfl ?_
  intro w0
  refine gn 19 ?_
  refine c_loop (X := List Int × Nat × Nat) (fun y => [(0, .iface tv vv), (1, .int .i64 a), (2, .int .i64 b), (7, .int .i64 y.2.1), (8, .int .i64 y.2.2)]) (fun y => [(Q.X y.1)]) (fun y => PR a b l y.1 ∧ a < y.2.1 ∧ y.2.1 ≤ b ∧ SR a y.2.1 y.1 ∧ y.2.2 ≤ 5) (fun y => 5 - y.2.2) (l, a + 1, 0) ⟨.refl, by show a < a + 1; omega, by show a + 1 ≤ b; omega, .small (Nat.le_refl _), Nat.zero_le _⟩ aK (.refl _) ?_
  rintro ⟨m, i, j⟩ ⟨hm, hi0, hi1, hs, hj⟩
  simp only at hm hi0 hi1 hs hj ⊢
  have hl := hm.len
  have hg' := Q.pr hm (by omega) hg
  refine gn 7 ?_
  refine c_ifp rfl (fun h2 => ?_) (fun h2 => ?_)
  · refine gn 5 ?_
    refine c_cut (X := Nat) (fun i => [(0, .iface tv vv), (1, .int .i64 a), (2, .int .i64 b), (7, .int .i64 i), (8, .int .i64 j)]) (fun _ => [(Q.X m)]) (fun i => a < i ∧ i ≤ b ∧ SR a i m ∧ (i < b → gd m i < gd m (i - 1))) ?_ ?_
    · skip
      refine gn 1 ?_
      refine c_loop (X := Nat) (fun i => [(0, .iface tv vv), (1, .int .i64 a), (2, .int .i64 b), (7, .int .i64 i), (8, .int .i64 j)]) (fun _ => [(Q.X m)]) (fun i => a < i ∧ i ≤ b ∧ SR a i m) (fun i => b - i) i ⟨hi0, hi1, hs⟩ aK (.refl _) ?_
      clear hi0 hi1 hs
      rintro i ⟨hi0, hi1, hs⟩
      refine gn 7 ?_
      refine o_splitp 20 rfl (fun h3 => ?_) (fun h3 => ?_)
      · refine gn 4 ?_
        refine o_inv rfl Q.hfL Q.hmL (Q.less (by first | assumption | exact Q.sw (by assumption) (by omega) (by omega)) (by first | omega | (simp; omega)) (by first | omega | (simp; omega))) rfl rfl rfl (.cons .head .nil) ?_
        refine gn 4 ?_
        refine c_if rfl (fun h4 => ?_) (fun h4 => ?_)
        · have h4' : ¬ gd m i < gd m (i - 1) := by simpa using h4
          refine gn 9 ?_
          refine n_round' (y := i) (i + 1) (by omega) ⟨by omega, by omega, hs.snoc hi0 (Int.not_lt.1 h4')⟩ aK _ (.refl _) (List.Sublist.refl _)
        · skip
          have h4' : gd m i < gd m (i - 1) := by simpa using h4
          refine gn 4 ?_
          exact n_cut i ⟨hi0, hi1, hs, fun _ => h4'⟩ aK (.refl _)
      · skip
        refine gn 14 ?_
        exact n_cut i ⟨hi0, hi1, hs, fun _ => by omega⟩ aK (.refl _)
    · clear hi0 hi1 hs
      rintro i ⟨hi0, hi1, hs, hlt⟩
      refine gn 9 ?_
      refine c_ifp rfl (fun h3 => ?_) (fun h3 => ?_)
      · refine gn 6 ?_
        refine r_fn1 results348 rfl ?_
        obtain rfl : i = b := by omega
        exact ⟨true, m, rfl, hm, fun _ => hs, rfl⟩
      · skip
        have hlt' := hlt (by omega)
        refine gn 11 ?_
        refine c_ifp rfl (fun h4 => ?_) (fun h4 => ?_)
        · refine gn 6 ?_
          refine r_fn1 results348 rfl ?_
          exact ⟨false, m, rfl, hm, by simp, rfl⟩
        · skip
          refine gn 8 ?_
          refine oL (l_calli0 Q.hfS Q.hmS (Q.swap (by first | assumption | exact Q.sw (by assumption) (by omega) (by omega)) (by first | omega | (simp; omega)) (by first | omega | (simp; omega))) rfl rfl rfl (by first | exact .cons .head .nil | exact .cons (.tail .head) .nil)) ?_
          rintro ⟨r, H'⟩ ⟨rfl, rfl⟩
          simp only [List.cons_append, List.nil_append]
          refine gn 3 ?_
          have hsw : PR a b m (swp m i (i - 1)) := .one (by omega) (by omega) (by omega) (by omega) (by omega)
          have hpre : SR a (i - 1) (swp m i (i - 1)) := (hs.less (Nat.le_refl _) (by omega)).congr fun k k1 k2 => by rw [gd_swp (by omega) (by omega), if_neg (by omega), if_neg (by omega)]
          refine c_cut (X := List Int) (fun _ => [(0, .iface tv vv), (1, .int .i64 a), (2, .int .i64 b), (7, .int .i64 i), (8, .int .i64 j)]) (fun m => [(Q.X m)]) (fun m => PR a b l m ∧ SR a i m) ?_ ?_
          · skip
            refine gn 8 ?_
            refine c_ifp rfl (fun h5 => ?_) (fun h5 => ?_)
            · refine gn 8 ?_
              refine c_loop (X := List Int × Nat) (fun y => [(0, .iface tv vv), (1, .int .i64 a), (2, .int .i64 b), (7, .int .i64 i), (8, .int .i64 j), (9, .int .i64 y.2)]) (fun y => [(Q.X y.1)]) (fun y => PR a b l y.1 ∧ Ins a y.2 i y.1 ∧ a ≤ y.2 ∧ y.2 < i) (fun y => y.2) (swp m i (i - 1), i - 1) ⟨hm.trans hsw, by have := Ins.start hpre; rwa [show i - 1 + 1 = i by omega] at this, by show a ≤ i - 1; omega, by show i - 1 < i; omega⟩ aK (.refl _) ?_
              rintro ⟨q, k⟩ ⟨hq, hin, hk0, hk1⟩
              simp only at hq hin hk0 hk1 ⊢
              have hlq := hq.len
              have hgq := Q.pr (show PR a b l q by first | exact hq | exact hm.trans (hq.mono (by omega) (Nat.le_refl _) (by omega))) (by omega) hg
              refine gn 7 ?_
              refine c_ifp rfl (fun h6 => ?_) (fun h6 => ?_)
              · refine gn 11 ?_
                refine o_inv rfl Q.hfL Q.hmL (Q.less (by first | assumption | exact Q.sw (by assumption) (by omega) (by omega)) (by first | omega | (simp; omega)) (by first | omega | (simp; omega))) rfl rfl rfl (.cons .head .nil) ?_
                refine gn 3 ?_
                refine c_if rfl (fun h7 => ?_) (fun h7 => ?_)
                · refine gn 6 ?_
                  have h7' : ¬ gd q k < gd q (k - 1) := by simpa using h7
                  exact n_cut q ⟨hq, hin.stop (.inr h7')⟩ aK (.refl _)
                · skip
                  have h7' : gd q k < gd q (k - 1) := by simpa using h7
                  have hka : a < k := by
                    rcases hlb.pr hq (Nat.le_refl _) (Nat.le_refl _) with h | h
                    · omega
                    · by_cases he : k = a
                      · subst he; exact absurd h7' (Int.not_lt.2 (h k (Nat.le_refl _) (by omega)))
                      · omega
                  refine gn 7 ?_
                  refine oL (l_calli0 Q.hfS Q.hmS (Q.swap (by first | assumption | exact Q.sw (by assumption) (by omega) (by omega)) (by first | omega | (simp; omega)) (by first | omega | (simp; omega))) rfl rfl rfl (by first | exact .cons .head .nil | exact .cons (.tail .head) .nil)) ?_
                  rintro ⟨r, H'⟩ ⟨rfl, rfl⟩
                  simp only [List.cons_append, List.nil_append]
                  refine gn 8 ?_
                  refine n_round' (y := (q, k)) (swp q k (k - 1), k - 1) (by show k - 1 < k; omega) ?_ aK _ (.refl _) (List.Sublist.refl _)
                  exact ⟨hq.swap (by omega) (by omega) (by omega) (by omega) (by omega), hin.step h7' hka hk1 (by omega), by show a ≤ k - 1; omega, by show k - 1 < i; omega⟩
              · skip
                refine gn 4 ?_
                exact n_cut q ⟨hq, hin.stop (.inl (by omega))⟩ aK (.refl _)
            · skip
              refine gn 1 ?_
              exact n_cut (swp m i (i - 1)) ⟨hm.trans hsw, .small (by omega)⟩ aK (.refl _)
          · clear hs hpre hsw hlt hlt' hm hl
            rintro m ⟨hm, hs⟩
            have hl := hm.len
            have hg' := Q.pr hm (by omega) hg
            refine gn 1 ?_
            refine c_cut (X := List Int) (fun _ => [(0, .iface tv vv), (1, .int .i64 a), (2, .int .i64 b), (7, .int .i64 i), (8, .int .i64 j)]) (fun m => [(Q.X m)]) (fun m => PR a b l m ∧ SR a i m) ?_ ?_
            · skip
              refine gn 8 ?_
              refine c_ifp rfl (fun h5 => ?_) (fun h5 => ?_)
              · refine gn 8 ?_
                refine c_loop (X := List Int × Nat) (fun y => [(0, .iface tv vv), (1, .int .i64 a), (2, .int .i64 b), (7, .int .i64 i), (8, .int .i64 j), (10, .int .i64 y.2)]) (fun y => [(Q.X y.1)]) (fun y => PR i b m y.1 ∧ i < y.2) (fun y => b - y.2) (m, i + 1) ⟨.refl, by show i < i + 1; omega⟩ aK (.refl _) ?_
                rintro ⟨q, k⟩ ⟨hq, hk0⟩
                simp only at hq hk0 ⊢
                have hlq := hq.len
                have hgq := Q.pr (show PR a b l q by first | exact hq | exact hm.trans (hq.mono (by omega) (Nat.le_refl _) (by omega))) (by omega) hg
                have hfin : PR a b l q ∧ SR a i q := ⟨hm.trans (hq.mono (by omega) (Nat.le_refl _) (by omega)), hs.congr fun p _ hp => hq.out (.inl hp)⟩
                refine gn 8 ?_
                refine c_ifp rfl (fun h6 => ?_) (fun h6 => ?_)
                · refine gn 11 ?_
                  refine o_inv rfl Q.hfL Q.hmL (Q.less (by first | assumption | exact Q.sw (by assumption) (by omega) (by omega)) (by first | omega | (simp; omega)) (by first | omega | (simp; omega))) rfl rfl rfl (.cons .head .nil) ?_
                  refine gn 3 ?_
                  refine c_if rfl (fun h7 => ?_) (fun h7 => ?_)
                  · refine gn 6 ?_
                    exact n_cut q hfin aK (.refl _)
                  · skip
                    refine gn 7 ?_
                    refine oL (l_calli0 Q.hfS Q.hmS (Q.swap (by first | assumption | exact Q.sw (by assumption) (by omega) (by omega)) (by first | omega | (simp; omega)) (by first | omega | (simp; omega))) rfl rfl rfl (by first | exact .cons .head .nil | exact .cons (.tail .head) .nil)) ?_
                    rintro ⟨r, H'⟩ ⟨rfl, rfl⟩
                    simp only [List.cons_append, List.nil_append]
                    refine gn 8 ?_
                    refine n_round' (y := (q, k)) (swp q k (k - 1), k + 1) (by show b - (k + 1) < b - k; omega) ?_ aK _ (.refl _) (List.Sublist.refl _)
                    exact ⟨hq.swap (by omega) (by omega) (by omega) (by omega) (by omega), by show i < k + 1; omega⟩
                · skip
                  refine gn 4 ?_
                  exact n_cut q hfin aK (.refl _)
              · skip
                refine gn 1 ?_
                exact n_cut m ⟨hm, hs⟩ aK (.refl _)
            · clear hs hm hl
              rintro m ⟨hm, hs⟩
              refine gn 7 ?_
              refine n_round (y := (l, 0, j)) (m, i, j + 1) (by show 5 - (j + 1) < 5 - j; omega) ?_ aK (.refl _)
              exact ⟨hm, hi0, hi1, hs, by show j + 1 ≤ 5; omega⟩
  · skip
    refine gn 11 ?_
    refine r_fn1 results348 rfl ?_
    exact ⟨false, m, rfl, hm, by simp, rfl⟩
end
end Go.Proofs.AI
