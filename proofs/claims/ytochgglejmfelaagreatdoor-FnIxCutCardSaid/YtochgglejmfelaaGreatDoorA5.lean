/- Entries in memory; spec.Tidy, laws.ixGood, spec.low, spec.Coded. -/
import Derived.Test.YtochgglejmfelaaGreatDoorProg
import Derived.KernelRfl
import Derived.WalkKit
import Derived.Lib.ReflectliteSlice
import Derived.Lib.Bytealg
import Derived.Test.YtochgglejmfelaaGreatDoorA3
namespace Go.Proofs
open Go Go.Sl
theorem idle132 (a b : Addr) : Idle Tryz.prog 132 #[.pointer (some a), .pointer (some b)] := by
  refine ⟨#[.pointer (some a), .pointer (some b)], fun w => by simp [invoke, Tryz.call132], fun w => ?_⟩
  refine callsD_of_wpS Tryz.func132 rfl fun c₀ cs hu => ?_
  apply wpS_seq
  apply wpS_region
  simp [wpOpsS, go_sem, recoverD, hu, Tryz.ntmps132, Exit.thenS]
  refine wpS_cond (t := false) (by simp [Act.eval, Array.replicate]) ?_
  simp only [Bool.false_eq_true, if_false]
  refine wpS_of_wp (wp_skip ?_)
  cases c₀
  simp_all [bodyPostS, results, Tryz.results132]

section
variable {x : Cx} {s : Slots} {H : HP} {d : Nat} {p : Operand} {ty : TypeId} {pos : String} {af : Array Edge} {gd : Option (Nat × Bool)}
theorem handle_eq (t : TypeId) : typeHandle Tryz.prog t = .pointer (some ⟨26, t, none⟩) := by
  unfold typeHandle
  have : Tryz.prog.globals.size = 26 := by kernel_rfl
  rw [this]
theorem ext63 {t e : TypeId} {i : TypeInfo} (hi : ∀ w, (typeInfo t).run Tryz.prog w = .ok i w) (hd : i.desc = .slice e) (q : Option Addr) (n c : Nat) (w : World) :
    (callFunc 63 #[.iface t (.slice q n c)]).run Tryz.prog w = .ok (.value (.agg #[.pointer (some ⟨26, t, none⟩), .pointer (some ⟨w.heap.size, 0, none⟩), .int .u64 151])) (w.alloc (.cells #[.slice q n c] t)) := by
  have hv := Lib.run_valueOf_slice (P := Tryz.prog) t e i (info_of hi) hd q n c w
  rw [run_callFunc_extern Tryz.func63 (by kernel_rfl) (by kernel_rfl) (by kernel_rfl) (e := fun args => Extern.ReflectliteValue.unpack (args.getD 0 (.tuple #[]))) (by kernel_rfl),
    show Sem.run Tryz.prog ((fun args : Array Value => Extern.ReflectliteValue.unpack (args.getD 0 (.tuple #[]))) #[.iface t (.slice q n c)]) w = _ from hv]
  simp only [Result.andThen, handle_eq]
theorem ext64 {t e : TypeId} {i ie : TypeInfo} (hi : ∀ w, (typeInfo t).run Tryz.prog w = .ok i w) (hd : i.desc = .slice e) (hie : ∀ w, (typeInfo e).run Tryz.prog w = .ok ie w) (ke : Nat) (hke : ∀ w, (Extern.Rtype.kind e).run Tryz.prog w = .ok ke w)
    (q : Option Addr) (n c : Nat) (k f : Nat) (hk : Lib.swapperK n ie ke = k) (hf : Tryz.prog.funcs.findIdx? (·.name == "internal/reflectlite" ++ ".Swapper$" ++ toString k) = some f) (w : World) :
    (callFunc 64 #[.iface t (.slice q n c)]).run Tryz.prog w = .ok (.value (.func (.func f) #[] (if k ≤ 2 then #[] else #[.slice q n c, .pointer (some ⟨26, e, none⟩)]))) w := by
  have hs := Lib.run_swapper_slice (P := Tryz.prog) t e i ie (info_of hi) hd (info_of hie) ke hke q n c f (by rw [hk]; exact hf) w
  rw [run_callFunc_extern Tryz.func64 (by kernel_rfl) (by kernel_rfl) (by kernel_rfl) (e := Extern.ReflectliteSwapper.swapper "internal/reflectlite" (Extern.ReflectliteValue.valueError "Swapper")) (by kernel_rfl), hs]
  simp only [Result.andThen, handle_eq, hk]
theorem e_vlen {t e : TypeId} {i : TypeInfo} {g off n c : Nat} {q : Option Addr} {l : List Value} {el : TypeId} {fr : Nat × Nat} {ats : Array TypeId} (hx : x.P = Tryz.prog) (hi : ∀ w, (typeInfo t).run Tryz.prog w = .ok i w) (hd : i.desc = .slice e) (hpk : Tryz.prog.packed t = false)
    (hp : ev s p = some (.agg #[.pointer (some ⟨26, t, none⟩), .pointer (some ⟨g, off, none⟩), .int .u64 151])) (hm : (g, .cells l.toArray el fr) ∈ H ∨ (g, Obj.cells l.toArray el fr) ∈ x.G) (hv : l[off]? = some (.slice q n c)) :
    Ex x s H ⟨some d, .call { callee := .value (.func 65), args := #[p], argTypes := ats }, ty, pos, af, gd⟩ (.int .i64 n) := fun a w hs => by
  have hl := Lib.run_valueLen_slice (P := Tryz.prog) t e i (info_of hi) hd hpk ⟨g, off, none⟩ q n c w (by rw [cell_of (hs.mem hm)]; exact hv)
  rw [handle_eq] at hl
  have hc : (callFunc 65 #[.agg #[.pointer (some ⟨26, t, none⟩), .pointer (some ⟨g, off, none⟩), .int .u64 151]]).run Tryz.prog w = .ok (.value (.int .i64 n)) w := by
    rw [run_callFunc_extern Tryz.func65 (by kernel_rfl) (by kernel_rfl) (by kernel_rfl) (e := Extern.ReflectliteValue.method (Extern.ReflectliteValue.valueError "reflectlite.Value.Len" 0) Extern.ReflectliteValue.len) (by kernel_rfl), hl]
    rfl
  rw [hx]
  have he : a.eval (.func 65) = .func (.func 65) #[] #[] := rfl
  simp [execOp, resolve, he, Deferred.ofValue, invoke, hs.eval hp, hc]
/-- A value that holds these bytes. -/
inductive Bv (x : Cx) (H : HP) : Value → List UInt8 → Prop where
  | nil {n cap : Nat} : Bv x H (.slice none n cap) []
  | blk {bs : List UInt8} {g off n cap : Nat} {l : List Value} {e : TypeId} {fr : Nat × Nat} (hm : (g, .cells l.toArray e fr) ∈ H ∨ (g, Obj.cells l.toArray e fr) ∈ x.G) (hn : bs.length = n) (hc : CutL l off n (B bs)) : Bv x H (.slice (some ⟨g, off, none⟩) n cap) bs
theorem run_loadB {P : Program} {w : World} : ∀ (l : List UInt8) (a : Addr) (acc : ByteArray), (∀ j x, l[j]? = some x → w.cell? (a.add j) = some (.int .u8 x.toNat)) → (Extern.Bytes.loadBytes a l.length acc).run P w = .ok ⟨acc.data ++ l.toArray⟩ w
  | [], a, acc, _ => by simp [Extern.Bytes.loadBytes]
  | x :: l, a, acc, h => by
    have h0 : w.cell? a = some (.int .u8 x.toNat) := by
      have := h 0 x rfl
      simpa [Addr.add] using this
    have ih := run_loadB (P := P) l (a.add 1) (acc.push x) (fun j y hj => by
      have := h (j + 1) y (by simpa using hj)
      rwa [show (a.add 1).add j = a.add (j + 1) by simp [Addr.add_add, Nat.add_comm]])
    have hx : ((x.toNat : Int).toNat).toUInt8 = x := by simp
    simp only [List.length_cons, Extern.Bytes.loadBytes, Sem.run_bind, run_load, h0, Result.andThen, hx]
    rw [ih]
    congr 1
    apply ByteArray.ext
    simp [ByteArray.push]
theorem Bv.run {a : Act} {w : World} (hs : St x s H a w) {v : Value} {bs : List UInt8} (h : Bv x H v bs) : (Extern.Bytes.bytesOf v).run x.P w = .ok ⟨bs.toArray⟩ w := by
  cases h with
  | nil => rfl
  | @blk _ g off n cap l e fr hm hn hc =>
    subst hn
    have := run_loadB (P := x.P) (w := w) bs ⟨g, off, none⟩ .empty (fun j b hj => by
      rw [add_addr, cell_of (hs.mem hm)]
      have hlt := (List.getElem?_eq_some_iff.1 hj).1
      have := congrArg (fun z => z[j]?) hc.eq
      simp only [List.getElem?_take_of_lt hlt, List.getElem?_drop] at this
      rw [← this]
      simp [B, hj])
    simp only [Extern.Bytes.bytesOf, this]
    have he : ByteArray.empty.data = #[] := rfl
    rw [he]
    simp
theorem e_cmp {q : Operand} {u v : Value} {la lb : List UInt8} {ats : Array TypeId} (hx : x.P = Tryz.prog) (hp : ev s p = some v) (hq : ev s q = some u) (ha : Bv x H v la) (hb : Bv x H u lb) :
    Ex x s H ⟨some d, .call { callee := .value (.func 362), args := #[p, q], argTypes := ats }, ty, pos, af, gd⟩ (.int .i64 (Lib.compareBytes la lb)) := fun a w hs => by
  have h1 := ha.run hs
  have h2 := hb.run hs
  rw [hx] at h1 h2
  have hc : (callFunc 362 #[v, u]).run Tryz.prog w = .ok (.value (.int .i64 (Lib.compareBytes la lb))) w := by
    rw [run_callFunc_extern Tryz.func362 (by kernel_rfl) (by kernel_rfl) (by kernel_rfl) (e := Extern.BytealgCompare.compare) (by kernel_rfl)]
    have : (Extern.BytealgCompare.compare #[v, u]).run Tryz.prog w = .ok (.int .i64 (Lib.compareBytes la lb)) w := by
      change Sem.run Tryz.prog (do pure (goInt (Extern.BytealgCompare.cmp (← Extern.Bytes.bytesOf v) (← Extern.Bytes.bytesOf u)))) w = _
      simp only [Sem.run_bind, h1, h2, Result.andThen_ok, Sem.run_pure, Lib.cmp_eq, goInt]
    rw [this]
    rfl
  rw [hx]
  have he : a.eval (.func 362) = .func (.func 362) #[] #[] := rfl
  simp [execOp, resolve, he, Deferred.ofValue, invoke, hs.eval hp, hs.eval hq, hc]
theorem ext225 (v : Value) (w : World) : (callFunc 225 #[v]).run Tryz.prog w = .ok (.value v) w := by
  rw [run_callFunc_extern Tryz.func225 (by kernel_rfl) (by kernel_rfl) (by kernel_rfl) (e := Extern.AbiNoEscape.same) (by kernel_rfl), Lib.run_noEscape]
  rfl
end
end Go.Proofs
namespace Go.Proofs
open Go Go.Sl
structure En where
  v : Int
  c : Int
  h : Int
  d : List UInt8
  o : Int
def cE (x : En) : List Value := [.int .u64 x.v, .int .u64 x.c, .int .u64 x.h, S x.d, .int .u64 x.o]
def cC (x : En) : List Value := [.int .u64 x.v, .int .u64 x.c, .int .u64 x.h, S x.d]
/-- A slice value that holds these entries. -/
inductive EnS (H : HP) : Value → List En → Prop where
  | none {A : Option Addr} {cap : Nat} : EnS H (.slice A 0 cap) []
  | blk {l : List En} {L : List Value} {g off n cap : Nat} {e : TypeId} {fr : Nat × Nat} (hm : (g, Obj.cells L.toArray e fr) ∈ H) (hn : l.length = n) (hc : ∀ i (h : i < l.length), CutL L (off + i * 5) 5 (cE l[i])) : EnS H (.slice (some ⟨g, off, none⟩) n cap) l
end Go.Proofs
namespace Go.Proofs
open Go Go.Sl
set_option maxRecDepth 100000

theorem fits1 {G : HP} (x : En) : Ctr Tryz.prog 10 [.agg (cC x).toArray] G [] (fun r _ => ∃ b, r = .bool b) := by
  obtain ⟨v, c, h, d, o⟩ := x
  simp only [cC]
  refine fn_enter 7 Tryz.func10 rfl Tryz.ntmps10 rfl ?_
  intro w0
  refine c_seq ?_
  refine c_region ?_
  refine o_l rfl (l_box rfl rfl rfl) ?_; intro g1 _
  refine o_e rfl rfl rfl (e_assign rfl) ?_
  refine o_nil ?_
  refine n_code ?_
  refine c_seq ?_
  refine c_seq ?_
  refine c_region ?_
  refine o_e rfl rfl rfl (e_fa Tryz.runUnderlying25 rfl Tryz.sizeOf9 rfl rfl) ?_
  refine o_e rfl rfl rfl (e_load Tryz.isAgg9 rfl (by first | exact .inr (by assumption) | exact .inl (by repeat (first | exact List.Mem.head _ | refine List.Mem.tail _ ?_))) (by first | rfl | assumption)) ?_
  refine o_e rfl rfl rfl (e_lens Tryz.runUnderlying9 rfl) ?_
  refine o_e rfl rfl rfl (e_gtr rfl rfl) ?_
  refine o_nil ?_
  refine n_code ?_
  refine c_ifp rfl (fun h => ?_) (fun h => ?_)
  · refine c_seq ?_
    refine c_region ?_
    refine o_e rfl rfl rfl (e_assign rfl) ?_
    refine o_nil ?_
    refine n_code ?_
    refine c_ret ?_
    refine r_fn1 Tryz.results10 rfl ?_
    exact ⟨_, rfl⟩
  · skip
    refine c_skip ?_
    refine n_code ?_
    refine c_seq ?_
    refine c_region ?_
    refine o_e rfl rfl rfl (e_assign rfl) ?_
    refine o_nil ?_
    refine n_code ?_
    refine c_ret ?_
    refine r_fn1 Tryz.results10 rfl ?_
    exact ⟨_, rfl⟩
theorem fits8 {G : HP} (x : En) : Ctr Tryz.prog 33 [.agg (cE x).toArray] G [] (fun r _ => ∃ b, r = .bool b) := by
  have h1 := fits1 (G := G) x
  obtain ⟨v, c, h, d, o⟩ := x
  simp only [cE, cC] at h1 ⊢
  refine fn_enter 7 Tryz.func33 rfl Tryz.ntmps33 rfl ?_
  intro w0
  refine c_seq ?_
  refine c_region ?_
  refine o_l rfl (l_box rfl rfl rfl) ?_; intro g1 _
  refine o_e rfl rfl rfl (e_assign rfl) ?_
  refine o_nil ?_
  refine n_code ?_
  refine c_seq ?_
  refine c_seq ?_
  refine c_region ?_
  refine o_e rfl rfl rfl (e_fa Tryz.runUnderlying56 rfl Tryz.sizeOf25 rfl rfl) ?_
  refine o_e rfl rfl rfl (e_loada Tryz.isAgg25 Tryz.sizeOf25 rfl (by first | exact .inr (by assumption) | exact .inl (by repeat (first | exact List.Mem.head _ | refine List.Mem.tail _ ?_))) (by first | assumption | repeat constructor)) ?_
  refine o_l rfl (l_call Tryz.call10 (h1) rfl rfl (by repeat (first | exact Sel.nil | (refine Sel.cons (by repeat (first | exact Rem.head | refine Rem.tail ?_)) ?_)))) ?_
  rintro ⟨r, H'⟩ ⟨b, rfl⟩
  refine o_e rfl rfl rfl (e_not rfl) ?_
  refine o_nil ?_
  refine n_code ?_
  refine c_if rfl (fun hb => ?_) (fun hb => ?_)
  · refine c_seq ?_
    refine c_region ?_
    refine o_e rfl rfl rfl (e_assign rfl) ?_
    refine o_nil ?_
    refine n_code ?_
    refine c_ret ?_
    refine r_fn1 Tryz.results33 rfl ?_
    exact ⟨_, rfl⟩
  · skip
    refine c_skip ?_
    refine n_code ?_
    refine c_seq ?_
    refine c_region ?_
    refine o_e rfl rfl rfl (e_assign rfl) ?_
    refine o_nil ?_
    refine n_code ?_
    refine c_ret ?_
    refine r_fn1 Tryz.results33 rfl ?_
    exact ⟨_, rfl⟩
theorem fits7 {G : HP} {v : Value} {l : List En} (h : EnS G v l) (hl : l.length < 9223372036854775808) : Ctr Tryz.prog 9 [v] G [] (fun r _ => ∃ b, r = .bool b) := by
  cases h with
  | none =>
    refine fn_enter 18 Tryz.func9 rfl Tryz.ntmps9 rfl ?_
    intro w0
    refine c_seq ?_
    refine c_region ?_
    refine o_e rfl rfl rfl (e_assign rfl) ?_
    refine o_nil ?_
    refine n_code ?_
    refine c_seq ?_
    refine c_seq ?_
    refine c_region ?_
    refine o_e rfl rfl rfl (e_move rfl) ?_
    refine o_e rfl rfl rfl (e_lenl Tryz.runUnderlying22 rfl) ?_
    refine o_e rfl rfl rfl (e_gtr rfl rfl) ?_
    refine o_nil ?_
    refine n_code ?_
    refine c_else rfl ?_
    refine c_skip ?_
    refine n_code ?_
    refine c_seq ?_
    refine c_seq ?_
    refine c_region ?_
    refine o_e rfl rfl rfl (e_move rfl) ?_
    refine o_e rfl rfl rfl (e_lenl Tryz.runUnderlying22 rfl) ?_
    refine o_e rfl rfl rfl (e_move rfl) ?_
    refine o_nil ?_
    refine n_code ?_
    refine c_block ?_
    refine c_rounds 1 ?_
    refine c_seq ?_
    refine c_region ?_
    refine o_e rfl rfl rfl (e_lss rfl rfl) ?_
    refine o_nil ?_
    refine n_code ?_
    refine c_seq ?_
    refine c_else rfl ?_
    refine c_exit ?_; refine x_code ?_; refine x_upto ?_; refine x_here ?_
    refine n_code ?_
    refine c_seq ?_
    refine c_region ?_
    refine o_e rfl rfl rfl (e_assign rfl) ?_
    refine o_nil ?_
    refine n_code ?_
    refine c_ret ?_
    refine r_fn1 Tryz.results9 rfl ?_
    exact ⟨_, rfl⟩
  | @blk l L g off n cap e fr hm hn hc =>
    refine fn_enter 18 Tryz.func9 rfl Tryz.ntmps9 rfl ?_
    intro w0
    refine c_seq ?_
    refine c_region ?_
    refine o_e rfl rfl rfl (e_assign rfl) ?_
    refine o_nil ?_
    refine n_code ?_
    refine c_seq ?_
    refine c_seq ?_
    refine c_region ?_
    refine o_e rfl rfl rfl (e_move rfl) ?_
    refine o_e rfl rfl rfl (e_lenl Tryz.runUnderlying22 rfl) ?_
    refine o_e rfl rfl rfl (e_gtr rfl rfl) ?_
    refine o_nil ?_
    refine n_code ?_
    refine c_ifp rfl (fun h1 => ?_) (fun h1 => ?_)
    · refine c_seq ?_
      refine c_region ?_
      refine o_e rfl rfl rfl (e_assign rfl) ?_
      refine o_nil ?_
      refine n_code ?_
      refine c_ret ?_
      refine r_fn1 Tryz.results9 rfl ?_
      exact ⟨_, rfl⟩
    · skip
      refine c_skip ?_
      refine n_code ?_
      refine c_seq ?_
      refine c_seq ?_
      refine c_region ?_
      refine o_e rfl rfl rfl (e_move rfl) ?_
      refine o_e rfl rfl rfl (e_lenl Tryz.runUnderlying22 rfl) ?_
      refine o_e rfl rfl rfl (e_move rfl) ?_
      refine o_nil ?_
      refine n_code ?_
      refine c_block ?_
      refine c_loop (X := Nat) (fun i => [(8, .slice (some ⟨g, off, none⟩) n cap), (9, .int .i64 n), (10, .int .i64 i)]) (fun _ => []) (fun i => i ≤ n) (fun i => n - i) 0 (Nat.zero_le _) (sub_cons rfl (sub_cons rfl (sub_cons rfl sub_nil))) (.refl _) ?_
      intro i hi
      refine c_seq ?_
      refine c_region ?_
      refine o_e rfl rfl rfl (e_lss rfl rfl) ?_
      refine o_nil ?_
      refine n_code ?_
      refine c_seq ?_
      refine c_ifp rfl (fun h2 => ?_) (fun h2 => ?_)
      · have hi2 : i < l.length := by omega
        have hci := hc i hi2
        generalize l[i] = x at hci
        have h8 := fits8 (G := G) x
        obtain ⟨xv, xc, xh, xd, xo⟩ := x
        simp only [cE] at hci h8
        refine c_skip ?_
        refine n_code ?_
        refine c_seq ?_
        refine c_block ?_
        refine c_seq ?_
        refine c_region ?_
        first | refine o_e rfl rfl rfl (e_ian Tryz.runUnderlying22 Tryz.sizeOf56 rfl rfl (by omega)) ?_ | refine o_e rfl rfl rfl (e_ia Tryz.runUnderlying22 Tryz.sizeOf56 rfl rfl (by omega) (by omega)) ?_
        refine o_e rfl rfl rfl (e_loada Tryz.isAgg56 Tryz.sizeOf56 rfl (.inr hm) hci) ?_
        refine o_l rfl (l_alloc Tryz.zeroValue56 rfl rfl) ?_; intro g4 _
        refine o_l rfl (l_storea Tryz.sizeOf56 rfl rfl rfl (by simp [Value.oneCell']) .head (.take (.take (.take (.take (.take .done))))) nofrs0) ?_
        intro _ _
        refine o_nil ?_
        refine n_code ?_
        refine c_seq ?_
        refine c_region ?_
        refine o_e rfl rfl rfl (e_loada Tryz.isAgg56 Tryz.sizeOf56 rfl (by first | exact .inr (by assumption) | exact .inl (by repeat (first | exact List.Mem.head _ | refine List.Mem.tail _ ?_))) (by first | assumption | repeat constructor)) ?_
        refine o_l rfl (l_call Tryz.call33 (h8) rfl rfl (by repeat (first | exact Sel.nil | (refine Sel.cons (by repeat (first | exact Rem.head | refine Rem.tail ?_)) ?_)))) ?_
        rintro ⟨r, H'⟩ ⟨b, rfl⟩
        refine o_e rfl rfl rfl (e_not rfl) ?_
        refine o_nil ?_
        refine n_code ?_
        refine c_if rfl (fun hb => ?_) (fun hb => ?_)
        · refine c_seq ?_
          refine c_region ?_
          refine o_e rfl rfl rfl (e_assign rfl) ?_
          refine o_nil ?_
          refine n_code ?_
          refine c_ret ?_
          refine r_fn1 Tryz.results9 rfl ?_
          exact ⟨_, rfl⟩
        · skip
          refine c_skip ?_
          refine n_block ?_
          refine n_code ?_
          refine c_region ?_
          first | refine o_e rfl rfl rfl (e_addN rfl rfl (by omega)) ?_ | refine o_e rfl rfl rfl (e_addn rfl rfl (by simp only [inR]; omega)) ?_ | refine o_e rfl rfl rfl (e_add rfl rfl) ?_
          refine o_e rfl rfl rfl (e_move rfl) ?_
          refine o_nil ?_
          refine n_round' (i + 1) (by omega) (by omega) (sub_cons rfl (sub_cons rfl (sub_cons rfl sub_nil))) _ (.refl _) (List.nil_sublist _)
      · skip
        refine c_exit ?_; refine x_code ?_; refine x_upto ?_; refine x_here ?_
        refine n_code ?_
        refine c_seq ?_
        refine c_region ?_
        refine o_e rfl rfl rfl (e_assign rfl) ?_
        refine o_nil ?_
        refine n_code ?_
        refine c_ret ?_
        refine r_fn1 Tryz.results9 rfl ?_
        exact ⟨_, rfl⟩
end Go.Proofs
namespace Go.Proofs
open Go Go.Sl
set_option maxRecDepth 100000

def Tidy (x : En) : Prop := (x.v = 0 ∧ x.c = 112 ∧ x.h = 18 ∧ x.d.length = 32) ∨ (x.v = 1 ∧ x.c < 9223372036854775808 ∧ x.h < 9223372036854775808)
instance (x : En) : Decidable (Tidy x) := by unfold Tidy; infer_instance
theorem tidy_is {G : HP} (x : En) : Ctr Tryz.prog 12 [.agg (cC x).toArray] G [] (fun r _ => r = .bool (decide (Tidy x))) := by
  obtain ⟨v, c, h, d, o⟩ := x
  simp only [cC]
  refine fn_enter 33 Tryz.func12 rfl Tryz.ntmps12 rfl ?_
  intro w0
  refine c_seq ?_
  refine c_region ?_
  refine o_l rfl (l_box rfl rfl rfl) ?_; intro g1 _
  refine o_e rfl rfl rfl (e_assign rfl) ?_
  refine o_nil ?_
  refine n_code ?_
  refine c_seq ?_
  refine c_seq ?_
  refine c_region ?_
  refine o_e rfl rfl rfl (e_fa Tryz.runUnderlying25 rfl Tryz.sizeOf23 rfl rfl) ?_
  refine o_e rfl rfl rfl (e_load Tryz.isAgg23 rfl (by first | exact .inr (by assumption) | exact .inl (by repeat (first | exact List.Mem.head _ | refine List.Mem.tail _ ?_))) (by first | rfl | assumption)) ?_
  refine o_e rfl rfl rfl (e_eql rfl rfl) ?_
  refine o_nil ?_
  refine n_code ?_
  refine c_ifp rfl (fun h1 => ?_) (fun h1 => ?_)
  · refine c_seq ?_
    refine c_region ?_
    refine o_e rfl rfl rfl (e_fa Tryz.runUnderlying25 rfl Tryz.sizeOf23 rfl rfl) ?_
    refine o_e rfl rfl rfl (e_load Tryz.isAgg23 rfl (by first | exact .inr (by assumption) | exact .inl (by repeat (first | exact List.Mem.head _ | refine List.Mem.tail _ ?_))) (by first | rfl | assumption)) ?_
    refine o_e rfl rfl rfl (e_eql rfl rfl) ?_
    refine o_e rfl rfl rfl (e_move rfl) ?_
    refine o_splitp 9 rfl (fun h2 => ?_) (fun h2 => ?_)
    · refine o_e rfl rfl rfl (e_fa Tryz.runUnderlying25 rfl Tryz.sizeOf23 rfl rfl) ?_
      refine o_e rfl rfl rfl (e_load Tryz.isAgg23 rfl (by first | exact .inr (by assumption) | exact .inl (by repeat (first | exact List.Mem.head _ | refine List.Mem.tail _ ?_))) (by first | rfl | assumption)) ?_
      refine o_e rfl rfl rfl (e_eql rfl rfl) ?_
      refine o_e rfl rfl rfl (e_pick_t rfl rfl) ?_
      refine o_e rfl rfl rfl (e_move rfl) ?_
      refine o_splitp 14 rfl (fun h3 => ?_) (fun h3 => ?_)
      · refine o_e rfl rfl rfl (e_fa Tryz.runUnderlying25 rfl Tryz.sizeOf9 rfl rfl) ?_
        refine o_e rfl rfl rfl (e_load Tryz.isAgg9 rfl (by first | exact .inr (by assumption) | exact .inl (by repeat (first | exact List.Mem.head _ | refine List.Mem.tail _ ?_))) (by first | rfl | assumption)) ?_
        refine o_e rfl rfl rfl (e_lens Tryz.runUnderlying9 rfl) ?_
        refine o_e rfl rfl rfl (e_eql rfl rfl) ?_
        refine o_e rfl rfl rfl (e_pick_t rfl rfl) ?_
        refine o_e rfl rfl rfl (e_assign rfl) ?_
        refine o_nil ?_
        refine n_code ?_
        refine c_ret ?_
        refine r_fn1 Tryz.results12 rfl ?_
        refine congrArg Value.bool ?_
        have : ((d.length : Int) = 32) ↔ d.length = 32 := by omega
        simp [Tidy, h1, h2, h3, this]
      · skip
        refine o_skip rfl rfl rfl ?_
        refine o_skip rfl rfl rfl ?_
        refine o_skip rfl rfl rfl ?_
        refine o_skip rfl rfl rfl ?_
        refine o_e rfl rfl rfl (e_pick_f rfl rfl) ?_
        refine o_e rfl rfl rfl (e_assign rfl) ?_
        refine o_nil ?_
        refine n_code ?_
        refine c_ret ?_
        refine r_fn1 Tryz.results12 rfl ?_
        simp [Tidy, h1, h2, h3]
    · skip
      refine o_skip rfl rfl rfl ?_
      refine o_skip rfl rfl rfl ?_
      refine o_skip rfl rfl rfl ?_
      refine o_e rfl rfl rfl (e_pick_f rfl rfl) ?_
      refine o_e rfl rfl rfl (e_move rfl) ?_
      refine o_skip rfl rfl rfl ?_
      refine o_skip rfl rfl rfl ?_
      refine o_skip rfl rfl rfl ?_
      refine o_skip rfl rfl rfl ?_
      refine o_e rfl rfl rfl (e_pick_f rfl rfl) ?_
      refine o_e rfl rfl rfl (e_assign rfl) ?_
      refine o_nil ?_
      refine n_code ?_
      refine c_ret ?_
      refine r_fn1 Tryz.results12 rfl ?_
      simp [Tidy, h1, h2]
  · skip
    refine c_skip ?_
    refine n_code ?_
    refine c_seq ?_
    refine c_region ?_
    refine o_e rfl rfl rfl (e_fa Tryz.runUnderlying25 rfl Tryz.sizeOf23 rfl rfl) ?_
    refine o_e rfl rfl rfl (e_load Tryz.isAgg23 rfl (by first | exact .inr (by assumption) | exact .inl (by repeat (first | exact List.Mem.head _ | refine List.Mem.tail _ ?_))) (by first | rfl | assumption)) ?_
    refine o_e rfl rfl rfl (e_eql rfl rfl) ?_
    refine o_e rfl rfl rfl (e_move rfl) ?_
    refine o_splitp 23 rfl (fun h2 => ?_) (fun h2 => ?_)
    · refine o_e rfl rfl rfl (e_fa Tryz.runUnderlying25 rfl Tryz.sizeOf23 rfl rfl) ?_
      refine o_e rfl rfl rfl (e_load Tryz.isAgg23 rfl (by first | exact .inr (by assumption) | exact .inl (by repeat (first | exact List.Mem.head _ | refine List.Mem.tail _ ?_))) (by first | rfl | assumption)) ?_
      refine o_e rfl rfl rfl (e_lss rfl rfl) ?_
      refine o_e rfl rfl rfl (e_pick_t rfl rfl) ?_
      refine o_e rfl rfl rfl (e_move rfl) ?_
      refine o_splitp 28 rfl (fun h3 => ?_) (fun h3 => ?_)
      · refine o_e rfl rfl rfl (e_fa Tryz.runUnderlying25 rfl Tryz.sizeOf23 rfl rfl) ?_
        refine o_e rfl rfl rfl (e_load Tryz.isAgg23 rfl (by first | exact .inr (by assumption) | exact .inl (by repeat (first | exact List.Mem.head _ | refine List.Mem.tail _ ?_))) (by first | rfl | assumption)) ?_
        refine o_e rfl rfl rfl (e_lss rfl rfl) ?_
        refine o_e rfl rfl rfl (e_pick_t rfl rfl) ?_
        refine o_e rfl rfl rfl (e_assign rfl) ?_
        refine o_nil ?_
        refine n_code ?_
        refine c_ret ?_
        refine r_fn1 Tryz.results12 rfl ?_
        refine congrArg Value.bool ?_
        simp [Tidy, h2, h3]
      · skip
        refine o_skip rfl rfl rfl ?_
        refine o_skip rfl rfl rfl ?_
        refine o_skip rfl rfl rfl ?_
        refine o_e rfl rfl rfl (e_pick_f rfl rfl) ?_
        refine o_e rfl rfl rfl (e_assign rfl) ?_
        refine o_nil ?_
        refine n_code ?_
        refine c_ret ?_
        refine r_fn1 Tryz.results12 rfl ?_
        simp [Tidy, h1, h3]
    · skip
      refine o_skip rfl rfl rfl ?_
      refine o_skip rfl rfl rfl ?_
      refine o_skip rfl rfl rfl ?_
      refine o_e rfl rfl rfl (e_pick_f rfl rfl) ?_
      refine o_e rfl rfl rfl (e_move rfl) ?_
      refine o_skip rfl rfl rfl ?_
      refine o_skip rfl rfl rfl ?_
      refine o_skip rfl rfl rfl ?_
      refine o_e rfl rfl rfl (e_pick_f rfl rfl) ?_
      refine o_e rfl rfl rfl (e_assign rfl) ?_
      refine o_nil ?_
      refine n_code ?_
      refine c_ret ?_
      refine r_fn1 Tryz.results12 rfl ?_
      simp [Tidy, h1, h2]
end Go.Proofs
namespace Go.Proofs
open Go Go.Sl
set_option maxRecDepth 100000

def Good (l : List En) (kind : Int) : Prop := l.length ≤ 100 ∧ (kind = 1024 ∨ kind = 1025) ∧ ∀ x ∈ l, x.d.length ≤ 200 ∧ Tidy x
theorem good_is {G : HP} {v : Value} {l : List En} {kind : Int} (h : EnS G v l) (hl : l.length < 9223372036854775808) : Ctr Tryz.prog 11 [v, .int .u64 kind] G [] (fun r _ => ∃ b, r = .bool b ∧ (b = true → Good l kind)) := by
  have hv : ∃ A n cap, v = .slice A n cap ∧ l.length = n := by
    cases h with
    | none => exact ⟨_, _, _, rfl, rfl⟩
    | blk hm hn hc => exact ⟨_, _, _, rfl, hn⟩
  obtain ⟨A, n, cap, rfl, hn0⟩ := hv
  refine fn_enter 36 Tryz.func11 rfl Tryz.ntmps11 rfl ?_
  intro w0
  refine c_seq ?_
  refine c_region ?_
  refine o_e rfl rfl rfl (e_assign rfl) ?_
  refine o_nil ?_
  refine n_code ?_
  refine c_seq ?_
  refine c_cut (X := Unit) (fun _ => [(0, .slice A n cap)]) (fun _ => []) (fun _ => l.length ≤ 100 ∧ (kind = 1024 ∨ kind = 1025)) ?_ ?_
  · skip
    refine c_seq ?_
    refine c_region ?_
    refine o_e rfl rfl rfl (e_move rfl) ?_
    refine o_e rfl rfl rfl (e_lenl Tryz.runUnderlying22 rfl) ?_
    refine o_e rfl rfl rfl (e_gtr rfl rfl) ?_
    refine o_e rfl rfl rfl (e_move rfl) ?_
    refine o_splitp 10 rfl (fun h1 => ?_) (fun h1 => ?_)
    · refine o_skip rfl rfl rfl ?_
      refine o_skip rfl rfl rfl ?_
      refine o_skip rfl rfl rfl ?_
      refine o_skip rfl rfl rfl ?_
      refine o_skip rfl rfl rfl ?_
      refine o_skip rfl rfl rfl ?_
      refine o_e rfl rfl rfl (e_pick_t rfl rfl) ?_
      refine o_nil ?_
      refine n_code ?_
      refine c_then rfl ?_
      refine c_seq ?_
      refine c_region ?_
      refine o_e rfl rfl rfl (e_assign rfl) ?_
      refine o_nil ?_
      refine n_code ?_
      refine c_ret ?_
      refine r_fn1 Tryz.results11 rfl ?_
      exact ⟨_, rfl, by simp⟩
    · skip
      refine o_e rfl rfl rfl (e_move rfl) ?_
      refine o_e rfl rfl rfl (e_neq rfl rfl) ?_
      refine o_e rfl rfl rfl (e_move rfl) ?_
      refine o_splitp 13 rfl (fun h2 => ?_) (fun h2 => ?_)
      · refine o_e rfl rfl rfl (e_move rfl) ?_
        refine o_e rfl rfl rfl (e_neq rfl rfl) ?_
        refine o_e rfl rfl rfl (e_pick_t rfl rfl) ?_
        refine o_e rfl rfl rfl (e_pick_f rfl rfl) ?_
        refine o_nil ?_
        refine n_code ?_
        refine c_ifp rfl (fun h3 => ?_) (fun h3 => ?_)
        · refine c_seq ?_
          refine c_region ?_
          refine o_e rfl rfl rfl (e_assign rfl) ?_
          refine o_nil ?_
          refine n_code ?_
          refine c_ret ?_
          refine r_fn1 Tryz.results11 rfl ?_
          exact ⟨_, rfl, by simp⟩
        · skip
          refine c_skip ?_
          exact n_cut () ⟨by omega, by omega⟩ (sub_cons rfl sub_nil) (.refl _)
      · skip
        refine o_skip rfl rfl rfl ?_
        refine o_skip rfl rfl rfl ?_
        refine o_e rfl rfl rfl (e_pick_f rfl rfl) ?_
        refine o_e rfl rfl rfl (e_pick_f rfl rfl) ?_
        refine o_nil ?_
        refine n_code ?_
        refine c_else rfl ?_
        refine c_skip ?_
        exact n_cut () ⟨by omega, by omega⟩ (sub_cons rfl sub_nil) (.refl _)
  · rintro ⟨⟩ ⟨hl1, hk⟩
    refine n_code ?_
    refine c_seq ?_
    refine c_seq ?_
    refine c_region ?_
    refine o_e rfl rfl rfl (e_move rfl) ?_
    refine o_e rfl rfl rfl (e_lenl Tryz.runUnderlying22 rfl) ?_
    refine o_e rfl rfl rfl (e_move rfl) ?_
    refine o_nil ?_
    refine n_code ?_
    refine c_block ?_
    cases h with
    | none =>
      refine c_rounds 1 ?_
      refine c_seq ?_
      refine c_region ?_
      refine o_e rfl rfl rfl (e_lss rfl rfl) ?_
      refine o_nil ?_
      refine n_code ?_
      refine c_seq ?_
      refine c_else rfl ?_
      refine c_exit ?_; refine x_code ?_; refine x_upto ?_; refine x_here ?_
      refine n_code ?_
      refine c_seq ?_
      refine c_region ?_
      refine o_e rfl rfl rfl (e_assign rfl) ?_
      refine o_nil ?_
      refine n_code ?_
      refine c_ret ?_
      refine r_fn1 Tryz.results11 rfl ?_
      exact ⟨_, rfl, fun _ => ⟨by simp, by omega, by simp⟩⟩
    | @blk l L g off n cap e fr hm hn hc =>
      refine c_loop (X := Nat) (fun i => [(18, .slice (some ⟨g, off, none⟩) n cap), (19, .int .i64 n), (20, .int .i64 i)]) (fun _ => []) (fun i => i ≤ n ∧ ∀ j (h : j < l.length), j < i → l[j].d.length ≤ 200 ∧ Tidy l[j]) (fun i => n - i) 0 ⟨Nat.zero_le _, fun _ _ h => absurd h (Nat.not_lt_zero _)⟩ (sub_cons rfl (sub_cons rfl (sub_cons rfl sub_nil))) (.refl _) ?_
      rintro i ⟨hi, hok⟩
      refine c_seq ?_
      refine c_region ?_
      refine o_e rfl rfl rfl (e_lss rfl rfl) ?_
      refine o_nil ?_
      refine n_code ?_
      refine c_seq ?_
      refine c_ifp rfl (fun h2 => ?_) (fun h2 => ?_)
      · have hi2 : i < l.length := by omega
        have hci := hc i hi2
        have hnext : ∀ x, l[i] = x → x.d.length ≤ 200 → Tidy x → ∀ j (h : j < l.length), j < i + 1 → l[j].d.length ≤ 200 ∧ Tidy l[j] := by
          intro x hx a1 a2 j hj hji
          by_cases e : j = i
          · subst e; rw [hx]; exact ⟨a1, a2⟩
          · exact hok j hj (by omega)
        generalize l[i] = x at hci hnext
        have ht := tidy_is (G := G) x
        have hnext := hnext x rfl
        obtain ⟨xv, xc, xh, xd, xo⟩ := x
        simp only [cE, cC] at hci ht hnext
        refine c_skip ?_
        refine n_code ?_
        refine c_seq ?_
        refine c_block ?_
        refine c_seq ?_
        refine c_region ?_
        first | refine o_e rfl rfl rfl (e_ian Tryz.runUnderlying22 Tryz.sizeOf56 rfl rfl (by omega)) ?_ | refine o_e rfl rfl rfl (e_ia Tryz.runUnderlying22 Tryz.sizeOf56 rfl rfl (by omega) (by omega)) ?_
        refine o_e rfl rfl rfl (e_loada Tryz.isAgg56 Tryz.sizeOf56 rfl (.inr hm) hci) ?_
        refine o_l rfl (l_alloc Tryz.zeroValue56 rfl rfl) ?_; intro g6 _
        refine o_l rfl (l_storea Tryz.sizeOf56 rfl rfl rfl (by simp [Value.oneCell']) .head (.take (.take (.take (.take (.take .done))))) nofrs0) ?_
        intro _ _
        refine o_nil ?_
        refine n_code ?_
        refine c_seq ?_
        refine c_region ?_
        refine o_e rfl rfl rfl (e_fa Tryz.runUnderlying56 rfl Tryz.sizeOf25 rfl rfl) ?_
        refine o_e rfl rfl rfl (e_fa Tryz.runUnderlying25 rfl Tryz.sizeOf9 rfl rfl) ?_
        refine o_e rfl rfl rfl (e_load Tryz.isAgg9 rfl (by first | exact .inr (by assumption) | exact .inl (by repeat (first | exact List.Mem.head _ | refine List.Mem.tail _ ?_))) (by first | rfl | assumption)) ?_
        refine o_e rfl rfl rfl (e_lens Tryz.runUnderlying9 rfl) ?_
        refine o_e rfl rfl rfl (e_gtr rfl rfl) ?_
        refine o_e rfl rfl rfl (e_move rfl) ?_
        refine o_splitp 29 rfl (fun h3 => ?_) (fun h3 => ?_)
        · refine o_skip rfl rfl rfl ?_
          refine o_skip rfl rfl rfl ?_
          refine o_skip rfl rfl rfl ?_
          refine o_skip rfl rfl rfl ?_
          refine o_e rfl rfl rfl (e_pick_t rfl rfl) ?_
          refine o_nil ?_
          refine n_code ?_
          refine c_then rfl ?_
          refine c_seq ?_
          refine c_region ?_
          refine o_e rfl rfl rfl (e_assign rfl) ?_
          refine o_nil ?_
          refine n_code ?_
          refine c_ret ?_
          refine r_fn1 Tryz.results11 rfl ?_
          exact ⟨_, rfl, by simp⟩
        · skip
          refine o_e rfl rfl rfl (e_fa Tryz.runUnderlying56 rfl Tryz.sizeOf25 rfl rfl) ?_
          refine o_e rfl rfl rfl (e_loada Tryz.isAgg25 Tryz.sizeOf25 rfl (by first | exact .inr (by assumption) | exact .inl (by repeat (first | exact List.Mem.head _ | refine List.Mem.tail _ ?_))) (by first | assumption | repeat constructor)) ?_
          refine o_l rfl (l_call Tryz.call12 (ht) rfl rfl (by repeat (first | exact Sel.nil | (refine Sel.cons (by repeat (first | exact Rem.head | refine Rem.tail ?_)) ?_)))) ?_
          rintro ⟨r, H'⟩ rfl
          refine o_e rfl rfl rfl (e_not rfl) ?_
          refine o_e rfl rfl rfl (e_pick_f rfl rfl) ?_
          refine o_nil ?_
          refine n_code ?_
          refine c_if rfl (fun h4 => ?_) (fun h4 => ?_)
          · refine c_seq ?_
            refine c_region ?_
            refine o_e rfl rfl rfl (e_assign rfl) ?_
            refine o_nil ?_
            refine n_code ?_
            refine c_ret ?_
            refine r_fn1 Tryz.results11 rfl ?_
            exact ⟨_, rfl, by simp⟩
          · skip
            refine c_skip ?_
            refine n_block ?_
            refine n_code ?_
            refine c_region ?_
            first | refine o_e rfl rfl rfl (e_addN rfl rfl (by omega)) ?_ | refine o_e rfl rfl rfl (e_addn rfl rfl (by simp only [inR]; omega)) ?_ | refine o_e rfl rfl rfl (e_add rfl rfl) ?_
            refine o_e rfl rfl rfl (e_move rfl) ?_
            refine o_nil ?_
            refine n_round' (i + 1) (by omega) ⟨by omega, hnext (by omega) (by simpa using h4)⟩ (sub_cons rfl (sub_cons rfl (sub_cons rfl sub_nil))) _ (.refl _) (List.nil_sublist _)
      · skip
        refine c_exit ?_; refine x_code ?_; refine x_upto ?_; refine x_here ?_
        refine n_code ?_
        refine c_seq ?_
        refine c_region ?_
        refine o_e rfl rfl rfl (e_assign rfl) ?_
        refine o_nil ?_
        refine n_code ?_
        refine c_ret ?_
        refine r_fn1 Tryz.results11 rfl ?_
        refine ⟨_, rfl, fun _ => ⟨hl1, hk, fun x hx => ?_⟩⟩
        obtain ⟨j, hj, rfl⟩ := List.getElem_of_mem hx
        exact hok j hj (by omega)
end Go.Proofs
namespace Go.Proofs
open Go Go.Sl
set_option maxRecDepth 100000

def lowb (n : Int) (i : Nat) : UInt8 := UInt8.ofNat (n / 2 ^ (8 * i) % 256).toNat
def lowB (n : Int) (k : Nat) : List UInt8 := (List.range k).map (lowb n)
theorem lowB_succ (n : Int) (k : Nat) : lowB n (k + 1) = lowB n k ++ [lowb n k] := by simp [lowB, List.range_succ]
theorem lowB_length (n : Int) (k : Nat) : (lowB n k).length = k := by simp [lowB]
theorem low_eq (n : Int) (i : Nat) (hi : i < 8) : IntKind.u8.wrap (n.fdiv (2 ^ (min (8 * (i : Int)).toNat 64))) = ((lowb n i).toNat : Int) := by
  have h1 : min (8 * (i : Int)).toNat 64 = 8 * i := by omega
  rw [h1, Int.fdiv_eq_ediv_of_nonneg _ (Int.le_of_lt (Int.pow_pos (by decide)))]
  unfold lowb
  have h2 : IntKind.u8.wrap (n / 2 ^ (8 * i)) = (n / 2 ^ (8 * i)) % 256 := by
    generalize n / 2 ^ (8 * i) = z
    simp [IntKind.wrap, IntKind.bits, IntKind.signed]
  rw [h2]
  have h3 : 0 ≤ n / 2 ^ (8 * i) % 256 := Int.emod_nonneg _ (by decide)
  have h4 : n / 2 ^ (8 * i) % 256 < 256 := Int.emod_lt_of_pos _ (by decide)
  generalize n / 2 ^ (8 * i) % 256 = z at *
  obtain ⟨z, rfl⟩ := Int.eq_ofNat_of_zero_le h3
  simp
  omega
theorem low_is {G HB : HP} {v : Value} {m : Nat} {xs : List Value} {n : Int} {k : Nat} (h : Osl 5 1 v m xs HB) (hk : k ≤ 8) (hm : m ≤ 1000000000) :
    Ctr Tryz.prog 73 [v, .int .u64 n, .int .i64 k] G HB (fun r H' => Osl 5 1 r (m + k) (xs ++ B (lowB n k)) H') := by
  refine fn_enter 23 Tryz.func73 rfl Tryz.ntmps73 rfl ?_
  intro w0
  refine c_seq ?_
  refine c_region ?_
  refine o_e rfl rfl rfl (e_assign rfl) ?_
  refine o_nil ?_
  refine n_code ?_
  refine c_seq ?_
  refine c_seq ?_
  refine c_region ?_
  refine o_e rfl rfl rfl (e_assign rfl) ?_
  refine o_nil ?_
  refine n_code ?_
  refine c_block ?_
  refine c_loop (X := Nat × Value × HP) (fun y => [(0, y.2.1), (1, .int .u64 n), (2, .int .i64 k), (7, .int .i64 y.1)]) (fun y => y.2.2) (fun y => y.1 ≤ k ∧ Osl 5 1 y.2.1 (m + y.1) (xs ++ B (lowB n y.1)) y.2.2) (fun y => k - y.1) (0, v, HB) ⟨Nat.zero_le _, by simpa [lowB, B] using h⟩ (sub_cons rfl (sub_cons rfl (sub_cons rfl (sub_cons rfl sub_nil)))) (.refl _) ?_
  rintro ⟨i, v', HB'⟩ ⟨hi, ho⟩
  simp only at hi ho ⊢
  refine c_seq ?_
  refine c_seq ?_
  refine c_region ?_
  refine o_e rfl rfl rfl (e_move rfl) ?_
  refine o_e rfl rfl rfl (e_move rfl) ?_
  refine o_e rfl rfl rfl (e_lss rfl rfl) ?_
  refine o_nil ?_
  refine n_code ?_
  refine c_ifp rfl (fun h1 => ?_) (fun h1 => ?_)
  · refine c_skip ?_
    refine n_code ?_
    refine c_seq ?_
    refine c_block ?_
    refine c_region ?_
    refine o_e rfl rfl rfl (e_move rfl) ?_
    refine o_e rfl rfl rfl (e_move rfl) ?_
    refine o_e rfl rfl rfl (e_move rfl) ?_
    first | refine o_e rfl rfl rfl (e_muln rfl rfl (by simp only [inR]; omega)) ?_ | refine o_e rfl rfl rfl (e_mul rfl rfl) ?_
    first | refine o_e rfl rfl rfl (e_convn Tryz.runUnderlying3 Tryz.runUnderlying131 rfl (by simp only [inR]; omega)) ?_ | refine o_e rfl rfl rfl (e_conv Tryz.runUnderlying3 Tryz.runUnderlying131 rfl) ?_
    refine o_e rfl rfl rfl (e_shr rfl rfl (by omega)) ?_
    refine o_e rfl rfl rfl (e_as (r := .int .u8 ((lowb n i).toNat : Int)) (e_conv Tryz.runUnderlying23 Tryz.runUnderlying5 rfl) (congrArg (Value.int .u8) (low_eq n i (by omega)))) ?_
    refine o_l rfl (l_bs1 Tryz.runUnderlying72 Tryz.sizeOf5 Tryz.zeroValue5 rfl rfl rfl) ?_; intro g20 _
    refine o_l rfl (l_append (sz := 1) Tryz.underlying72 (info_of Tryz.typeInfo5) rfl rfl rfl rfl rfl rfl ho (List.perm_append_comm (l₁ := [_])) (.blk Tryz.underlying72 (.inl (.head _)) (.take .done) (by simp [Value.oneCell'])) (by show _ * 1 ≤ _; omega) (by omega)) ?_
    rintro ⟨v2, HB2⟩ ho2
    refine o_e rfl rfl rfl (e_assign rfl) ?_
    refine o_nil ?_
    refine n_block ?_
    refine n_code ?_
    refine c_region ?_
    refine o_e rfl rfl rfl (e_move rfl) ?_
    first | refine o_e rfl rfl rfl (e_addN rfl rfl (by omega)) ?_ | refine o_e rfl rfl rfl (e_addn rfl rfl (by simp only [inR]; omega)) ?_ | refine o_e rfl rfl rfl (e_add rfl rfl) ?_
    refine o_e rfl rfl rfl (e_assign rfl) ?_
    refine o_nil ?_
    refine n_round' (y := (i, v', HB')) (i + 1, v2, HB2) (by show k - (i + 1) < k - i; omega) ?_ (sub_cons rfl (sub_cons rfl (sub_cons rfl (sub_cons rfl sub_nil)))) _ (.refl _) (List.sublist_append_left _ _)
    refine ⟨by show i + 1 ≤ k; omega, ?_⟩
    simpa [lowB_succ, B_append, B, Nat.add_assoc] using ho2
  · skip
    refine c_exit ?_; refine x_code ?_; refine x_upto ?_; refine x_here ?_
    refine n_code ?_
    refine c_seq ?_
    refine c_region ?_
    refine o_e rfl rfl rfl (e_move rfl) ?_
    refine o_e rfl rfl rfl (e_assign rfl) ?_
    refine o_nil ?_
    refine n_code ?_
    refine c_ret ?_
    refine r_fn1 Tryz.results73 rfl ?_
    have : i = k := by omega
    subst this
    exact ho
end Go.Proofs
namespace Go.Proofs
open Go Go.Sl
set_option maxRecDepth 100000

def codedL (l : List En) (code : Int) : List En := l.filter (fun x => decide (x.h = code))
def cells5 (l : List En) : List Value := l.flatMap cE
theorem cells5_length (l : List En) : (cells5 l).length = l.length * 5 := by
  induction l with
  | nil => rfl
  | cons x l ih => simp [cells5, cE] at ih ⊢; omega
theorem codedL_take {l : List En} {code : Int} {i : Nat} (h : i < l.length) : codedL (l.take (i + 1)) code = codedL (l.take i) code ++ if l[i].h = code then [l[i]] else [] := by
  simp only [codedL]
  rw [List.take_succ_eq_append_getElem h, List.filter_append]
  congr 1
  by_cases hc : l[i].h = code <;> simp [hc]
theorem coded_is {G : HP} {v : Value} {l : List En} {code : Int} (h : EnS G v l) (hl : l.length ≤ 1000) :
    Ctr Tryz.prog 74 [v, .int .u64 code] G [] (fun r H' => Osl 56 5 r (codedL l code).length (cells5 (codedL l code)) H') := by
  cases h with
  | none =>
    refine fn_enter 25 Tryz.func74 rfl Tryz.ntmps74 rfl ?_
    intro w0
    refine c_seq ?_
    refine c_region ?_
    refine o_e rfl rfl rfl (e_assign rfl) ?_
    refine o_nil ?_
    refine n_code ?_
    refine c_seq ?_
    refine c_region ?_
    refine o_e rfl rfl rfl (e_assign rfl) ?_
    refine o_nil ?_
    refine n_code ?_
    refine c_seq ?_
    refine c_seq ?_
    refine c_region ?_
    refine o_e rfl rfl rfl (e_move rfl) ?_
    refine o_e rfl rfl rfl (e_lenl Tryz.runUnderlying22 rfl) ?_
    refine o_e rfl rfl rfl (e_move rfl) ?_
    refine o_nil ?_
    refine n_code ?_
    refine c_block ?_
    refine c_rounds 1 ?_
    refine c_seq ?_
    refine c_region ?_
    refine o_e rfl rfl rfl (e_lss rfl rfl) ?_
    refine o_nil ?_
    refine n_code ?_
    refine c_seq ?_
    refine c_else rfl ?_
    refine c_exit ?_; refine x_code ?_; refine x_upto ?_; refine x_here ?_
    refine n_code ?_
    refine c_seq ?_
    refine c_region ?_
    refine o_e rfl rfl rfl (e_move rfl) ?_
    refine o_e rfl rfl rfl (e_assign rfl) ?_
    refine o_nil ?_
    refine n_code ?_
    refine c_ret ?_
    refine r_fn1 Tryz.results74 rfl ?_
    exact .nil
  | @blk l L g off n cap e fr hm hn hc =>
    refine fn_enter 25 Tryz.func74 rfl Tryz.ntmps74 rfl ?_
    intro w0
    refine c_seq ?_
    refine c_region ?_
    refine o_e rfl rfl rfl (e_assign rfl) ?_
    refine o_nil ?_
    refine n_code ?_
    refine c_seq ?_
    refine c_region ?_
    refine o_e rfl rfl rfl (e_assign rfl) ?_
    refine o_nil ?_
    refine n_code ?_
    refine c_seq ?_
    refine c_seq ?_
    refine c_region ?_
    refine o_e rfl rfl rfl (e_move rfl) ?_
    refine o_e rfl rfl rfl (e_lenl Tryz.runUnderlying22 rfl) ?_
    refine o_e rfl rfl rfl (e_move rfl) ?_
    refine o_nil ?_
    refine n_code ?_
    refine c_block ?_
    refine c_loop (X := Nat × Value × HP) (fun y => [(1, .int .u64 code), (5, y.2.1), (8, .slice (some ⟨g, off, none⟩) n cap), (9, .int .i64 n), (10, .int .i64 y.1)]) (fun y => y.2.2) (fun y => y.1 ≤ n ∧ Osl 56 5 y.2.1 (codedL (l.take y.1) code).length (cells5 (codedL (l.take y.1) code)) y.2.2) (fun y => n - y.1) (0, .slice none 0 0, []) ⟨Nat.zero_le _, .nil⟩ (sub_cons rfl (sub_cons rfl (sub_cons rfl (sub_cons rfl (sub_cons rfl sub_nil))))) (.refl _) ?_
    rintro ⟨i, v', HB'⟩ ⟨hi, ho⟩
    simp only at hi ho ⊢
    refine c_seq ?_
    refine c_region ?_
    refine o_e rfl rfl rfl (e_lss rfl rfl) ?_
    refine o_nil ?_
    refine n_code ?_
    refine c_seq ?_
    refine c_ifp rfl (fun h2 => ?_) (fun h2 => ?_)
    · have hi2 : i < l.length := by omega
      have hci := hc i hi2
      have hnx := codedL_take (code := code) hi2
      have hlen : (codedL (l.take i) code).length ≤ l.length := Nat.le_trans (List.length_filter_le _ _) (by simp; omega)
      generalize l[i] = x at hci hnx
      obtain ⟨xv, xc, xh, xd, xo⟩ := x
      simp only [cE] at hci hnx
      refine c_skip ?_
      refine n_code ?_
      refine c_seq ?_
      refine c_block ?_
      refine c_seq ?_
      refine c_region ?_
      first | refine o_e rfl rfl rfl (e_ian Tryz.runUnderlying22 Tryz.sizeOf56 rfl rfl (by omega)) ?_ | refine o_e rfl rfl rfl (e_ia Tryz.runUnderlying22 Tryz.sizeOf56 rfl rfl (by omega) (by omega)) ?_
      refine o_e rfl rfl rfl (e_loada Tryz.isAgg56 Tryz.sizeOf56 rfl (.inr hm) hci) ?_
      refine o_l rfl (l_alloc Tryz.zeroValue56 rfl rfl) ?_; intro g7 _
      refine o_l rfl (l_storea Tryz.sizeOf56 rfl rfl rfl (by simp [Value.oneCell']) .head (.take (.take (.take (.take (.take .done))))) nofrs0) ?_
      intro _ _
      refine o_nil ?_
      refine n_code ?_
      refine c_seq ?_
      refine c_region ?_
      refine o_e rfl rfl rfl (e_fa Tryz.runUnderlying56 rfl Tryz.sizeOf25 rfl rfl) ?_
      refine o_e rfl rfl rfl (e_fa Tryz.runUnderlying25 rfl Tryz.sizeOf23 rfl rfl) ?_
      refine o_e rfl rfl rfl (e_load Tryz.isAgg23 rfl (by first | exact .inr (by assumption) | exact .inl (by repeat (first | exact List.Mem.head _ | refine List.Mem.tail _ ?_))) (by first | rfl | assumption)) ?_
      refine o_e rfl rfl rfl (e_move rfl) ?_
      refine o_e rfl rfl rfl (e_eql rfl rfl) ?_
      refine o_nil ?_
      refine n_code ?_
      refine c_ifp rfl (fun h3 => ?_) (fun h3 => ?_)
      · refine c_region ?_
        refine o_e rfl rfl rfl (e_move rfl) ?_
        refine o_e rfl rfl rfl (e_loada Tryz.isAgg56 Tryz.sizeOf56 rfl (by first | exact .inr (by assumption) | exact .inl (by repeat (first | exact List.Mem.head _ | refine List.Mem.tail _ ?_))) (by first | assumption | repeat constructor)) ?_
        refine o_l rfl (l_bs (l := [.int .u64 xv, .int .u64 xc, .int .u64 xh, S xd, .int .u64 xo]) Tryz.runUnderlying22 Tryz.sizeOf56 Tryz.zeroValue56 rfl rfl rfl rfl (by kernel_rfl)) ?_
        intro g21 _
        refine o_l rfl (l_append (sz := 5) Tryz.underlying22 (info_of Tryz.typeInfo56) rfl rfl rfl rfl rfl rfl ho (List.perm_append_comm (l₁ := [_, _])) (.blk Tryz.underlying22 (.inl (.head _)) (.take (.take (.take (.take (.take .done))))) (by simp [Value.oneCell'])) (by show _ * 48 ≤ _; omega) (by omega)) ?_
        rintro ⟨v2, HB2⟩ ho2
        refine o_e rfl rfl rfl (e_assign rfl) ?_
        refine o_nil ?_
        refine n_block ?_
        refine n_code ?_
        refine c_region ?_
        first | refine o_e rfl rfl rfl (e_addN rfl rfl (by omega)) ?_ | refine o_e rfl rfl rfl (e_addn rfl rfl (by simp only [inR]; omega)) ?_ | refine o_e rfl rfl rfl (e_add rfl rfl) ?_
        refine o_e rfl rfl rfl (e_move rfl) ?_
        refine o_nil ?_
        refine n_round' (y := (i, v', HB')) (i + 1, v2, HB2) (by show n - (i + 1) < n - i; omega) ?_ (sub_cons rfl (sub_cons rfl (sub_cons rfl (sub_cons rfl (sub_cons rfl sub_nil))))) _ (.refl _) (List.sublist_append_left _ _)
        refine ⟨by show i + 1 ≤ n; omega, ?_⟩
        simp only [hnx]
        simpa [cells5, cE, show xh = code from h3] using ho2
      · skip
        refine c_skip ?_
        refine n_block ?_
        refine n_code ?_
        refine c_region ?_
        first | refine o_e rfl rfl rfl (e_addN rfl rfl (by omega)) ?_ | refine o_e rfl rfl rfl (e_addn rfl rfl (by simp only [inR]; omega)) ?_ | refine o_e rfl rfl rfl (e_add rfl rfl) ?_
        refine o_e rfl rfl rfl (e_move rfl) ?_
        refine o_nil ?_
        refine n_round' (y := (i, v', HB')) (i + 1, v', HB') (by show n - (i + 1) < n - i; omega) ?_ (sub_cons rfl (sub_cons rfl (sub_cons rfl (sub_cons rfl (sub_cons rfl sub_nil))))) _ (.refl _) (List.sublist_cons_self _ _)
        refine ⟨by show i + 1 ≤ n; omega, ?_⟩
        simp only [hnx]
        simpa [show ¬ xh = code from h3] using ho
    · skip
      refine c_exit ?_; refine x_code ?_; refine x_upto ?_; refine x_here ?_
      refine n_code ?_
      refine c_seq ?_
      refine c_region ?_
      refine o_e rfl rfl rfl (e_move rfl) ?_
      refine o_e rfl rfl rfl (e_assign rfl) ?_
      refine o_nil ?_
      refine n_code ?_
      refine c_ret ?_
      refine r_fn1 Tryz.results74 rfl ?_
      have : i = l.length := by omega
      subst this
      simpa using ho
end Go.Proofs
