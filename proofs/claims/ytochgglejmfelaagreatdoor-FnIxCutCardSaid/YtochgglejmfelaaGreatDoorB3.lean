/- Reading bytes and numbers from a bytes.Reader. -/
import Derived.Test.YtochgglejmfelaaGreatDoorProg
import Derived.KernelRfl
import Derived.Test.YtochgglejmfelaaGreatDoorA4
import Derived.Test.YtochgglejmfelaaGreatDoorA3
import Derived.LaidEql
namespace Go.Sl
open Go
section
variable {x : Cx} {s : Slots} {H : HP} {d : Nat} {p q : Operand} {ty t t' : TypeId} {pos : String} {af : Array Edge} {gd' : Option (Nat × Bool)}
/-- Two pointers to blocks of their own in two interface values of one type. -/
theorem e_ieq_two {ms : Array (String × TypeId)} {tv el n : Nat} {gA gB : Addr} {ti : TypeInfo} {cA cB : List Value} {eA eB : TypeId} (hU : ∀ w, (underlying t).run x.P w = .ok (.interface ms) w) (hI : ∀ w, (typeInfo tv).run x.P w = .ok ti w) (hc : ti.comparable = true)
    (hU' : ∀ w, (underlying tv).run x.P w = .ok (.pointer el) w) (hS : ∀ w, (sizeOf el).run x.P w = .ok n w) (hn : n ≠ 0)
    (hp : ev s p = some (.iface tv (.pointer (some gA)))) (hq : ev s q = some (.iface tv (.pointer (some gB)))) (hA : (gA.block, C cA eA) ∈ x.G) (hB : (gB.block, C cB eB) ∈ x.G) (hne : gA ≠ gB) :
    Ex x s H ⟨some d, .binOp .eql t p q t', ty, pos, af, gd'⟩ (.bool false) := fun a w hs => by
  have h1 := run_sameAddr_other (P := x.P) w (a := gA) (b := gB) hne (hs.glob _ hA) (hs.glob _ hB)
  have hE : (Op.equal t (.iface tv (.pointer (some gA))) (.iface tv (.pointer (some gB)))).run x.P w = .ok false w := by
    obtain ⟨dd, hdd⟩ := eq_in2
    rw [hdd]
    simp only [Op.equalIn, Sem.run_bind, hU, Result.andThen_ok, ne_eq, not_true_eq_false, if_false, hI, hc, Bool.not_true, Bool.false_eq_true, hU', hS, hn, not_false_eq_true, if_true, h1]
  have hx : binOp .eql t (.iface tv (.pointer (some gA))) (.iface tv (.pointer (some gB))) = (do pure (.bool (← Op.equal t (.iface tv (.pointer (some gA))) (.iface tv (.pointer (some gB)))))) := rfl
  have hg : (eqGuard .eql t p q (.iface tv (.pointer (some gA))) (.iface tv (.pointer (some gB)))).run x.P w = .ok () w := rfl
  simp only [execOp, hs.eval hp, hs.eval hq, Sem.run_bind, hg, Result.andThen_ok, hx, hE, Sem.run_pure]
end
end Go.Sl
namespace Go.Proofs
open Go Go.Sl
set_option maxRecDepth 100000
/-- What io.EOF and its like hold: a pointer to a block of its own. -/
abbrev EV (a : Addr) : Value := .iface 260 (.pointer (some a))
abbrev RB (gs n cap i : Nat) : Obj := C [.slice (some ⟨gs, 0, none⟩) n cap, .int .i64 (i : Nat), .int .i64 (-1)] 144
abbrev DB (bs : List UInt8) (rest : List Value) (lo hi : Nat) : Obj := .cells (B bs ++ rest).toArray 5 (lo, hi)
abbrev RV (gr : Nat) : Value := .iface 75 (.pointer (some ⟨gr, 0, none⟩))
section
variable {G : HP} {gr gs n cap i k lo hi e3 e5 eE eU : Nat} {f3 f5 : Nat × Nat} {bs : List UInt8} {rest cE' cU' : List Value} {gE gU : Addr} {t3 t5 : List Value}
theorem newReader_is : Ctr Tryz.prog 40 [.slice (some ⟨gs, 0, none⟩) n cap] G [] (fun r H' => ∃ g, r = .pointer (some ⟨g, 0, none⟩) ∧ H' = [(g, RB gs n cap 0)]) := by
  refine fn_enter 6 Tryz.func40 rfl Tryz.ntmps40 rfl ?_
  intro w0
  refine c_seq ?_
  refine c_region ?_
  refine o_e rfl rfl rfl (e_assign rfl) ?_
  refine o_nil ?_
  refine n_code ?_
  refine c_seq ?_
  refine c_region ?_
  refine o_e rfl rfl rfl (e_move rfl) ?_
  refine o_e rfl rfl rfl (e_build (vs := [.slice (some ⟨gs, 0, none⟩) n cap, .int .i64 0, .int .i64 (-1)]) Tryz.runUnderlying144 Tryz.zeroValue144 (.cons Tryz.sizeOf72 (.cons Tryz.sizeOf2 (.cons Tryz.sizeOf3 .nil))) rfl (by kernel_rfl)) ?_
  refine o_l rfl (l_box rfl rfl rfl) ?_; intro g5 _
  refine o_e rfl rfl rfl (e_assign rfl) ?_
  refine o_nil ?_
  refine n_code ?_
  refine c_ret ?_
  refine r_fn1 Tryz.results40 rfl ?_
  exact ⟨_, rfl, rfl⟩
/-- Nothing is left. -/
theorem read_eof {v : Value} (hE : (3, Obj.cells (EV gE :: t3).toArray e3 f3) ∈ G) : Ctr Tryz.prog 288 [.pointer (some ⟨gr, 0, none⟩), v] G [(gr, RB gs n cap n)] (fun r H' => r = .tuple #[.int .i64 0, EV gE] ∧ H' = [(gr, RB gs n cap n)]) := by
  refine fn_enter 39 Tryz.func288 rfl Tryz.ntmps288 rfl ?_
  intro w0
  refine c_seq ?_
  refine c_region ?_
  refine o_e rfl rfl rfl (e_assign rfl) ?_
  refine o_e rfl rfl rfl (e_assign rfl) ?_
  refine o_nil ?_
  refine n_code ?_
  refine c_seq ?_
  refine c_seq ?_
  refine c_regionq (by kernel_rfl) (by kernel_rfl) ?_
  refine q_e rfl rfl rfl (e_move rfl) ?_
  first | refine q_e rfl rfl rfl (e_nilCheck rfl) ?_ | refine q_e rfl rfl rfl (e_nilm (fun _ => by kernel_rfl) rfl) ?_
  refine q_e rfl rfl rfl (e_fak 1 Tryz.runUnderlying144 rfl Tryz.sizeOf2 rfl rfl rfl) ?_
  refine q_e rfl rfl rfl (e_load Tryz.isAgg2 rfl (by first | exact .inr (by assumption) | exact .inl (by repeat (first | exact List.Mem.head _ | refine List.Mem.tail _ ?_))) (by first | rfl | assumption)) ?_
  refine q_e rfl rfl rfl (e_move rfl) ?_
  first | refine q_e rfl rfl rfl (e_nilCheck rfl) ?_ | refine q_e rfl rfl rfl (e_nilm (fun _ => by kernel_rfl) rfl) ?_
  refine q_e rfl rfl rfl (e_fak 0 Tryz.runUnderlying144 rfl Tryz.sizeOf72 rfl rfl rfl) ?_
  refine q_e rfl rfl rfl (e_load Tryz.isAgg72 rfl (by first | exact .inr (by assumption) | exact .inl (by repeat (first | exact List.Mem.head _ | refine List.Mem.tail _ ?_))) (by first | rfl | assumption)) ?_
  first | refine q_e rfl rfl rfl (e_lenl Tryz.runUnderlying72 rfl) ?_ | refine q_e rfl rfl rfl (e_lenO Tryz.runUnderlying72 (by assumption) rfl) ?_
  refine q_e rfl rfl rfl (e_geq rfl rfl) ?_
  refine q_nil ?_
  refine n_code ?_
  refine c_then (by simp [ev, lk]) ?_
  refine c_seq ?_
  refine c_regionq (by kernel_rfl) (by kernel_rfl) ?_
  refine q_e rfl rfl rfl (e_load Tryz.isAgg80 rfl (by first | exact .inr (by assumption) | exact .inl (by repeat (first | exact List.Mem.head _ | refine List.Mem.tail _ ?_))) (by first | rfl | assumption)) ?_
  refine q_e rfl rfl rfl (e_assign rfl) ?_
  refine q_e rfl rfl rfl (e_assign rfl) ?_
  refine q_nil ?_
  refine n_code ?_
  refine c_ret ?_
  refine r_fn (l := [.tmp 4, .tmp 5]) Tryz.results288 rfl rfl ?_
  exact ⟨rfl, rfl⟩
theorem DB_cut (h : i + k ≤ bs.length) : CutL (B bs ++ rest) (0 + i * 1) (k * 1) (B ((bs.drop i).take k)) := by
  rw [Nat.zero_add, Nat.mul_one, Nat.mul_one]
  have := CutL.of (l := B bs ++ rest) (i := i) (n := k) (by simp [B]; omega)
  rw [List.drop_append_of_le_length (by simp [B]; omega), List.take_append_of_le_length (by simp [B]; omega)] at this
  simpa [B, List.map_drop, List.map_take] using this
/-- Some are left. -/
theorem read_some {gb ob L capb k : Nat} {pl : List Value} (hD : (gs, DB bs rest lo hi) ∈ G) (hn : bs.length = n) (hc : n ≤ cap) (h63 : cap < 9223372036854775808) (hi' : i < n) (hk : Nat.min (n - i) L = k) (hp : ob + L ≤ pl.length) :
    Ctr Tryz.prog 288 [.pointer (some ⟨gr, 0, none⟩), .slice (some ⟨gb, ob, none⟩) L capb] G [(gr, RB gs n cap i), (gb, C pl 5)] (fun r H' => r = .tuple #[.int .i64 (k : Nat), .nilIface] ∧ H' = [(gr, RB gs n cap (i + k)), (gb, C (pl.take ob ++ B ((bs.drop i).take k) ++ pl.drop (ob + k)) 5)]) := by
  have hk1 : k ≤ n - i := by rw [← hk]; exact Nat.min_le_left _ _
  have hk2 : k ≤ L := by rw [← hk]; exact Nat.min_le_right _ _
  refine fn_enter 39 Tryz.func288 rfl Tryz.ntmps288 rfl ?_
  intro w0
  refine c_seq ?_
  refine c_region ?_
  refine o_e rfl rfl rfl (e_assign rfl) ?_
  refine o_e rfl rfl rfl (e_assign rfl) ?_
  refine o_nil ?_
  refine n_code ?_
  refine c_seq ?_
  refine c_seq ?_
  refine c_regionq (by kernel_rfl) (by kernel_rfl) ?_
  refine q_e rfl rfl rfl (e_move rfl) ?_
  first | refine q_e rfl rfl rfl (e_nilCheck rfl) ?_ | refine q_e rfl rfl rfl (e_nilm (fun _ => by kernel_rfl) rfl) ?_
  refine q_e rfl rfl rfl (e_fak 1 Tryz.runUnderlying144 rfl Tryz.sizeOf2 rfl rfl rfl) ?_
  refine q_e rfl rfl rfl (e_load Tryz.isAgg2 rfl (by first | exact .inr (by assumption) | exact .inl (by repeat (first | exact List.Mem.head _ | refine List.Mem.tail _ ?_))) (by first | rfl | assumption)) ?_
  refine q_e rfl rfl rfl (e_move rfl) ?_
  first | refine q_e rfl rfl rfl (e_nilCheck rfl) ?_ | refine q_e rfl rfl rfl (e_nilm (fun _ => by kernel_rfl) rfl) ?_
  refine q_e rfl rfl rfl (e_fak 0 Tryz.runUnderlying144 rfl Tryz.sizeOf72 rfl rfl rfl) ?_
  refine q_e rfl rfl rfl (e_load Tryz.isAgg72 rfl (by first | exact .inr (by assumption) | exact .inl (by repeat (first | exact List.Mem.head _ | refine List.Mem.tail _ ?_))) (by first | rfl | assumption)) ?_
  first | refine q_e rfl rfl rfl (e_lenl Tryz.runUnderlying72 rfl) ?_ | refine q_e rfl rfl rfl (e_lenO Tryz.runUnderlying72 (by assumption) rfl) ?_
  refine q_e rfl rfl rfl (e_geq rfl rfl) ?_
  refine q_nil ?_
  refine n_code ?_
  refine c_ifp rfl (fun h1 => ?_) (fun h1 => ?_)
  · exact absurd h1 (by omega)
  · skip
    refine c_skip ?_
    refine n_code ?_
    refine c_seq ?_
    refine c_region ?_
    refine o_e rfl rfl rfl (e_move rfl) ?_
    first | refine o_e rfl rfl rfl (e_nilCheck rfl) ?_ | refine o_e rfl rfl rfl (e_nilm (fun _ => by kernel_rfl) rfl) ?_
    refine o_e rfl rfl rfl (e_fak 2 Tryz.runUnderlying144 rfl Tryz.sizeOf3 rfl rfl rfl) ?_
    refine o_l rfl (l_store Tryz.sizeOf3 rfl rfl rfl (by first | exact .head | exact .tail .head | exact .tail (.tail .head) | exact .tail (.tail (.tail .head)) | exact .tail (.tail (.tail (.tail .head))) | exact .tail (.tail (.tail (.tail (.tail .head)))) | exact .tail (.tail (.tail (.tail (.tail (.tail .head))))) | exact .tail (.tail (.tail (.tail (.tail (.tail (.tail .head)))))) | exact .tail (.tail (.tail (.tail (.tail (.tail (.tail (.tail .head)))))))) (by first | exact .head | exact .tail .head | exact .tail (.tail .head) | exact .tail (.tail (.tail .head)) | exact .tail (.tail (.tail (.tail .head))) | exact .tail (.tail (.tail (.tail (.tail .head)))) | exact .tail (.tail (.tail (.tail (.tail (.tail .head))))) | exact .tail (.tail (.tail (.tail (.tail (.tail (.tail .head))))))) (by omega)) ?_; intro _ _
    refine o_nil ?_
    refine n_code ?_
    refine c_seq ?_
    refine c_regiong [10] (by kernel_rfl) ?_
    refine g_m 0 (fun _ _ _ _ _ h => h) rfl (by kernel_rfl) (by kernel_rfl) (by kernel_rfl) rfl rfl rfl (e_move rfl) ?_
    refine g_m 1 (fun _ _ _ _ _ h => h) rfl (by kernel_rfl) (by kernel_rfl) (by kernel_rfl) rfl rfl rfl (e_move rfl) ?_
    first | refine g_m 2 (fun _ _ _ _ _ h => h) rfl (by kernel_rfl) (by kernel_rfl) (by kernel_rfl) rfl rfl rfl (e_nilCheck rfl) ?_ | refine g_m 2 (fun _ _ _ _ _ h => h) rfl (by kernel_rfl) (by kernel_rfl) (by kernel_rfl) rfl rfl rfl (e_nilm (fun _ => by kernel_rfl) rfl) ?_
    refine g_m 3 (fun _ _ _ _ _ h => h) rfl (by kernel_rfl) (by kernel_rfl) (by kernel_rfl) rfl rfl rfl (e_fak 0 Tryz.runUnderlying144 rfl Tryz.sizeOf72 rfl rfl rfl) ?_
    refine g_e 4 (fun _ _ _ _ _ h => h) rfl (by kernel_rfl) (by kernel_rfl) (by kernel_rfl) rfl rfl rfl (e_load Tryz.isAgg72 rfl (by first | exact .inr (by assumption) | exact .inl (by repeat (first | exact List.Mem.head _ | refine List.Mem.tail _ ?_))) (by first | rfl | assumption)) ?_
    refine g_m 5 (fun _ _ _ _ _ h => h) rfl (by kernel_rfl) (by kernel_rfl) (by kernel_rfl) rfl rfl rfl (e_move rfl) ?_
    first | refine g_m 6 (fun _ _ _ _ _ h => h) rfl (by kernel_rfl) (by kernel_rfl) (by kernel_rfl) rfl rfl rfl (e_nilCheck rfl) ?_ | refine g_m 6 (fun _ _ _ _ _ h => h) rfl (by kernel_rfl) (by kernel_rfl) (by kernel_rfl) rfl rfl rfl (e_nilm (fun _ => by kernel_rfl) rfl) ?_
    refine g_m 7 (fun _ _ _ _ _ h => h) rfl (by kernel_rfl) (by kernel_rfl) (by kernel_rfl) rfl rfl rfl (e_fak 1 Tryz.runUnderlying144 rfl Tryz.sizeOf2 rfl rfl rfl) ?_
    refine g_e 8 (fun _ _ _ _ _ h => h) rfl (by kernel_rfl) (by kernel_rfl) (by kernel_rfl) rfl rfl rfl (e_load Tryz.isAgg2 rfl (by first | exact .inr (by assumption) | exact .inl (by repeat (first | exact List.Mem.head _ | refine List.Mem.tail _ ?_))) (by first | rfl | assumption)) ?_
    refine g_m 9 (fun _ _ _ _ _ h => h) rfl (by kernel_rfl) (by kernel_rfl) (by kernel_rfl) rfl rfl rfl (e_sl_l Tryz.runUnderlying72 Tryz.sizeOf5 rfl rfl (by omega) (by omega) (by omega)) ?_
    refine g_l 10 (by kernel_rfl) rfl rfl rfl (l_copy Tryz.runUnderlying72 Tryz.sizeOf5 rfl rfl rfl (.blk Tryz.underlying72 (.inr hD) (DB_cut (k := n - i) (by omega)) (B_one _)) hk (.tail .head) (PutL.of (by simp [B]; omega)) (.inr rfl)) ?_
    intro _ _
    refine d_e 11 (fun _ _ _ _ _ h => h) rfl (by kernel_rfl) (by kernel_rfl) (by kernel_rfl) rfl rfl rfl (e_assign rfl) ?_
    refine d_nil (by kernel_rfl) ?_
    refine n_code ?_
    refine c_seq ?_
    refine c_region ?_
    refine o_e rfl rfl rfl (e_move rfl) ?_
    first | refine o_e rfl rfl rfl (e_nilCheck rfl) ?_ | refine o_e rfl rfl rfl (e_nilm (fun _ => by kernel_rfl) rfl) ?_
    refine o_e rfl rfl rfl (e_fak 1 Tryz.runUnderlying144 rfl Tryz.sizeOf2 rfl rfl rfl) ?_
    refine o_e rfl rfl rfl (e_load Tryz.isAgg2 rfl (by first | exact .inr (by assumption) | exact .inl (by repeat (first | exact List.Mem.head _ | refine List.Mem.tail _ ?_))) (by first | rfl | assumption)) ?_
    refine o_e rfl rfl rfl (e_move rfl) ?_
    first | refine o_e rfl rfl rfl (e_addN rfl rfl (by omega)) ?_ | refine o_e rfl rfl rfl (e_addn rfl rfl (by simp only [inR]; omega)) ?_ | refine o_e rfl rfl rfl (e_add rfl rfl) ?_
    first | refine o_e rfl rfl rfl (e_nilCheck rfl) ?_ | refine o_e rfl rfl rfl (e_nilm (fun _ => by kernel_rfl) rfl) ?_
    refine o_e rfl rfl rfl (e_fak 1 Tryz.runUnderlying144 rfl Tryz.sizeOf2 rfl rfl rfl) ?_
    refine o_l rfl (l_store Tryz.sizeOf2 rfl rfl rfl (by first | exact .head | exact .tail .head | exact .tail (.tail .head) | exact .tail (.tail (.tail .head)) | exact .tail (.tail (.tail (.tail .head))) | exact .tail (.tail (.tail (.tail (.tail .head)))) | exact .tail (.tail (.tail (.tail (.tail (.tail .head))))) | exact .tail (.tail (.tail (.tail (.tail (.tail (.tail .head)))))) | exact .tail (.tail (.tail (.tail (.tail (.tail (.tail (.tail .head)))))))) (by first | exact .head | exact .tail .head | exact .tail (.tail .head) | exact .tail (.tail (.tail .head)) | exact .tail (.tail (.tail (.tail .head))) | exact .tail (.tail (.tail (.tail (.tail .head)))) | exact .tail (.tail (.tail (.tail (.tail (.tail .head))))) | exact .tail (.tail (.tail (.tail (.tail (.tail (.tail .head))))))) (by omega)) ?_; intro _ _
    refine o_nil ?_
    refine n_code ?_
    refine c_ret ?_
    refine r_fn (l := [.tmp 4, .tmp 5]) Tryz.results288 rfl rfl ?_
    have hb : (B ((bs.drop i).take (n - i))).take k = B ((bs.drop i).take k) := by simp [B, List.map_take, List.take_take, Nat.min_eq_left hk1]
    have hl : (B ((bs.drop i).take k)).length = k := by simp [B]; omega
    refine ⟨rfl, ?_⟩
    simp only [Int.toNat_natCast, hb, hl, RB]
end
end Go.Proofs
namespace Go.Proofs
open Go Go.Sl
set_option maxRecDepth 100000
set_option maxHeartbeats 1000000
section
variable {G : HP} {gr gs gb n cap i k L lo hi e3 e5 eE eU : Nat} {f3 f5 : Nat × Nat} {bs : List UInt8} {rest pl cE' cU' : List Value} {gE gU : Addr} {t3 t5 : List Value}
/-- As many as are asked for. -/
theorem full_is (hD : (gs, DB bs rest lo hi) ∈ G) (hn : bs.length = n) (hc : n ≤ cap) (h63 : cap < 9223372036854775808) (hi' : i + L ≤ n) (hL : 0 < L) (hp : pl.length = L) :
    Ctr Tryz.prog 201 [RV gr, .slice (some ⟨gb, 0, none⟩) L L, .int .i64 L] G [(gr, RB gs n cap i), (gb, C pl 5)] (fun r H' => r = .tuple #[.int .i64 L, .nilIface] ∧ H' = [(gr, RB gs n cap (i + L)), (gb, C (B ((bs.drop i).take L)) 5)]) := by
  have hrd := read_some (G := G) (gr := gr) (gb := gb) (ob := 0) (L := L) (capb := L) (k := L) (pl := pl) hD hn hc h63 (show i < n by omega) (Nat.min_eq_right (by omega)) (by omega)
  have hpl : pl.take 0 ++ B ((bs.drop i).take L) ++ pl.drop (0 + L) = B ((bs.drop i).take L) := by
    have h0 : pl.drop (0 + L) = [] := List.drop_eq_nil_of_le (by omega)
    rw [h0]; simp
  rw [hpl] at hrd
  refine fn_enter 46 Tryz.func201 rfl Tryz.ntmps201 rfl ?_
  intro w0
  refine c_seq ?_
  refine c_region ?_
  refine o_e rfl rfl rfl (e_assign rfl) ?_
  refine o_e rfl rfl rfl (e_assign rfl) ?_
  refine o_nil ?_
  refine n_code ?_
  refine c_seq ?_
  refine c_seq ?_
  refine c_region ?_
  refine o_e rfl rfl rfl (e_move rfl) ?_
  first | refine o_e rfl rfl rfl (e_lenl Tryz.runUnderlying72 rfl) ?_ | refine o_e rfl rfl rfl (e_lenO Tryz.runUnderlying72 (by assumption) rfl) ?_
  refine o_e rfl rfl rfl (e_move rfl) ?_
  refine o_e rfl rfl rfl (e_lss rfl rfl) ?_
  refine o_nil ?_
  refine n_code ?_
  refine c_ifp rfl (fun h1 => ?_) (fun h1 => ?_)
  · exact absurd h1 (by omega)
  · skip
    refine c_skip ?_
    refine n_code ?_
    refine c_seq ?_
    refine c_block ?_
    refine c_rounds 2 ?_
    refine c_seq ?_
    refine c_seq ?_
    refine c_region ?_
    refine o_e rfl rfl rfl (e_move rfl) ?_
    refine o_e rfl rfl rfl (e_move rfl) ?_
    refine o_e rfl rfl rfl (e_lss rfl rfl) ?_
    refine o_e rfl rfl rfl (e_move rfl) ?_
    refine o_splitp 17 rfl (fun h2 => ?_) (fun h2 => ?_)
    · refine o_e rfl rfl rfl (e_move rfl) ?_
      first | refine o_e rfl rfl rfl (e_ieqn Tryz.runUnderlying80 rfl) ?_ | refine o_e rfl rfl rfl (e_neqn Tryz.runUnderlying80 rfl) ?_
      refine o_e rfl rfl rfl (e_pick_t rfl rfl) ?_
      refine o_nil ?_
      refine n_code ?_
      refine c_then rfl ?_
      refine c_skip ?_
      refine n_code ?_
      refine c_block ?_
      refine c_seq ?_
      refine c_region ?_
      refine o_e rfl rfl rfl (e_assign rfl) ?_
      refine o_nil ?_
      refine n_code ?_
      refine c_seq ?_
      refine c_regiong [7] (by kernel_rfl) ?_
      refine g_m 0 (fun _ _ _ _ _ h => h) rfl (by kernel_rfl) (by kernel_rfl) (by kernel_rfl) rfl rfl rfl (e_move rfl) ?_
      refine g_m 1 (fun _ _ _ _ _ h => h) rfl (by kernel_rfl) (by kernel_rfl) (by kernel_rfl) rfl rfl rfl (e_move rfl) ?_
      refine g_m 2 (fun _ _ _ _ _ h => h) rfl (by kernel_rfl) (by kernel_rfl) (by kernel_rfl) rfl rfl rfl (e_move rfl) ?_
      refine g_m 4 (fun _ _ _ _ _ h => h) rfl (by kernel_rfl) (by kernel_rfl) (by kernel_rfl) rfl rfl rfl (e_func rfl rfl) ?_
      first | refine g_m 5 (fun _ _ _ _ _ h => h) rfl (by kernel_rfl) (by kernel_rfl) (by kernel_rfl) rfl rfl rfl (e_nilCheck rfl) ?_ | refine g_m 5 (fun _ _ _ _ _ h => h) rfl (by kernel_rfl) (by kernel_rfl) (by kernel_rfl) rfl rfl rfl (e_nilm (fun _ => by kernel_rfl) rfl) ?_
      refine g_m 6 (fun _ _ _ _ _ h => h) rfl (by kernel_rfl) (by kernel_rfl) (by kernel_rfl) rfl rfl rfl (e_move rfl) ?_
      refine g_m 3 (fun _ _ _ _ _ h => h) rfl (by kernel_rfl) (by kernel_rfl) (by kernel_rfl) rfl rfl rfl (e_sl_l Tryz.runUnderlying72 Tryz.sizeOf5 rfl rfl (by omega) (by omega) (by omega)) ?_
      refine g_l 7 (by kernel_rfl) rfl rfl rfl (l_calli0 Tryz.call288 (by intro w; kernel_rfl) hrd rfl rfl rfl (.cons .head (.cons .head .nil))) ?_
      rintro ⟨r, H'⟩ ⟨rfl, rfl⟩
      simp only [List.cons_append, List.nil_append]
      refine d_e 8 (fun _ _ _ _ _ h => h) rfl (by kernel_rfl) (by kernel_rfl) (by kernel_rfl) rfl rfl rfl (e_move rfl) ?_
      refine d_e 9 (fun _ _ _ _ _ h => h) rfl (by kernel_rfl) (by kernel_rfl) (by kernel_rfl) rfl rfl rfl (e_extract rfl rfl) ?_
      refine d_e 10 (fun _ _ _ _ _ h => h) rfl (by kernel_rfl) (by kernel_rfl) (by kernel_rfl) rfl rfl rfl (e_extract rfl rfl) ?_
      refine d_e 11 (fun _ _ _ _ _ h => h) rfl (by kernel_rfl) (by kernel_rfl) (by kernel_rfl) rfl rfl rfl (e_assign rfl) ?_
      refine d_e 12 (fun _ _ _ _ _ h => h) rfl (by kernel_rfl) (by kernel_rfl) (by kernel_rfl) rfl rfl rfl (e_assign rfl) ?_
      refine d_nil (by kernel_rfl) ?_
      refine n_code ?_
      refine c_region ?_
      refine o_e rfl rfl rfl (e_move rfl) ?_
      refine o_e rfl rfl rfl (e_move rfl) ?_
      first | refine o_e rfl rfl rfl (e_addN rfl rfl (by omega)) ?_ | refine o_e rfl rfl rfl (e_addn rfl rfl (by simp only [inR]; omega)) ?_ | refine o_e rfl rfl rfl (e_add rfl rfl) ?_
      refine o_e rfl rfl rfl (e_assign rfl) ?_
      refine o_nil ?_
      refine n_block ?_
      refine n_rounds ?_
      refine c_seq ?_
      refine c_seq ?_
      refine c_region ?_
      refine o_e rfl rfl rfl (e_move rfl) ?_
      refine o_e rfl rfl rfl (e_move rfl) ?_
      refine o_e rfl rfl rfl (e_lss rfl rfl) ?_
      refine o_e rfl rfl rfl (e_move rfl) ?_
      refine o_splitp 17 rfl (fun h3 => ?_) (fun h3 => ?_)
      · exact absurd h3 (by omega)
      · skip
        refine o_skip rfl rfl rfl ?_
        refine o_skip rfl rfl rfl ?_
        refine o_e rfl rfl rfl (e_pick_f rfl rfl) ?_
        refine o_nil ?_
        refine n_code ?_
        refine c_else rfl ?_
        refine c_exit ?_; refine x_code ?_; refine x_upto ?_; refine x_here ?_
        refine n_code ?_
        refine c_seq ?_
        refine c_seq ?_
        refine c_region ?_
        refine o_e rfl rfl rfl (e_move rfl) ?_
        refine o_e rfl rfl rfl (e_move rfl) ?_
        refine o_e rfl rfl rfl (e_geq rfl rfl) ?_
        refine o_nil ?_
        refine n_code ?_
        refine c_ifp rfl (fun h4 => ?_) (fun h4 => ?_)
        · refine c_region ?_
          refine o_e rfl rfl rfl (e_assign rfl) ?_
          refine o_nil ?_
          refine n_code ?_
          refine c_ret ?_
          refine r_fn (l := [.tmp 6, .tmp 7]) Tryz.results201 rfl rfl ?_
          exact ⟨by simp, rfl⟩
        · exact absurd h4 (by omega)
    · exact absurd h2 (by simp; omega)
/-- Fewer are left. -/
theorem short_is (hD : (gs, DB bs rest lo hi) ∈ G) (hE : (3, Obj.cells (EV gE :: t3).toArray e3 f3) ∈ G) (hU : (5, Obj.cells (EV gU :: t5).toArray e5 f5) ∈ G) (hn : bs.length = n) (hc : n ≤ cap) (h63 : cap < 9223372036854775808) (h63' : L < 9223372036854775808) (hi' : i ≤ n) (hL : n < i + L) (hp : pl.length = L) :
    Ctr Tryz.prog 201 [RV gr, .slice (some ⟨gb, 0, none⟩) L L, .int .i64 L] G [(gr, RB gs n cap i), (gb, C pl 5)] (fun r H' => ∃ m e pl', r = .tuple #[.int .i64 m, e] ∧ (e = EV gE ∨ e = EV gU) ∧ H' = [(gr, RB gs n cap n), (gb, C pl' 5)]) := by
  by_cases h0 : i = n
  · subst h0
    have hrd := read_eof (G := G) (gr := gr) (gs := gs) (cap := cap) (n := i) (v := .slice (some ⟨gb, 0, none⟩) L L) hE
    refine fn_enter 46 Tryz.func201 rfl Tryz.ntmps201 rfl ?_
    intro w0
    refine c_seq ?_
    refine c_region ?_
    refine o_e rfl rfl rfl (e_assign rfl) ?_
    refine o_e rfl rfl rfl (e_assign rfl) ?_
    refine o_nil ?_
    refine n_code ?_
    refine c_seq ?_
    refine c_seq ?_
    refine c_region ?_
    refine o_e rfl rfl rfl (e_move rfl) ?_
    first | refine o_e rfl rfl rfl (e_lenl Tryz.runUnderlying72 rfl) ?_ | refine o_e rfl rfl rfl (e_lenO Tryz.runUnderlying72 (by assumption) rfl) ?_
    refine o_e rfl rfl rfl (e_move rfl) ?_
    refine o_e rfl rfl rfl (e_lss rfl rfl) ?_
    refine o_nil ?_
    refine n_code ?_
    refine c_ifp rfl (fun h1 => ?_) (fun h1 => ?_)
    · exact absurd h1 (by omega)
    · skip
      refine c_skip ?_
      refine n_code ?_
      refine c_seq ?_
      refine c_block ?_
      refine c_rounds 2 ?_
      refine c_seq ?_
      refine c_seq ?_
      refine c_region ?_
      refine o_e rfl rfl rfl (e_move rfl) ?_
      refine o_e rfl rfl rfl (e_move rfl) ?_
      refine o_e rfl rfl rfl (e_lss rfl rfl) ?_
      refine o_e rfl rfl rfl (e_move rfl) ?_
      refine o_splitp 17 rfl (fun h2 => ?_) (fun h2 => ?_)
      · refine o_e rfl rfl rfl (e_move rfl) ?_
        first | refine o_e rfl rfl rfl (e_ieqn Tryz.runUnderlying80 rfl) ?_ | refine o_e rfl rfl rfl (e_neqn Tryz.runUnderlying80 rfl) ?_
        refine o_e rfl rfl rfl (e_pick_t rfl rfl) ?_
        refine o_nil ?_
        refine n_code ?_
        refine c_then rfl ?_
        refine c_skip ?_
        refine n_code ?_
        refine c_block ?_
        refine c_seq ?_
        refine c_region ?_
        refine o_e rfl rfl rfl (e_assign rfl) ?_
        refine o_nil ?_
        refine n_code ?_
        refine c_seq ?_
        refine c_regiong [7] (by kernel_rfl) ?_
        refine g_m 0 (fun _ _ _ _ _ h => h) rfl (by kernel_rfl) (by kernel_rfl) (by kernel_rfl) rfl rfl rfl (e_move rfl) ?_
        refine g_m 1 (fun _ _ _ _ _ h => h) rfl (by kernel_rfl) (by kernel_rfl) (by kernel_rfl) rfl rfl rfl (e_move rfl) ?_
        refine g_m 2 (fun _ _ _ _ _ h => h) rfl (by kernel_rfl) (by kernel_rfl) (by kernel_rfl) rfl rfl rfl (e_move rfl) ?_
        refine g_m 4 (fun _ _ _ _ _ h => h) rfl (by kernel_rfl) (by kernel_rfl) (by kernel_rfl) rfl rfl rfl (e_func rfl rfl) ?_
        first | refine g_m 5 (fun _ _ _ _ _ h => h) rfl (by kernel_rfl) (by kernel_rfl) (by kernel_rfl) rfl rfl rfl (e_nilCheck rfl) ?_ | refine g_m 5 (fun _ _ _ _ _ h => h) rfl (by kernel_rfl) (by kernel_rfl) (by kernel_rfl) rfl rfl rfl (e_nilm (fun _ => by kernel_rfl) rfl) ?_
        refine g_m 6 (fun _ _ _ _ _ h => h) rfl (by kernel_rfl) (by kernel_rfl) (by kernel_rfl) rfl rfl rfl (e_move rfl) ?_
        refine g_m 3 (fun _ _ _ _ _ h => h) rfl (by kernel_rfl) (by kernel_rfl) (by kernel_rfl) rfl rfl rfl (e_sl_l Tryz.runUnderlying72 Tryz.sizeOf5 rfl rfl (by omega) (by omega) (by omega)) ?_
        refine g_l 7 (by kernel_rfl) rfl rfl rfl (l_calli0 Tryz.call288 (by intro w; kernel_rfl) hrd rfl rfl rfl (.cons .head .nil)) ?_
        rintro ⟨r, H'⟩ ⟨rfl, rfl⟩
        simp only [List.cons_append, List.nil_append]
        refine d_e 8 (fun _ _ _ _ _ h => h) rfl (by kernel_rfl) (by kernel_rfl) (by kernel_rfl) rfl rfl rfl (e_move rfl) ?_
        refine d_e 9 (fun _ _ _ _ _ h => h) rfl (by kernel_rfl) (by kernel_rfl) (by kernel_rfl) rfl rfl rfl (e_extract rfl rfl) ?_
        refine d_e 10 (fun _ _ _ _ _ h => h) rfl (by kernel_rfl) (by kernel_rfl) (by kernel_rfl) rfl rfl rfl (e_extract rfl rfl) ?_
        refine d_e 11 (fun _ _ _ _ _ h => h) rfl (by kernel_rfl) (by kernel_rfl) (by kernel_rfl) rfl rfl rfl (e_assign rfl) ?_
        refine d_e 12 (fun _ _ _ _ _ h => h) rfl (by kernel_rfl) (by kernel_rfl) (by kernel_rfl) rfl rfl rfl (e_assign rfl) ?_
        refine d_nil (by kernel_rfl) ?_
        refine n_code ?_
        refine c_region ?_
        refine o_e rfl rfl rfl (e_move rfl) ?_
        refine o_e rfl rfl rfl (e_move rfl) ?_
        first | refine o_e rfl rfl rfl (e_addN rfl rfl (by omega)) ?_ | refine o_e rfl rfl rfl (e_addn rfl rfl (by simp only [inR]; omega)) ?_ | refine o_e rfl rfl rfl (e_add rfl rfl) ?_
        refine o_e rfl rfl rfl (e_assign rfl) ?_
        refine o_nil ?_
        refine n_block ?_
        refine n_rounds ?_
        refine c_seq ?_
        refine c_seq ?_
        refine c_region ?_
        refine o_e rfl rfl rfl (e_move rfl) ?_
        refine o_e rfl rfl rfl (e_move rfl) ?_
        refine o_e rfl rfl rfl (e_lss rfl rfl) ?_
        refine o_e rfl rfl rfl (e_move rfl) ?_
        refine o_splitp 17 rfl (fun h3 => ?_) (fun h3 => ?_)
        · refine o_e rfl rfl rfl (e_move rfl) ?_
          first | refine o_e rfl rfl rfl (e_ieqn Tryz.runUnderlying80 rfl) ?_ | refine o_e rfl rfl rfl (e_neqn Tryz.runUnderlying80 rfl) ?_
          refine o_e rfl rfl rfl (e_pick_t rfl rfl) ?_
          refine o_nil ?_
          refine n_code ?_
          refine c_else rfl ?_
          refine c_exit ?_; refine x_code ?_; refine x_upto ?_; refine x_here ?_
          refine n_code ?_
          refine c_seq ?_
          refine c_seq ?_
          refine c_region ?_
          refine o_e rfl rfl rfl (e_move rfl) ?_
          refine o_e rfl rfl rfl (e_move rfl) ?_
          refine o_e rfl rfl rfl (e_geq rfl rfl) ?_
          refine o_nil ?_
          refine n_code ?_
          refine c_ifp rfl (fun h4 => ?_) (fun h4 => ?_)
          · exact absurd h4 (by omega)
          · skip
            refine c_seq ?_
            refine c_region ?_
            refine o_e rfl rfl rfl (e_move rfl) ?_
            refine o_e rfl rfl rfl (e_gtr rfl rfl) ?_
            refine o_e rfl rfl rfl (e_move rfl) ?_
            refine o_splitp 40 rfl (fun h5 => ?_) (fun h5 => ?_)
            · exact absurd h5 (by omega)
            · skip
              refine o_skip rfl rfl rfl ?_
              refine o_skip rfl rfl rfl ?_
              refine o_skip rfl rfl rfl ?_
              refine o_e rfl rfl rfl (e_pick_f rfl rfl) ?_
              refine o_nil ?_
              refine n_code ?_
              refine c_else rfl ?_
              refine c_skip ?_
              refine n_code ?_
              refine c_ret ?_
              refine r_fn (l := [.tmp 6, .tmp 7]) Tryz.results201 rfl rfl ?_
              exact ⟨_, _, _, rfl, .inl rfl, rfl⟩
        · exact absurd h3 (by omega)
      · exact absurd h2 (by simp; omega)
  · have hrd := read_some (G := G) (gr := gr) (gb := gb) (ob := 0) (L := L) (capb := L) (k := n - i) (pl := pl) hD hn hc h63 (show i < n by omega) (Nat.min_eq_left (by omega)) (by omega)
    rw [show i + (n - i) = n by omega] at hrd
    refine fn_enter 46 Tryz.func201 rfl Tryz.ntmps201 rfl ?_
    intro w0
    refine c_seq ?_
    refine c_region ?_
    refine o_e rfl rfl rfl (e_assign rfl) ?_
    refine o_e rfl rfl rfl (e_assign rfl) ?_
    refine o_nil ?_
    refine n_code ?_
    refine c_seq ?_
    refine c_seq ?_
    refine c_region ?_
    refine o_e rfl rfl rfl (e_move rfl) ?_
    first | refine o_e rfl rfl rfl (e_lenl Tryz.runUnderlying72 rfl) ?_ | refine o_e rfl rfl rfl (e_lenO Tryz.runUnderlying72 (by assumption) rfl) ?_
    refine o_e rfl rfl rfl (e_move rfl) ?_
    refine o_e rfl rfl rfl (e_lss rfl rfl) ?_
    refine o_nil ?_
    refine n_code ?_
    refine c_ifp rfl (fun h1 => ?_) (fun h1 => ?_)
    · exact absurd h1 (by omega)
    · skip
      refine c_skip ?_
      refine n_code ?_
      refine c_seq ?_
      refine c_block ?_
      refine c_rounds 3 ?_
      refine c_seq ?_
      refine c_seq ?_
      refine c_region ?_
      refine o_e rfl rfl rfl (e_move rfl) ?_
      refine o_e rfl rfl rfl (e_move rfl) ?_
      refine o_e rfl rfl rfl (e_lss rfl rfl) ?_
      refine o_e rfl rfl rfl (e_move rfl) ?_
      refine o_splitp 17 rfl (fun h2 => ?_) (fun h2 => ?_)
      · refine o_e rfl rfl rfl (e_move rfl) ?_
        first | refine o_e rfl rfl rfl (e_ieqn Tryz.runUnderlying80 rfl) ?_ | refine o_e rfl rfl rfl (e_neqn Tryz.runUnderlying80 rfl) ?_
        refine o_e rfl rfl rfl (e_pick_t rfl rfl) ?_
        refine o_nil ?_
        refine n_code ?_
        refine c_then rfl ?_
        refine c_skip ?_
        refine n_code ?_
        refine c_block ?_
        refine c_seq ?_
        refine c_region ?_
        refine o_e rfl rfl rfl (e_assign rfl) ?_
        refine o_nil ?_
        refine n_code ?_
        refine c_seq ?_
        refine c_regiong [7] (by kernel_rfl) ?_
        refine g_m 0 (fun _ _ _ _ _ h => h) rfl (by kernel_rfl) (by kernel_rfl) (by kernel_rfl) rfl rfl rfl (e_move rfl) ?_
        refine g_m 1 (fun _ _ _ _ _ h => h) rfl (by kernel_rfl) (by kernel_rfl) (by kernel_rfl) rfl rfl rfl (e_move rfl) ?_
        refine g_m 2 (fun _ _ _ _ _ h => h) rfl (by kernel_rfl) (by kernel_rfl) (by kernel_rfl) rfl rfl rfl (e_move rfl) ?_
        refine g_m 4 (fun _ _ _ _ _ h => h) rfl (by kernel_rfl) (by kernel_rfl) (by kernel_rfl) rfl rfl rfl (e_func rfl rfl) ?_
        first | refine g_m 5 (fun _ _ _ _ _ h => h) rfl (by kernel_rfl) (by kernel_rfl) (by kernel_rfl) rfl rfl rfl (e_nilCheck rfl) ?_ | refine g_m 5 (fun _ _ _ _ _ h => h) rfl (by kernel_rfl) (by kernel_rfl) (by kernel_rfl) rfl rfl rfl (e_nilm (fun _ => by kernel_rfl) rfl) ?_
        refine g_m 6 (fun _ _ _ _ _ h => h) rfl (by kernel_rfl) (by kernel_rfl) (by kernel_rfl) rfl rfl rfl (e_move rfl) ?_
        refine g_m 3 (fun _ _ _ _ _ h => h) rfl (by kernel_rfl) (by kernel_rfl) (by kernel_rfl) rfl rfl rfl (e_sl_l Tryz.runUnderlying72 Tryz.sizeOf5 rfl rfl (by omega) (by omega) (by omega)) ?_
        refine g_l 7 (by kernel_rfl) rfl rfl rfl (l_calli0 Tryz.call288 (by intro w; kernel_rfl) hrd rfl rfl rfl (.cons .head (.cons .head .nil))) ?_
        rintro ⟨r, H'⟩ ⟨rfl, rfl⟩
        simp only [List.cons_append, List.nil_append]
        refine d_e 8 (fun _ _ _ _ _ h => h) rfl (by kernel_rfl) (by kernel_rfl) (by kernel_rfl) rfl rfl rfl (e_move rfl) ?_
        refine d_e 9 (fun _ _ _ _ _ h => h) rfl (by kernel_rfl) (by kernel_rfl) (by kernel_rfl) rfl rfl rfl (e_extract rfl rfl) ?_
        refine d_e 10 (fun _ _ _ _ _ h => h) rfl (by kernel_rfl) (by kernel_rfl) (by kernel_rfl) rfl rfl rfl (e_extract rfl rfl) ?_
        refine d_e 11 (fun _ _ _ _ _ h => h) rfl (by kernel_rfl) (by kernel_rfl) (by kernel_rfl) rfl rfl rfl (e_assign rfl) ?_
        refine d_e 12 (fun _ _ _ _ _ h => h) rfl (by kernel_rfl) (by kernel_rfl) (by kernel_rfl) rfl rfl rfl (e_assign rfl) ?_
        refine d_nil (by kernel_rfl) ?_
        refine n_code ?_
        refine c_region ?_
        refine o_e rfl rfl rfl (e_move rfl) ?_
        refine o_e rfl rfl rfl (e_move rfl) ?_
        first | refine o_e rfl rfl rfl (e_addN rfl rfl (by omega)) ?_ | refine o_e rfl rfl rfl (e_addn rfl rfl (by simp only [inR]; omega)) ?_ | refine o_e rfl rfl rfl (e_add rfl rfl) ?_
        refine o_e rfl rfl rfl (e_assign rfl) ?_
        refine o_nil ?_
        refine n_block ?_
        refine n_rounds ?_
        refine c_seq ?_
        refine c_seq ?_
        refine c_region ?_
        refine o_e rfl rfl rfl (e_move rfl) ?_
        refine o_e rfl rfl rfl (e_move rfl) ?_
        refine o_e rfl rfl rfl (e_lss rfl rfl) ?_
        refine o_e rfl rfl rfl (e_move rfl) ?_
        refine o_splitp 17 rfl (fun h3 => ?_) (fun h3 => ?_)
        · refine o_e rfl rfl rfl (e_move rfl) ?_
          first | refine o_e rfl rfl rfl (e_ieqn Tryz.runUnderlying80 rfl) ?_ | refine o_e rfl rfl rfl (e_neqn Tryz.runUnderlying80 rfl) ?_
          refine o_e rfl rfl rfl (e_pick_t rfl rfl) ?_
          refine o_nil ?_
          refine n_code ?_
          refine c_then rfl ?_
          refine c_skip ?_
          refine n_code ?_
          refine c_block ?_
          refine c_seq ?_
          refine c_region ?_
          refine o_e rfl rfl rfl (e_assign rfl) ?_
          refine o_nil ?_
          refine n_code ?_
          refine c_seq ?_
          refine c_regiong [7] (by kernel_rfl) ?_
          refine g_m 0 (fun _ _ _ _ _ h => h) rfl (by kernel_rfl) (by kernel_rfl) (by kernel_rfl) rfl rfl rfl (e_move rfl) ?_
          refine g_m 1 (fun _ _ _ _ _ h => h) rfl (by kernel_rfl) (by kernel_rfl) (by kernel_rfl) rfl rfl rfl (e_move rfl) ?_
          refine g_m 2 (fun _ _ _ _ _ h => h) rfl (by kernel_rfl) (by kernel_rfl) (by kernel_rfl) rfl rfl rfl (e_move rfl) ?_
          refine g_m 4 (fun _ _ _ _ _ h => h) rfl (by kernel_rfl) (by kernel_rfl) (by kernel_rfl) rfl rfl rfl (e_func rfl rfl) ?_
          first | refine g_m 5 (fun _ _ _ _ _ h => h) rfl (by kernel_rfl) (by kernel_rfl) (by kernel_rfl) rfl rfl rfl (e_nilCheck rfl) ?_ | refine g_m 5 (fun _ _ _ _ _ h => h) rfl (by kernel_rfl) (by kernel_rfl) (by kernel_rfl) rfl rfl rfl (e_nilm (fun _ => by kernel_rfl) rfl) ?_
          refine g_m 6 (fun _ _ _ _ _ h => h) rfl (by kernel_rfl) (by kernel_rfl) (by kernel_rfl) rfl rfl rfl (e_move rfl) ?_
          refine g_m 3 (fun _ _ _ _ _ h => h) rfl (by kernel_rfl) (by kernel_rfl) (by kernel_rfl) rfl rfl rfl (e_sl_l Tryz.runUnderlying72 Tryz.sizeOf5 rfl rfl (by omega) (by omega) (by omega)) ?_
          refine g_l 7 (by kernel_rfl) rfl rfl rfl (l_calli0 Tryz.call288 (by intro w; kernel_rfl) (read_eof hE) rfl rfl rfl (.cons .head .nil)) ?_
          rintro ⟨r, H'⟩ ⟨rfl, rfl⟩
          simp only [List.cons_append, List.nil_append]
          refine d_e 8 (fun _ _ _ _ _ h => h) rfl (by kernel_rfl) (by kernel_rfl) (by kernel_rfl) rfl rfl rfl (e_move rfl) ?_
          refine d_e 9 (fun _ _ _ _ _ h => h) rfl (by kernel_rfl) (by kernel_rfl) (by kernel_rfl) rfl rfl rfl (e_extract rfl rfl) ?_
          refine d_e 10 (fun _ _ _ _ _ h => h) rfl (by kernel_rfl) (by kernel_rfl) (by kernel_rfl) rfl rfl rfl (e_extract rfl rfl) ?_
          refine d_e 11 (fun _ _ _ _ _ h => h) rfl (by kernel_rfl) (by kernel_rfl) (by kernel_rfl) rfl rfl rfl (e_assign rfl) ?_
          refine d_e 12 (fun _ _ _ _ _ h => h) rfl (by kernel_rfl) (by kernel_rfl) (by kernel_rfl) rfl rfl rfl (e_assign rfl) ?_
          refine d_nil (by kernel_rfl) ?_
          refine n_code ?_
          refine c_region ?_
          refine o_e rfl rfl rfl (e_move rfl) ?_
          refine o_e rfl rfl rfl (e_move rfl) ?_
          first | refine o_e rfl rfl rfl (e_addN rfl rfl (by omega)) ?_ | refine o_e rfl rfl rfl (e_addn rfl rfl (by simp only [inR]; omega)) ?_ | refine o_e rfl rfl rfl (e_add rfl rfl) ?_
          refine o_e rfl rfl rfl (e_assign rfl) ?_
          refine o_nil ?_
          refine n_block ?_
          refine n_rounds ?_
          refine c_seq ?_
          refine c_seq ?_
          refine c_region ?_
          refine o_e rfl rfl rfl (e_move rfl) ?_
          refine o_e rfl rfl rfl (e_move rfl) ?_
          refine o_e rfl rfl rfl (e_lss rfl rfl) ?_
          refine o_e rfl rfl rfl (e_move rfl) ?_
          refine o_splitp 17 rfl (fun h4 => ?_) (fun h4 => ?_)
          · refine o_e rfl rfl rfl (e_move rfl) ?_
            first | refine o_e rfl rfl rfl (e_ieqn Tryz.runUnderlying80 rfl) ?_ | refine o_e rfl rfl rfl (e_neqn Tryz.runUnderlying80 rfl) ?_
            refine o_e rfl rfl rfl (e_pick_t rfl rfl) ?_
            refine o_nil ?_
            refine n_code ?_
            refine c_else rfl ?_
            refine c_exit ?_; refine x_code ?_; refine x_upto ?_; refine x_here ?_
            refine n_code ?_
            refine c_seq ?_
            refine c_seq ?_
            refine c_region ?_
            refine o_e rfl rfl rfl (e_move rfl) ?_
            refine o_e rfl rfl rfl (e_move rfl) ?_
            refine o_e rfl rfl rfl (e_geq rfl rfl) ?_
            refine o_nil ?_
            refine n_code ?_
            refine c_ifp rfl (fun h5 => ?_) (fun h5 => ?_)
            · exact absurd h5 (by omega)
            · skip
              refine c_seq ?_
              refine c_region ?_
              refine o_e rfl rfl rfl (e_move rfl) ?_
              refine o_e rfl rfl rfl (e_gtr rfl rfl) ?_
              refine o_e rfl rfl rfl (e_move rfl) ?_
              refine o_splitp 40 rfl (fun h6 => ?_) (fun h6 => ?_)
              · refine o_e rfl rfl rfl (e_move rfl) ?_
                refine o_e rfl rfl rfl (e_load Tryz.isAgg80 rfl (by first | exact .inr (by assumption) | exact .inl (by repeat (first | exact List.Mem.head _ | refine List.Mem.tail _ ?_))) (by first | rfl | assumption)) ?_
                refine o_e rfl rfl rfl (e_ieq_same Tryz.runUnderlying80 (Tryz.typeInfo260) rfl (Tryz.runUnderlying260) (Tryz.sizeOf262) (by decide) rfl rfl) ?_
                refine o_e rfl rfl rfl (e_pick_t rfl rfl) ?_
                refine o_nil ?_
                refine n_code ?_
                refine c_then rfl ?_
                refine c_region ?_
                refine o_e rfl rfl rfl (e_load Tryz.isAgg80 rfl (by first | exact .inr (by assumption) | exact .inl (by repeat (first | exact List.Mem.head _ | refine List.Mem.tail _ ?_))) (by first | rfl | assumption)) ?_
                refine o_e rfl rfl rfl (e_assign rfl) ?_
                refine o_nil ?_
                refine n_code ?_
                refine c_ret ?_
                refine r_fn (l := [.tmp 6, .tmp 7]) Tryz.results201 rfl rfl ?_
                exact ⟨_, _, _, rfl, .inr rfl, rfl⟩
              · exact absurd h6 (by omega)
          · exact absurd h4 (by omega)
        · exact absurd h3 (by omega)
      · exact absurd h2 (by simp; omega)
end
end Go.Proofs
namespace Go.Proofs
open Go Go.Sl
set_option maxRecDepth 100000
set_option maxHeartbeats 1000000
section
variable {G : HP} {gr gs gb n cap i k L lo hi e3 e5 eE eU : Nat} {f3 f5 : Nat × Nat} {bs : List UInt8} {rest pl cE' cU' : List Value} {gE gU : Addr} {t3 t5 : List Value}
theorem readFull_is (hD : (gs, DB bs rest lo hi) ∈ G) (hn : bs.length = n) (hc : n ≤ cap) (h63 : cap < 9223372036854775808) (hi' : i + L ≤ n) (hL : 0 < L) (hp : pl.length = L) :
    Ctr Tryz.prog 152 [RV gr, .slice (some ⟨gb, 0, none⟩) L L] G [(gr, RB gs n cap i), (gb, C pl 5)] (fun r H' => r = .tuple #[.int .i64 L, .nilIface] ∧ H' = [(gr, RB gs n cap (i + L)), (gb, C (B ((bs.drop i).take L)) 5)]) := by
  refine fn_enter 13 Tryz.func152 rfl Tryz.ntmps152 rfl ?_
  intro w0
  refine c_seq ?_
  refine c_region ?_
  refine o_e rfl rfl rfl (e_assign rfl) ?_
  refine o_e rfl rfl rfl (e_assign rfl) ?_
  refine o_nil ?_
  refine n_code ?_
  refine c_seq ?_
  refine c_region ?_
  refine o_e rfl rfl rfl (e_move rfl) ?_
  refine o_e rfl rfl rfl (e_move rfl) ?_
  refine o_e rfl rfl rfl (e_move rfl) ?_
  first | refine o_e rfl rfl rfl (e_lenl Tryz.runUnderlying72 rfl) ?_ | refine o_e rfl rfl rfl (e_lenO Tryz.runUnderlying72 (by assumption) rfl) ?_
  refine o_l rfl (l_call Tryz.call201 (full_is hD hn hc h63 hi' hL hp) rfl rfl (.cons .head (.cons .head .nil))) ?_
  rintro ⟨r, H'⟩ ⟨rfl, rfl⟩
  simp only [List.cons_append, List.nil_append]
  refine o_e rfl rfl rfl (e_extract rfl rfl) ?_
  refine o_e rfl rfl rfl (e_extract rfl rfl) ?_
  refine o_e rfl rfl rfl (e_assign rfl) ?_
  refine o_e rfl rfl rfl (e_assign rfl) ?_
  refine o_nil ?_
  refine n_code ?_
  refine c_ret ?_
  refine r_fn (l := [.tmp 4, .tmp 5]) Tryz.results152 rfl rfl ?_
  exact ⟨rfl, rfl⟩
theorem readFull_short (hD : (gs, DB bs rest lo hi) ∈ G) (hE : (3, Obj.cells (EV gE :: t3).toArray e3 f3) ∈ G) (hU : (5, Obj.cells (EV gU :: t5).toArray e5 f5) ∈ G) (hn : bs.length = n) (hc : n ≤ cap) (h63 : cap < 9223372036854775808) (h63' : L < 9223372036854775808) (hi' : i ≤ n) (hL : n < i + L) (hp : pl.length = L) :
    Ctr Tryz.prog 152 [RV gr, .slice (some ⟨gb, 0, none⟩) L L] G [(gr, RB gs n cap i), (gb, C pl 5)] (fun r H' => ∃ m e pl', r = .tuple #[.int .i64 m, e] ∧ (e = EV gE ∨ e = EV gU) ∧ H' = [(gr, RB gs n cap n), (gb, C pl' 5)]) := by
  refine fn_enter 13 Tryz.func152 rfl Tryz.ntmps152 rfl ?_
  intro w0
  refine c_seq ?_
  refine c_region ?_
  refine o_e rfl rfl rfl (e_assign rfl) ?_
  refine o_e rfl rfl rfl (e_assign rfl) ?_
  refine o_nil ?_
  refine n_code ?_
  refine c_seq ?_
  refine c_region ?_
  refine o_e rfl rfl rfl (e_move rfl) ?_
  refine o_e rfl rfl rfl (e_move rfl) ?_
  refine o_e rfl rfl rfl (e_move rfl) ?_
  first | refine o_e rfl rfl rfl (e_lenl Tryz.runUnderlying72 rfl) ?_ | refine o_e rfl rfl rfl (e_lenO Tryz.runUnderlying72 (by assumption) rfl) ?_
  refine o_l rfl (l_call Tryz.call201 (short_is hD hE hU hn hc h63 h63' hi' hL hp) rfl rfl (.cons .head (.cons .head .nil))) ?_
  rintro ⟨r, H'⟩ ⟨m, e, pl', rfl, he, rfl⟩
  simp only [List.cons_append, List.nil_append]
  refine o_e rfl rfl rfl (e_extract rfl rfl) ?_
  refine o_e rfl rfl rfl (e_extract rfl rfl) ?_
  refine o_e rfl rfl rfl (e_assign rfl) ?_
  refine o_e rfl rfl rfl (e_assign rfl) ?_
  refine o_nil ?_
  refine n_code ?_
  refine c_ret ?_
  refine r_fn (l := [.tmp 4, .tmp 5]) Tryz.results152 rfl rfl ?_
  exact ⟨_, _, _, rfl, he, rfl⟩
theorem u32_is {v : Value} {b0 b1 b2 b3 : UInt8} (hB : (gb, C (B [b0, b1, b2, b3]) 5) ∈ G) : CtrP Tryz.prog 330 [v, .slice (some ⟨gb, 0, none⟩) 4 4] G (.int .u32 (le [b0, b1, b2, b3] : Nat)) := by
  have h0 := b0.toNat_lt
  have h1 := b1.toNat_lt
  have h2 := b2.toNat_lt
  have h3 := b3.toNat_lt
  refine fn_enter 30 Tryz.func330 rfl Tryz.ntmps330 rfl ?_
  intro w0
  refine c_seq ?_
  refine c_region ?_
  refine o_l rfl (l_box rfl rfl rfl) ?_; intro g2 _
  refine o_e rfl rfl rfl (e_assign rfl) ?_
  refine o_nil ?_
  refine n_code ?_
  refine c_seq ?_
  refine c_region ?_
  refine o_e rfl rfl rfl (e_move rfl) ?_
  first | refine o_e rfl rfl rfl (e_ian Tryz.runUnderlying72 Tryz.sizeOf5 rfl rfl (by omega)) ?_ | refine o_e rfl rfl rfl (e_ia Tryz.runUnderlying72 Tryz.sizeOf5 rfl rfl (by omega) (by omega)) ?_
  refine o_e rfl rfl rfl (e_load Tryz.isAgg5 rfl (by first | exact .inr (by assumption) | exact .inl (by repeat (first | exact List.Mem.head _ | refine List.Mem.tail _ ?_))) (by first | rfl | assumption)) ?_
  refine o_nil ?_
  refine n_code ?_
  refine c_seq ?_
  refine c_regionq (by kernel_rfl) (by kernel_rfl) ?_
  refine q_e rfl rfl rfl (e_move rfl) ?_
  first | refine q_e rfl rfl rfl (e_ian Tryz.runUnderlying72 Tryz.sizeOf5 rfl rfl (by omega)) ?_ | refine q_e rfl rfl rfl (e_ia Tryz.runUnderlying72 Tryz.sizeOf5 rfl rfl (by omega) (by omega)) ?_
  refine q_e rfl rfl rfl (e_load Tryz.isAgg5 rfl (by first | exact .inr (by assumption) | exact .inl (by repeat (first | exact List.Mem.head _ | refine List.Mem.tail _ ?_))) (by first | rfl | assumption)) ?_
  first | refine q_e rfl rfl rfl (e_convn Tryz.runUnderlying5 Tryz.runUnderlying212 rfl (by simp only [inR]; omega)) ?_ | refine q_e rfl rfl rfl (e_conv Tryz.runUnderlying5 Tryz.runUnderlying212 rfl) ?_
  refine q_e rfl rfl rfl (e_move rfl) ?_
  first | refine q_e rfl rfl rfl (e_ian Tryz.runUnderlying72 Tryz.sizeOf5 rfl rfl (by omega)) ?_ | refine q_e rfl rfl rfl (e_ia Tryz.runUnderlying72 Tryz.sizeOf5 rfl rfl (by omega) (by omega)) ?_
  refine q_e rfl rfl rfl (e_load Tryz.isAgg5 rfl (by first | exact .inr (by assumption) | exact .inl (by repeat (first | exact List.Mem.head _ | refine List.Mem.tail _ ?_))) (by first | rfl | assumption)) ?_
  first | refine q_e rfl rfl rfl (e_convn Tryz.runUnderlying5 Tryz.runUnderlying212 rfl (by simp only [inR]; omega)) ?_ | refine q_e rfl rfl rfl (e_conv Tryz.runUnderlying5 Tryz.runUnderlying212 rfl) ?_
  refine q_e rfl rfl rfl (e_shl rfl rfl (by omega)) ?_
  refine q_e rfl rfl rfl (e_or rfl rfl) ?_
  refine q_e rfl rfl rfl (e_move rfl) ?_
  first | refine q_e rfl rfl rfl (e_ian Tryz.runUnderlying72 Tryz.sizeOf5 rfl rfl (by omega)) ?_ | refine q_e rfl rfl rfl (e_ia Tryz.runUnderlying72 Tryz.sizeOf5 rfl rfl (by omega) (by omega)) ?_
  refine q_e rfl rfl rfl (e_load Tryz.isAgg5 rfl (by first | exact .inr (by assumption) | exact .inl (by repeat (first | exact List.Mem.head _ | refine List.Mem.tail _ ?_))) (by first | rfl | assumption)) ?_
  first | refine q_e rfl rfl rfl (e_convn Tryz.runUnderlying5 Tryz.runUnderlying212 rfl (by simp only [inR]; omega)) ?_ | refine q_e rfl rfl rfl (e_conv Tryz.runUnderlying5 Tryz.runUnderlying212 rfl) ?_
  refine q_e rfl rfl rfl (e_shl rfl rfl (by omega)) ?_
  refine q_e rfl rfl rfl (e_or rfl rfl) ?_
  refine q_e rfl rfl rfl (e_move rfl) ?_
  first | refine q_e rfl rfl rfl (e_ian Tryz.runUnderlying72 Tryz.sizeOf5 rfl rfl (by omega)) ?_ | refine q_e rfl rfl rfl (e_ia Tryz.runUnderlying72 Tryz.sizeOf5 rfl rfl (by omega) (by omega)) ?_
  refine q_e rfl rfl rfl (e_load Tryz.isAgg5 rfl (by first | exact .inr (by assumption) | exact .inl (by repeat (first | exact List.Mem.head _ | refine List.Mem.tail _ ?_))) (by first | rfl | assumption)) ?_
  first | refine q_e rfl rfl rfl (e_convn Tryz.runUnderlying5 Tryz.runUnderlying212 rfl (by simp only [inR]; omega)) ?_ | refine q_e rfl rfl rfl (e_conv Tryz.runUnderlying5 Tryz.runUnderlying212 rfl) ?_
  refine q_e rfl rfl rfl (e_shl rfl rfl (by omega)) ?_
  refine q_e rfl rfl rfl (e_or rfl rfl) ?_
  refine q_e rfl rfl rfl (e_assign rfl) ?_
  refine q_nil ?_
  refine n_code ?_
  refine c_ret ?_
  refine WR.less (fun _ _ h => h) (List.nil_sublist _) ?_
  refine r_fn1 Tryz.results330 rfl ?_
  refine ⟨?_, rfl⟩
  show Value.int _ _ = Value.int _ _
  congr 1
  rw [or_sh rfl 8 8 rfl (by decide) (by omega) (by show _ < 2 ^ 32; omega), or_sh rfl 16 16 rfl (by decide) (by omega) (by show _ < 2 ^ 32; omega), or_sh rfl 24 24 rfl (by decide) (by omega) (by show _ < 2 ^ 32; omega)]
  simp only [le]
  omega
theorem u64_is {v : Value} {b0 b1 b2 b3 b4 b5 b6 b7 : UInt8} (hB : (gb, C (B [b0, b1, b2, b3, b4, b5, b6, b7]) 5) ∈ G) : CtrP Tryz.prog 214 [v, .slice (some ⟨gb, 0, none⟩) 8 8] G (.int .u64 (le [b0, b1, b2, b3, b4, b5, b6, b7] : Nat)) := by
  have h0 := b0.toNat_lt
  have h1 := b1.toNat_lt
  have h2 := b2.toNat_lt
  have h3 := b3.toNat_lt
  have h4 := b4.toNat_lt
  have h5 := b5.toNat_lt
  have h6 := b6.toNat_lt
  have h7 := b7.toNat_lt
  refine fn_enter 54 Tryz.func214 rfl Tryz.ntmps214 rfl ?_
  intro w0
  refine c_seq ?_
  refine c_region ?_
  refine o_l rfl (l_box rfl rfl rfl) ?_; intro g2 _
  refine o_e rfl rfl rfl (e_assign rfl) ?_
  refine o_nil ?_
  refine n_code ?_
  refine c_seq ?_
  refine c_region ?_
  refine o_e rfl rfl rfl (e_move rfl) ?_
  first | refine o_e rfl rfl rfl (e_ian Tryz.runUnderlying72 Tryz.sizeOf5 rfl rfl (by omega)) ?_ | refine o_e rfl rfl rfl (e_ia Tryz.runUnderlying72 Tryz.sizeOf5 rfl rfl (by omega) (by omega)) ?_
  refine o_e rfl rfl rfl (e_load Tryz.isAgg5 rfl (by first | exact .inr (by assumption) | exact .inl (by repeat (first | exact List.Mem.head _ | refine List.Mem.tail _ ?_))) (by first | rfl | assumption)) ?_
  refine o_nil ?_
  refine n_code ?_
  refine c_seq ?_
  refine c_regionq (by kernel_rfl) (by kernel_rfl) ?_
  refine q_e rfl rfl rfl (e_move rfl) ?_
  first | refine q_e rfl rfl rfl (e_ian Tryz.runUnderlying72 Tryz.sizeOf5 rfl rfl (by omega)) ?_ | refine q_e rfl rfl rfl (e_ia Tryz.runUnderlying72 Tryz.sizeOf5 rfl rfl (by omega) (by omega)) ?_
  refine q_e rfl rfl rfl (e_load Tryz.isAgg5 rfl (by first | exact .inr (by assumption) | exact .inl (by repeat (first | exact List.Mem.head _ | refine List.Mem.tail _ ?_))) (by first | rfl | assumption)) ?_
  first | refine q_e rfl rfl rfl (e_convn Tryz.runUnderlying5 Tryz.runUnderlying23 rfl (by simp only [inR]; omega)) ?_ | refine q_e rfl rfl rfl (e_conv Tryz.runUnderlying5 Tryz.runUnderlying23 rfl) ?_
  refine q_e rfl rfl rfl (e_move rfl) ?_
  first | refine q_e rfl rfl rfl (e_ian Tryz.runUnderlying72 Tryz.sizeOf5 rfl rfl (by omega)) ?_ | refine q_e rfl rfl rfl (e_ia Tryz.runUnderlying72 Tryz.sizeOf5 rfl rfl (by omega) (by omega)) ?_
  refine q_e rfl rfl rfl (e_load Tryz.isAgg5 rfl (by first | exact .inr (by assumption) | exact .inl (by repeat (first | exact List.Mem.head _ | refine List.Mem.tail _ ?_))) (by first | rfl | assumption)) ?_
  first | refine q_e rfl rfl rfl (e_convn Tryz.runUnderlying5 Tryz.runUnderlying23 rfl (by simp only [inR]; omega)) ?_ | refine q_e rfl rfl rfl (e_conv Tryz.runUnderlying5 Tryz.runUnderlying23 rfl) ?_
  refine q_e rfl rfl rfl (e_shl rfl rfl (by omega)) ?_
  refine q_e rfl rfl rfl (e_or rfl rfl) ?_
  refine q_e rfl rfl rfl (e_move rfl) ?_
  first | refine q_e rfl rfl rfl (e_ian Tryz.runUnderlying72 Tryz.sizeOf5 rfl rfl (by omega)) ?_ | refine q_e rfl rfl rfl (e_ia Tryz.runUnderlying72 Tryz.sizeOf5 rfl rfl (by omega) (by omega)) ?_
  refine q_e rfl rfl rfl (e_load Tryz.isAgg5 rfl (by first | exact .inr (by assumption) | exact .inl (by repeat (first | exact List.Mem.head _ | refine List.Mem.tail _ ?_))) (by first | rfl | assumption)) ?_
  first | refine q_e rfl rfl rfl (e_convn Tryz.runUnderlying5 Tryz.runUnderlying23 rfl (by simp only [inR]; omega)) ?_ | refine q_e rfl rfl rfl (e_conv Tryz.runUnderlying5 Tryz.runUnderlying23 rfl) ?_
  refine q_e rfl rfl rfl (e_shl rfl rfl (by omega)) ?_
  refine q_e rfl rfl rfl (e_or rfl rfl) ?_
  refine q_e rfl rfl rfl (e_move rfl) ?_
  first | refine q_e rfl rfl rfl (e_ian Tryz.runUnderlying72 Tryz.sizeOf5 rfl rfl (by omega)) ?_ | refine q_e rfl rfl rfl (e_ia Tryz.runUnderlying72 Tryz.sizeOf5 rfl rfl (by omega) (by omega)) ?_
  refine q_e rfl rfl rfl (e_load Tryz.isAgg5 rfl (by first | exact .inr (by assumption) | exact .inl (by repeat (first | exact List.Mem.head _ | refine List.Mem.tail _ ?_))) (by first | rfl | assumption)) ?_
  first | refine q_e rfl rfl rfl (e_convn Tryz.runUnderlying5 Tryz.runUnderlying23 rfl (by simp only [inR]; omega)) ?_ | refine q_e rfl rfl rfl (e_conv Tryz.runUnderlying5 Tryz.runUnderlying23 rfl) ?_
  refine q_e rfl rfl rfl (e_shl rfl rfl (by omega)) ?_
  refine q_e rfl rfl rfl (e_or rfl rfl) ?_
  refine q_e rfl rfl rfl (e_move rfl) ?_
  first | refine q_e rfl rfl rfl (e_ian Tryz.runUnderlying72 Tryz.sizeOf5 rfl rfl (by omega)) ?_ | refine q_e rfl rfl rfl (e_ia Tryz.runUnderlying72 Tryz.sizeOf5 rfl rfl (by omega) (by omega)) ?_
  refine q_e rfl rfl rfl (e_load Tryz.isAgg5 rfl (by first | exact .inr (by assumption) | exact .inl (by repeat (first | exact List.Mem.head _ | refine List.Mem.tail _ ?_))) (by first | rfl | assumption)) ?_
  first | refine q_e rfl rfl rfl (e_convn Tryz.runUnderlying5 Tryz.runUnderlying23 rfl (by simp only [inR]; omega)) ?_ | refine q_e rfl rfl rfl (e_conv Tryz.runUnderlying5 Tryz.runUnderlying23 rfl) ?_
  refine q_e rfl rfl rfl (e_shl rfl rfl (by omega)) ?_
  refine q_e rfl rfl rfl (e_or rfl rfl) ?_
  refine q_e rfl rfl rfl (e_move rfl) ?_
  first | refine q_e rfl rfl rfl (e_ian Tryz.runUnderlying72 Tryz.sizeOf5 rfl rfl (by omega)) ?_ | refine q_e rfl rfl rfl (e_ia Tryz.runUnderlying72 Tryz.sizeOf5 rfl rfl (by omega) (by omega)) ?_
  refine q_e rfl rfl rfl (e_load Tryz.isAgg5 rfl (by first | exact .inr (by assumption) | exact .inl (by repeat (first | exact List.Mem.head _ | refine List.Mem.tail _ ?_))) (by first | rfl | assumption)) ?_
  first | refine q_e rfl rfl rfl (e_convn Tryz.runUnderlying5 Tryz.runUnderlying23 rfl (by simp only [inR]; omega)) ?_ | refine q_e rfl rfl rfl (e_conv Tryz.runUnderlying5 Tryz.runUnderlying23 rfl) ?_
  refine q_e rfl rfl rfl (e_shl rfl rfl (by omega)) ?_
  refine q_e rfl rfl rfl (e_or rfl rfl) ?_
  refine q_e rfl rfl rfl (e_move rfl) ?_
  first | refine q_e rfl rfl rfl (e_ian Tryz.runUnderlying72 Tryz.sizeOf5 rfl rfl (by omega)) ?_ | refine q_e rfl rfl rfl (e_ia Tryz.runUnderlying72 Tryz.sizeOf5 rfl rfl (by omega) (by omega)) ?_
  refine q_e rfl rfl rfl (e_load Tryz.isAgg5 rfl (by first | exact .inr (by assumption) | exact .inl (by repeat (first | exact List.Mem.head _ | refine List.Mem.tail _ ?_))) (by first | rfl | assumption)) ?_
  first | refine q_e rfl rfl rfl (e_convn Tryz.runUnderlying5 Tryz.runUnderlying23 rfl (by simp only [inR]; omega)) ?_ | refine q_e rfl rfl rfl (e_conv Tryz.runUnderlying5 Tryz.runUnderlying23 rfl) ?_
  refine q_e rfl rfl rfl (e_shl rfl rfl (by omega)) ?_
  refine q_e rfl rfl rfl (e_or rfl rfl) ?_
  refine q_e rfl rfl rfl (e_move rfl) ?_
  first | refine q_e rfl rfl rfl (e_ian Tryz.runUnderlying72 Tryz.sizeOf5 rfl rfl (by omega)) ?_ | refine q_e rfl rfl rfl (e_ia Tryz.runUnderlying72 Tryz.sizeOf5 rfl rfl (by omega) (by omega)) ?_
  refine q_e rfl rfl rfl (e_load Tryz.isAgg5 rfl (by first | exact .inr (by assumption) | exact .inl (by repeat (first | exact List.Mem.head _ | refine List.Mem.tail _ ?_))) (by first | rfl | assumption)) ?_
  first | refine q_e rfl rfl rfl (e_convn Tryz.runUnderlying5 Tryz.runUnderlying23 rfl (by simp only [inR]; omega)) ?_ | refine q_e rfl rfl rfl (e_conv Tryz.runUnderlying5 Tryz.runUnderlying23 rfl) ?_
  refine q_e rfl rfl rfl (e_shl rfl rfl (by omega)) ?_
  refine q_e rfl rfl rfl (e_or rfl rfl) ?_
  refine q_e rfl rfl rfl (e_assign rfl) ?_
  refine q_nil ?_
  refine n_code ?_
  refine c_ret ?_
  refine WR.less (fun _ _ h => h) (List.nil_sublist _) ?_
  refine r_fn1 Tryz.results214 rfl ?_
  refine ⟨?_, rfl⟩
  show Value.int _ _ = Value.int _ _
  congr 1
  rw [or_sh rfl 8 8 rfl (by decide) (by omega) (by show _ < 2 ^ 64; omega), or_sh rfl 16 16 rfl (by decide) (by omega) (by show _ < 2 ^ 64; omega), or_sh rfl 24 24 rfl (by decide) (by omega) (by show _ < 2 ^ 64; omega), or_sh rfl 32 32 rfl (by decide) (by omega) (by show _ < 2 ^ 64; omega), or_sh rfl 40 40 rfl (by decide) (by omega) (by show _ < 2 ^ 64; omega), or_sh rfl 48 48 rfl (by decide) (by omega) (by show _ < 2 ^ 64; omega), or_sh rfl 56 56 rfl (by decide) (by omega) (by show _ < 2 ^ 64; omega)]
  simp only [le]
  omega
theorem take4 {l : List UInt8} (h : 4 ≤ l.length) : ∃ b0 b1 b2 b3, l.take 4 = [b0, b1, b2, b3] := by
  match l, h with
  | a :: b :: c :: d :: _, _ => exact ⟨a, b, c, d, rfl⟩
theorem take8 {l : List UInt8} (h : 8 ≤ l.length) : ∃ b0 b1 b2 b3 b4 b5 b6 b7, l.take 8 = [b0, b1, b2, b3, b4, b5, b6, b7] := by
  match l, h with
  | a :: b :: c :: d :: a' :: b' :: c' :: d' :: _, _ => exact ⟨a, b, c, d, a', b', c', d', rfl⟩
/-- A number of 4 bytes, into a cell. -/
theorem read32_is {gp off : Nat} {pc pc' : List Value} {ep : TypeId} (hD : (gs, DB bs rest lo hi) ∈ G) (hn : bs.length = n) (hc : n ≤ cap) (h63 : cap < 9223372036854775808) (hi' : i + 4 ≤ n) (hs : SetAt pc off (.int .u32 (le ((bs.drop i).take 4) : Nat)) pc') :
    Ctr Tryz.prog 321 [RV gr, .pointer (some ⟨gp, off, none⟩)] G [(gr, RB gs n cap i), (gp, C pc ep)] (fun r H' => r = .nilIface ∧ H' = [(gr, RB gs n cap (i + 4)), (gp, C pc' ep)]) := by
  obtain ⟨b0, b1, b2, b3, hb⟩ := take4 (l := bs.drop i) (by simp; omega)
  have hrd := fun (gb : Nat) => readFull_is (G := G) (gr := gr) (gb := gb) (pl := [.int .u8 0, .int .u8 0, .int .u8 0, .int .u8 0]) hD hn hc h63 hi' (by decide) rfl
  rw [hb] at hs hrd
  refine fn_enter 23 Tryz.func321 rfl Tryz.ntmps321 rfl ?_
  intro w0
  refine c_seq ?_
  refine c_region ?_
  refine o_e rfl rfl rfl (e_assign rfl) ?_
  refine o_nil ?_
  refine n_code ?_
  refine c_seq ?_
  refine c_region ?_
  refine o_l rfl (l_mksc (l := [.int .u8 0, .int .u8 0, .int .u8 0, .int .u8 0]) Tryz.underlying72 (info_of Tryz.typeInfo5) rfl rfl rfl rfl rfl rfl rfl (Nat.le_refl _) (by kernel_rfl)) ?_
  intro g8 _
  refine o_e rfl rfl rfl (e_assign rfl) ?_
  refine o_nil ?_
  refine n_code ?_
  refine c_seq ?_
  refine c_seq ?_
  refine c_region ?_
  refine o_e rfl rfl rfl (e_move rfl) ?_
  refine o_e rfl rfl rfl (e_move rfl) ?_
  refine o_l rfl (l_call Tryz.call152 (hrd g8) rfl rfl (.cons (.tail .head) (.cons .head .nil))) ?_
  rintro ⟨r, H'⟩ ⟨rfl, rfl⟩
  simp only [List.cons_append, List.nil_append]
  refine o_e rfl rfl rfl (e_move rfl) ?_
  refine o_e rfl rfl rfl (e_extract rfl rfl) ?_
  refine o_e rfl rfl rfl (e_extract rfl rfl) ?_
  refine o_e rfl rfl rfl (e_assign rfl) ?_
  refine o_e rfl rfl rfl (e_assign rfl) ?_
  refine o_nil ?_
  refine n_code ?_
  refine c_seq ?_
  refine c_region ?_
  refine o_e rfl rfl rfl (e_move rfl) ?_
  first | refine o_e rfl rfl rfl (e_inen Tryz.runUnderlying80 rfl) ?_ | refine o_e rfl rfl rfl (e_nnen Tryz.runUnderlying80 rfl) ?_
  refine o_nil ?_
  refine n_code ?_
  refine c_else rfl ?_
  refine c_skip ?_
  refine n_code ?_
  refine c_seq ?_
  refine c_region ?_
  refine o_e rfl rfl rfl (e_move rfl) ?_
  refine o_e rfl rfl rfl (e_load0 Tryz.isAgg294 Tryz.sizeOf294 rfl) ?_
  refine o_e rfl rfl rfl (e_move rfl) ?_
  refine o_l rfl (l_callj (HJ := [(g8, C (B [b0, b1, b2, b3]) 5)]) Tryz.call330 (u32_is (G := _ ++ [_]) (List.mem_append_right _ (.head _))) rfl rfl .nil (by simp)) ?_
  rintro ⟨r, H'⟩ ⟨rfl, rfl⟩
  simp only [List.cons_append, List.nil_append]
  first | refine o_e rfl rfl rfl (e_nilCheck rfl) ?_ | refine o_e rfl rfl rfl (e_nilm (fun _ => by kernel_rfl) rfl) ?_
  refine o_l rfl (l_store Tryz.sizeOf212 rfl rfl rfl (.tail (.tail .head)) hs (by omega)) ?_
  intro _ _
  refine o_nil ?_
  refine n_code ?_
  refine c_seq ?_
  refine c_region ?_
  refine o_e rfl rfl rfl (e_assign rfl) ?_
  refine o_nil ?_
  refine n_code ?_
  refine c_ret ?_
  refine WR.sel (.cons .head (.cons (.tail .head) .nil)) ?_
  refine r_fn1 Tryz.results321 rfl ?_
  exact ⟨rfl, rfl⟩
theorem read32_short {gp off : Nat} {v : Value} (hD : (gs, DB bs rest lo hi) ∈ G) (hE : (3, Obj.cells (EV gE :: t3).toArray e3 f3) ∈ G) (hU : (5, Obj.cells (EV gU :: t5).toArray e5 f5) ∈ G) (hn : bs.length = n) (hc : n ≤ cap) (h63 : cap < 9223372036854775808) (hi' : i ≤ n) (hL : n < i + 4) :
    Ctr Tryz.prog 321 [RV gr, v] G [(gr, RB gs n cap i)] (fun r H' => ∃ g, (g = gE ∨ g = gU) ∧ r = EV g ∧ H' = [(gr, RB gs n cap n)]) := by
  have hrd := fun (gb : Nat) => readFull_short (G := G) (gr := gr) (gb := gb) (L := 4) (pl := [.int .u8 0, .int .u8 0, .int .u8 0, .int .u8 0]) hD hE hU hn hc h63 (by decide) hi' hL rfl
  refine fn_enter 23 Tryz.func321 rfl Tryz.ntmps321 rfl ?_
  intro w0
  refine c_seq ?_
  refine c_region ?_
  refine o_e rfl rfl rfl (e_assign rfl) ?_
  refine o_nil ?_
  refine n_code ?_
  refine c_seq ?_
  refine c_region ?_
  refine o_l rfl (l_mksc (l := [.int .u8 0, .int .u8 0, .int .u8 0, .int .u8 0]) Tryz.underlying72 (info_of Tryz.typeInfo5) rfl rfl rfl rfl rfl rfl rfl (Nat.le_refl _) (by kernel_rfl)) ?_
  intro g8 _
  refine o_e rfl rfl rfl (e_assign rfl) ?_
  refine o_nil ?_
  refine n_code ?_
  refine c_seq ?_
  refine c_seq ?_
  refine c_region ?_
  refine o_e rfl rfl rfl (e_move rfl) ?_
  refine o_e rfl rfl rfl (e_move rfl) ?_
  refine o_l rfl (l_call Tryz.call152 (hrd g8) rfl rfl (.cons (.tail .head) (.cons .head .nil))) ?_
  rintro ⟨r, H'⟩ ⟨m, e, pl', rfl, he, rfl⟩
  simp only [List.cons_append, List.nil_append]
  obtain ⟨ge, rfl, hg⟩ : ∃ g, e = EV g ∧ (g = gE ∨ g = gU) := by rcases he with rfl | rfl <;> exact ⟨_, rfl, by simp⟩
  refine o_e rfl rfl rfl (e_move rfl) ?_
  refine o_e rfl rfl rfl (e_extract rfl rfl) ?_
  refine o_e rfl rfl rfl (e_extract rfl rfl) ?_
  refine o_e rfl rfl rfl (e_assign rfl) ?_
  refine o_e rfl rfl rfl (e_assign rfl) ?_
  refine o_nil ?_
  refine n_code ?_
  refine c_seq ?_
  refine c_region ?_
  refine o_e rfl rfl rfl (e_move rfl) ?_
  first | refine o_e rfl rfl rfl (e_inen Tryz.runUnderlying80 rfl) ?_ | refine o_e rfl rfl rfl (e_nnen Tryz.runUnderlying80 rfl) ?_
  refine o_nil ?_
  refine n_code ?_
  refine c_then rfl ?_
  refine c_seq ?_
  refine c_region ?_
  refine o_e rfl rfl rfl (e_move rfl) ?_
  refine o_e rfl rfl rfl (e_assign rfl) ?_
  refine o_nil ?_
  refine n_code ?_
  refine c_ret ?_
  refine WR.sel (.cons .head .nil) ?_
  refine r_fn1 Tryz.results321 rfl ?_
  exact ⟨ge, hg, rfl, rfl⟩
/-- A number of 8 bytes, into a cell. -/
theorem read64_is {gp off : Nat} {pc pc' : List Value} {ep : TypeId} (hD : (gs, DB bs rest lo hi) ∈ G) (hn : bs.length = n) (hc : n ≤ cap) (h63 : cap < 9223372036854775808) (hi' : i + 8 ≤ n) (hs : SetAt pc off (.int .u64 (le ((bs.drop i).take 8) : Nat)) pc') :
    Ctr Tryz.prog 331 [RV gr, .pointer (some ⟨gp, off, none⟩)] G [(gr, RB gs n cap i), (gp, C pc ep)] (fun r H' => r = .nilIface ∧ H' = [(gr, RB gs n cap (i + 8)), (gp, C pc' ep)]) := by
  obtain ⟨b0, b1, b2, b3, b4, b5, b6, b7, hb⟩ := take8 (l := bs.drop i) (by simp; omega)
  have hrd := fun (gb : Nat) => readFull_is (G := G) (gr := gr) (gb := gb) (pl := [.int .u8 0, .int .u8 0, .int .u8 0, .int .u8 0, .int .u8 0, .int .u8 0, .int .u8 0, .int .u8 0]) hD hn hc h63 hi' (by decide) rfl
  rw [hb] at hs hrd
  refine fn_enter 23 Tryz.func331 rfl Tryz.ntmps331 rfl ?_
  intro w0
  refine c_seq ?_
  refine c_region ?_
  refine o_e rfl rfl rfl (e_assign rfl) ?_
  refine o_nil ?_
  refine n_code ?_
  refine c_seq ?_
  refine c_region ?_
  refine o_l rfl (l_mksc (l := [.int .u8 0, .int .u8 0, .int .u8 0, .int .u8 0, .int .u8 0, .int .u8 0, .int .u8 0, .int .u8 0]) Tryz.underlying72 (info_of Tryz.typeInfo5) rfl rfl rfl rfl rfl rfl rfl (Nat.le_refl _) (by kernel_rfl)) ?_
  intro g8 _
  refine o_e rfl rfl rfl (e_assign rfl) ?_
  refine o_nil ?_
  refine n_code ?_
  refine c_seq ?_
  refine c_seq ?_
  refine c_region ?_
  refine o_e rfl rfl rfl (e_move rfl) ?_
  refine o_e rfl rfl rfl (e_move rfl) ?_
  refine o_l rfl (l_call Tryz.call152 (hrd g8) rfl rfl (.cons (.tail .head) (.cons .head .nil))) ?_
  rintro ⟨r, H'⟩ ⟨rfl, rfl⟩
  simp only [List.cons_append, List.nil_append]
  refine o_e rfl rfl rfl (e_move rfl) ?_
  refine o_e rfl rfl rfl (e_extract rfl rfl) ?_
  refine o_e rfl rfl rfl (e_extract rfl rfl) ?_
  refine o_e rfl rfl rfl (e_assign rfl) ?_
  refine o_e rfl rfl rfl (e_assign rfl) ?_
  refine o_nil ?_
  refine n_code ?_
  refine c_seq ?_
  refine c_region ?_
  refine o_e rfl rfl rfl (e_move rfl) ?_
  first | refine o_e rfl rfl rfl (e_inen Tryz.runUnderlying80 rfl) ?_ | refine o_e rfl rfl rfl (e_nnen Tryz.runUnderlying80 rfl) ?_
  refine o_nil ?_
  refine n_code ?_
  refine c_else rfl ?_
  refine c_skip ?_
  refine n_code ?_
  refine c_seq ?_
  refine c_region ?_
  refine o_e rfl rfl rfl (e_move rfl) ?_
  refine o_e rfl rfl rfl (e_load0 Tryz.isAgg294 Tryz.sizeOf294 rfl) ?_
  refine o_e rfl rfl rfl (e_move rfl) ?_
  refine o_l rfl (l_callj (HJ := [(g8, C (B [b0, b1, b2, b3, b4, b5, b6, b7]) 5)]) Tryz.call214 (u64_is (G := _ ++ [_]) (List.mem_append_right _ (.head _))) rfl rfl .nil (by simp)) ?_
  rintro ⟨r, H'⟩ ⟨rfl, rfl⟩
  simp only [List.cons_append, List.nil_append]
  first | refine o_e rfl rfl rfl (e_nilCheck rfl) ?_ | refine o_e rfl rfl rfl (e_nilm (fun _ => by kernel_rfl) rfl) ?_
  refine o_l rfl (l_store Tryz.sizeOf23 rfl rfl rfl (.tail (.tail .head)) hs (by omega)) ?_
  intro _ _
  refine o_nil ?_
  refine n_code ?_
  refine c_seq ?_
  refine c_region ?_
  refine o_e rfl rfl rfl (e_assign rfl) ?_
  refine o_nil ?_
  refine n_code ?_
  refine c_ret ?_
  refine WR.sel (.cons .head (.cons (.tail .head) .nil)) ?_
  refine r_fn1 Tryz.results331 rfl ?_
  exact ⟨rfl, rfl⟩
theorem read64_short {gp off : Nat} {v : Value} (hD : (gs, DB bs rest lo hi) ∈ G) (hE : (3, Obj.cells (EV gE :: t3).toArray e3 f3) ∈ G) (hU : (5, Obj.cells (EV gU :: t5).toArray e5 f5) ∈ G) (hn : bs.length = n) (hc : n ≤ cap) (h63 : cap < 9223372036854775808) (hi' : i ≤ n) (hL : n < i + 8) :
    Ctr Tryz.prog 331 [RV gr, v] G [(gr, RB gs n cap i)] (fun r H' => ∃ g, (g = gE ∨ g = gU) ∧ r = EV g ∧ H' = [(gr, RB gs n cap n)]) := by
  have hrd := fun (gb : Nat) => readFull_short (G := G) (gr := gr) (gb := gb) (L := 8) (pl := [.int .u8 0, .int .u8 0, .int .u8 0, .int .u8 0, .int .u8 0, .int .u8 0, .int .u8 0, .int .u8 0]) hD hE hU hn hc h63 (by decide) hi' hL rfl
  refine fn_enter 23 Tryz.func331 rfl Tryz.ntmps331 rfl ?_
  intro w0
  refine c_seq ?_
  refine c_region ?_
  refine o_e rfl rfl rfl (e_assign rfl) ?_
  refine o_nil ?_
  refine n_code ?_
  refine c_seq ?_
  refine c_region ?_
  refine o_l rfl (l_mksc (l := [.int .u8 0, .int .u8 0, .int .u8 0, .int .u8 0, .int .u8 0, .int .u8 0, .int .u8 0, .int .u8 0]) Tryz.underlying72 (info_of Tryz.typeInfo5) rfl rfl rfl rfl rfl rfl rfl (Nat.le_refl _) (by kernel_rfl)) ?_
  intro g8 _
  refine o_e rfl rfl rfl (e_assign rfl) ?_
  refine o_nil ?_
  refine n_code ?_
  refine c_seq ?_
  refine c_seq ?_
  refine c_region ?_
  refine o_e rfl rfl rfl (e_move rfl) ?_
  refine o_e rfl rfl rfl (e_move rfl) ?_
  refine o_l rfl (l_call Tryz.call152 (hrd g8) rfl rfl (.cons (.tail .head) (.cons .head .nil))) ?_
  rintro ⟨r, H'⟩ ⟨m, e, pl', rfl, he, rfl⟩
  simp only [List.cons_append, List.nil_append]
  obtain ⟨ge, rfl, hg⟩ : ∃ g, e = EV g ∧ (g = gE ∨ g = gU) := by rcases he with rfl | rfl <;> exact ⟨_, rfl, by simp⟩
  refine o_e rfl rfl rfl (e_move rfl) ?_
  refine o_e rfl rfl rfl (e_extract rfl rfl) ?_
  refine o_e rfl rfl rfl (e_extract rfl rfl) ?_
  refine o_e rfl rfl rfl (e_assign rfl) ?_
  refine o_e rfl rfl rfl (e_assign rfl) ?_
  refine o_nil ?_
  refine n_code ?_
  refine c_seq ?_
  refine c_region ?_
  refine o_e rfl rfl rfl (e_move rfl) ?_
  first | refine o_e rfl rfl rfl (e_inen Tryz.runUnderlying80 rfl) ?_ | refine o_e rfl rfl rfl (e_nnen Tryz.runUnderlying80 rfl) ?_
  refine o_nil ?_
  refine n_code ?_
  refine c_then rfl ?_
  refine c_seq ?_
  refine c_region ?_
  refine o_e rfl rfl rfl (e_move rfl) ?_
  refine o_e rfl rfl rfl (e_assign rfl) ?_
  refine o_nil ?_
  refine n_code ?_
  refine c_ret ?_
  refine WR.sel (.cons .head .nil) ?_
  refine r_fn1 Tryz.results331 rfl ?_
  exact ⟨ge, hg, rfl, rfl⟩
end
end Go.Proofs
