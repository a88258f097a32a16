/- laws.ixOne at its two kinds, run by laws: part 6. -/
import Derived.KernelRfl
import Derived.Test.YtochgglejmfelaaGreatDoorZ5
namespace Go.Proofs
open Go Go.Sl
set_option maxRecDepth 100000
set_option maxHeartbeats 4000000
theorem z120 {G : HP}  :
    CtrE Tryz.prog 36 [S [128, 8, 1, 0, 0, 0, 9, 0, 0, 0, 9, 0, 0, 0, 0, 0, 0, 0, 97, 7, 0, 0, 0, 0, 0, 0, 0], Value.agg #[Value.int .u64 1, Value.int .u64 85, Value.int .u64 0, S [97]], Value.int .i64 9] G [] (T := Tl) (fun y => TlOk 1 1 y) (fun y => Value.tuple #[Value.slice (some ⟨y.g, 0, none⟩) 1 y.cap, ub 0]) (fun y => [(y.g, Ob [Value.int .u64 7] y 23)]) := by
  refine fn_enter 39 Tryz.func36 rfl Tryz.ntmps36 rfl ?_
  intro w0
  refine c_seq <| c_region ?_
  refine o_l rfl (l_box rfl rfl rfl) ?_; intro g1 _
  refine o_l rfl (l_box rfl rfl rfl) ?_; intro g2 _
  refine asg rfl rfl <| asg rfl rfl <| o_nil <| n_code <| c_seq <| c_region <| mv rfl rfl ?_
  refine o_l rfl (l_sbc (L := xb14) Tryz.underlying9 Tryz.underlying72 Tryz.underlying5 rfl rfl rfl rfl (by kernel_rfl)) ?_; intro y3 hy3
  refine o_l rfl (l_calle Tryz.call40 (z79 y3 hy3) rfl rfl (.cons (.head) (.nil))) ?_; intro r4 hr4
  refine o_cat (.cons (.cons (.nil))) <| oe rfl (e_mkif Tryz.runUnderlying75 rfl rfl) ?_
  refine o_l rfl (l_calle Tryz.call41 (z109 (r4) y3 hy3) rfl rfl (.cons (.tail (.head)) (.cons (.head) (.nil)))) ?_; intro r5 hr5
  refine o_cat (.cons (.cons (.cons (.cons (.cons (.nil)))))) <| mv rfl rfl <| oe rfl (e_extract rfl rfl) <| oe rfl (e_extract rfl rfl) <| asg rfl rfl <| asg rfl rfl <| o_nil <| n_code <| c_seq <| c_region <| oe rfl (e_loada Tryz.isAgg25 Tryz.sizeOf25 rfl (.inl (.tail _ (.tail _ (.tail _ (.tail _ (.tail _ (.tail _ (.head _)))))))) (.take (.take (.take (.take (.done)))))) ?_
  refine o_l rfl (l_calle Tryz.call68 (z28 ) rfl rfl (.nil)) ?_; intro r6 hr6
  refine o_cat (.nil) <| mv rfl rfl <| oe rfl (e_extract rfl rfl) <| oe rfl (e_extract rfl rfl) ?_
  refine o_l rfl (l_alloc Tryz.zeroValue111 rfl rfl) ?_; intro g7 _
  refine o_l rfl (l_storea Tryz.sizeOf111 rfl rfl rfl (by simp [Value.oneCell']) (.head) (.take (.done)) nofrs0) ?_; intro _ _
  refine asg rfl rfl <| o_nil <| n_code <| c_seq <| c_seq <| c_region <| mv rfl rfl <| oe rfl (e_nnen Tryz.runUnderlying80 rfl) <| mv rfl rfl <| o_e rfl rfl rfl (e_move rfl) <| o_e rfl rfl rfl (e_as (r := Value.bool false) (e_not rfl) rfl) <| oe rfl (e_pick_f rfl rfl) <| o_nil <| n_code <| c_else rfl <| c_skip <| n_code <| c_seq <| c_region ?_
  refine o_l rfl (l_alloc Tryz.zeroValue29 rfl rfl) ?_; intro g8 _
  refine o_nil <| n_code <| c_seq <| c_region <| mv rfl rfl <| oe rfl (e_loada Tryz.isAgg111 Tryz.sizeOf111 rfl (.inl (.tail _ (.head _))) (.take (.done))) <| oe rfl (e_func rfl rfl) ?_
  refine o_l rfl (l_callie Tryz.call314 (by intro w; kernel_rfl) (z118 (r5.1) (r5.2.1) (r5.2.2) (g8) (g2)) rfl rfl rfl (.cons (.tail (.tail (.tail (.tail (.head))))) (.cons (.tail (.tail (.tail (.tail (.head))))) (.cons (.tail (.tail (.tail (.tail (.head))))) (.cons (.head) (.cons (.tail (.tail (.tail (.head)))) (.nil))))))) ?_; intro r9 hr9
  refine o_cat (.cons (.cons (.cons (.cons (.cons (.cons (.nil))))))) <| asg rfl rfl <| o_nil <| n_code <| c_seq ?_
  refine c_regiond [(r5.1, C [Value.map (some r5.2.1)] 327), (r5.2.1, Mo .u32 [(9, Value.agg #[Value.int .u32 9, Value.int .u64 1, Value.slice (some ⟨r5.2.2, 0, none⟩) 9 9])]), (r5.2.2, C xb3 5), (g8, C [Value.slice (some ⟨r9.g, 0, none⟩) 1 r9.cap] 29), (g2, C [Value.int .i64 9] 3), (r9.g, Ob [Value.int .u64 7] r9 23), (g7, C [S [1, 85, 0, 1, 97]] 111), (r4, C [Value.slice (some ⟨y3.g, 0, none⟩) 27 y3.cap, Value.int .i64 27, Value.int .i64 (-1)] 144), (y3.g, Ob xb14 y3 5), (g1, C [Value.int .u64 1, Value.int .u64 85, Value.int .u64 0, S [97]] 25)] (by kernel_rfl) (.cons_cons _ (.cons_cons _ (.cons_cons _ (.cons_cons _ (.cons_cons _ (.cons_cons _ (.cons_cons _ (.cons_cons _ (.cons_cons _ (.cons_cons _ (.slnil))))))))))) ?_
  refine d_e 0 (fun _ _ _ _ _ h => h) rfl (by kernel_rfl) (by kernel_rfl) (by kernel_rfl) rfl rfl rfl (e_load Tryz.isAgg29 rfl (.inl (.tail _ (.tail _ (.tail _ (.head _))))) rfl) <| d_e 1 (fun _ _ _ _ _ h => h) rfl (by kernel_rfl) (by kernel_rfl) (by kernel_rfl) rfl rfl rfl (e_move rfl) ?_
  refine d_l 2 (by kernel_rfl) rfl rfl (l_calle Tryz.call70 (z119 ) rfl rfl (.nil)) (fun _ _ => hs_cons (.head _) (hs_cons (.tail _ (.head _)) (hs_cons (.tail _ (.tail _ (.head _))) (hs_cons (.tail _ (.tail _ (.tail _ (.head _)))) (hs_cons (.tail _ (.tail _ (.tail _ (.tail _ (.head _))))) (hs_cons (.tail _ (.tail _ (.tail _ (.tail _ (.tail _ (.head _)))))) (hs_cons (.tail _ (.tail _ (.tail _ (.tail _ (.tail _ (.tail _ (.head _))))))) (hs_cons (.tail _ (.tail _ (.tail _ (.tail _ (.tail _ (.tail _ (.tail _ (.head _)))))))) (hs_cons (.tail _ (.tail _ (.tail _ (.tail _ (.tail _ (.tail _ (.tail _ (.tail _ (.head _))))))))) (hs_cons (.tail _ (.tail _ (.tail _ (.tail _ (.tail _ (.tail _ (.tail _ (.tail _ (.tail _ (.head _)))))))))) (hs_nil))))))))))) ?_
  intro r10 hr10
  refine d_cat (.nil) <| d_e 3 (fun _ _ _ _ _ h => h) rfl (by kernel_rfl) (by kernel_rfl) (by kernel_rfl) rfl rfl rfl (e_assign rfl) <| d_e 4 (fun _ _ _ _ _ h => h) rfl (by kernel_rfl) (by kernel_rfl) (by kernel_rfl) rfl rfl rfl (e_assign rfl) <| d_nil (by kernel_rfl) <| n_code <| c_ret <| WR.sel (.cons (.tail (.tail (.tail (.tail (.tail (.head)))))) (.nil)) <| r_fn (l := [.tmp 6, .tmp 7]) Tryz.results36 rfl rfl ?_
  exact tells (y := (r9)) hr9 rfl rfl

theorem z121 {G : HP}  :
    CtrE Tryz.prog 14 [S [128, 8, 1, 0, 0, 0, 9, 0, 0, 0, 9, 0, 0, 0, 0, 0, 0, 0, 97, 7, 0, 0, 0, 0, 0, 0, 0], Value.agg #[Value.int .u64 1, Value.int .u64 85, Value.int .u64 0, S [97]], Value.int .i64 9] G [] (T := Tl) (fun y => TlOk 1 1 y) (fun y => Value.tuple #[Value.slice (some ⟨y.g, 0, none⟩) 1 y.cap, ub 0]) (fun y => [(y.g, Ob [Value.int .u64 7] y 23)]) := by
  refine fn_enter 14 Tryz.func14 rfl Tryz.ntmps14 rfl ?_
  intro w0
  refine c_seq <| c_region ?_
  refine o_l rfl (l_box rfl rfl rfl) ?_; intro g1 _
  refine asg rfl rfl <| asg rfl rfl <| o_nil <| n_code <| c_seq <| c_region <| mv rfl rfl <| oe rfl (e_loada Tryz.isAgg25 Tryz.sizeOf25 rfl (.inl (.head _)) (.take (.take (.take (.take (.done)))))) <| mv rfl rfl ?_
  refine o_l rfl (l_calle Tryz.call36 (z120 ) rfl rfl (.nil)) ?_; intro r2 hr2
  refine o_cat (.cons (.nil)) <| oe rfl (e_extract rfl rfl) <| oe rfl (e_extract rfl rfl) <| asg rfl rfl <| asg rfl rfl <| o_nil <| n_code <| c_ret <| WR.sel (.cons (.head) (.nil)) <| r_fn (l := [.tmp 6, .tmp 7]) Tryz.results14 rfl rfl ?_
  exact tells (y := (r2)) hr2 rfl rfl

theorem z122 {G : HP} (p0 : Nat) :
    CtrE Tryz.prog 15 [Value.slice (some ⟨p0, 0, none⟩) 1 1, Value.int .u64 1024] G [(p0, C [Value.int .u64 1, Value.int .u64 85, Value.int .u64 0, S [97], Value.int .u64 7] 56)] (T := Unit) (fun _ => True) (fun _ => S [128, 8, 1, 0, 0, 0, 9, 0, 0, 0, 9, 0, 0, 0, 0, 0, 0, 0, 97, 7, 0, 0, 0, 0, 0, 0, 0]) (fun _ => [(p0, C [Value.int .u64 1, Value.int .u64 85, Value.int .u64 0, S [97], Value.int .u64 7] 56)]) :=
  one_index (.inl rfl) ib_1024

theorem z123 {G : HP}  :
    CtrE Tryz.prog 17 [Value.int .u64 1024] G [] (T := Unit) (fun _ => True) (fun _ => Value.bool true) (fun _ => []) := by
  refine fn_enter 49 Tryz.func17 rfl Tryz.ntmps17 rfl ?_
  intro w0
  refine c_seq <| c_region <| asg rfl rfl <| o_nil <| n_code <| c_seq <| c_region ?_
  refine o_l rfl (l_calle Tryz.call39 (z1 ) rfl rfl (.nil)) ?_; intro r1 hr1
  refine o_cat (.nil) <| oe rfl (e_build (vs := [Value.int .u64 1, Value.int .u64 85, Value.int .u64 0, S [97], Value.int .u64 7]) Tryz.runUnderlying56 Tryz.zeroValue56 (.cons Tryz.sizeOf25 (.cons Tryz.sizeOf23 (.nil))) rfl (by kernel_rfl)) ?_
  refine o_l rfl (l_bs (l := [Value.int .u64 1, Value.int .u64 85, Value.int .u64 0, S [97], Value.int .u64 7]) Tryz.runUnderlying22 Tryz.sizeOf56 Tryz.zeroValue56 rfl rfl rfl rfl (by kernel_rfl)) ?_; intro g2 _
  refine asg rfl rfl <| o_nil <| n_code <| c_seq <| c_region <| mv rfl rfl <| mv rfl rfl ?_
  refine o_l rfl (l_calle Tryz.call27 (z78 (g2)) rfl rfl (.cons (.head) (.nil))) ?_; intro r3 hr3
  refine o_cat (.cons (.nil)) <| mv rfl rfl <| oe rfl (e_extract rfl rfl) <| oe rfl (e_extract rfl rfl) <| asg rfl rfl <| asg rfl rfl <| o_nil <| n_code <| c_seq <| c_region <| mv rfl rfl <| mv rfl rfl <| oe rfl (e_as (r := Value.pointer (some ⟨g2, 0, none⟩)) (e_ia Tryz.runUnderlying22 Tryz.sizeOf56 rfl rfl (by decide) (by decide)) rfl) <| oe rfl (e_as (r := Value.pointer (some ⟨g2, 0, none⟩)) (e_fa Tryz.runUnderlying56 rfl Tryz.sizeOf25 rfl rfl) rfl) ?_
  refine oe rfl (e_loada Tryz.isAgg25 Tryz.sizeOf25 rfl (.inl (.head _)) (.take (.take (.take (.take (.done)))))) ?_
  refine o_l rfl (l_calle Tryz.call14 (z121 ) rfl rfl (.nil)) ?_; intro r4 hr4
  refine o_cat (.cons (.nil)) <| mv rfl rfl <| oe rfl (e_extract rfl rfl) <| oe rfl (e_extract rfl rfl) <| asg rfl rfl <| asg rfl rfl <| o_nil <| n_code <| c_seq <| c_region <| mv rfl rfl <| mv rfl rfl <| o_e rfl rfl rfl (e_move rfl) <| o_e rfl rfl rfl (e_move rfl) <| o_e rfl rfl rfl (e_move rfl) ?_
  refine o_l rfl (l_calle Tryz.call15 (z122 (g2)) rfl rfl (.cons (.tail (.head)) (.nil))) ?_; intro r5 hr5
  refine o_cat (.cons (.nil)) <| o_e rfl rfl rfl (e_as (r := Value.bool true) (e_seq rfl rfl) (by kernel_rfl)) <| oe rfl (e_pick_t rfl rfl) <| mv rfl rfl <| o_e rfl rfl rfl (e_move rfl) <| o_e rfl rfl rfl (e_int (r := Value.bool true) rfl rfl (by kernel_rfl)) <| oe rfl (e_pick_t rfl rfl) <| mv rfl rfl <| o_e rfl rfl rfl (e_move rfl) <| o_e rfl rfl rfl (e_as (r := Value.int .i64 1) (e_lenl Tryz.runUnderlying29 rfl) rfl) <| o_e rfl rfl rfl (e_int (r := Value.bool true) rfl rfl (by kernel_rfl)) ?_
  refine oe rfl (e_pick_t rfl rfl) <| mv rfl rfl <| o_e rfl rfl rfl (e_move rfl) <| o_e rfl rfl rfl (e_as (r := Value.pointer (some ⟨r4.g, 0, none⟩)) (e_ia Tryz.runUnderlying29 Tryz.sizeOf23 rfl rfl (by decide) (by decide)) rfl) <| o_e rfl rfl rfl (e_load Tryz.isAgg23 rfl (.inl (.tail _ (.head _))) rfl) <| o_e rfl rfl rfl (e_int (r := Value.bool true) rfl rfl (by kernel_rfl)) <| oe rfl (e_pick_t rfl rfl) <| asg rfl rfl <| o_nil <| n_code <| c_ret <| WR.sel (.nil) <| r_fn1 Tryz.results17 rfl ?_
  exact tells (y := (())) trivial rfl rfl

theorem z124 {G : HP}  :
    CtrE Tryz.prog 149 [] G [] (T := Nat × Nat) (fun _ => True) (fun y => Value.pointer (some ⟨y.1, 0, none⟩)) (fun y => [(y.1, C [Value.map (some y.2)] 330), (y.2, Mo .u64 [])]) := by
  refine fn_enter 3 Tryz.func149 rfl Tryz.ntmps149 rfl ?_
  intro w0
  refine c_seq <| c_region <| asg rfl rfl <| o_nil <| n_code <| c_seq <| c_region ?_
  refine o_l rfl (l_mkmap rfl .u64) ?_; intro g1 _
  refine o_l rfl (l_alloc Tryz.zeroValue330 rfl rfl) ?_; intro g2 _
  refine o_l rfl (l_store Tryz.sizeOf330 rfl rfl rfl (.head) (.head) nofr0) ?_; intro _ _
  refine o_nil <| n_code <| c_seq <| c_region <| asg rfl rfl <| o_nil <| n_code <| c_ret <| WR.sel (.cons (.head) (.cons (.head) (.nil))) <| r_fn1 Tryz.results149 rfl ?_
  exact tells (y := (g2, g1)) trivial rfl rfl

theorem z125 {G : HP}  :
    CtrE Tryz.prog 76 [Value.int .u64 1025] G [] (T := Nat × Nat) (fun _ => True) (fun y => Value.tuple #[Value.iface 237 (Value.pointer (some ⟨y.1, 0, none⟩)), Value.nilIface]) (fun y => [(y.1, C [Value.map (some y.2)] 330), (y.2, Mo .u64 [])]) := by
  refine fn_enter 13 Tryz.func76 rfl Tryz.ntmps76 rfl ?_
  intro w0
  refine c_seq <| c_region <| asg rfl rfl <| asg rfl rfl <| o_nil <| n_code <| c_seq <| c_region <| mv rfl rfl <| o_nil <| n_code <| c_block <| c_seq <| c_region <| oi (Value.bool false) rfl rfl rfl (by kernel_rfl) <| asg rfl rfl <| o_nil <| n_code <| c_else rfl <| c_seq <| c_region <| oi (Value.bool true) rfl rfl rfl (by kernel_rfl) <| asg rfl rfl <| o_nil <| n_code <| c_then rfl <| c_seq <| c_region ?_
  refine o_l rfl (l_calle Tryz.call149 (z124 ) rfl rfl (.nil)) ?_; intro r1 hr1
  refine o_cat (.cons (.cons (.nil))) <| oe rfl (e_mkif Tryz.runUnderlying237 rfl rfl) <| asg rfl rfl <| asg rfl rfl <| o_nil <| n_code <| c_ret <| WR.sel (.cons (.head) (.cons (.head) (.nil))) <| r_fn (l := [.tmp 2, .tmp 3]) Tryz.results76 rfl rfl ?_
  exact tells (y := (r1.1, r1.2)) trivial rfl rfl

theorem z126 {G : HP}  :
    CtrE Tryz.prog 315 [] G [] (T := Nat × Nat) (fun _ => True) (fun y => Value.pointer (some ⟨y.1, 0, none⟩)) (fun y => [(y.1, C [Value.map (some y.2), Value.int .u64 0] 437), (y.2, Mo .u32 [])]) := by
  refine fn_enter 4 Tryz.func315 rfl Tryz.ntmps315 rfl ?_
  intro w0
  refine c_seq <| c_region <| asg rfl rfl <| o_nil <| n_code <| c_seq <| c_region ?_
  refine o_l rfl (l_mkmap rfl .u32) ?_; intro g1 _
  refine oe rfl (e_build (vs := [Value.map (some g1), Value.int .u64 0]) Tryz.runUnderlying437 Tryz.zeroValue437 (.cons Tryz.sizeOf327 (.cons Tryz.sizeOf23 (.nil))) rfl (by kernel_rfl)) ?_
  refine o_l rfl (l_box rfl rfl rfl) ?_; intro g2 _
  refine asg rfl rfl <| o_nil <| n_code <| c_ret <| WR.sel (.cons (.head) (.cons (.head) (.nil))) <| r_fn1 Tryz.results315 rfl ?_
  exact tells (y := (g2, g1)) trivial rfl rfl

theorem z127 {G : HP} (p0 : Nat) (p1 : Nat) (q2 : Tl) (h2 : TlOk 2 1 q2) :
    CtrE Tryz.prog 316 [Value.pointer (some ⟨p0, 0, none⟩), Value.slice (some ⟨q2.g, 0, none⟩) 1 q2.cap] G [(p0, C [Value.map (some p1), Value.int .u64 0] 437), (p1, Mo .u32 []), (q2.g, Ob [S [1, 85, 0, 1, 97], Value.int .u64 7] q2 184)] (T := Nat) (fun _ => True) (fun y => Value.nilIface) (fun y => [(p0, C [Value.map (some p1), Value.int .u64 0] 437), (p1, Mo .u32 [(9, Value.agg #[Value.int .u32 9, Value.int .u64 1, Value.slice (some ⟨y, 0, none⟩) 9 9])]), (q2.g, Ob [S [1, 85, 0, 1, 97], Value.int .u64 7] q2 184), (y, C xb3 5)]) := by
  refine fn_enter 119 Tryz.func316 rfl Tryz.ntmps316 rfl ?_
  intro w0
  refine c_seq <| c_region <| asg rfl rfl <| o_nil <| n_code <| c_seq <| c_region ?_
  refine o_l rfl (l_mkmap rfl .i64) ?_; intro g1 _
  refine asg rfl rfl <| o_nil <| n_code <| c_seq <| c_seq <| c_region <| mv rfl rfl <| oe rfl (e_as (r := Value.int .i64 1) (e_lenl Tryz.runUnderlying182 rfl) rfl) <| mv rfl rfl <| o_nil <| n_code <| c_block <| c_rounds 999 <| c_seq <| c_region <| oi (Value.bool true) rfl rfl rfl (by kernel_rfl) <| o_nil <| n_code <| c_seq <| c_then rfl <| c_skip <| n_code <| c_seq <| c_block <| c_seq <| c_region ?_
  refine oe rfl (e_as (r := Value.pointer (some ⟨q2.g, 0, none⟩)) (e_ia Tryz.runUnderlying182 Tryz.sizeOf184 rfl rfl (by decide) (by decide)) rfl) <| oe rfl (e_loada Tryz.isAgg184 Tryz.sizeOf184 rfl (.inl (.tail _ (.tail _ (.tail _ (.head _))))) (.take (.take (.done)))) ?_
  refine o_l rfl (l_alloc Tryz.zeroValue184 rfl rfl) ?_; intro g2 _
  refine o_l rfl (l_storea Tryz.sizeOf184 rfl rfl rfl (by simp [Value.oneCell']) (.head) (.take (.take (.done))) nofrs0) ?_; intro _ _
  refine o_nil <| n_code <| c_seq <| c_region <| oe rfl (e_as (r := Value.pointer (some ⟨g2, 0, none⟩)) (e_fa Tryz.runUnderlying184 rfl Tryz.sizeOf111 rfl rfl) rfl) <| oe rfl (e_loada Tryz.isAgg111 Tryz.sizeOf111 rfl (.inl (.head _)) (.take (.done))) ?_
  refine o_l rfl (l_calle Tryz.call93 (z34 ) rfl rfl (.nil)) ?_; intro r3 hr3
  refine o_cat (.cons (.nil)) ?_
  refine o_l rfl (l_calle Tryz.call92 (z41 r3 hr3) rfl rfl (.cons (.head) (.nil))) ?_; intro r4 hr4
  refine o_cat (.cons (.cons (.nil))) <| mv rfl rfl <| oe rfl (e_extract rfl rfl) <| oe rfl (e_extract rfl rfl) <| asg rfl rfl <| asg rfl rfl <| o_nil <| n_code <| c_seq <| c_seq <| c_region <| mv rfl rfl <| oe rfl (e_nnen Tryz.runUnderlying80 rfl) <| o_nil <| n_code <| c_else rfl <| c_skip <| n_code <| c_seq <| c_region <| mv rfl rfl <| oe rfl (e_nilCheck rfl) <| oe rfl (e_as (r := Value.pointer (some ⟨r4, 3, none⟩)) (e_fa Tryz.runUnderlying181 rfl Tryz.sizeOf72 rfl rfl) rfl) ?_
  refine oe rfl (e_load Tryz.isAgg72 rfl (.inl (.tail _ (.head _))) rfl) <| asg rfl rfl <| o_nil <| n_code <| c_seq <| c_region <| mv rfl rfl <| mv rfl rfl <| oe rfl (e_as (r := Value.int .i64 1) (e_lenl Tryz.runUnderlying72 rfl) rfl) <| oe rfl (e_as (r := Value.tuple #[Value.slice none 0 0, Value.bool false]) (e_lookup2 Tryz.runUnderlying451 Tryz.runUnderlying3 Tryz.zeroValue452 rfl rfl (.inl (.tail _ (.tail _ (.tail _ (.head _)))))) (by kernel_rfl)) <| mv rfl rfl <| oe rfl (e_extract rfl rfl) ?_
  refine oe rfl (e_extract rfl rfl) <| asg rfl rfl <| asg rfl rfl <| o_nil <| n_code <| c_seq <| c_seq <| c_region <| mv rfl rfl <| oe rfl (e_as (r := Value.bool true) (e_not rfl) rfl) <| o_nil <| n_code <| c_then rfl <| c_seq <| c_region <| mv rfl rfl <| mv rfl rfl <| oe rfl (e_as (r := Value.int .i64 1) (e_lenl Tryz.runUnderlying72 rfl) rfl) ?_
  refine o_l rfl (l_mksc (l := []) (n := 0) (m := 0) Tryz.underlying452 (info_of Tryz.typeInfo455) rfl rfl rfl rfl rfl rfl rfl (by decide) (by kernel_rfl)) ?_; intro g5 _
  refine o_l rfl (l_mapup Tryz.runUnderlying451 Tryz.runUnderlying3 rfl rfl rfl (.tail (.tail (.tail (.tail (.head)))))) ?_; intro _ _
  refine o_nil <| n_code <| c_region <| mv rfl rfl <| mv rfl rfl <| oe rfl (e_as (r := Value.int .i64 1) (e_lenl Tryz.runUnderlying72 rfl) rfl) <| oe rfl (e_as (r := Value.slice (some ⟨g5, 0, none⟩) 0 0) (e_lookup Tryz.runUnderlying451 Tryz.runUnderlying3 Tryz.zeroValue452 rfl rfl (.inl (.tail _ (.tail _ (.tail _ (.tail _ (.head _))))))) (by kernel_rfl)) <| asg rfl rfl <| o_nil <| n_code <| c_region <| mv rfl rfl <| mv rfl rfl <| oe rfl (e_as (r := Value.int .i64 1) (e_lenl Tryz.runUnderlying72 rfl) rfl) ?_
  refine mv rfl rfl <| mv rfl rfl <| oe rfl (e_as (r := Value.pointer (some ⟨g2, 1, none⟩)) (e_fa Tryz.runUnderlying184 rfl Tryz.sizeOf23 rfl rfl) rfl) <| oe rfl (e_load Tryz.isAgg23 rfl (.inl (.tail _ (.tail _ (.tail _ (.head _))))) rfl) <| oe rfl (e_build (vs := [Value.slice (some ⟨r3.g, 4, none⟩) 1 (r3.cap - 4), Value.int .u64 7]) Tryz.runUnderlying455 Tryz.zeroValue455 (.cons Tryz.sizeOf72 (.cons Tryz.sizeOf23 (.nil))) rfl (by kernel_rfl)) ?_
  refine o_l rfl (l_bs (l := [Value.slice (some ⟨r3.g, 4, none⟩) 1 (r3.cap - 4), Value.int .u64 7]) Tryz.runUnderlying452 Tryz.sizeOf455 Tryz.zeroValue455 rfl rfl rfl rfl (by kernel_rfl)) ?_; intro g6 _
  refine o_l rfl (l_app (off := 1) (L := [Value.slice (some ⟨r3.g, 4, none⟩) 1 (r3.cap - 4), Value.int .u64 7]) Tryz.underlying452 (info_of Tryz.typeInfo455) rfl rfl rfl rfl rfl rfl (.tail (.head)) rfl (by decide) (by decide) (.inr rfl) (.done) (Sv.blk (vs := [Value.slice (some ⟨r3.g, 4, none⟩) 1 (r3.cap - 4), Value.int .u64 7]) Tryz.underlying452 (.inl (.head _)) (.take (.take (.done))) (by simp [Value.oneCell'])) (.nil) rfl rfl rfl rfl) ?_; intro y7 hy7
  refine o_l rfl (l_mapup Tryz.runUnderlying451 Tryz.runUnderlying3 rfl rfl rfl (.tail (.tail (.tail (.tail (.tail (.head))))))) ?_; intro _ _
  refine o_nil <| n_block <| n_code ?_
  refine c_keep (sub_cons (k := 67) rfl (sub_cons (k := 66) rfl (sub_cons (k := 65) rfl (sub_cons (k := 64) rfl (sub_cons (k := 63) rfl (sub_cons (k := 62) rfl (sub_cons (k := 61) rfl (sub_cons (k := 60) rfl (sub_cons (k := 59) rfl (sub_cons (k := 58) rfl (sub_cons (k := 11) rfl (sub_cons (k := 57) rfl (sub_cons (k := 56) rfl (sub_cons (k := 55) rfl (sub_cons (k := 54) rfl (sub_cons (k := 53) rfl (sub_cons (k := 52) rfl (sub_cons (k := 51) rfl (sub_cons (k := 50) rfl (sub_cons (k := 49) rfl (sub_cons (k := 48) rfl (sub_cons (k := 12) rfl (sub_cons (k := 47) rfl (sub_cons (k := 46) rfl (sub_cons (k := 41) rfl (sub_cons (k := 45) rfl (sub_cons (k := 44) rfl (sub_cons (k := 43) rfl (sub_cons (k := 42) rfl (sub_cons (k := 10) rfl (sub_cons (k := 40) rfl (sub_cons (k := 39) rfl (sub_cons (k := 38) rfl (sub_cons (k := 37) rfl (sub_cons (k := 35) rfl (sub_cons (k := 34) rfl (sub_cons (k := 9) rfl (sub_cons (k := 8) rfl (sub_cons (k := 33) rfl (sub_cons (k := 32) rfl (sub_cons (k := 27) rfl (sub_cons (k := 31) rfl (sub_cons (k := 30) rfl (sub_cons (k := 29) rfl (sub_cons (k := 28) rfl (sub_cons (k := 7) rfl (sub_cons (k := 26) rfl (sub_cons (k := 25) rfl (sub_cons (k := 24) rfl (sub_cons (k := 23) rfl (sub_cons (k := 22) rfl (sub_cons (k := 21) rfl (sub_cons (k := 5) rfl (sub_cons (k := 4) rfl (sub_cons (k := 0) rfl (sub_nil)))))))))))))))))))))))))))))))))))))))))))))))))))))))) ?_
  refine c_region <| oi (Value.int .i64 1) rfl rfl rfl (by kernel_rfl) <| mv rfl rfl <| o_nil <| n_rounds ?_
  refine c_keep (sub_cons (k := 23) rfl (sub_cons (k := 68) rfl (sub_cons (k := 67) rfl (sub_cons (k := 66) rfl (sub_cons (k := 65) rfl (sub_cons (k := 64) rfl (sub_cons (k := 63) rfl (sub_cons (k := 62) rfl (sub_cons (k := 61) rfl (sub_cons (k := 60) rfl (sub_cons (k := 59) rfl (sub_cons (k := 58) rfl (sub_cons (k := 11) rfl (sub_cons (k := 57) rfl (sub_cons (k := 56) rfl (sub_cons (k := 55) rfl (sub_cons (k := 54) rfl (sub_cons (k := 53) rfl (sub_cons (k := 52) rfl (sub_cons (k := 51) rfl (sub_cons (k := 50) rfl (sub_cons (k := 49) rfl (sub_cons (k := 48) rfl (sub_cons (k := 12) rfl (sub_cons (k := 47) rfl (sub_cons (k := 46) rfl (sub_cons (k := 41) rfl (sub_cons (k := 45) rfl (sub_cons (k := 44) rfl (sub_cons (k := 43) rfl (sub_cons (k := 42) rfl (sub_cons (k := 10) rfl (sub_cons (k := 40) rfl (sub_cons (k := 39) rfl (sub_cons (k := 38) rfl (sub_cons (k := 37) rfl (sub_cons (k := 35) rfl (sub_cons (k := 34) rfl (sub_cons (k := 9) rfl (sub_cons (k := 8) rfl (sub_cons (k := 33) rfl (sub_cons (k := 32) rfl (sub_cons (k := 27) rfl (sub_cons (k := 31) rfl (sub_cons (k := 30) rfl (sub_cons (k := 29) rfl (sub_cons (k := 28) rfl (sub_cons (k := 7) rfl (sub_cons (k := 26) rfl (sub_cons (k := 25) rfl (sub_cons (k := 24) rfl (sub_cons (k := 22) rfl (sub_cons (k := 21) rfl (sub_cons (k := 5) rfl (sub_cons (k := 4) rfl (sub_cons (k := 0) rfl (sub_nil))))))))))))))))))))))))))))))))))))))))))))))))))))))))) ?_
  refine c_seq ?_
  refine c_keep (sub_cons (k := 23) rfl (sub_cons (k := 68) rfl (sub_cons (k := 67) rfl (sub_cons (k := 66) rfl (sub_cons (k := 65) rfl (sub_cons (k := 64) rfl (sub_cons (k := 63) rfl (sub_cons (k := 62) rfl (sub_cons (k := 61) rfl (sub_cons (k := 60) rfl (sub_cons (k := 59) rfl (sub_cons (k := 58) rfl (sub_cons (k := 11) rfl (sub_cons (k := 57) rfl (sub_cons (k := 56) rfl (sub_cons (k := 55) rfl (sub_cons (k := 54) rfl (sub_cons (k := 53) rfl (sub_cons (k := 52) rfl (sub_cons (k := 51) rfl (sub_cons (k := 50) rfl (sub_cons (k := 49) rfl (sub_cons (k := 48) rfl (sub_cons (k := 12) rfl (sub_cons (k := 47) rfl (sub_cons (k := 46) rfl (sub_cons (k := 41) rfl (sub_cons (k := 45) rfl (sub_cons (k := 44) rfl (sub_cons (k := 43) rfl (sub_cons (k := 42) rfl (sub_cons (k := 10) rfl (sub_cons (k := 40) rfl (sub_cons (k := 39) rfl (sub_cons (k := 38) rfl (sub_cons (k := 37) rfl (sub_cons (k := 35) rfl (sub_cons (k := 34) rfl (sub_cons (k := 9) rfl (sub_cons (k := 8) rfl (sub_cons (k := 33) rfl (sub_cons (k := 32) rfl (sub_cons (k := 27) rfl (sub_cons (k := 31) rfl (sub_cons (k := 30) rfl (sub_cons (k := 29) rfl (sub_cons (k := 28) rfl (sub_cons (k := 7) rfl (sub_cons (k := 26) rfl (sub_cons (k := 25) rfl (sub_cons (k := 24) rfl (sub_cons (k := 22) rfl (sub_cons (k := 21) rfl (sub_cons (k := 5) rfl (sub_cons (k := 4) rfl (sub_cons (k := 0) rfl (sub_nil))))))))))))))))))))))))))))))))))))))))))))))))))))))))) ?_
  refine c_region <| oi (Value.bool false) rfl rfl rfl (by kernel_rfl) <| o_nil <| n_code <| c_seq <| c_else rfl <| c_exit <| x_code <| x_upto <| x_here <| n_code <| c_seq <| c_seq <| c_keep (sub_cons (k := 5) rfl (sub_cons (k := 4) rfl (sub_cons (k := 0) rfl (sub_nil)))) <| c_region <| mv rfl rfl ?_
  refine o_l rfl (l_range Tryz.runUnderlying451 rfl rfl (.inl (.tail _ (.tail _ (.tail _ (.tail _ (.tail _ (.head _)))))))) ?_; intro g8 _
  refine o_nil <| n_code <| c_block <| c_rounds 999 <| c_seq <| c_region ?_
  refine o_l rfl (l_next1 0 rfl rfl (.inl (.tail _ (.tail _ (.tail _ (.tail _ (.tail _ (.tail _ (.head _)))))))) (.head) rfl rfl rfl) ?_; intro _ _
  refine oe rfl (e_extract rfl rfl) <| o_nil <| n_code <| c_seq <| c_then rfl <| c_skip <| n_code <| c_block <| c_seq <| c_region <| oe rfl (e_entry (j := 0) (seen := []) rfl (.inl (.head _)) (.inl (.tail _ (.tail _ (.tail _ (.tail _ (.tail _ (.tail _ (.head _)))))))) rfl) <| oe rfl (e_extract rfl rfl) <| oe rfl (e_extract rfl rfl) <| asg rfl rfl <| asg rfl rfl <| o_nil <| n_code <| c_seq <| c_region <| mv rfl rfl <| oe rfl (e_mkif Tryz.runUnderlying457 rfl rfl) ?_
  refine o_l rfl (l_calle Tryz.call324 (z43 y7 hy7 r3 hr3) rfl rfl (.cons (.tail (.head)) (.cons (.tail (.tail (.head))) (.nil)))) ?_; intro r9 hr9
  refine o_cat (.cons (.cons (.nil))) <| o_nil <| n_code <| c_seq <| c_region <| mv rfl rfl <| oi (Value.int .i64 9) rfl rfl rfl (by kernel_rfl) <| asg rfl rfl <| o_nil <| n_code <| c_seq <| c_region <| mv rfl rfl <| mv rfl rfl <| oe rfl (e_as (r := Value.int .i64 1) (e_lenl Tryz.runUnderlying452 rfl) rfl) <| oi (Value.int .i64 9) rfl rfl rfl (by kernel_rfl) ?_
  refine o_l rfl (l_mksc (l := xb4) (n := 9) (m := 9) Tryz.underlying72 (info_of Tryz.typeInfo5) rfl rfl rfl rfl rfl rfl rfl (by decide) (by kernel_rfl)) ?_; intro g10 _
  refine asg rfl rfl <| o_nil <| n_code <| c_seq <| c_seq <| c_region <| mv rfl rfl <| oe rfl (e_as (r := Value.int .i64 1) (e_lenl Tryz.runUnderlying452 rfl) rfl) <| mv rfl rfl <| o_nil <| n_code <| c_block <| c_rounds 999 <| c_seq <| c_region <| oi (Value.bool true) rfl rfl rfl (by kernel_rfl) <| o_nil <| n_code <| c_seq <| c_then rfl <| c_skip <| n_code <| c_seq <| c_block <| c_seq <| c_region <| mv rfl rfl ?_
  refine oe rfl (e_as (r := Value.pointer (some ⟨y7.g, 0, none⟩)) (e_ia Tryz.runUnderlying452 Tryz.sizeOf455 rfl rfl (by decide) (by decide)) rfl) <| oe rfl (e_loada Tryz.isAgg455 Tryz.sizeOf455 rfl (.inl (.tail _ (.head _))) (.take (.take (.done)))) ?_
  refine o_l rfl (l_alloc Tryz.zeroValue455 rfl rfl) ?_; intro g11 _
  refine asg rfl rfl ?_
  refine o_l rfl (l_storea Tryz.sizeOf455 rfl rfl rfl (by simp [Value.oneCell']) (.head) (.take (.take (.done))) nofrs0) ?_; intro _ _
  refine o_nil <| n_code ?_
  refine c_regiond [(g11, C [Value.slice (some ⟨r3.g, 4, none⟩) 1 (r3.cap - 4), Value.int .u64 7] 455), (y7.g, Ob [Value.slice (some ⟨r3.g, 4, none⟩) 1 (r3.cap - 4), Value.int .u64 7] y7 455), (r3.g, Ob xb2 r3 5), (g8, Io g1 1 [0]), (g6, C [Value.slice (some ⟨r3.g, 4, none⟩) 1 (r3.cap - 4), Value.int .u64 7] 455), (r4, C [Value.int .u64 0, S [], Value.int .i64 1, Value.slice (some ⟨r3.g, 4, none⟩) 1 (r3.cap - 4)] 181), (g2, C [S [1, 85, 0, 1, 97], Value.int .u64 7] 184), (g1, Mo .i64 [(1, Value.slice (some ⟨y7.g, 0, none⟩) 1 y7.cap)]), (p0, C [Value.map (some p1), Value.int .u64 0] 437), (p1, Mo .u32 []), (q2.g, Ob [S [1, 85, 0, 1, 97], Value.int .u64 7] q2 184)] (by kernel_rfl) (.cons_cons _ (.cons _ (.cons_cons _ (.cons_cons _ (.cons_cons _ (.cons_cons _ (.cons_cons _ (.cons_cons _ (.cons_cons _ (.cons_cons _ (.cons_cons _ (.cons_cons _ (.slnil))))))))))))) ?_
  refine d_e 0 (fun _ _ _ _ _ h => h) rfl (by kernel_rfl) (by kernel_rfl) (by kernel_rfl) rfl rfl rfl (e_loada Tryz.isAgg455 Tryz.sizeOf455 rfl (.inl (.head _)) (.take (.take (.done)))) <| d_e 1 (fun _ _ _ _ _ h => h) rfl (by kernel_rfl) (by kernel_rfl) (by kernel_rfl) rfl rfl rfl (e_move rfl) <| d_e 2 (fun _ _ _ _ _ h => h) rfl (by kernel_rfl) (by kernel_rfl) (by kernel_rfl) rfl rfl rfl (e_move rfl) <| d_e 3 (fun _ _ _ _ _ h => h) rfl (by kernel_rfl) (by kernel_rfl) (by kernel_rfl) rfl rfl rfl (e_move rfl) ?_
  refine d_e 4 (fun _ _ _ _ _ h => h) rfl (by kernel_rfl) (by kernel_rfl) (by kernel_rfl) rfl rfl rfl (e_int (r := Value.int .i64 0) rfl rfl (by kernel_rfl)) <| d_e 5 (fun _ _ _ _ _ h => h) rfl (by kernel_rfl) (by kernel_rfl) (by kernel_rfl) rfl rfl rfl (e_move rfl) <| d_e 6 (fun _ _ _ _ _ h => h) rfl (by kernel_rfl) (by kernel_rfl) (by kernel_rfl) rfl rfl rfl (e_int (r := Value.int .i64 1) rfl rfl (by kernel_rfl)) ?_
  refine d_e 7 (fun _ _ _ _ _ h => h) rfl (by kernel_rfl) (by kernel_rfl) (by kernel_rfl) rfl rfl rfl (e_move rfl) <| d_e 8 (fun _ _ _ _ _ h => h) rfl (by kernel_rfl) (by kernel_rfl) (by kernel_rfl) rfl rfl rfl (e_int (r := Value.int .i64 9) rfl rfl (by kernel_rfl)) ?_
  refine d_e 9 (fun _ _ _ _ _ h => h) rfl (by kernel_rfl) (by kernel_rfl) (by kernel_rfl) rfl rfl rfl (e_as (r := Value.slice (some ⟨g10, 0, none⟩) 9 9) (e_sl_lh Tryz.runUnderlying72 Tryz.sizeOf5 rfl rfl rfl (by decide) (by decide) (by decide) (by decide)) (by first | rfl | (simp; try omega))) ?_
  refine d_l 10 (by kernel_rfl) rfl rfl (l_calle Tryz.call325 (z45 r3 hr3 (g10)) rfl rfl (.cons (.tail (.tail (.tail (.head)))) (.cons (.tail (.head)) (.nil)))) (fun _ _ => hs_cons (.tail _ (.tail _ (.head _))) (hs_cons (.tail _ (.tail _ (.tail _ (.head _)))) (hs_cons (.head _) (hs_cons (.tail _ (.tail _ (.tail _ (.tail _ (.head _))))) (hs_cons (.tail _ (.tail _ (.tail _ (.tail _ (.tail _ (.head _)))))) (hs_cons (.tail _ (.tail _ (.tail _ (.tail _ (.tail _ (.tail _ (.head _))))))) (hs_cons (.tail _ (.tail _ (.tail _ (.tail _ (.tail _ (.tail _ (.tail _ (.head _)))))))) (hs_cons (.tail _ (.tail _ (.tail _ (.tail _ (.tail _ (.tail _ (.tail _ (.tail _ (.head _))))))))) (hs_cons (.tail _ (.tail _ (.tail _ (.tail _ (.tail _ (.tail _ (.tail _ (.tail _ (.tail _ (.head _)))))))))) (hs_cons (.tail _ (.tail _ (.tail _ (.tail _ (.tail _ (.tail _ (.tail _ (.tail _ (.tail _ (.tail _ (.head _))))))))))) (hs_cons (.tail _ (.tail _ (.tail _ (.tail _ (.tail _ (.tail _ (.tail _ (.tail _ (.tail _ (.tail _ (.tail _ (.head _)))))))))))) (hs_nil)))))))))))) ?_
  intro r12 hr12
  refine d_cat (.cons (.cons (.nil))) <| d_nil (by kernel_rfl) <| n_block <| n_code <| c_region <| oi (Value.int .i64 1) rfl rfl rfl (by kernel_rfl) <| mv rfl rfl <| o_nil <| n_rounds ?_
  refine c_keep (sub_cons (k := 88) rfl (sub_cons (k := 104) rfl (sub_cons (k := 102) rfl (sub_cons (k := 101) rfl (sub_cons (k := 100) rfl (sub_cons (k := 99) rfl (sub_cons (k := 98) rfl (sub_cons (k := 97) rfl (sub_cons (k := 96) rfl (sub_cons (k := 95) rfl (sub_cons (k := 94) rfl (sub_cons (k := 93) rfl (sub_cons (k := 17) rfl (sub_cons (k := 18) rfl (sub_cons (k := 92) rfl (sub_cons (k := 91) rfl (sub_cons (k := 90) rfl (sub_cons (k := 89) rfl (sub_cons (k := 87) rfl (sub_cons (k := 86) rfl (sub_cons (k := 16) rfl (sub_cons (k := 85) rfl (sub_cons (k := 84) rfl (sub_cons (k := 83) rfl (sub_cons (k := 82) rfl (sub_cons (k := 81) rfl (sub_cons (k := 15) rfl (sub_cons (k := 80) rfl (sub_cons (k := 79) rfl (sub_cons (k := 77) rfl (sub_cons (k := 76) rfl (sub_cons (k := 14) rfl (sub_cons (k := 13) rfl (sub_cons (k := 75) rfl (sub_cons (k := 74) rfl (sub_cons (k := 73) rfl (sub_cons (k := 72) rfl (sub_cons (k := 71) rfl (sub_cons (k := 70) rfl (sub_cons (k := 4) rfl (sub_cons (k := 0) rfl (sub_nil)))))))))))))))))))))))))))))))))))))))))) ?_
  refine c_seq <| c_region <| oi (Value.bool false) rfl rfl rfl (by kernel_rfl) <| o_nil <| n_code <| c_seq <| c_else rfl <| c_exit <| x_code <| x_upto <| x_here <| n_code <| c_seq <| c_region <| mv rfl rfl <| oe rfl (e_convc (r := Value.int .u32 9) Tryz.runUnderlying3 Tryz.runUnderlying212 rfl (by kernel_rfl)) <| mv rfl rfl <| oe rfl (e_as (r := Value.int .i64 1) (e_lenl Tryz.runUnderlying452 rfl) rfl) <| oe rfl (e_convc (r := Value.int .u64 1) Tryz.runUnderlying3 Tryz.runUnderlying23 rfl (by kernel_rfl)) ?_
  refine mv rfl rfl <| oe rfl (e_build (vs := [Value.int .u32 9, Value.int .u64 1, Value.slice (some ⟨g10, 0, none⟩) 9 9]) Tryz.runUnderlying448 Tryz.zeroValue448 (.cons Tryz.sizeOf212 (.cons Tryz.sizeOf23 (.cons Tryz.sizeOf72 (.nil)))) rfl (by kernel_rfl)) ?_
  refine o_l rfl (l_alloc Tryz.zeroValue448 rfl rfl) ?_; intro g13 _
  refine o_l rfl (l_storea Tryz.sizeOf448 rfl rfl rfl (by simp [Value.oneCell']) (.head) (.take (.take (.take (.done)))) nofrs0) ?_; intro _ _
  refine o_nil <| n_code ?_
  refine c_regiond [(g13, C [Value.int .u32 9, Value.int .u64 1, Value.slice (some ⟨g10, 0, none⟩) 9 9] 448), (r3.g, Ob xb2 r3 5), (g10, C xb3 5), (g11, C [Value.slice (some ⟨r3.g, 4, none⟩) 1 (r3.cap - 4), Value.int .u64 7] 455), (y7.g, Ob [Value.slice (some ⟨r3.g, 4, none⟩) 1 (r3.cap - 4), Value.int .u64 7] y7 455), (g8, Io g1 1 [0]), (g6, C [Value.slice (some ⟨r3.g, 4, none⟩) 1 (r3.cap - 4), Value.int .u64 7] 455), (r4, C [Value.int .u64 0, S [], Value.int .i64 1, Value.slice (some ⟨r3.g, 4, none⟩) 1 (r3.cap - 4)] 181), (g2, C [S [1, 85, 0, 1, 97], Value.int .u64 7] 184), (g1, Mo .i64 [(1, Value.slice (some ⟨y7.g, 0, none⟩) 1 y7.cap)]), (p0, C [Value.map (some p1), Value.int .u64 0] 437), (q2.g, Ob [S [1, 85, 0, 1, 97], Value.int .u64 7] q2 184)] (by kernel_rfl) (.cons_cons _ (.cons_cons _ (.cons_cons _ (.cons_cons _ (.cons_cons _ (.cons_cons _ (.cons_cons _ (.cons_cons _ (.cons_cons _ (.cons_cons _ (.cons_cons _ (.cons _ (.cons_cons _ (.slnil)))))))))))))) ?_
  refine d_e 0 (fun _ _ _ _ _ h => h) rfl (by kernel_rfl) (by kernel_rfl) (by kernel_rfl) rfl rfl rfl (e_move rfl) <| d_e 1 (fun _ _ _ _ _ h => h) rfl (by kernel_rfl) (by kernel_rfl) (by kernel_rfl) rfl rfl rfl (e_nilCheck rfl) <| d_e 2 (fun _ _ _ _ _ h => h) rfl (by kernel_rfl) (by kernel_rfl) (by kernel_rfl) rfl rfl rfl (e_load Tryz.isAgg327 rfl (.inl (.tail _ (.tail _ (.tail _ (.tail _ (.tail _ (.tail _ (.tail _ (.tail _ (.tail _ (.tail _ (.head _)))))))))))) rfl) ?_
  refine d_e 3 (fun _ _ _ _ _ h => h) rfl (by kernel_rfl) (by kernel_rfl) (by kernel_rfl) rfl rfl rfl (e_move rfl) <| d_e 4 (fun _ _ _ _ _ h => h) rfl (by kernel_rfl) (by kernel_rfl) (by kernel_rfl) rfl rfl rfl (e_convc (r := Value.int .u32 1) Tryz.runUnderlying3 Tryz.runUnderlying212 rfl (by kernel_rfl)) <| d_e 5 (fun _ _ _ _ _ h => h) rfl (by kernel_rfl) (by kernel_rfl) (by kernel_rfl) rfl rfl rfl (e_int (r := Value.int .u32 9) rfl rfl (by kernel_rfl)) ?_
  refine d_e 6 (fun _ _ _ _ _ h => h) rfl (by kernel_rfl) (by kernel_rfl) (by kernel_rfl) rfl rfl rfl (e_loada Tryz.isAgg448 Tryz.sizeOf448 rfl (.inl (.head _)) (.take (.take (.take (.done))))) ?_
  refine d_l 7 (by kernel_rfl) rfl rfl (l_mapup Tryz.runUnderlying327 Tryz.runUnderlying212 rfl rfl rfl (.tail (.tail (.tail (.tail (.tail (.tail (.tail (.tail (.tail (.tail (.tail (.head))))))))))))) (fun _ _ => hs_cons (.head _) (hs_cons (.tail _ (.head _)) (hs_cons (.tail _ (.tail _ (.head _))) (hs_cons (.tail _ (.tail _ (.tail _ (.head _)))) (hs_cons (.tail _ (.tail _ (.tail _ (.tail _ (.head _))))) (hs_cons (.tail _ (.tail _ (.tail _ (.tail _ (.tail _ (.head _)))))) (hs_cons (.tail _ (.tail _ (.tail _ (.tail _ (.tail _ (.tail _ (.head _))))))) (hs_cons (.tail _ (.tail _ (.tail _ (.tail _ (.tail _ (.tail _ (.tail _ (.head _)))))))) (hs_cons (.tail _ (.tail _ (.tail _ (.tail _ (.tail _ (.tail _ (.tail _ (.tail _ (.head _))))))))) (hs_cons (.tail _ (.tail _ (.tail _ (.tail _ (.tail _ (.tail _ (.tail _ (.tail _ (.tail _ (.head _)))))))))) (hs_cons (.tail _ (.tail _ (.tail _ (.tail _ (.tail _ (.tail _ (.tail _ (.tail _ (.tail _ (.tail _ (.head _))))))))))) (hs_cons (.tail _ (.tail _ (.tail _ (.tail _ (.tail _ (.tail _ (.tail _ (.tail _ (.tail _ (.tail _ (.tail _ (.tail _ (.head _))))))))))))) (hs_nil))))))))))))) ?_
  intro _ _
  refine d_nil (by kernel_rfl) <| n_block <| n_rounds ?_
  refine c_keep (sub_cons (k := 118) rfl (sub_cons (k := 117) rfl (sub_cons (k := 116) rfl (sub_cons (k := 115) rfl (sub_cons (k := 114) rfl (sub_cons (k := 113) rfl (sub_cons (k := 112) rfl (sub_cons (k := 19) rfl (sub_cons (k := 111) rfl (sub_cons (k := 110) rfl (sub_cons (k := 109) rfl (sub_cons (k := 108) rfl (sub_cons (k := 107) rfl (sub_cons (k := 106) rfl (sub_cons (k := 105) rfl (sub_cons (k := 89) rfl (sub_cons (k := 88) rfl (sub_cons (k := 104) rfl (sub_cons (k := 102) rfl (sub_cons (k := 101) rfl (sub_cons (k := 100) rfl (sub_cons (k := 99) rfl (sub_cons (k := 98) rfl (sub_cons (k := 97) rfl (sub_cons (k := 96) rfl (sub_cons (k := 95) rfl (sub_cons (k := 94) rfl (sub_cons (k := 93) rfl (sub_cons (k := 17) rfl (sub_cons (k := 18) rfl (sub_cons (k := 92) rfl (sub_cons (k := 91) rfl (sub_cons (k := 90) rfl (sub_cons (k := 87) rfl (sub_cons (k := 86) rfl (sub_cons (k := 16) rfl (sub_cons (k := 85) rfl (sub_cons (k := 84) rfl (sub_cons (k := 83) rfl (sub_cons (k := 82) rfl (sub_cons (k := 81) rfl (sub_cons (k := 15) rfl (sub_cons (k := 80) rfl (sub_cons (k := 79) rfl (sub_cons (k := 77) rfl (sub_cons (k := 76) rfl (sub_cons (k := 14) rfl (sub_cons (k := 13) rfl (sub_cons (k := 75) rfl (sub_cons (k := 74) rfl (sub_cons (k := 73) rfl (sub_cons (k := 72) rfl (sub_cons (k := 71) rfl (sub_cons (k := 70) rfl (sub_cons (k := 4) rfl (sub_cons (k := 0) rfl (sub_nil))))))))))))))))))))))))))))))))))))))))))))))))))))))))) ?_
  refine c_seq ?_
  refine c_keep (sub_cons (k := 118) rfl (sub_cons (k := 117) rfl (sub_cons (k := 116) rfl (sub_cons (k := 115) rfl (sub_cons (k := 114) rfl (sub_cons (k := 113) rfl (sub_cons (k := 112) rfl (sub_cons (k := 19) rfl (sub_cons (k := 111) rfl (sub_cons (k := 110) rfl (sub_cons (k := 109) rfl (sub_cons (k := 108) rfl (sub_cons (k := 107) rfl (sub_cons (k := 106) rfl (sub_cons (k := 105) rfl (sub_cons (k := 89) rfl (sub_cons (k := 88) rfl (sub_cons (k := 104) rfl (sub_cons (k := 102) rfl (sub_cons (k := 101) rfl (sub_cons (k := 100) rfl (sub_cons (k := 99) rfl (sub_cons (k := 98) rfl (sub_cons (k := 97) rfl (sub_cons (k := 96) rfl (sub_cons (k := 95) rfl (sub_cons (k := 94) rfl (sub_cons (k := 93) rfl (sub_cons (k := 17) rfl (sub_cons (k := 18) rfl (sub_cons (k := 92) rfl (sub_cons (k := 91) rfl (sub_cons (k := 90) rfl (sub_cons (k := 87) rfl (sub_cons (k := 86) rfl (sub_cons (k := 16) rfl (sub_cons (k := 85) rfl (sub_cons (k := 84) rfl (sub_cons (k := 83) rfl (sub_cons (k := 82) rfl (sub_cons (k := 81) rfl (sub_cons (k := 15) rfl (sub_cons (k := 80) rfl (sub_cons (k := 79) rfl (sub_cons (k := 77) rfl (sub_cons (k := 76) rfl (sub_cons (k := 14) rfl (sub_cons (k := 13) rfl (sub_cons (k := 75) rfl (sub_cons (k := 74) rfl (sub_cons (k := 73) rfl (sub_cons (k := 72) rfl (sub_cons (k := 71) rfl (sub_cons (k := 70) rfl (sub_cons (k := 4) rfl (sub_cons (k := 0) rfl (sub_nil))))))))))))))))))))))))))))))))))))))))))))))))))))))))) ?_
  refine c_region ?_
  refine o_l rfl (l_next0 rfl rfl (.inl (.tail _ (.tail _ (.tail _ (.tail _ (.tail _ (.tail _ (.tail _ (.tail _ (.tail _ (.head _))))))))))) (.tail _ (.tail _ (.tail _ (.tail _ (.tail _ (.head _)))))) rfl) ?_; intro _ _
  refine oe rfl (e_extract rfl rfl) <| o_nil <| n_code <| c_seq <| c_else rfl <| c_exit <| x_code <| x_upto <| x_here <| n_code <| c_seq <| c_keep (sub_cons (k := 4) rfl (sub_nil)) <| c_region <| asg rfl rfl <| o_nil <| n_code <| c_ret ?_
  refine WR.sel (.cons (.tail (.tail (.tail (.tail (.tail (.tail (.tail (.tail (.tail (.tail (.head))))))))))) (.cons (.tail (.tail (.tail (.tail (.tail (.tail (.tail (.tail (.tail (.tail (.head))))))))))) (.cons (.tail (.tail (.tail (.tail (.tail (.tail (.tail (.tail (.tail (.tail (.head))))))))))) (.cons (.tail (.tail (.head))) (.nil))))) <| r_fn1 Tryz.results316 rfl ?_
  exact tells (y := (g10)) trivial rfl rfl

theorem z128 {G : HP} (p0 : Nat) (p1 : Nat) (p2 : Nat) (p3 : Nat) (p4 : Nat) :
    CtrE Tryz.prog 317 [Value.pointer (some ⟨p0, 0, none⟩), Value.pointer (some ⟨p2, 0, none⟩)] G [(p0, C [Value.map (some p1)] 330), (p1, Mo .u64 []), (p2, C [Value.map (some p3), Value.int .u64 0] 437), (p3, Mo .u32 [(9, Value.agg #[Value.int .u32 9, Value.int .u64 1, Value.slice (some ⟨p4, 0, none⟩) 9 9])]), (p4, C xb3 5)] (T := Unit) (fun _ => True) (fun _ => Value.tuple #[]) (fun _ => [(p0, C [Value.map (some p1)] 330), (p1, Mo .u64 [(0, Value.pointer (some ⟨p2, 0, none⟩))]), (p2, C [Value.map (some p3), Value.int .u64 0] 437), (p3, Mo .u32 [(9, Value.agg #[Value.int .u32 9, Value.int .u64 1, Value.slice (some ⟨p4, 0, none⟩) 9 9])]), (p4, C xb3 5)]) := by
  refine fn_enter 12 Tryz.func317 rfl Tryz.ntmps317 rfl ?_
  intro w0
  refine c_regiond [(p0, C [Value.map (some p1)] 330), (p2, C [Value.map (some p3), Value.int .u64 0] 437), (p3, Mo .u32 [(9, Value.agg #[Value.int .u32 9, Value.int .u64 1, Value.slice (some ⟨p4, 0, none⟩) 9 9])]), (p4, C xb3 5)] (by kernel_rfl) (.cons_cons _ (.cons _ (.cons_cons _ (.cons_cons _ (.cons_cons _ (.slnil)))))) ?_
  refine d_e 0 (fun _ _ _ _ _ h => h) rfl (by kernel_rfl) (by kernel_rfl) (by kernel_rfl) rfl rfl rfl (e_move rfl) <| d_e 1 (fun _ _ _ _ _ h => h) rfl (by kernel_rfl) (by kernel_rfl) (by kernel_rfl) rfl rfl rfl (e_nilCheck rfl) <| d_e 2 (fun _ _ _ _ _ h => h) rfl (by kernel_rfl) (by kernel_rfl) (by kernel_rfl) rfl rfl rfl (e_load Tryz.isAgg330 rfl (.inl (.head _)) rfl) <| d_e 3 (fun _ _ _ _ _ h => h) rfl (by kernel_rfl) (by kernel_rfl) (by kernel_rfl) rfl rfl rfl (e_move rfl) ?_
  refine d_e 4 (fun _ _ _ _ _ h => h) rfl (by kernel_rfl) (by kernel_rfl) (by kernel_rfl) rfl rfl rfl (e_nilCheck rfl) <| d_e 5 (fun _ _ _ _ _ h => h) rfl (by kernel_rfl) (by kernel_rfl) (by kernel_rfl) rfl rfl rfl (e_as (r := Value.pointer (some ⟨p2, 1, none⟩)) (e_fa Tryz.runUnderlying437 rfl Tryz.sizeOf23 rfl rfl) rfl) <| d_e 6 (fun _ _ _ _ _ h => h) rfl (by kernel_rfl) (by kernel_rfl) (by kernel_rfl) rfl rfl rfl (e_load Tryz.isAgg23 rfl (.inl (.tail _ (.head _))) rfl) ?_
  refine d_e 7 (fun _ _ _ _ _ h => h) rfl (by kernel_rfl) (by kernel_rfl) (by kernel_rfl) rfl rfl rfl (e_move rfl) <| d_l 8 (by kernel_rfl) rfl rfl (l_mapup Tryz.runUnderlying330 Tryz.runUnderlying23 rfl rfl rfl (.tail (.head))) (fun _ _ => hs_cons (.head _) (hs_cons (.tail _ (.tail _ (.head _))) (hs_cons (.tail _ (.tail _ (.tail _ (.head _)))) (hs_cons (.tail _ (.tail _ (.tail _ (.tail _ (.head _))))) (hs_nil))))) ?_
  intro _ _
  refine d_nil (by kernel_rfl) <| WN.sel (.cons (.head) (.cons (.head) (.cons (.head) (.cons (.head) (.cons (.head) (.nil)))))) <| n_fn0 Tryz.results317 ?_
  exact tells (y := (())) trivial rfl rfl

theorem z129 {G : HP} (p0 : Nat) (p1 : Nat) (q2 : Tl) (h2 : TlOk 2 1 q2) :
    CtrE Tryz.prog 310 [Value.pointer (some ⟨p0, 0, none⟩), Value.slice (some ⟨q2.g, 0, none⟩) 1 q2.cap] G [(p0, C [Value.map (some p1)] 330), (p1, Mo .u64 []), (q2.g, Ob [S [1, 85, 0, 1, 97], Value.int .u64 7] q2 184)] (T := Nat × Nat × Nat) (fun _ => True) (fun y => Value.nilIface) (fun y => [(p0, C [Value.map (some p1)] 330), (p1, Mo .u64 [(0, Value.pointer (some ⟨y.1, 0, none⟩))]), (q2.g, Ob [S [1, 85, 0, 1, 97], Value.int .u64 7] q2 184), (y.1, C [Value.map (some y.2.1), Value.int .u64 0] 437), (y.2.1, Mo .u32 [(9, Value.agg #[Value.int .u32 9, Value.int .u64 1, Value.slice (some ⟨y.2.2, 0, none⟩) 9 9])]), (y.2.2, C xb3 5)]) := by
  refine fn_enter 80 Tryz.func310 rfl Tryz.ntmps310 rfl ?_
  intro w0
  refine c_seq <| c_region <| asg rfl rfl <| o_nil <| n_code <| c_seq <| c_region ?_
  refine o_l rfl (l_mkmap rfl .u64) ?_; intro g1 _
  refine asg rfl rfl <| o_nil <| n_code <| c_seq <| c_seq <| c_region <| mv rfl rfl <| oe rfl (e_as (r := Value.int .i64 1) (e_lenl Tryz.runUnderlying182 rfl) rfl) <| mv rfl rfl <| o_nil <| n_code <| c_block <| c_rounds 999 <| c_seq <| c_region <| oi (Value.bool true) rfl rfl rfl (by kernel_rfl) <| o_nil <| n_code <| c_seq <| c_then rfl <| c_skip <| n_code <| c_seq <| c_block <| c_seq <| c_region ?_
  refine oe rfl (e_as (r := Value.pointer (some ⟨q2.g, 0, none⟩)) (e_ia Tryz.runUnderlying182 Tryz.sizeOf184 rfl rfl (by decide) (by decide)) rfl) <| oe rfl (e_loada Tryz.isAgg184 Tryz.sizeOf184 rfl (.inl (.tail _ (.tail _ (.tail _ (.head _))))) (.take (.take (.done)))) ?_
  refine o_l rfl (l_alloc Tryz.zeroValue184 rfl rfl) ?_; intro g2 _
  refine o_l rfl (l_storea Tryz.sizeOf184 rfl rfl rfl (by simp [Value.oneCell']) (.head) (.take (.take (.done))) nofrs0) ?_; intro _ _
  refine o_nil <| n_code <| c_seq <| c_region <| oe rfl (e_as (r := Value.pointer (some ⟨g2, 0, none⟩)) (e_fa Tryz.runUnderlying184 rfl Tryz.sizeOf111 rfl rfl) rfl) <| oe rfl (e_loada Tryz.isAgg111 Tryz.sizeOf111 rfl (.inl (.head _)) (.take (.done))) ?_
  refine o_l rfl (l_calle Tryz.call93 (z34 ) rfl rfl (.nil)) ?_; intro r3 hr3
  refine o_cat (.cons (.nil)) ?_
  refine o_l rfl (l_calle Tryz.call92 (z41 r3 hr3) rfl rfl (.cons (.head) (.nil))) ?_; intro r4 hr4
  refine o_cat (.cons (.cons (.nil))) <| mv rfl rfl <| oe rfl (e_extract rfl rfl) <| oe rfl (e_extract rfl rfl) <| asg rfl rfl <| asg rfl rfl <| o_nil <| n_code <| c_seq <| c_seq <| c_region <| mv rfl rfl <| oe rfl (e_nnen Tryz.runUnderlying80 rfl) <| o_nil <| n_code <| c_else rfl <| c_skip <| n_code <| c_seq <| c_region <| mv rfl rfl <| oe rfl (e_nilCheck rfl) <| oe rfl (e_as (r := Value.pointer (some ⟨r4, 0, none⟩)) (e_fa Tryz.runUnderlying181 rfl Tryz.sizeOf23 rfl rfl) rfl) ?_
  refine oe rfl (e_load Tryz.isAgg23 rfl (.inl (.tail _ (.head _))) rfl) <| asg rfl rfl <| o_nil <| n_code <| c_seq <| c_region <| mv rfl rfl <| mv rfl rfl <| oe rfl (e_as (r := Value.tuple #[Value.slice none 0 0, Value.bool false]) (e_lookup2 Tryz.runUnderlying438 Tryz.runUnderlying23 Tryz.zeroValue182 rfl rfl (.inl (.tail _ (.tail _ (.tail _ (.head _)))))) (by kernel_rfl)) <| mv rfl rfl <| oe rfl (e_extract rfl rfl) <| oe rfl (e_extract rfl rfl) <| asg rfl rfl <| asg rfl rfl <| o_nil <| n_code <| c_seq ?_
  refine c_seq <| c_region <| mv rfl rfl <| oe rfl (e_as (r := Value.bool true) (e_not rfl) rfl) <| o_nil <| n_code <| c_then rfl <| c_seq <| c_region ?_
  refine o_l rfl (l_mksc (l := []) (n := 0) (m := 0) Tryz.underlying182 (info_of Tryz.typeInfo184) rfl rfl rfl rfl rfl rfl rfl (by decide) (by kernel_rfl)) ?_; intro g5 _
  refine asg rfl rfl <| o_nil <| n_code <| c_region <| mv rfl rfl <| mv rfl rfl <| mv rfl rfl ?_
  refine o_l rfl (l_mapup Tryz.runUnderlying438 Tryz.runUnderlying23 rfl rfl rfl (.tail (.tail (.tail (.tail (.head)))))) ?_; intro _ _
  refine o_nil <| n_code <| c_region <| mv rfl rfl <| mv rfl rfl <| mv rfl rfl <| oe rfl (e_loada Tryz.isAgg184 Tryz.sizeOf184 rfl (.inl (.tail _ (.tail _ (.tail _ (.head _))))) (.take (.take (.done)))) ?_
  refine o_l rfl (l_bs (l := [S [1, 85, 0, 1, 97], Value.int .u64 7]) Tryz.runUnderlying182 Tryz.sizeOf184 Tryz.zeroValue184 rfl rfl rfl rfl (by kernel_rfl)) ?_; intro g6 _
  refine o_l rfl (l_app (off := 1) (L := [S [1, 85, 0, 1, 97], Value.int .u64 7]) Tryz.underlying182 (info_of Tryz.typeInfo184) rfl rfl rfl rfl rfl rfl (.tail (.head)) rfl (by decide) (by decide) (.inr rfl) (.done) (Sv.blk (vs := [S [1, 85, 0, 1, 97], Value.int .u64 7]) Tryz.underlying182 (.inl (.head _)) (.take (.take (.done))) (by simp [Value.oneCell'])) (.nil) rfl rfl rfl rfl) ?_; intro y7 hy7
  refine o_l rfl (l_mapup Tryz.runUnderlying438 Tryz.runUnderlying23 rfl rfl rfl (.tail (.tail (.tail (.tail (.tail (.head))))))) ?_; intro _ _
  refine o_nil <| n_block <| n_code <| c_region <| oi (Value.int .i64 1) rfl rfl rfl (by kernel_rfl) <| mv rfl rfl <| o_nil <| n_rounds ?_
  refine c_keep (sub_cons (k := 20) rfl (sub_cons (k := 56) rfl (sub_cons (k := 55) rfl (sub_cons (k := 54) rfl (sub_cons (k := 53) rfl (sub_cons (k := 52) rfl (sub_cons (k := 51) rfl (sub_cons (k := 50) rfl (sub_cons (k := 49) rfl (sub_cons (k := 48) rfl (sub_cons (k := 47) rfl (sub_cons (k := 11) rfl (sub_cons (k := 46) rfl (sub_cons (k := 45) rfl (sub_cons (k := 44) rfl (sub_cons (k := 12) rfl (sub_cons (k := 43) rfl (sub_cons (k := 42) rfl (sub_cons (k := 38) rfl (sub_cons (k := 41) rfl (sub_cons (k := 40) rfl (sub_cons (k := 39) rfl (sub_cons (k := 10) rfl (sub_cons (k := 37) rfl (sub_cons (k := 36) rfl (sub_cons (k := 35) rfl (sub_cons (k := 34) rfl (sub_cons (k := 32) rfl (sub_cons (k := 31) rfl (sub_cons (k := 9) rfl (sub_cons (k := 8) rfl (sub_cons (k := 30) rfl (sub_cons (k := 29) rfl (sub_cons (k := 24) rfl (sub_cons (k := 28) rfl (sub_cons (k := 27) rfl (sub_cons (k := 26) rfl (sub_cons (k := 25) rfl (sub_cons (k := 7) rfl (sub_cons (k := 23) rfl (sub_cons (k := 22) rfl (sub_cons (k := 21) rfl (sub_cons (k := 19) rfl (sub_cons (k := 18) rfl (sub_cons (k := 5) rfl (sub_cons (k := 4) rfl (sub_cons (k := 0) rfl (sub_nil)))))))))))))))))))))))))))))))))))))))))))))))) ?_
  refine c_seq <| c_region <| oi (Value.bool false) rfl rfl rfl (by kernel_rfl) <| o_nil <| n_code <| c_seq <| c_else rfl <| c_exit <| x_code <| x_upto <| x_here <| n_code <| c_seq <| c_seq <| c_region <| mv rfl rfl ?_
  refine o_l rfl (l_range Tryz.runUnderlying438 rfl rfl (.inl (.tail _ (.tail _ (.tail _ (.tail _ (.tail _ (.head _)))))))) ?_; intro g8 _
  refine o_nil <| n_code <| c_block <| c_rounds 999 <| c_seq <| c_region ?_
  refine o_l rfl (l_next1 0 rfl rfl (.inl (.tail _ (.tail _ (.tail _ (.tail _ (.tail _ (.tail _ (.head _)))))))) (.head) rfl rfl rfl) ?_; intro _ _
  refine oe rfl (e_extract rfl rfl) <| o_nil <| n_code <| c_seq <| c_then rfl <| c_skip <| n_code <| c_block <| c_seq <| c_keep (sub_cons (k := 60) rfl (sub_cons (k := 59) rfl (sub_cons (k := 58) rfl (sub_cons (k := 4) rfl (sub_cons (k := 0) rfl (sub_nil)))))) <| c_region <| oe rfl (e_entry (j := 0) (seen := []) rfl (.inl (.head _)) (.inl (.tail _ (.tail _ (.tail _ (.tail _ (.tail _ (.tail _ (.head _)))))))) rfl) <| oe rfl (e_extract rfl rfl) <| oe rfl (e_extract rfl rfl) <| asg rfl rfl <| asg rfl rfl ?_
  refine o_nil <| n_code <| c_seq <| c_region ?_
  refine o_l rfl (l_calle Tryz.call315 (z126 ) rfl rfl (.nil)) ?_; intro r9 hr9
  refine o_cat (.cons (.cons (.nil))) <| asg rfl rfl <| o_nil <| n_code <| c_seq <| c_region <| mv rfl rfl <| mv rfl rfl <| oe rfl (e_nilCheck rfl) <| oe rfl (e_as (r := Value.pointer (some ⟨r9.1, 1, none⟩)) (e_fa Tryz.runUnderlying437 rfl Tryz.sizeOf23 rfl rfl) rfl) ?_
  refine o_l rfl (l_store Tryz.sizeOf23 rfl rfl rfl (.head) (.tail (.head)) nofr0) ?_; intro _ _
  refine o_nil <| n_code <| c_seq <| c_seq <| c_region <| mv rfl rfl <| oe rfl (e_nilCheck rfl) <| oe rfl (e_as (r := Value.pointer (some ⟨r9.1, 0, none⟩)) (e_fa Tryz.runUnderlying437 rfl Tryz.sizeOf327 rfl rfl) rfl) <| mv rfl rfl ?_
  refine o_l rfl (l_calle Tryz.call316 (z127 (r9.1) (r9.2) y7 hy7) rfl rfl (.cons (.head) (.cons (.head) (.cons (.tail (.head)) (.nil))))) ?_; intro r10 hr10
  refine o_cat (.cons (.cons (.cons (.cons (.nil))))) <| asg rfl rfl <| o_nil <| n_code <| c_seq <| c_region <| mv rfl rfl <| oe rfl (e_nnen Tryz.runUnderlying80 rfl) <| o_nil <| n_code <| c_else rfl <| c_skip <| n_code <| c_region <| mv rfl rfl <| mv rfl rfl ?_
  refine o_l rfl (l_calle Tryz.call317 (z128 (p0) (p1) (r9.1) (r9.2) (r10)) rfl rfl (.cons (.tail (.tail (.tail (.tail (.tail (.tail (.tail (.tail (.tail (.tail (.head))))))))))) (.cons (.tail (.tail (.tail (.tail (.tail (.tail (.tail (.tail (.tail (.tail (.head))))))))))) (.cons (.head) (.cons (.head) (.cons (.tail (.head)) (.nil))))))) ?_; intro r11 hr11
  refine o_cat (.cons (.cons (.cons (.cons (.cons (.nil)))))) <| o_nil <| n_block <| n_rounds ?_
  refine c_keep (sub_cons (k := 78) rfl (sub_cons (k := 77) rfl (sub_cons (k := 75) rfl (sub_cons (k := 74) rfl (sub_cons (k := 16) rfl (sub_cons (k := 73) rfl (sub_cons (k := 72) rfl (sub_cons (k := 71) rfl (sub_cons (k := 70) rfl (sub_cons (k := 69) rfl (sub_cons (k := 68) rfl (sub_cons (k := 67) rfl (sub_cons (k := 66) rfl (sub_cons (k := 65) rfl (sub_cons (k := 15) rfl (sub_cons (k := 64) rfl (sub_cons (k := 14) rfl (sub_cons (k := 13) rfl (sub_cons (k := 63) rfl (sub_cons (k := 62) rfl (sub_cons (k := 61) rfl (sub_cons (k := 60) rfl (sub_cons (k := 59) rfl (sub_cons (k := 58) rfl (sub_cons (k := 4) rfl (sub_cons (k := 0) rfl (sub_nil))))))))))))))))))))))))))) ?_
  refine c_seq <| c_region ?_
  refine o_l rfl (l_next0 rfl rfl (.inl (.tail _ (.tail _ (.tail _ (.tail _ (.tail _ (.tail _ (.tail _ (.tail _ (.tail _ (.tail _ (.tail _ (.head _))))))))))))) (.tail _ (.tail _ (.tail _ (.tail _ (.tail _ (.tail _ (.head _))))))) rfl) ?_; intro _ _
  refine oe rfl (e_extract rfl rfl) <| o_nil <| n_code <| c_seq <| c_else rfl <| c_exit <| x_code <| x_upto <| x_here <| n_code <| c_seq <| c_region <| asg rfl rfl <| o_nil <| n_code <| c_ret <| WR.sel (.cons (.head) (.cons (.head) (.cons (.tail (.tail (.tail (.tail (.tail (.tail (.tail (.tail (.tail (.tail (.head))))))))))) (.cons (.head) (.cons (.head) (.cons (.head) (.nil))))))) <| r_fn1 Tryz.results310 rfl ?_
  exact tells (y := (r9.1, r9.2, r10)) trivial rfl rfl

theorem z130 {G : HP} (p0 : Nat) (p1 : Nat) (p2 : Nat) (p3 : Nat) (p4 : Nat) :
    CtrE Tryz.prog 308 [Value.pointer (some ⟨p0, 0, none⟩)] G [(p0, C [Value.map (some p1)] 330), (p1, Mo .u64 [(0, Value.pointer (some ⟨p2, 0, none⟩))]), (p2, C [Value.map (some p3), Value.int .u64 0] 437), (p3, Mo .u32 [(9, Value.agg #[Value.int .u32 9, Value.int .u64 1, Value.slice (some ⟨p4, 0, none⟩) 9 9])]), (p4, C xb3 5)] (T := Unit) (fun _ => True) (fun _ => Value.int .u64 1025) (fun _ => [(p0, C [Value.map (some p1)] 330), (p1, Mo .u64 [(0, Value.pointer (some ⟨p2, 0, none⟩))]), (p2, C [Value.map (some p3), Value.int .u64 0] 437), (p3, Mo .u32 [(9, Value.agg #[Value.int .u32 9, Value.int .u64 1, Value.slice (some ⟨p4, 0, none⟩) 9 9])]), (p4, C xb3 5)]) := by
  refine fn_enter 3 Tryz.func308 rfl Tryz.ntmps308 rfl ?_
  intro w0
  refine c_seq <| c_region <| asg rfl rfl <| o_nil <| n_code <| c_seq <| c_region <| asg rfl rfl <| o_nil <| n_code <| c_ret <| WR.sel (.cons (.head) (.cons (.head) (.cons (.head) (.cons (.head) (.cons (.head) (.nil)))))) <| r_fn1 Tryz.results308 rfl ?_
  exact tells (y := (())) trivial rfl rfl

theorem z131 {G : HP} (p0 : Nat) :
    CtrE Tryz.prog 150 [Value.slice (some ⟨p0, 0, none⟩) 10 10, Value.int .u64 1025] G [(p0, C xb0 5)] (T := Unit) (fun _ => True) (fun _ => Value.int .i64 2) (fun _ => [(p0, C xb18 5)]) := by
  refine fn_enter 25 Tryz.func150 rfl Tryz.ntmps150 rfl ?_
  intro w0
  refine c_seq <| c_region <| asg rfl rfl <| o_nil <| n_code <| c_seq <| c_region <| asg rfl rfl <| o_nil <| n_code <| c_seq <| c_block <| c_rounds 999 <| c_seq <| c_seq <| c_region <| mv rfl rfl <| oi (Value.bool true) rfl rfl rfl (by kernel_rfl) <| o_nil <| n_code <| c_then rfl <| c_skip <| n_code <| c_block <| c_seq <| c_region <| mv rfl rfl <| mv rfl rfl <| mv rfl rfl <| oe rfl (e_convc (r := ub 1) Tryz.runUnderlying23 Tryz.runUnderlying5 rfl (by kernel_rfl)) ?_
  refine oi (ub 129) rfl rfl rfl (by kernel_rfl) <| oe rfl (e_as (r := Value.pointer (some ⟨p0, 0, none⟩)) (e_ia Tryz.runUnderlying72 Tryz.sizeOf5 rfl rfl (by decide) (by decide)) rfl) ?_
  refine o_l rfl (l_store Tryz.sizeOf5 rfl rfl rfl (.head) (.head) nofr0) ?_; intro _ _
  refine o_nil <| n_code <| c_seq <| c_region <| mv rfl rfl <| oe rfl (e_shrc (r := Value.int .u64 8) rfl rfl rfl (by kernel_rfl)) <| asg rfl rfl <| o_nil <| n_code <| c_region <| mv rfl rfl <| oi (Value.int .i64 1) rfl rfl rfl (by kernel_rfl) <| asg rfl rfl <| o_nil <| n_block <| n_rounds <| c_seq <| c_seq <| c_region <| mv rfl rfl <| oi (Value.bool false) rfl rfl rfl (by kernel_rfl) <| o_nil <| n_code <| c_else rfl <| c_exit <| x_code <| x_upto <| x_here <| n_code <| c_seq <| c_region <| mv rfl rfl ?_
  refine mv rfl rfl <| mv rfl rfl <| oe rfl (e_convc (r := ub 8) Tryz.runUnderlying23 Tryz.runUnderlying5 rfl (by kernel_rfl)) <| oe rfl (e_as (r := Value.pointer (some ⟨p0, 1, none⟩)) (e_ia Tryz.runUnderlying72 Tryz.sizeOf5 rfl rfl (by decide) (by decide)) rfl) ?_
  refine o_l rfl (l_store Tryz.sizeOf5 rfl rfl rfl (.head) (.tail (.head)) nofr0) ?_; intro _ _
  refine o_nil <| n_code <| c_seq <| c_region <| mv rfl rfl <| oi (Value.int .i64 2) rfl rfl rfl (by kernel_rfl) <| asg rfl rfl <| o_nil <| n_code <| c_ret <| WR.sel (.cons (.head) (.nil)) <| r_fn1 Tryz.results150 rfl ?_
  exact tells (y := (())) trivial rfl rfl

theorem z132 {G : HP} (p0 : Nat) :
    CtrE Tryz.prog 77 [Value.slice (some ⟨p0, 0, none⟩) 10 10, Value.int .u64 1025] G [(p0, C xb0 5)] (T := Unit) (fun _ => True) (fun _ => Value.int .i64 2) (fun _ => [(p0, C xb18 5)]) := by
  refine fn_enter 8 Tryz.func77 rfl Tryz.ntmps77 rfl ?_
  intro w0
  refine c_seq <| c_region <| asg rfl rfl <| o_nil <| n_code <| c_seq <| c_region <| mv rfl rfl <| mv rfl rfl ?_
  refine o_l rfl (l_calle Tryz.call150 (z131 (p0)) rfl rfl (.cons (.head) (.nil))) ?_; intro r1 hr1
  refine o_cat (.cons (.nil)) <| asg rfl rfl <| o_nil <| n_code <| c_ret <| WR.sel (.cons (.head) (.nil)) <| r_fn1 Tryz.results77 rfl ?_
  exact tells (y := (())) trivial rfl rfl

theorem z133 {G : HP} (p0 : Nat) (p1 : Nat) :
    CtrE Tryz.prog 294 [Value.pointer (some ⟨p0, 0, none⟩), Value.slice (some ⟨p1, 0, none⟩) 2 10] G [(p0, C [Value.slice none 0 0, Value.int .i64 0, Value.int .i8 0] 86), (p1, C xb18 5)] (T := Nat) (fun _ => True) (fun y => Value.tuple #[Value.int .i64 2, Value.nilIface]) (fun y => [(p0, C [Value.slice (some ⟨y, 0, none⟩) 2 64, Value.int .i64 0, Value.int .i8 0] 86), (p1, C xb18 5), (y, C xb19 5)]) := by
  refine fn_enter 32 Tryz.func294 rfl Tryz.ntmps294 rfl ?_
  intro w0
  refine c_seq <| c_region <| asg rfl rfl <| asg rfl rfl <| o_nil <| n_code <| c_seq <| c_region <| mv rfl rfl <| oe rfl (e_nilCheck rfl) <| oe rfl (e_as (r := Value.pointer (some ⟨p0, 2, none⟩)) (e_fa Tryz.runUnderlying86 rfl Tryz.sizeOf84 rfl rfl) rfl) ?_
  refine o_l rfl (l_store Tryz.sizeOf84 rfl rfl rfl (.head) (.tail (.tail (.head))) nofr0) ?_; intro _ _
  refine o_nil <| n_code <| c_seq <| c_region <| mv rfl rfl <| mv rfl rfl <| oe rfl (e_as (r := Value.int .i64 2) (e_lenl Tryz.runUnderlying72 rfl) rfl) ?_
  refine o_l rfl (l_calle Tryz.call296 (z50 (p0)) rfl rfl (.cons (.head) (.nil))) ?_; intro r1 hr1
  refine o_cat (.cons (.nil)) <| mv rfl rfl <| oe rfl (e_extract rfl rfl) <| oe rfl (e_extract rfl rfl) <| asg rfl rfl <| asg rfl rfl <| o_nil <| n_code <| c_seq <| c_seq <| c_region <| mv rfl rfl <| oe rfl (e_as (r := Value.bool true) (e_not rfl) rfl) <| o_nil <| n_code <| c_then rfl <| c_region <| mv rfl rfl <| mv rfl rfl <| oe rfl (e_as (r := Value.int .i64 2) (e_lenl Tryz.runUnderlying72 rfl) rfl) ?_
  refine o_l rfl (l_calle Tryz.call297 (z52 (p0)) rfl rfl (.cons (.head) (.nil))) ?_; intro r2 hr2
  refine o_cat (.cons (.cons (.nil))) <| asg rfl rfl <| o_nil <| n_code <| c_seq <| c_region <| mv rfl rfl <| oe rfl (e_nilCheck rfl) <| oe rfl (e_as (r := Value.pointer (some ⟨p0, 0, none⟩)) (e_fa Tryz.runUnderlying86 rfl Tryz.sizeOf72 rfl rfl) rfl) <| oe rfl (e_load Tryz.isAgg72 rfl (.inl (.head _)) rfl) <| mv rfl rfl <| oe rfl (e_as (r := Value.slice (some ⟨r2, 0, none⟩) 2 64) (e_sl_l Tryz.runUnderlying72 Tryz.sizeOf5 rfl rfl (by decide) (by decide) (by decide)) (by first | rfl | (simp; try omega))) ?_
  refine mv rfl rfl ?_
  refine o_l rfl (l_copy (vs := [ub 129, ub 8]) (k' := 2) Tryz.runUnderlying72 Tryz.sizeOf5 rfl rfl rfl (Sv.blk (vs := [ub 129, ub 8]) Tryz.underlying72 (.inl (.tail _ (.tail _ (.head _)))) (.take (.take (.done))) (by simp [Value.oneCell'])) rfl (.tail (.head)) (.take (.take (.done))) (.inr rfl)) ?_; intro _ _
  refine asg rfl rfl <| asg rfl rfl <| o_nil <| n_code <| c_ret <| WR.sel (.cons (.head) (.cons (.tail (.head)) (.cons (.head) (.nil)))) <| r_fn (l := [.tmp 4, .tmp 5]) Tryz.results294 rfl rfl ?_
  exact tells (y := (r2)) trivial rfl rfl

theorem z134 {G : HP} (p0 : Nat) (p1 : Nat) :
    CtrE Tryz.prog 296 [Value.pointer (some ⟨p0, 0, none⟩), Value.int .i64 4] G [(p0, C [Value.slice (some ⟨p1, 0, none⟩) 2 64, Value.int .i64 0, Value.int .i8 0] 86), (p1, C xb19 5)] (T := Unit) (fun _ => True) (fun _ => Value.tuple #[Value.int .i64 2, Value.bool true]) (fun _ => [(p0, C [Value.slice (some ⟨p1, 0, none⟩) 6 64, Value.int .i64 0, Value.int .i8 0] 86), (p1, C xb19 5)]) := by
  refine fn_enter 33 Tryz.func296 rfl Tryz.ntmps296 rfl ?_
  intro w0
  refine c_seq <| c_region <| asg rfl rfl <| asg rfl rfl <| o_nil <| n_code <| c_seq <| c_seq <| c_region <| mv rfl rfl <| oe rfl (e_nilCheck rfl) <| oe rfl (e_as (r := Value.pointer (some ⟨p0, 0, none⟩)) (e_fa Tryz.runUnderlying86 rfl Tryz.sizeOf72 rfl rfl) rfl) <| oe rfl (e_load Tryz.isAgg72 rfl (.inl (.head _)) rfl) <| oe rfl (e_as (r := Value.int .i64 2) (e_lenl Tryz.runUnderlying72 rfl) rfl) <| asg rfl rfl <| o_nil <| n_code <| c_seq <| c_region <| mv rfl rfl <| mv rfl rfl <| oe rfl (e_nilCheck rfl) ?_
  refine oe rfl (e_as (r := Value.pointer (some ⟨p0, 0, none⟩)) (e_fa Tryz.runUnderlying86 rfl Tryz.sizeOf72 rfl rfl) rfl) <| oe rfl (e_load Tryz.isAgg72 rfl (.inl (.head _)) rfl) <| oe rfl (e_as (r := Value.int .i64 64) (e_cap Tryz.runUnderlying72 rfl) rfl) <| mv rfl rfl <| oi (Value.int .i64 62) rfl rfl rfl (by kernel_rfl) <| oi (Value.bool true) rfl rfl rfl (by kernel_rfl) <| o_nil <| n_code <| c_then rfl <| c_seq <| c_region <| mv rfl rfl <| mv rfl rfl <| oe rfl (e_nilCheck rfl) ?_
  refine oe rfl (e_as (r := Value.pointer (some ⟨p0, 0, none⟩)) (e_fa Tryz.runUnderlying86 rfl Tryz.sizeOf72 rfl rfl) rfl) <| oe rfl (e_load Tryz.isAgg72 rfl (.inl (.head _)) rfl) <| mv rfl rfl <| mv rfl rfl <| oi (Value.int .i64 6) rfl rfl rfl (by kernel_rfl) <| oe rfl (e_as (r := Value.slice (some ⟨p1, 0, none⟩) 6 64) (e_sl_h Tryz.runUnderlying72 Tryz.sizeOf5 rfl rfl (by decide) (by decide)) rfl) <| oe rfl (e_nilCheck rfl) ?_
  refine oe rfl (e_as (r := Value.pointer (some ⟨p0, 0, none⟩)) (e_fa Tryz.runUnderlying86 rfl Tryz.sizeOf72 rfl rfl) rfl) ?_
  refine o_l rfl (l_store Tryz.sizeOf72 rfl rfl rfl (.head) (.head) nofr0) ?_; intro _ _
  refine o_nil <| n_code <| c_seq <| c_region <| mv rfl rfl <| asg rfl rfl <| asg rfl rfl <| o_nil <| n_code <| c_ret <| WR.sel (.cons (.head) (.cons (.head) (.nil))) <| r_fn (l := [.tmp 4, .tmp 5]) Tryz.results296 rfl rfl ?_
  exact tells (y := (())) trivial rfl rfl

theorem z135 {G : HP} (p0 : Nat) (p1 : Nat) (p2 : Nat) :
    CtrE Tryz.prog 294 [Value.pointer (some ⟨p0, 0, none⟩), Value.slice (some ⟨p2, 0, none⟩) 4 4] G [(p0, C [Value.slice (some ⟨p1, 0, none⟩) 2 64, Value.int .i64 0, Value.int .i8 0] 86), (p1, C xb19 5), (p2, C [ub 1, ub 0, ub 0, ub 0] 5)] (T := Unit) (fun _ => True) (fun _ => Value.tuple #[Value.int .i64 4, Value.nilIface]) (fun _ => [(p0, C [Value.slice (some ⟨p1, 0, none⟩) 6 64, Value.int .i64 0, Value.int .i8 0] 86), (p1, C xb20 5), (p2, C [ub 1, ub 0, ub 0, ub 0] 5)]) := by
  refine fn_enter 32 Tryz.func294 rfl Tryz.ntmps294 rfl ?_
  intro w0
  refine c_seq <| c_region <| asg rfl rfl <| asg rfl rfl <| o_nil <| n_code <| c_seq <| c_region <| mv rfl rfl <| oe rfl (e_nilCheck rfl) <| oe rfl (e_as (r := Value.pointer (some ⟨p0, 2, none⟩)) (e_fa Tryz.runUnderlying86 rfl Tryz.sizeOf84 rfl rfl) rfl) ?_
  refine o_l rfl (l_store Tryz.sizeOf84 rfl rfl rfl (.head) (.tail (.tail (.head))) nofr0) ?_; intro _ _
  refine o_nil <| n_code <| c_seq <| c_region <| mv rfl rfl <| mv rfl rfl <| oe rfl (e_as (r := Value.int .i64 4) (e_lenl Tryz.runUnderlying72 rfl) rfl) ?_
  refine o_l rfl (l_calle Tryz.call296 (z134 (p0) (p1)) rfl rfl (.cons (.head) (.cons (.head) (.nil)))) ?_; intro r1 hr1
  refine o_cat (.cons (.cons (.nil))) <| mv rfl rfl <| oe rfl (e_extract rfl rfl) <| oe rfl (e_extract rfl rfl) <| asg rfl rfl <| asg rfl rfl <| o_nil <| n_code <| c_seq <| c_seq <| c_region <| mv rfl rfl <| oe rfl (e_as (r := Value.bool false) (e_not rfl) rfl) <| o_nil <| n_code <| c_else rfl <| c_skip <| n_code <| c_seq <| c_region <| mv rfl rfl <| oe rfl (e_nilCheck rfl) <| oe rfl (e_as (r := Value.pointer (some ⟨p0, 0, none⟩)) (e_fa Tryz.runUnderlying86 rfl Tryz.sizeOf72 rfl rfl) rfl) ?_
  refine oe rfl (e_load Tryz.isAgg72 rfl (.inl (.head _)) rfl) <| mv rfl rfl <| oe rfl (e_as (r := Value.slice (some ⟨p1, 2, none⟩) 4 62) (e_sl_l Tryz.runUnderlying72 Tryz.sizeOf5 rfl rfl (by decide) (by decide) (by decide)) (by first | rfl | (simp; try omega))) <| mv rfl rfl ?_
  refine o_l rfl (l_copy (vs := [ub 1, ub 0, ub 0, ub 0]) (k' := 4) Tryz.runUnderlying72 Tryz.sizeOf5 rfl rfl rfl (Sv.blk (vs := [ub 1, ub 0, ub 0, ub 0]) Tryz.underlying72 (.inl (.tail _ (.tail _ (.head _)))) (.take (.take (.take (.take (.done))))) (by simp [Value.oneCell'])) rfl (.tail (.head)) (.skip (.skip (.take (.take (.take (.take (.done))))))) (.inr rfl)) ?_; intro _ _
  refine asg rfl rfl <| asg rfl rfl <| o_nil <| n_code <| c_ret <| WR.sel (.cons (.head) (.cons (.head) (.cons (.head) (.nil)))) <| r_fn (l := [.tmp 4, .tmp 5]) Tryz.results294 rfl rfl ?_
  exact tells (y := (())) trivial rfl rfl

theorem z136 {G : HP} (p0 : Nat) (p1 : Nat) :
    CtrE Tryz.prog 318 [Value.iface 89 (Value.pointer (some ⟨p0, 0, none⟩)), Value.int .u32 1] G [(p0, C [Value.slice (some ⟨p1, 0, none⟩) 2 64, Value.int .i64 0, Value.int .i8 0] 86), (p1, C xb19 5)] (T := Unit) (fun _ => True) (fun _ => Value.nilIface) (fun _ => [(p0, C [Value.slice (some ⟨p1, 0, none⟩) 6 64, Value.int .i64 0, Value.int .i8 0] 86), (p1, C xb20 5)]) := by
  refine fn_enter 20 Tryz.func318 rfl Tryz.ntmps318 rfl ?_
  intro w0
  refine c_seq <| c_region <| asg rfl rfl <| o_nil <| n_code <| c_seq <| c_region ?_
  refine o_l rfl (l_mksc (l := [ub 0, ub 0, ub 0, ub 0]) (n := 4) (m := 4) Tryz.underlying72 (info_of Tryz.typeInfo5) rfl rfl rfl rfl rfl rfl rfl (by decide) (by kernel_rfl)) ?_; intro g1 _
  refine asg rfl rfl <| o_nil <| n_code <| c_seq <| c_region <| oe rfl (e_load0 Tryz.isAgg294 Tryz.sizeOf294 rfl) <| mv rfl rfl <| mv rfl rfl ?_
  refine o_l rfl (l_calle Tryz.call326 (z54 (g1)) rfl rfl (.cons (.head) (.nil))) ?_; intro r2 hr2
  refine o_cat (.cons (.nil)) <| o_nil <| n_code <| c_seq <| c_region <| mv rfl rfl <| mv rfl rfl ?_
  refine o_l rfl (l_callie Tryz.call294 (by intro w; kernel_rfl) (z135 (p0) (p1) (g1)) rfl rfl rfl (.cons (.tail (.head)) (.cons (.tail (.head)) (.cons (.head) (.nil))))) ?_; intro r3 hr3
  refine o_cat (.cons (.cons (.cons (.nil)))) <| mv rfl rfl <| oe rfl (e_extract rfl rfl) <| oe rfl (e_extract rfl rfl) <| asg rfl rfl <| asg rfl rfl <| o_nil <| n_code <| c_seq <| c_region <| mv rfl rfl <| asg rfl rfl <| o_nil <| n_code <| c_ret <| WR.sel (.cons (.head) (.cons (.head) (.nil))) <| r_fn1 Tryz.results318 rfl ?_
  exact tells (y := (())) trivial rfl rfl

theorem z137 {G : HP} (q0 : Tl) (h0 : TlOk 1 1 q0) :
    CtrE Tryz.prog 351 [Value.slice (some ⟨q0.g, 0, none⟩) 1 q0.cap, Value.int .i64 0, Value.int .i64 1] G [(q0.g, Ob [Value.int .u64 0] q0 23)] (T := Unit) (fun _ => True) (fun _ => Value.tuple #[]) (fun _ => [(q0.g, Ob [Value.int .u64 0] q0 23)]) := by
  refine fn_enter 49 Tryz.func351 rfl Tryz.ntmps351 rfl ?_
  intro w0
  refine c_seq <| c_region <| mv rfl rfl <| oi (Value.int .i64 1) rfl rfl rfl (by kernel_rfl) <| asg rfl rfl <| o_nil <| n_code <| c_block <| c_rounds 999 <| c_seq <| c_seq <| c_region <| mv rfl rfl <| mv rfl rfl <| oi (Value.bool false) rfl rfl rfl (by kernel_rfl) <| o_nil <| n_code <| c_else rfl <| c_exit <| x_code <| x_upto <| x_here <| WN.sel (.cons (.head) (.nil)) <| n_fn0 Tryz.results351 ?_
  exact tells (y := (())) trivial rfl rfl

theorem z138 {G : HP} (q0 : Tl) (h0 : TlOk 1 1 q0) :
    CtrE Tryz.prog 338 [Value.slice (some ⟨q0.g, 0, none⟩) 1 q0.cap, Value.int .i64 0, Value.int .i64 1, Value.int .i64 1] G [(q0.g, Ob [Value.int .u64 0] q0 23)] (T := Unit) (fun _ => True) (fun _ => Value.tuple #[]) (fun _ => [(q0.g, Ob [Value.int .u64 0] q0 23)]) := by
  refine fn_enter 134 Tryz.func338 rfl Tryz.ntmps338 rfl ?_
  intro w0
  refine c_seq <| c_region <| asg rfl rfl <| o_nil <| n_code <| c_seq <| c_region <| asg rfl rfl <| o_nil <| n_code <| c_block <| c_rounds 999 <| c_block <| c_seq <| c_region <| mv rfl rfl <| mv rfl rfl <| oi (Value.int .i64 1) rfl rfl rfl (by kernel_rfl) <| asg rfl rfl <| o_nil <| n_code <| c_seq <| c_seq <| c_region <| mv rfl rfl <| oi (Value.bool true) rfl rfl rfl (by kernel_rfl) <| o_nil <| n_code <| c_then rfl <| c_seq <| c_region <| mv rfl rfl <| mv rfl rfl <| mv rfl rfl ?_
  refine o_l rfl (l_calle Tryz.call351 (z137 q0 h0) rfl rfl (.cons (.head) (.nil))) ?_; intro r1 hr1
  refine o_cat (.cons (.nil)) <| o_nil <| n_code <| c_ret <| WR.sel (.cons (.head) (.nil)) <| r_fn0 Tryz.results338 ?_
  exact tells (y := (())) trivial rfl rfl

theorem z139 {G : HP} (q0 : Tl) (h0 : TlOk 1 1 q0) :
    CtrE Tryz.prog 327 [Value.slice (some ⟨q0.g, 0, none⟩) 1 q0.cap] G [(q0.g, Ob [Value.int .u64 0] q0 23)] (T := Unit) (fun _ => True) (fun _ => Value.tuple #[]) (fun _ => [(q0.g, Ob [Value.int .u64 0] q0 23)]) := by
  refine fn_enter 11 Tryz.func327 rfl Tryz.ntmps327 rfl ?_
  intro w0
  refine c_seq <| c_region <| mv rfl rfl <| oe rfl (e_as (r := Value.int .i64 1) (e_lenl Tryz.runUnderlying29 rfl) rfl) <| asg rfl rfl <| o_nil <| n_code <| c_region <| mv rfl rfl <| mv rfl rfl <| mv rfl rfl <| oe rfl (e_convc (r := Value.int .u64 1) Tryz.runUnderlying3 Tryz.runUnderlying131 rfl (by kernel_rfl)) ?_
  refine o_l rfl (l_calle Tryz.call66 (z58 ) rfl rfl (.nil)) ?_; intro r1 hr1
  refine o_cat (.nil) ?_
  refine o_l rfl (l_calle Tryz.call338 (z138 q0 h0) rfl rfl (.cons (.head) (.nil))) ?_; intro r2 hr2
  refine o_cat (.cons (.nil)) <| o_nil <| WN.sel (.cons (.head) (.nil)) <| n_fn0 Tryz.results327 ?_
  exact tells (y := (())) trivial rfl rfl
end Go.Proofs
