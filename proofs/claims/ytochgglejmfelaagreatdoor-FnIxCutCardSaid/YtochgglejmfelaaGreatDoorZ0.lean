/- laws.ixOne at its two kinds, run by laws: part 0. -/
import Derived.KernelRfl
import Derived.Test.YtochgglejmfelaaGreatDoorA5
import Derived.Test.YtochgglejmfelaaGreatDoorB2
namespace Go.Proofs
open Go Go.Sl
set_option maxRecDepth 100000
set_option maxHeartbeats 4000000
abbrev ub (n : Int) : Value := .int .u8 n
abbrev xb0 : List Value := [ub 0, ub 0, ub 0, ub 0, ub 0, ub 0, ub 0, ub 0, ub 0, ub 0]
abbrev xb1 : List Value := [ub 85, ub 0, ub 0, ub 0, ub 0, ub 0, ub 0, ub 0, ub 0, ub 0]
abbrev xb2 : List Value := [ub 1, ub 85, ub 0, ub 1, ub 97]
abbrev xb3 : List Value := [ub 97, ub 7, ub 0, ub 0, ub 0, ub 0, ub 0, ub 0, ub 0]
abbrev xb4 : List Value := [ub 0, ub 0, ub 0, ub 0, ub 0, ub 0, ub 0, ub 0, ub 0]
abbrev xb5 : List Value := [ub 128, ub 8, ub 0, ub 0, ub 0, ub 0, ub 0, ub 0, ub 0, ub 0]
abbrev xb6 : List Value := [ub 0, ub 0, ub 0, ub 0, ub 0, ub 0, ub 0, ub 0, ub 0, ub 0, ub 0, ub 0, ub 0, ub 0, ub 0, ub 0, ub 0, ub 0, ub 0, ub 0, ub 0, ub 0, ub 0, ub 0, ub 0, ub 0, ub 0, ub 0, ub 0, ub 0, ub 0, ub 0, ub 0, ub 0, ub 0, ub 0, ub 0, ub 0, ub 0, ub 0, ub 0, ub 0, ub 0, ub 0, ub 0, ub 0, ub 0, ub 0, ub 0, ub 0, ub 0, ub 0, ub 0, ub 0, ub 0, ub 0, ub 0, ub 0, ub 0, ub 0, ub 0, ub 0, ub 0, ub 0]
abbrev xb7 : List Value := [ub 128, ub 8, ub 0, ub 0, ub 0, ub 0, ub 0, ub 0, ub 0, ub 0, ub 0, ub 0, ub 0, ub 0, ub 0, ub 0, ub 0, ub 0, ub 0, ub 0, ub 0, ub 0, ub 0, ub 0, ub 0, ub 0, ub 0, ub 0, ub 0, ub 0, ub 0, ub 0, ub 0, ub 0, ub 0, ub 0, ub 0, ub 0, ub 0, ub 0, ub 0, ub 0, ub 0, ub 0, ub 0, ub 0, ub 0, ub 0, ub 0, ub 0, ub 0, ub 0, ub 0, ub 0, ub 0, ub 0, ub 0, ub 0, ub 0, ub 0, ub 0, ub 0, ub 0, ub 0]
abbrev xb8 : List Value := [ub 128, ub 8, ub 1, ub 0, ub 0, ub 0, ub 0, ub 0, ub 0, ub 0, ub 0, ub 0, ub 0, ub 0, ub 0, ub 0, ub 0, ub 0, ub 0, ub 0, ub 0, ub 0, ub 0, ub 0, ub 0, ub 0, ub 0, ub 0, ub 0, ub 0, ub 0, ub 0, ub 0, ub 0, ub 0, ub 0, ub 0, ub 0, ub 0, ub 0, ub 0, ub 0, ub 0, ub 0, ub 0, ub 0, ub 0, ub 0, ub 0, ub 0, ub 0, ub 0, ub 0, ub 0, ub 0, ub 0, ub 0, ub 0, ub 0, ub 0, ub 0, ub 0, ub 0, ub 0]
abbrev xb9 : List Value := [ub 128, ub 8, ub 1, ub 0, ub 0, ub 0, ub 9, ub 0, ub 0, ub 0, ub 0, ub 0, ub 0, ub 0, ub 0, ub 0, ub 0, ub 0, ub 0, ub 0, ub 0, ub 0, ub 0, ub 0, ub 0, ub 0, ub 0, ub 0, ub 0, ub 0, ub 0, ub 0, ub 0, ub 0, ub 0, ub 0, ub 0, ub 0, ub 0, ub 0, ub 0, ub 0, ub 0, ub 0, ub 0, ub 0, ub 0, ub 0, ub 0, ub 0, ub 0, ub 0, ub 0, ub 0, ub 0, ub 0, ub 0, ub 0, ub 0, ub 0, ub 0, ub 0, ub 0, ub 0]
abbrev xb10 : List Value := [ub 0, ub 0, ub 0, ub 0, ub 0, ub 0, ub 0, ub 0]
abbrev xb11 : List Value := [ub 9, ub 0, ub 0, ub 0, ub 0, ub 0, ub 0, ub 0]
abbrev xb12 : List Value := [ub 128, ub 8, ub 1, ub 0, ub 0, ub 0, ub 9, ub 0, ub 0, ub 0, ub 9, ub 0, ub 0, ub 0, ub 0, ub 0, ub 0, ub 0, ub 0, ub 0, ub 0, ub 0, ub 0, ub 0, ub 0, ub 0, ub 0, ub 0, ub 0, ub 0, ub 0, ub 0, ub 0, ub 0, ub 0, ub 0, ub 0, ub 0, ub 0, ub 0, ub 0, ub 0, ub 0, ub 0, ub 0, ub 0, ub 0, ub 0, ub 0, ub 0, ub 0, ub 0, ub 0, ub 0, ub 0, ub 0, ub 0, ub 0, ub 0, ub 0, ub 0, ub 0, ub 0, ub 0]
abbrev xb13 : List Value := [ub 128, ub 8, ub 1, ub 0, ub 0, ub 0, ub 9, ub 0, ub 0, ub 0, ub 9, ub 0, ub 0, ub 0, ub 0, ub 0, ub 0, ub 0, ub 97, ub 7, ub 0, ub 0, ub 0, ub 0, ub 0, ub 0, ub 0, ub 0, ub 0, ub 0, ub 0, ub 0, ub 0, ub 0, ub 0, ub 0, ub 0, ub 0, ub 0, ub 0, ub 0, ub 0, ub 0, ub 0, ub 0, ub 0, ub 0, ub 0, ub 0, ub 0, ub 0, ub 0, ub 0, ub 0, ub 0, ub 0, ub 0, ub 0, ub 0, ub 0, ub 0, ub 0, ub 0, ub 0]
abbrev xb14 : List Value := [ub 128, ub 8, ub 1, ub 0, ub 0, ub 0, ub 9, ub 0, ub 0, ub 0, ub 9, ub 0, ub 0, ub 0, ub 0, ub 0, ub 0, ub 0, ub 97, ub 7, ub 0, ub 0, ub 0, ub 0, ub 0, ub 0, ub 0]
abbrev xb15 : List Value := [ub 1, ub 0, ub 0, ub 0, ub 9, ub 0, ub 0, ub 0, ub 9, ub 0, ub 0, ub 0, ub 0, ub 0, ub 0, ub 0, ub 97, ub 7, ub 0, ub 0, ub 0, ub 0, ub 0, ub 0, ub 0]
abbrev xb16 : List Value := [ub 9, ub 0, ub 0, ub 0, ub 9, ub 0, ub 0, ub 0, ub 0, ub 0, ub 0, ub 0, ub 97, ub 7, ub 0, ub 0, ub 0, ub 0, ub 0, ub 0, ub 0]
abbrev xb17 : List Value := [ub 9, ub 0, ub 0, ub 0, ub 0, ub 0, ub 0, ub 0, ub 97, ub 7, ub 0, ub 0, ub 0, ub 0, ub 0, ub 0, ub 0]
abbrev xb18 : List Value := [ub 129, ub 8, ub 0, ub 0, ub 0, ub 0, ub 0, ub 0, ub 0, ub 0]
abbrev xb19 : List Value := [ub 129, ub 8, ub 0, ub 0, ub 0, ub 0, ub 0, ub 0, ub 0, ub 0, ub 0, ub 0, ub 0, ub 0, ub 0, ub 0, ub 0, ub 0, ub 0, ub 0, ub 0, ub 0, ub 0, ub 0, ub 0, ub 0, ub 0, ub 0, ub 0, ub 0, ub 0, ub 0, ub 0, ub 0, ub 0, ub 0, ub 0, ub 0, ub 0, ub 0, ub 0, ub 0, ub 0, ub 0, ub 0, ub 0, ub 0, ub 0, ub 0, ub 0, ub 0, ub 0, ub 0, ub 0, ub 0, ub 0, ub 0, ub 0, ub 0, ub 0, ub 0, ub 0, ub 0, ub 0]
abbrev xb20 : List Value := [ub 129, ub 8, ub 1, ub 0, ub 0, ub 0, ub 0, ub 0, ub 0, ub 0, ub 0, ub 0, ub 0, ub 0, ub 0, ub 0, ub 0, ub 0, ub 0, ub 0, ub 0, ub 0, ub 0, ub 0, ub 0, ub 0, ub 0, ub 0, ub 0, ub 0, ub 0, ub 0, ub 0, ub 0, ub 0, ub 0, ub 0, ub 0, ub 0, ub 0, ub 0, ub 0, ub 0, ub 0, ub 0, ub 0, ub 0, ub 0, ub 0, ub 0, ub 0, ub 0, ub 0, ub 0, ub 0, ub 0, ub 0, ub 0, ub 0, ub 0, ub 0, ub 0, ub 0, ub 0]
abbrev xb21 : List Value := [ub 129, ub 8, ub 1, ub 0, ub 0, ub 0, ub 0, ub 0, ub 0, ub 0, ub 0, ub 0, ub 0, ub 0, ub 1, ub 0, ub 0, ub 0, ub 0, ub 0, ub 0, ub 0, ub 0, ub 0, ub 0, ub 0, ub 0, ub 0, ub 0, ub 0, ub 0, ub 0, ub 0, ub 0, ub 0, ub 0, ub 0, ub 0, ub 0, ub 0, ub 0, ub 0, ub 0, ub 0, ub 0, ub 0, ub 0, ub 0, ub 0, ub 0, ub 0, ub 0, ub 0, ub 0, ub 0, ub 0, ub 0, ub 0, ub 0, ub 0, ub 0, ub 0, ub 0, ub 0]
abbrev xb22 : List Value := [ub 129, ub 8, ub 1, ub 0, ub 0, ub 0, ub 0, ub 0, ub 0, ub 0, ub 0, ub 0, ub 0, ub 0, ub 1, ub 0, ub 0, ub 0, ub 9, ub 0, ub 0, ub 0, ub 0, ub 0, ub 0, ub 0, ub 0, ub 0, ub 0, ub 0, ub 0, ub 0, ub 0, ub 0, ub 0, ub 0, ub 0, ub 0, ub 0, ub 0, ub 0, ub 0, ub 0, ub 0, ub 0, ub 0, ub 0, ub 0, ub 0, ub 0, ub 0, ub 0, ub 0, ub 0, ub 0, ub 0, ub 0, ub 0, ub 0, ub 0, ub 0, ub 0, ub 0, ub 0]
abbrev xb23 : List Value := [ub 129, ub 8, ub 1, ub 0, ub 0, ub 0, ub 0, ub 0, ub 0, ub 0, ub 0, ub 0, ub 0, ub 0, ub 1, ub 0, ub 0, ub 0, ub 9, ub 0, ub 0, ub 0, ub 9, ub 0, ub 0, ub 0, ub 0, ub 0, ub 0, ub 0, ub 0, ub 0, ub 0, ub 0, ub 0, ub 0, ub 0, ub 0, ub 0, ub 0, ub 0, ub 0, ub 0, ub 0, ub 0, ub 0, ub 0, ub 0, ub 0, ub 0, ub 0, ub 0, ub 0, ub 0, ub 0, ub 0, ub 0, ub 0, ub 0, ub 0, ub 0, ub 0, ub 0, ub 0]
abbrev xb24 : List Value := [ub 129, ub 8, ub 1, ub 0, ub 0, ub 0, ub 0, ub 0, ub 0, ub 0, ub 0, ub 0, ub 0, ub 0, ub 1, ub 0, ub 0, ub 0, ub 9, ub 0, ub 0, ub 0, ub 9, ub 0, ub 0, ub 0, ub 0, ub 0, ub 0, ub 0, ub 97, ub 7, ub 0, ub 0, ub 0, ub 0, ub 0, ub 0, ub 0, ub 0, ub 0, ub 0, ub 0, ub 0, ub 0, ub 0, ub 0, ub 0, ub 0, ub 0, ub 0, ub 0, ub 0, ub 0, ub 0, ub 0, ub 0, ub 0, ub 0, ub 0, ub 0, ub 0, ub 0, ub 0]
abbrev xb25 : List Value := [ub 129, ub 8, ub 1, ub 0, ub 0, ub 0, ub 0, ub 0, ub 0, ub 0, ub 0, ub 0, ub 0, ub 0, ub 1, ub 0, ub 0, ub 0, ub 9, ub 0, ub 0, ub 0, ub 9, ub 0, ub 0, ub 0, ub 0, ub 0, ub 0, ub 0, ub 97, ub 7, ub 0, ub 0, ub 0, ub 0, ub 0, ub 0, ub 0]
abbrev xb26 : List Value := [ub 1, ub 0, ub 0, ub 0, ub 0, ub 0, ub 0, ub 0, ub 0, ub 0, ub 0, ub 0, ub 1, ub 0, ub 0, ub 0, ub 9, ub 0, ub 0, ub 0, ub 9, ub 0, ub 0, ub 0, ub 0, ub 0, ub 0, ub 0, ub 97, ub 7, ub 0, ub 0, ub 0, ub 0, ub 0, ub 0, ub 0]
abbrev xb27 : List Value := [ub 0, ub 0, ub 0, ub 0, ub 0, ub 0, ub 0, ub 0, ub 1, ub 0, ub 0, ub 0, ub 9, ub 0, ub 0, ub 0, ub 9, ub 0, ub 0, ub 0, ub 0, ub 0, ub 0, ub 0, ub 97, ub 7, ub 0, ub 0, ub 0, ub 0, ub 0, ub 0, ub 0]
def GL : HP := []
theorem z0 {G : HP}  :
    CtrE Tryz.prog 75 [Value.int .u64 0, S [97]] G [] (T := Unit) (fun _ => True) (fun _ => Value.tuple #[S [97], Value.bool true]) (fun _ => []) := by
  refine fn_enter 60 Tryz.func75 rfl Tryz.ntmps75 rfl ?_
  intro w0
  refine c_seq <| c_region <| asg rfl rfl <| asg rfl rfl <| o_nil <| n_code <| c_seq <| c_seq <| c_region <| mv rfl rfl <| o_nil <| n_code <| c_block <| c_seq <| c_region <| oi (Value.bool true) rfl rfl rfl (by kernel_rfl) <| asg rfl rfl <| o_nil <| n_code <| c_then rfl <| c_seq <| c_region <| mv rfl rfl <| asg rfl rfl <| asg rfl rfl <| o_nil <| n_code <| c_ret <| WR.sel (.nil) <| r_fn (l := [.tmp 4, .tmp 5]) Tryz.results75 rfl rfl ?_
  exact tells (y := (())) trivial rfl rfl

theorem z1 {G : HP}  :
    CtrE Tryz.prog 39 [Value.int .u64 1, Value.int .u64 85, Value.int .u64 0, S [97]] G [] (T := Unit) (fun _ => True) (fun _ => Value.agg #[Value.int .u64 1, Value.int .u64 85, Value.int .u64 0, S [97]]) (fun _ => []) := by
  refine fn_enter 22 Tryz.func39 rfl Tryz.ntmps39 rfl ?_
  intro w0
  refine c_seq <| c_region ?_
  refine o_l rfl (l_alloc Tryz.zeroValue25 rfl rfl) ?_; intro g1 _
  refine o_nil <| n_code <| c_seq <| c_region <| mv rfl rfl <| mv rfl rfl ?_
  refine o_l rfl (l_calle Tryz.call75 (z0 ) rfl rfl (.nil)) ?_; intro r2 hr2
  refine o_cat (.nil) <| mv rfl rfl <| oe rfl (e_extract rfl rfl) <| oe rfl (e_extract rfl rfl) <| asg rfl rfl <| asg rfl rfl <| o_nil <| n_code <| c_seq <| c_region <| mv rfl rfl <| mv rfl rfl <| mv rfl rfl <| mv rfl rfl <| oe rfl (e_build (vs := [Value.int .u64 1, Value.int .u64 85, Value.int .u64 0, S [97]]) Tryz.runUnderlying25 Tryz.zeroValue25 (.cons Tryz.sizeOf23 (.cons Tryz.sizeOf23 (.cons Tryz.sizeOf23 (.cons Tryz.sizeOf9 (.nil))))) rfl (by kernel_rfl)) ?_
  refine o_l rfl (l_storea Tryz.sizeOf25 rfl rfl rfl (by simp [Value.oneCell']) (.head) (.take (.take (.take (.take (.done))))) nofrs0) ?_; intro _ _
  refine o_nil <| n_code <| c_ret <| r_fnx Tryz.results39 (.cella Tryz.isAgg25 Tryz.sizeOf25 rfl (.inl (.head _)) (.take (.take (.take (.take (.done))))) (.nil)) (.nil) rfl ?_
  exact tells (y := (())) trivial rfl rfl

theorem z2 {G : HP}  :
    CtrE Tryz.prog 148 [] G [] (T := Nat × Nat) (fun _ => True) (fun y => Value.iface 328 (Value.pointer (some ⟨y.1, 0, none⟩))) (fun y => [(y.1, C [Value.map (some y.2)] 327), (y.2, Mo .u32 [])]) := by
  refine fn_enter 4 Tryz.func148 rfl Tryz.ntmps148 rfl ?_
  intro w0
  refine c_seq <| c_region <| asg rfl rfl <| o_nil <| n_code <| c_seq <| c_region ?_
  refine o_l rfl (l_mkmap rfl .u32) ?_; intro g1 _
  refine o_l rfl (l_alloc Tryz.zeroValue327 rfl rfl) ?_; intro g2 _
  refine o_l rfl (l_store Tryz.sizeOf327 rfl rfl rfl (.head) (.head) nofr0) ?_; intro _ _
  refine o_nil <| n_code <| c_seq <| c_region <| oe rfl (e_mkif Tryz.runUnderlying328 rfl rfl) <| asg rfl rfl <| o_nil <| n_code <| c_ret <| WR.sel (.cons (.head) (.cons (.head) (.nil))) <| r_fn1 Tryz.results148 rfl ?_
  exact tells (y := (g2, g1)) trivial rfl rfl

theorem z3 {G : HP}  :
    CtrE Tryz.prog 76 [Value.int .u64 1024] G [] (T := Nat × Nat) (fun _ => True) (fun y => Value.tuple #[Value.iface 328 (Value.pointer (some ⟨y.1, 0, none⟩)), Value.nilIface]) (fun y => [(y.1, C [Value.map (some y.2)] 327), (y.2, Mo .u32 [])]) := by
  refine fn_enter 13 Tryz.func76 rfl Tryz.ntmps76 rfl ?_
  intro w0
  refine c_seq <| c_region <| asg rfl rfl <| asg rfl rfl <| o_nil <| n_code <| c_seq <| c_region <| mv rfl rfl <| o_nil <| n_code <| c_block <| c_seq <| c_region <| oi (Value.bool true) rfl rfl rfl (by kernel_rfl) <| asg rfl rfl <| o_nil <| n_code <| c_then rfl <| c_seq <| c_region ?_
  refine o_l rfl (l_calle Tryz.call148 (z2 ) rfl rfl (.nil)) ?_; intro r1 hr1
  refine o_cat (.cons (.cons (.nil))) <| asg rfl rfl <| asg rfl rfl <| o_nil <| n_code <| c_ret <| WR.sel (.cons (.head) (.cons (.head) (.nil))) <| r_fn (l := [.tmp 2, .tmp 3]) Tryz.results76 rfl rfl ?_
  exact tells (y := (r1.1, r1.2)) trivial rfl rfl

theorem z4 {G : HP}  :
    CtrE Tryz.prog 123 [Value.int .u64 0] G [] (T := Unit) (fun _ => True) (fun _ => Value.int .i64 0) (fun _ => []) := by
  refine fn_enter 25 Tryz.func123 rfl Tryz.ntmps123 rfl ?_
  intro w0
  refine c_seq <| c_region <| asg rfl rfl <| o_nil <| n_code <| c_seq <| c_seq <| c_region <| mv rfl rfl <| oi (Value.bool false) rfl rfl rfl (by kernel_rfl) <| o_nil <| n_code <| c_else rfl <| c_skip <| n_code <| c_seq <| c_seq <| c_region <| mv rfl rfl <| oi (Value.bool false) rfl rfl rfl (by kernel_rfl) <| o_nil <| n_code <| c_else rfl <| c_skip <| n_code <| c_seq <| c_seq <| c_region <| mv rfl rfl <| oi (Value.bool false) rfl rfl rfl (by kernel_rfl) <| o_nil <| n_code <| c_else rfl <| c_skip <| n_code ?_
  refine c_seq <| c_region <| mv rfl rfl <| mv rfl rfl <| oe rfl (e_convc (r := ub 0) Tryz.runUnderlying23 Tryz.runUnderlying5 rfl (by kernel_rfl)) <| oe rfl (e_as (r := ub 0) (e_sidx (b := 0) Tryz.runUnderlying9 rfl rfl (by decide) (by kernel_rfl)) (by kernel_rfl)) <| oe rfl (e_convc (r := Value.int .i64 0) Tryz.runUnderlying5 Tryz.runUnderlying3 rfl (by kernel_rfl)) <| oi (Value.int .i64 0) rfl rfl rfl (by kernel_rfl) <| asg rfl rfl <| o_nil <| n_code <| c_ret <| WR.sel (.nil) ?_
  refine r_fn1 Tryz.results123 rfl ?_
  exact tells (y := (())) trivial rfl rfl

theorem z5 {G : HP}  :
    CtrE Tryz.prog 185 [Value.int .u64 0] G [] (T := Unit) (fun _ => True) (fun _ => Value.int .i64 1) (fun _ => []) := by
  refine fn_enter 23 Tryz.func185 rfl Tryz.ntmps185 rfl ?_
  intro w0
  refine c_seq <| c_region <| asg rfl rfl <| o_nil <| n_code <| c_seq <| c_region <| mv rfl rfl ?_
  refine o_l rfl (l_calle Tryz.call123 (z4 ) rfl rfl (.nil)) ?_; intro r1 hr1
  refine o_cat (.nil) <| asg rfl rfl <| o_nil <| n_code <| c_seq <| c_region <| mv rfl rfl <| oi (Value.int .i64 0) rfl rfl rfl (by kernel_rfl) <| mv rfl rfl <| oi (Value.int .i64 0) rfl rfl rfl (by kernel_rfl) <| asg rfl rfl <| asg rfl rfl <| o_nil <| n_code <| c_seq <| c_region <| mv rfl rfl <| asg rfl rfl <| o_nil <| n_code <| c_seq <| c_seq <| c_region <| mv rfl rfl <| oi (Value.bool false) rfl rfl rfl (by kernel_rfl) <| mv rfl rfl <| o_e rfl rfl rfl (e_move rfl) ?_
  refine o_e rfl rfl rfl (e_int (r := Value.bool true) rfl rfl (by kernel_rfl)) <| oe rfl (e_pick_f rfl rfl) <| o_nil <| n_code <| c_then rfl <| c_region <| mv rfl rfl <| oi (Value.int .i64 1) rfl rfl rfl (by kernel_rfl) <| asg rfl rfl <| o_nil <| n_code <| c_seq <| c_region <| mv rfl rfl <| asg rfl rfl <| o_nil <| n_code <| c_ret <| WR.sel (.nil) <| r_fn1 Tryz.results185 rfl ?_
  exact tells (y := (())) trivial rfl rfl

theorem z6 {G : HP}  :
    CtrE Tryz.prog 123 [Value.int .u64 1] G [] (T := Unit) (fun _ => True) (fun _ => Value.int .i64 1) (fun _ => []) := by
  refine fn_enter 25 Tryz.func123 rfl Tryz.ntmps123 rfl ?_
  intro w0
  refine c_seq <| c_region <| asg rfl rfl <| o_nil <| n_code <| c_seq <| c_seq <| c_region <| mv rfl rfl <| oi (Value.bool false) rfl rfl rfl (by kernel_rfl) <| o_nil <| n_code <| c_else rfl <| c_skip <| n_code <| c_seq <| c_seq <| c_region <| mv rfl rfl <| oi (Value.bool false) rfl rfl rfl (by kernel_rfl) <| o_nil <| n_code <| c_else rfl <| c_skip <| n_code <| c_seq <| c_seq <| c_region <| mv rfl rfl <| oi (Value.bool false) rfl rfl rfl (by kernel_rfl) <| o_nil <| n_code <| c_else rfl <| c_skip <| n_code ?_
  refine c_seq <| c_region <| mv rfl rfl <| mv rfl rfl <| oe rfl (e_convc (r := ub 1) Tryz.runUnderlying23 Tryz.runUnderlying5 rfl (by kernel_rfl)) <| oe rfl (e_as (r := ub 1) (e_sidx (b := 1) Tryz.runUnderlying9 rfl rfl (by decide) (by kernel_rfl)) (by kernel_rfl)) <| oe rfl (e_convc (r := Value.int .i64 1) Tryz.runUnderlying5 Tryz.runUnderlying3 rfl (by kernel_rfl)) <| oi (Value.int .i64 1) rfl rfl rfl (by kernel_rfl) <| asg rfl rfl <| o_nil <| n_code <| c_ret <| WR.sel (.nil) ?_
  refine r_fn1 Tryz.results123 rfl ?_
  exact tells (y := (())) trivial rfl rfl

theorem z7 {G : HP}  :
    CtrE Tryz.prog 185 [Value.int .u64 1] G [] (T := Unit) (fun _ => True) (fun _ => Value.int .i64 1) (fun _ => []) := by
  refine fn_enter 23 Tryz.func185 rfl Tryz.ntmps185 rfl ?_
  intro w0
  refine c_seq <| c_region <| asg rfl rfl <| o_nil <| n_code <| c_seq <| c_region <| mv rfl rfl ?_
  refine o_l rfl (l_calle Tryz.call123 (z6 ) rfl rfl (.nil)) ?_; intro r1 hr1
  refine o_cat (.nil) <| asg rfl rfl <| o_nil <| n_code <| c_seq <| c_region <| mv rfl rfl <| oi (Value.int .i64 0) rfl rfl rfl (by kernel_rfl) <| mv rfl rfl <| oi (Value.int .i64 1) rfl rfl rfl (by kernel_rfl) <| asg rfl rfl <| asg rfl rfl <| o_nil <| n_code <| c_seq <| c_region <| mv rfl rfl <| asg rfl rfl <| o_nil <| n_code <| c_seq <| c_seq <| c_region <| mv rfl rfl <| oi (Value.bool true) rfl rfl rfl (by kernel_rfl) <| mv rfl rfl <| o_skip rfl rfl rfl <| o_skip rfl rfl rfl <| oe rfl (e_pick_t rfl rfl) ?_
  refine o_nil <| n_code <| c_then rfl <| c_region <| mv rfl rfl <| oi (Value.int .i64 1) rfl rfl rfl (by kernel_rfl) <| asg rfl rfl <| o_nil <| n_code <| c_seq <| c_region <| mv rfl rfl <| asg rfl rfl <| o_nil <| n_code <| c_ret <| WR.sel (.nil) <| r_fn1 Tryz.results185 rfl ?_
  exact tells (y := (())) trivial rfl rfl

theorem z8 {G : HP} (p0 : Nat) :
    CtrE Tryz.prog 150 [Value.slice (some ⟨p0, 0, none⟩) 3 3, Value.int .u64 0] G [(p0, C [ub 0, ub 0, ub 0] 5)] (T := Unit) (fun _ => True) (fun _ => Value.int .i64 1) (fun _ => [(p0, C [ub 0, ub 0, ub 0] 5)]) := by
  refine fn_enter 25 Tryz.func150 rfl Tryz.ntmps150 rfl ?_
  intro w0
  refine c_seq <| c_region <| asg rfl rfl <| o_nil <| n_code <| c_seq <| c_region <| asg rfl rfl <| o_nil <| n_code <| c_seq <| c_block <| c_rounds 999 <| c_seq <| c_seq <| c_region <| mv rfl rfl <| oi (Value.bool false) rfl rfl rfl (by kernel_rfl) <| o_nil <| n_code <| c_else rfl <| c_exit <| x_code <| x_upto <| x_here <| n_code <| c_seq <| c_region <| mv rfl rfl <| mv rfl rfl <| mv rfl rfl <| oe rfl (e_convc (r := ub 0) Tryz.runUnderlying23 Tryz.runUnderlying5 rfl (by kernel_rfl)) ?_
  refine oe rfl (e_as (r := Value.pointer (some ⟨p0, 0, none⟩)) (e_ia Tryz.runUnderlying72 Tryz.sizeOf5 rfl rfl (by decide) (by decide)) rfl) ?_
  refine o_l rfl (l_store Tryz.sizeOf5 rfl rfl rfl (.head) (.head) nofr0) ?_; intro _ _
  refine o_nil <| n_code <| c_seq <| c_region <| mv rfl rfl <| oi (Value.int .i64 1) rfl rfl rfl (by kernel_rfl) <| asg rfl rfl <| o_nil <| n_code <| c_ret <| WR.sel (.cons (.head) (.nil)) <| r_fn1 Tryz.results150 rfl ?_
  exact tells (y := (())) trivial rfl rfl

theorem z9 {G : HP} (p0 : Nat) :
    CtrE Tryz.prog 77 [Value.slice (some ⟨p0, 0, none⟩) 3 3, Value.int .u64 0] G [(p0, C [ub 0, ub 0, ub 0] 5)] (T := Unit) (fun _ => True) (fun _ => Value.int .i64 1) (fun _ => [(p0, C [ub 0, ub 0, ub 0] 5)]) := by
  refine fn_enter 8 Tryz.func77 rfl Tryz.ntmps77 rfl ?_
  intro w0
  refine c_seq <| c_region <| asg rfl rfl <| o_nil <| n_code <| c_seq <| c_region <| mv rfl rfl <| mv rfl rfl ?_
  refine o_l rfl (l_calle Tryz.call150 (z8 (p0)) rfl rfl (.cons (.head) (.nil))) ?_; intro r1 hr1
  refine o_cat (.cons (.nil)) <| asg rfl rfl <| o_nil <| n_code <| c_ret <| WR.sel (.cons (.head) (.nil)) <| r_fn1 Tryz.results77 rfl ?_
  exact tells (y := (())) trivial rfl rfl

theorem z10 {G : HP} (p0 : Nat) :
    CtrE Tryz.prog 150 [Value.slice (some ⟨p0, 1, none⟩) 2 2, Value.int .u64 1] G [(p0, C [ub 0, ub 0, ub 0] 5)] (T := Unit) (fun _ => True) (fun _ => Value.int .i64 1) (fun _ => [(p0, C [ub 0, ub 1, ub 0] 5)]) := by
  refine fn_enter 25 Tryz.func150 rfl Tryz.ntmps150 rfl ?_
  intro w0
  refine c_seq <| c_region <| asg rfl rfl <| o_nil <| n_code <| c_seq <| c_region <| asg rfl rfl <| o_nil <| n_code <| c_seq <| c_block <| c_rounds 999 <| c_seq <| c_seq <| c_region <| mv rfl rfl <| oi (Value.bool false) rfl rfl rfl (by kernel_rfl) <| o_nil <| n_code <| c_else rfl <| c_exit <| x_code <| x_upto <| x_here <| n_code <| c_seq <| c_region <| mv rfl rfl <| mv rfl rfl <| mv rfl rfl <| oe rfl (e_convc (r := ub 1) Tryz.runUnderlying23 Tryz.runUnderlying5 rfl (by kernel_rfl)) ?_
  refine oe rfl (e_as (r := Value.pointer (some ⟨p0, 1, none⟩)) (e_ia Tryz.runUnderlying72 Tryz.sizeOf5 rfl rfl (by decide) (by decide)) rfl) ?_
  refine o_l rfl (l_store Tryz.sizeOf5 rfl rfl rfl (.head) (.tail (.head)) nofr0) ?_; intro _ _
  refine o_nil <| n_code <| c_seq <| c_region <| mv rfl rfl <| oi (Value.int .i64 1) rfl rfl rfl (by kernel_rfl) <| asg rfl rfl <| o_nil <| n_code <| c_ret <| WR.sel (.cons (.head) (.nil)) <| r_fn1 Tryz.results150 rfl ?_
  exact tells (y := (())) trivial rfl rfl

theorem z11 {G : HP} (p0 : Nat) :
    CtrE Tryz.prog 77 [Value.slice (some ⟨p0, 1, none⟩) 2 2, Value.int .u64 1] G [(p0, C [ub 0, ub 0, ub 0] 5)] (T := Unit) (fun _ => True) (fun _ => Value.int .i64 1) (fun _ => [(p0, C [ub 0, ub 1, ub 0] 5)]) := by
  refine fn_enter 8 Tryz.func77 rfl Tryz.ntmps77 rfl ?_
  intro w0
  refine c_seq <| c_region <| asg rfl rfl <| o_nil <| n_code <| c_seq <| c_region <| mv rfl rfl <| mv rfl rfl ?_
  refine o_l rfl (l_calle Tryz.call150 (z10 (p0)) rfl rfl (.cons (.head) (.nil))) ?_; intro r1 hr1
  refine o_cat (.cons (.nil)) <| asg rfl rfl <| o_nil <| n_code <| c_ret <| WR.sel (.cons (.head) (.nil)) <| r_fn1 Tryz.results77 rfl ?_
  exact tells (y := (())) trivial rfl rfl

theorem z12 {G : HP} (q0 : Tl) (h0 : TlOk 1 1 q0) :
    CtrE Tryz.prog 133 [Value.slice (some ⟨q0.g, 0, none⟩) 1 q0.cap, Value.int .u64 0] G [(q0.g, Ob [ub 97] q0 5)] (T := Nat) (fun _ => True) (fun y => Value.tuple #[Value.slice (some ⟨y, 0, none⟩) 3 3, Value.nilIface]) (fun y => [(q0.g, Ob [ub 97] q0 5), (y, C [ub 0, ub 1, ub 97] 5)]) := by
  refine fn_enter 37 Tryz.func133 rfl Tryz.ntmps133 rfl ?_
  intro w0
  refine c_seq <| c_region <| asg rfl rfl <| asg rfl rfl <| o_nil <| n_code <| c_seq <| c_region <| mv rfl rfl ?_
  refine o_l rfl (l_calle Tryz.call185 (z5 ) rfl rfl (.nil)) ?_; intro r1 hr1
  refine o_cat (.nil) <| mv rfl rfl <| oe rfl (e_as (r := Value.int .i64 1) (e_lenl Tryz.runUnderlying72 rfl) rfl) <| oe rfl (e_convc (r := Value.int .u64 1) Tryz.runUnderlying3 Tryz.runUnderlying23 rfl (by kernel_rfl)) ?_
  refine o_l rfl (l_calle Tryz.call185 (z7 ) rfl rfl (.nil)) ?_; intro r2 hr2
  refine o_cat (.nil) <| oi (Value.int .i64 2) rfl rfl rfl (by kernel_rfl) <| mv rfl rfl <| oe rfl (e_as (r := Value.int .i64 1) (e_lenl Tryz.runUnderlying72 rfl) rfl) <| oi (Value.int .i64 3) rfl rfl rfl (by kernel_rfl) ?_
  refine o_l rfl (l_mksc (l := [ub 0, ub 0, ub 0]) (n := 3) (m := 3) Tryz.underlying72 (info_of Tryz.typeInfo5) rfl rfl rfl rfl rfl rfl rfl (by decide) (by kernel_rfl)) ?_; intro g3 _
  refine asg rfl rfl <| o_nil <| n_code <| c_seq <| c_region <| mv rfl rfl <| mv rfl rfl ?_
  refine o_l rfl (l_calle Tryz.call77 (z9 (g3)) rfl rfl (.cons (.head) (.nil))) ?_; intro r4 hr4
  refine o_cat (.cons (.nil)) <| asg rfl rfl <| o_nil <| n_code <| c_seq <| c_region <| mv rfl rfl <| mv rfl rfl <| mv rfl rfl <| oe rfl (e_as (r := Value.slice (some ⟨g3, 1, none⟩) 2 2) (e_sl_l Tryz.runUnderlying72 Tryz.sizeOf5 rfl rfl (by decide) (by decide) (by decide)) (by first | rfl | (simp; try omega))) <| mv rfl rfl <| oe rfl (e_as (r := Value.int .i64 1) (e_lenl Tryz.runUnderlying72 rfl) rfl) <| oe rfl (e_convc (r := Value.int .u64 1) Tryz.runUnderlying3 Tryz.runUnderlying23 rfl (by kernel_rfl)) ?_
  refine o_l rfl (l_calle Tryz.call77 (z11 (g3)) rfl rfl (.cons (.head) (.nil))) ?_; intro r5 hr5
  refine o_cat (.cons (.nil)) <| oi (Value.int .i64 2) rfl rfl rfl (by kernel_rfl) <| asg rfl rfl <| o_nil <| n_code <| c_seq <| c_region <| mv rfl rfl <| mv rfl rfl <| oe rfl (e_as (r := Value.slice (some ⟨g3, 2, none⟩) 1 1) (e_sl_l Tryz.runUnderlying72 Tryz.sizeOf5 rfl rfl (by decide) (by decide) (by decide)) (by first | rfl | (simp; try omega))) <| mv rfl rfl ?_
  refine o_l rfl (l_copy (vs := [ub 97]) (k' := 1) Tryz.runUnderlying72 Tryz.sizeOf5 rfl rfl rfl (Sv.blk (vs := [ub 97]) Tryz.underlying72 (.inl (.tail _ (.head _))) (.take (.done)) (by simp [Value.oneCell'])) rfl (.head) (.skip (.skip (.take (.done)))) (.inr rfl)) ?_; intro _ _
  refine o_nil <| n_code <| c_seq <| c_region <| mv rfl rfl <| asg rfl rfl <| asg rfl rfl <| o_nil <| n_code <| c_ret <| WR.sel (.cons (.tail (.head)) (.cons (.head) (.nil))) <| r_fn (l := [.tmp 4, .tmp 5]) Tryz.results133 rfl rfl ?_
  exact tells (y := (g3)) trivial rfl rfl

theorem z13 {G : HP}  :
    CtrE Tryz.prog 123 [Value.int .u64 85] G [] (T := Unit) (fun _ => True) (fun _ => Value.int .i64 7) (fun _ => []) := by
  refine fn_enter 25 Tryz.func123 rfl Tryz.ntmps123 rfl ?_
  intro w0
  refine c_seq <| c_region <| asg rfl rfl <| o_nil <| n_code <| c_seq <| c_seq <| c_region <| mv rfl rfl <| oi (Value.bool false) rfl rfl rfl (by kernel_rfl) <| o_nil <| n_code <| c_else rfl <| c_skip <| n_code <| c_seq <| c_seq <| c_region <| mv rfl rfl <| oi (Value.bool false) rfl rfl rfl (by kernel_rfl) <| o_nil <| n_code <| c_else rfl <| c_skip <| n_code <| c_seq <| c_seq <| c_region <| mv rfl rfl <| oi (Value.bool false) rfl rfl rfl (by kernel_rfl) <| o_nil <| n_code <| c_else rfl <| c_skip <| n_code ?_
  refine c_seq <| c_region <| mv rfl rfl <| mv rfl rfl <| oe rfl (e_convc (r := ub 85) Tryz.runUnderlying23 Tryz.runUnderlying5 rfl (by kernel_rfl)) <| oe rfl (e_as (r := ub 7) (e_sidx (b := 7) Tryz.runUnderlying9 rfl rfl (by decide) (by kernel_rfl)) (by kernel_rfl)) <| oe rfl (e_convc (r := Value.int .i64 7) Tryz.runUnderlying5 Tryz.runUnderlying3 rfl (by kernel_rfl)) <| oi (Value.int .i64 7) rfl rfl rfl (by kernel_rfl) <| asg rfl rfl <| o_nil <| n_code <| c_ret <| WR.sel (.nil) ?_
  refine r_fn1 Tryz.results123 rfl ?_
  exact tells (y := (())) trivial rfl rfl

theorem z14 {G : HP}  :
    CtrE Tryz.prog 185 [Value.int .u64 85] G [] (T := Unit) (fun _ => True) (fun _ => Value.int .i64 1) (fun _ => []) := by
  refine fn_enter 23 Tryz.func185 rfl Tryz.ntmps185 rfl ?_
  intro w0
  refine c_seq <| c_region <| asg rfl rfl <| o_nil <| n_code <| c_seq <| c_region <| mv rfl rfl ?_
  refine o_l rfl (l_calle Tryz.call123 (z13 ) rfl rfl (.nil)) ?_; intro r1 hr1
  refine o_cat (.nil) <| asg rfl rfl <| o_nil <| n_code <| c_seq <| c_region <| mv rfl rfl <| oi (Value.int .i64 1) rfl rfl rfl (by kernel_rfl) <| mv rfl rfl <| oi (Value.int .i64 0) rfl rfl rfl (by kernel_rfl) <| asg rfl rfl <| asg rfl rfl <| o_nil <| n_code <| c_seq <| c_region <| mv rfl rfl <| asg rfl rfl <| o_nil <| n_code <| c_seq <| c_seq <| c_region <| mv rfl rfl <| oi (Value.bool false) rfl rfl rfl (by kernel_rfl) <| mv rfl rfl <| o_e rfl rfl rfl (e_move rfl) ?_
  refine o_e rfl rfl rfl (e_int (r := Value.bool false) rfl rfl (by kernel_rfl)) <| oe rfl (e_pick_f rfl rfl) <| o_nil <| n_code <| c_else rfl <| c_skip <| n_code <| c_seq <| c_region <| mv rfl rfl <| asg rfl rfl <| o_nil <| n_code <| c_ret <| WR.sel (.nil) <| r_fn1 Tryz.results185 rfl ?_
  exact tells (y := (())) trivial rfl rfl

theorem z15 {G : HP} (p0 : Nat) :
    CtrE Tryz.prog 216 [Value.pointer (some ⟨p0, 0, none⟩)] G [(p0, C [Value.pointer none, Value.slice none 0 0] 307)] (T := Unit) (fun _ => True) (fun _ => Value.tuple #[]) (fun _ => [(p0, C [Value.pointer (some ⟨p0, 0, none⟩), Value.slice none 0 0] 307)]) := by
  refine fn_enter 20 Tryz.func216 rfl Tryz.ntmps216 rfl ?_
  intro w0
  refine c_seq <| c_region <| mv rfl rfl <| oe rfl (e_nilCheck rfl) <| oe rfl (e_as (r := Value.pointer (some ⟨p0, 0, none⟩)) (e_fa Tryz.runUnderlying307 rfl Tryz.sizeOf305 rfl rfl) rfl) <| oe rfl (e_load Tryz.isAgg305 rfl (.inl (.head _)) rfl) <| oe rfl (e_as (r := Value.bool true) (e_peqn Tryz.runUnderlying305 rfl) rfl) <| o_nil <| n_code <| c_then rfl <| c_region <| mv rfl rfl <| mv rfl rfl <| oe rfl (e_tou Tryz.underlying305 Tryz.underlying123 (info_of Tryz.typeInfo307) rfl rfl (.inl (.head _)) rfl) ?_
  refine oe rfl (e_ext rfl (fun w => ext225 _ w)) <| oe rfl (e_fromu Tryz.underlying123 Tryz.underlying305 (info_of Tryz.typeInfo307) rfl (.inl (.head _)) (by kernel_rfl)) <| oe rfl (e_nilCheck rfl) <| oe rfl (e_as (r := Value.pointer (some ⟨p0, 0, none⟩)) (e_fa Tryz.runUnderlying307 rfl Tryz.sizeOf305 rfl rfl) rfl) ?_
  refine o_l rfl (l_store Tryz.sizeOf305 rfl rfl rfl (.head) (.head) nofr0) ?_; intro _ _
  refine o_nil <| WN.sel (.cons (.head) (.nil)) <| n_fn0 Tryz.results216 ?_
  exact tells (y := (())) trivial rfl rfl

theorem z16 {G : HP} (p0 : Nat) :
    CtrE Tryz.prog 217 [Value.pointer (some ⟨p0, 0, none⟩), Value.int .i64 5] G [(p0, C [Value.pointer (some ⟨p0, 0, none⟩), Value.slice none 0 0] 307)] (T := Tl) (fun y => TlOk 1 0 y) (fun y => Value.tuple #[]) (fun y => [(p0, C [Value.pointer (some ⟨p0, 0, none⟩), Value.slice (some ⟨y.g, 0, none⟩) 0 y.cap] 307), (y.g, Ob [] y 5)]) := by
  refine fn_enter 30 Tryz.func217 rfl Tryz.ntmps217 rfl ?_
  intro w0
  refine c_seq <| c_regiond [(p0, C [Value.pointer (some ⟨p0, 0, none⟩), Value.slice none 0 0] 307)] (by kernel_rfl) (.cons_cons _ (.slnil)) <| d_e 0 (fun _ _ _ _ _ h => h) rfl (by kernel_rfl) (by kernel_rfl) (by kernel_rfl) rfl rfl rfl (e_move rfl) <| d_e 1 (fun _ _ _ _ _ h => h) rfl (by kernel_rfl) (by kernel_rfl) (by kernel_rfl) rfl rfl rfl (e_nilCheck rfl) ?_
  refine d_e 2 (fun _ _ _ _ _ h => h) rfl (by kernel_rfl) (by kernel_rfl) (by kernel_rfl) rfl rfl rfl (e_as (r := Value.pointer (some ⟨p0, 1, none⟩)) (e_fa Tryz.runUnderlying307 rfl Tryz.sizeOf72 rfl rfl) rfl) <| d_e 3 (fun _ _ _ _ _ h => h) rfl (by kernel_rfl) (by kernel_rfl) (by kernel_rfl) rfl rfl rfl (e_load Tryz.isAgg72 rfl (.inl (.head _)) rfl) ?_
  refine d_e 4 (fun _ _ _ _ _ h => h) rfl (by kernel_rfl) (by kernel_rfl) (by kernel_rfl) rfl rfl rfl (e_as (r := Value.int .i64 0) (e_cap Tryz.runUnderlying72 rfl) rfl) <| d_e 5 (fun _ _ _ _ _ h => h) rfl (by kernel_rfl) (by kernel_rfl) (by kernel_rfl) rfl rfl rfl (e_int (r := Value.int .i64 0) rfl rfl (by kernel_rfl)) <| d_e 6 (fun _ _ _ _ _ h => h) rfl (by kernel_rfl) (by kernel_rfl) (by kernel_rfl) rfl rfl rfl (e_move rfl) ?_
  refine d_e 7 (fun _ _ _ _ _ h => h) rfl (by kernel_rfl) (by kernel_rfl) (by kernel_rfl) rfl rfl rfl (e_int (r := Value.int .i64 5) rfl rfl (by kernel_rfl)) <| d_e 9 (fun _ _ _ _ _ h => h) rfl (by kernel_rfl) (by kernel_rfl) (by kernel_rfl) rfl rfl rfl (e_move rfl) <| d_e 10 (fun _ _ _ _ _ h => h) rfl (by kernel_rfl) (by kernel_rfl) (by kernel_rfl) rfl rfl rfl (e_nilCheck rfl) ?_
  refine d_e 11 (fun _ _ _ _ _ h => h) rfl (by kernel_rfl) (by kernel_rfl) (by kernel_rfl) rfl rfl rfl (e_as (r := Value.pointer (some ⟨p0, 1, none⟩)) (e_fa Tryz.runUnderlying307 rfl Tryz.sizeOf72 rfl rfl) rfl) <| d_e 12 (fun _ _ _ _ _ h => h) rfl (by kernel_rfl) (by kernel_rfl) (by kernel_rfl) rfl rfl rfl (e_load Tryz.isAgg72 rfl (.inl (.head _)) rfl) ?_
  refine d_e 13 (fun _ _ _ _ _ h => h) rfl (by kernel_rfl) (by kernel_rfl) (by kernel_rfl) rfl rfl rfl (e_as (r := Value.int .i64 0) (e_lenl Tryz.runUnderlying72 rfl) rfl) <| d_l 8 (by kernel_rfl) rfl rfl (l_mnz (ps := #[3]) (rt := 72) Tryz.func226 (by kernel_rfl) (by kernel_rfl) (by kernel_rfl) (by kernel_rfl) Tryz.underlying72 rfl rfl rfl) (fun _ _ => hs_cons (.tail _ (.head _)) (hs_nil)) ?_
  intro y1 hy1
  refine d_e 14 (fun _ _ _ _ _ h => h) rfl (by kernel_rfl) (by kernel_rfl) (by kernel_rfl) rfl rfl rfl (e_as (r := Value.slice (some ⟨y1.g, 0, none⟩) 0 y1.cap) (e_sl_h Tryz.runUnderlying72 Tryz.sizeOf5 rfl rfl (by decide) (by have := hy1.1.le; omega)) rfl) <| d_e 15 (fun _ _ _ _ _ h => h) rfl (by kernel_rfl) (by kernel_rfl) (by kernel_rfl) rfl rfl rfl (e_assign rfl) <| d_nil (by kernel_rfl) <| n_code <| c_seq <| c_region <| mv rfl rfl <| mv rfl rfl <| oe rfl (e_nilCheck rfl) ?_
  refine oe rfl (e_as (r := Value.pointer (some ⟨p0, 1, none⟩)) (e_fa Tryz.runUnderlying307 rfl Tryz.sizeOf72 rfl rfl) rfl) <| oe rfl (e_load Tryz.isAgg72 rfl (.inl (.tail _ (.head _))) rfl) <| oe rfl (e_copyn Tryz.runUnderlying72 Tryz.sizeOf5 rfl rfl (Sv.nil Tryz.underlying72) rfl) <| o_nil <| n_code <| c_region <| mv rfl rfl <| mv rfl rfl <| oe rfl (e_nilCheck rfl) <| oe rfl (e_as (r := Value.pointer (some ⟨p0, 1, none⟩)) (e_fa Tryz.runUnderlying307 rfl Tryz.sizeOf72 rfl rfl) rfl) ?_
  refine o_l rfl (l_store Tryz.sizeOf72 rfl rfl rfl (.tail (.head)) (.tail (.head)) nofr0) ?_; intro _ _
  refine o_nil <| WN.sel (.cons (.tail (.head)) (.cons (.head) (.nil))) <| n_fn0 Tryz.results217 ?_
  exact tells (y := (y1)) hy1.1 rfl rfl

theorem z17 {G : HP} (p0 : Nat) :
    CtrE Tryz.prog 187 [Value.pointer (some ⟨p0, 0, none⟩), Value.int .i64 5] G [(p0, C [Value.pointer none, Value.slice none 0 0] 307)] (T := Tl) (fun y => TlOk 1 0 y) (fun y => Value.tuple #[]) (fun y => [(p0, C [Value.pointer (some ⟨p0, 0, none⟩), Value.slice (some ⟨y.g, 0, none⟩) 0 y.cap] 307), (y.g, Ob [] y 5)]) := by
  refine fn_enter 25 Tryz.func187 rfl Tryz.ntmps187 rfl ?_
  intro w0
  refine c_seq <| c_region <| mv rfl rfl ?_
  refine o_l rfl (l_calle Tryz.call216 (z15 (p0)) rfl rfl (.cons (.head) (.nil))) ?_; intro r1 hr1
  refine o_cat (.cons (.nil)) <| o_nil <| n_code <| c_seq <| c_seq <| c_region <| mv rfl rfl <| oi (Value.bool false) rfl rfl rfl (by kernel_rfl) <| o_nil <| n_code <| c_else rfl <| c_skip <| n_code <| c_seq <| c_regionq (by kernel_rfl) (by kernel_rfl) <| q_e rfl rfl rfl (e_move rfl) <| q_e rfl rfl rfl (e_nilCheck rfl) <| q_e rfl rfl rfl (e_as (r := Value.pointer (some ⟨p0, 1, none⟩)) (e_fa Tryz.runUnderlying307 rfl Tryz.sizeOf72 rfl rfl) rfl) <| q_e rfl rfl rfl (e_load Tryz.isAgg72 rfl (.inl (.head _)) rfl) ?_
  refine q_e rfl rfl rfl (e_as (r := Value.int .i64 0) (e_cap Tryz.runUnderlying72 rfl) rfl) <| q_e rfl rfl rfl (e_move rfl) <| q_e rfl rfl rfl (e_nilCheck rfl) <| q_e rfl rfl rfl (e_as (r := Value.pointer (some ⟨p0, 1, none⟩)) (e_fa Tryz.runUnderlying307 rfl Tryz.sizeOf72 rfl rfl) rfl) <| q_e rfl rfl rfl (e_load Tryz.isAgg72 rfl (.inl (.head _)) rfl) <| q_e rfl rfl rfl (e_as (r := Value.int .i64 0) (e_lenl Tryz.runUnderlying72 rfl) rfl) ?_
  refine q_e rfl rfl rfl (e_int (r := Value.int .i64 0) rfl rfl (by kernel_rfl)) <| q_e rfl rfl rfl (e_move rfl) <| q_e rfl rfl rfl (e_int (r := Value.bool true) rfl rfl (by kernel_rfl)) <| q_nil <| n_code <| c_then rfl <| c_region <| mv rfl rfl <| mv rfl rfl ?_
  refine o_l rfl (l_calle Tryz.call217 (z16 (p0)) rfl rfl (.cons (.head) (.nil))) ?_; intro r2 hr2
  refine o_cat (.cons (.cons (.nil))) <| o_nil <| WN.sel (.cons (.head) (.cons (.head) (.nil))) <| n_fn0 Tryz.results187 ?_
  exact tells (y := (r2)) hr2 rfl rfl

theorem z18 {G : HP} (p0 : Nat) (q1 : Tl) (h1 : TlOk 1 0 q1) :
    CtrE Tryz.prog 216 [Value.pointer (some ⟨p0, 0, none⟩)] G [(p0, C [Value.pointer (some ⟨p0, 0, none⟩), Value.slice (some ⟨q1.g, 0, none⟩) 0 q1.cap] 307), (q1.g, Ob [] q1 5)] (T := Unit) (fun _ => True) (fun _ => Value.tuple #[]) (fun _ => [(p0, C [Value.pointer (some ⟨p0, 0, none⟩), Value.slice (some ⟨q1.g, 0, none⟩) 0 q1.cap] 307), (q1.g, Ob [] q1 5)]) := by
  refine fn_enter 20 Tryz.func216 rfl Tryz.ntmps216 rfl ?_
  intro w0
  refine c_seq <| c_region <| mv rfl rfl <| oe rfl (e_nilCheck rfl) <| oe rfl (e_as (r := Value.pointer (some ⟨p0, 0, none⟩)) (e_fa Tryz.runUnderlying307 rfl Tryz.sizeOf305 rfl rfl) rfl) <| oe rfl (e_load Tryz.isAgg305 rfl (.inl (.head _)) rfl) <| oe rfl (e_as (r := Value.bool false) (e_peqn Tryz.runUnderlying305 rfl) rfl) <| o_nil <| n_code <| c_else rfl <| c_seq <| c_region <| mv rfl rfl <| oe rfl (e_nilCheck rfl) ?_
  refine oe rfl (e_as (r := Value.pointer (some ⟨p0, 0, none⟩)) (e_fa Tryz.runUnderlying307 rfl Tryz.sizeOf305 rfl rfl) rfl) <| oe rfl (e_load Tryz.isAgg305 rfl (.inl (.head _)) rfl) <| mv rfl rfl <| oe rfl (e_pne_same Tryz.runUnderlying305 Tryz.sizeOf307 (by decide) rfl rfl) <| o_nil <| n_code <| c_else rfl <| c_skip <| WN.sel (.cons (.head) (.cons (.head) (.nil))) <| n_fn0 Tryz.results216 ?_
  exact tells (y := (())) trivial rfl rfl

theorem z19 {G : HP} (p0 : Nat) (q1 : Tl) (h1 : TlOk 1 0 q1) :
    CtrE Tryz.prog 188 [Value.pointer (some ⟨p0, 0, none⟩), ub 1] G [(p0, C [Value.pointer (some ⟨p0, 0, none⟩), Value.slice (some ⟨q1.g, 0, none⟩) 0 q1.cap] 307), (q1.g, Ob [] q1 5)] (T := Tl) (fun y => TlOk 1 1 y) (fun y => Value.nilIface) (fun y => [(p0, C [Value.pointer (some ⟨p0, 0, none⟩), Value.slice (some ⟨y.g, 0, none⟩) 1 y.cap] 307), (y.g, Ob [ub 1] y 5)]) := by
  refine fn_enter 17 Tryz.func188 rfl Tryz.ntmps188 rfl ?_
  intro w0
  refine c_seq <| c_region <| asg rfl rfl <| o_nil <| n_code <| c_seq <| c_region <| mv rfl rfl ?_
  refine o_l rfl (l_calle Tryz.call216 (z18 (p0) q1 h1) rfl rfl (.cons (.head) (.cons (.head) (.nil)))) ?_; intro r1 hr1
  refine o_cat (.cons (.cons (.nil))) <| o_nil <| n_code <| c_seq <| c_region <| mv rfl rfl <| mv rfl rfl <| oe rfl (e_nilCheck rfl) <| oe rfl (e_as (r := Value.pointer (some ⟨p0, 1, none⟩)) (e_fa Tryz.runUnderlying307 rfl Tryz.sizeOf72 rfl rfl) rfl) <| oe rfl (e_load Tryz.isAgg72 rfl (.inl (.head _)) rfl) <| mv rfl rfl ?_
  refine o_l rfl (l_bs1 Tryz.runUnderlying72 Tryz.sizeOf5 Tryz.zeroValue5 rfl rfl rfl) ?_; intro g2 _
  refine o_l rfl (l_app (off := 1) (L := [ub 1]) Tryz.underlying72 (info_of Tryz.typeInfo5) rfl rfl rfl rfl rfl rfl (.tail (.tail (.head))) (h1.len rfl) (by have := h1.le; omega) h1.lt h1.mark (.done) (Sv.blk (vs := [ub 1]) Tryz.underlying72 (.inl (.head _)) (.take (.done)) (by simp [Value.oneCell'])) (.nil) rfl rfl rfl rfl) ?_; intro y3 hy3
  refine oe rfl (e_nilCheck rfl) <| oe rfl (e_as (r := Value.pointer (some ⟨p0, 1, none⟩)) (e_fa Tryz.runUnderlying307 rfl Tryz.sizeOf72 rfl rfl) rfl) ?_
  refine o_l rfl (l_store Tryz.sizeOf72 rfl rfl rfl (.tail (.tail (.head))) (.tail (.head)) nofr0) ?_; intro _ _
  refine o_nil <| n_code <| c_seq <| c_region <| asg rfl rfl <| o_nil <| n_code <| c_ret <| WR.sel (.cons (.tail (.tail (.head))) (.cons (.head) (.nil))) <| r_fn1 Tryz.results188 rfl ?_
  exact tells (y := (y3)) hy3 rfl rfl
end Go.Proofs
