/- Runs at known values, part 7. (A part of the proof of this: for every input laws.FnIxStop returns true and its arguments read as they did, the listed package variables being what the program lays.) -/
import Derived.Test.YtochgglejmfelaaGreatDoorG02
import Derived.KernelRfl
import Derived.Test.YtochgglejmfelaaGreatDoorG19
namespace Go.Proofs
open Go Go.Sl Tryz
set_option maxRecDepth 100000
set_option maxHeartbeats 4000000
theorem z140 {G : HP} (p0 : Nat) (p1 : Nat) (p2 : Nat) (p3 : Nat) (p4 : Nat) :
    CtrE Tryz.prog 319 [pv p0] G [(p0, C [.map (some p1)] 330), (p1, Mo .u64 [(0, pv p2)]), (p2, C [.map (some p3), vq 0] 437), (p3, Mo .u32 [(9, .agg #[vd 9, vq 1, .slice (ad p4 0) 9 9])]), (p4, C xb3 5)] (T := Tl) (fun y => TlOk 1 1 y) (fun y => .slice (ad y.g 0) 1 y.cap) (fun y => [(p0, C [.map (some p1)] 330), (p1, Mo .u64 [(0, pv p2)]), (p2, C [.map (some p3), vq 0] 437), (p3, Mo .u32 [(9, .agg #[vd 9, vq 1, .slice (ad p4 0) 9 9])]), (p4, C xb3 5), (y.g, Ob [vq 0] y 23)]) := by
  refine fn_enter 25 func319 rfl ntmps319 rfl ?_
  intro w0
  refine cR <| oA rfl <| oN <| cR <| oM rfl <| oC rfl <| oX (e_load isAgg330 rfl (.inl M0) rfl) <| oX (eA (vi 1) (e_lenm runUnderlying330 rfl (.inl M1))) ?_
  refine o_l rfl (l_mksc (l := [vq 0]) (n := 0) (m := 1) underlying29 (info_of typeInfo23) rfl rfl rfl rfl rfl rfl rfl (by decide) (by kernel_rfl)) ?_; intro g1 _
  refine oA rfl <| oN <| c_seq <| cR <| oM rfl <| oC rfl <| oX (e_load isAgg330 rfl (.inl M1) rfl) ?_
  refine o_l rfl (l_range runUnderlying330 rfl rfl (.inl M2)) ?_; intro g2 _
  refine oN <| c_block <| c_rounds 999 <| cR ?_
  refine o_l rfl (l_next1 0 rfl rfl (.inl M3) .head rfl rfl rfl) ?_; intro _ _
  refine oX (e_extract rfl rfl) <| oN <| c_seq <| c_then rfl <| c_skip <| n_code <| c_block <| cR <| oX (e_entry (j := 0) (seen := []) rfl (.inl M0) (.inl M3) rfl) <| oX (e_extract rfl rfl) <| oA rfl <| oN <| c_region <| oM rfl <| oM rfl ?_
  refine o_l rfl (l_bs1 runUnderlying29 sizeOf23 zeroValue23 rfl rfl rfl) ?_; intro g3 _
  refine o_l rfl (l_app (off := 1) (L := [vq 0]) underlying29 (info_of typeInfo23) rfl rfl rfl rfl rfl rfl (.tail (.tail .head)) rfl (by decide) (by decide) (.inr rfl) .done (Sv.blk (vs := [vq 0]) underlying29 (.inl M0) (.take .done) (by simp [Value.oneCell'])) .nil rfl rfl rfl rfl) ?_; intro y4 hy4
  refine oA rfl <| o_nil <| n_block <| n_rounds <| cR ?_
  refine o_l rfl (l_next0 rfl rfl (.inl M4) M2 rfl) ?_; intro _ _
  refine oX (e_extract rfl rfl) <| oN <| c_seq <| c_else rfl <| c_exit <| x_code <| x_upto <| x_here <| n_code <| cR <| oM rfl ?_
  refine o_l rfl (l_calle call327 (z139 y4 hy4) rfl rfl (.cons .head .nil)) ?_; intro r5 hr5
  refine o_cat (.cons .nil) <| oN <| cR <| oM rfl <| oA rfl <| oN <| c_ret <| WR.sel (.cons (.tail (.tail (.tail .head))) (.cons (.tail (.tail (.tail .head))) (.cons (.tail (.tail (.tail .head))) (.cons (.tail (.tail (.tail .head))) (.cons (.tail (.tail (.tail .head))) (.cons .head .nil)))))) <| r_fn1 results319 rfl ?_
  exact tells (y := (y4)) hy4 rfl rfl

theorem z141 {G : HP} (p0 : Nat) :
    CtrE Tryz.prog 179 [.agg #[], .slice (ad p0 0) 8 8, vq 0] G [(p0, C xb10 5)] (T := Unit) (fun _ => True) (fun _ => .tuple #[]) (fun _ => [(p0, C xb10 5)]) := by
  refine fn_enter 48 func179 rfl ntmps179 rfl ?_
  intro w0
  refine cR ?_
  refine o_l rfl (l_box rfl rfl rfl) ?_; intro g1 _
  refine oN <| cR <| oM rfl <| oX (eA (.pointer (ad p0 7)) (e_ia runUnderlying72 sizeOf5 rfl rfl (by decide) (by decide))) <| oX (e_load isAgg5 rfl (.inl M1) rfl) <| oN <| cR <| oM rfl <| oM rfl <| oX (e_convc (r := ub 0) runUnderlying23 runUnderlying5 rfl (by kernel_rfl)) ?_
  refine oX (eA (pv p0) (e_ia runUnderlying72 sizeOf5 rfl rfl (by decide) (by decide))) ?_
  refine o_l rfl (l_store sizeOf5 rfl rfl rfl (.tail .head) .head nofr0) ?_; intro _ _
  refine oN <| cR <| oM rfl <| oM rfl <| oX (e_shrc (r := vq 0) rfl rfl rfl (by kernel_rfl)) <| oX (e_convc (r := ub 0) runUnderlying23 runUnderlying5 rfl (by kernel_rfl)) <| oX (eA (.pointer (ad p0 1)) (e_ia runUnderlying72 sizeOf5 rfl rfl (by decide) (by decide))) ?_
  refine o_l rfl (l_store sizeOf5 rfl rfl rfl (.tail .head) (.tail .head) nofr0) ?_; intro _ _
  refine oN <| cR <| oM rfl <| oM rfl <| oX (e_shrc (r := vq 0) rfl rfl rfl (by kernel_rfl)) <| oX (e_convc (r := ub 0) runUnderlying23 runUnderlying5 rfl (by kernel_rfl)) <| oX (eA (.pointer (ad p0 2)) (e_ia runUnderlying72 sizeOf5 rfl rfl (by decide) (by decide))) ?_
  refine o_l rfl (l_store sizeOf5 rfl rfl rfl (.tail .head) (.tail (.tail .head)) nofr0) ?_; intro _ _
  refine oN <| cR <| oM rfl <| oM rfl <| oX (e_shrc (r := vq 0) rfl rfl rfl (by kernel_rfl)) <| oX (e_convc (r := ub 0) runUnderlying23 runUnderlying5 rfl (by kernel_rfl)) <| oX (eA (.pointer (ad p0 3)) (e_ia runUnderlying72 sizeOf5 rfl rfl (by decide) (by decide))) ?_
  refine o_l rfl (l_store sizeOf5 rfl rfl rfl (.tail .head) (.tail (.tail (.tail .head))) nofr0) ?_; intro _ _
  refine oN <| cR <| oM rfl <| oM rfl <| oX (e_shrc (r := vq 0) rfl rfl rfl (by kernel_rfl)) <| oX (e_convc (r := ub 0) runUnderlying23 runUnderlying5 rfl (by kernel_rfl)) <| oX (eA (.pointer (ad p0 4)) (e_ia runUnderlying72 sizeOf5 rfl rfl (by decide) (by decide))) ?_
  refine o_l rfl (l_store sizeOf5 rfl rfl rfl (.tail .head) (.tail (.tail (.tail (.tail .head)))) nofr0) ?_; intro _ _
  refine oN <| cR <| oM rfl <| oM rfl <| oX (e_shrc (r := vq 0) rfl rfl rfl (by kernel_rfl)) <| oX (e_convc (r := ub 0) runUnderlying23 runUnderlying5 rfl (by kernel_rfl)) <| oX (eA (.pointer (ad p0 5)) (e_ia runUnderlying72 sizeOf5 rfl rfl (by decide) (by decide))) ?_
  refine o_l rfl (l_store sizeOf5 rfl rfl rfl (.tail .head) (.tail (.tail (.tail (.tail (.tail .head))))) nofr0) ?_; intro _ _
  refine oN <| cR <| oM rfl <| oM rfl <| oX (e_shrc (r := vq 0) rfl rfl rfl (by kernel_rfl)) <| oX (e_convc (r := ub 0) runUnderlying23 runUnderlying5 rfl (by kernel_rfl)) <| oX (eA (.pointer (ad p0 6)) (e_ia runUnderlying72 sizeOf5 rfl rfl (by decide) (by decide))) ?_
  refine o_l rfl (l_store sizeOf5 rfl rfl rfl (.tail .head) (.tail (.tail (.tail (.tail (.tail (.tail .head)))))) nofr0) ?_; intro _ _
  refine oN <| c_region <| oM rfl <| oM rfl <| oX (e_shrc (r := vq 0) rfl rfl rfl (by kernel_rfl)) <| oX (e_convc (r := ub 0) runUnderlying23 runUnderlying5 rfl (by kernel_rfl)) <| oX (eA (.pointer (ad p0 7)) (e_ia runUnderlying72 sizeOf5 rfl rfl (by decide) (by decide))) ?_
  refine o_l rfl (l_store sizeOf5 rfl rfl rfl (.tail .head) (.tail (.tail (.tail (.tail (.tail (.tail (.tail .head))))))) nofr0) ?_; intro _ _
  refine o_nil <| WN.sel (.cons (.tail .head) .nil) <| n_fn0 results179 ?_
  exact tells (y := ()) trivial rfl rfl

theorem z142 {G : HP} (p0 : Nat) (p1 : Nat) :
    CtrE Tryz.prog 296 [pv p0, vi 8] G [(p0, C [.slice (ad p1 0) 6 64, vi 0, .int .i8 0] 86), (p1, C xb20 5)] (T := Unit) (fun _ => True) (fun _ => .tuple #[vi 6, .bool true]) (fun _ => [(p0, C [.slice (ad p1 0) 14 64, vi 0, .int .i8 0] 86), (p1, C xb20 5)]) := by
  refine fn_enter 33 func296 rfl ntmps296 rfl ?_
  intro w0
  refine cR <| oA rfl <| oA rfl <| oN <| c_seq <| cR <| oM rfl <| oC rfl <| oX (eA (pv p0) (e_fa runUnderlying86 rfl sizeOf72 rfl rfl)) <| oX (e_load isAgg72 rfl (.inl M0) rfl) <| oX (eA (vi 6) (e_lenl runUnderlying72 rfl)) <| oA rfl <| oN <| cR <| oM rfl <| oM rfl <| oC rfl ?_
  refine oX (eA (pv p0) (e_fa runUnderlying86 rfl sizeOf72 rfl rfl)) <| oX (e_load isAgg72 rfl (.inl M0) rfl) <| oX (eA (vi 64) (e_cap runUnderlying72 rfl)) <| oM rfl <| oI (vi 58) rfl rfl <| oI (.bool true) rfl rfl <| oN <| c_then rfl <| cR <| oM rfl <| oM rfl <| oC rfl ?_
  refine oX (eA (pv p0) (e_fa runUnderlying86 rfl sizeOf72 rfl rfl)) <| oX (e_load isAgg72 rfl (.inl M0) rfl) <| oM rfl <| oM rfl <| oI (vi 14) rfl rfl <| oX (eA (.slice (ad p1 0) 14 64) (e_sl_h runUnderlying72 sizeOf5 rfl rfl (by decide) (by decide))) <| oC rfl ?_
  refine oX (eA (pv p0) (e_fa runUnderlying86 rfl sizeOf72 rfl rfl)) ?_
  refine o_l rfl (l_store sizeOf72 rfl rfl rfl .head .head nofr0) ?_; intro _ _
  refine oN <| cR <| oM rfl <| oA rfl <| oA rfl <| oN <| c_ret <| WR.sel (.cons .head (.cons .head .nil)) <| r_fn (l := [.tmp 4, .tmp 5]) results296 rfl rfl ?_
  exact tells (y := ()) trivial rfl rfl

theorem z143 {G : HP} (p0 : Nat) (p1 : Nat) (p2 : Nat) :
    CtrE Tryz.prog 294 [pv p0, .slice (ad p2 0) 8 8] G [(p0, C [.slice (ad p1 0) 6 64, vi 0, .int .i8 0] 86), (p1, C xb20 5), (p2, C xb10 5)] (T := Unit) (fun _ => True) (fun _ => .tuple #[vi 8, .nilIface]) (fun _ => [(p0, C [.slice (ad p1 0) 14 64, vi 0, .int .i8 0] 86), (p1, C xb20 5), (p2, C xb10 5)]) := by
  refine fn_enter 32 func294 rfl ntmps294 rfl ?_
  intro w0
  refine cR <| oA rfl <| oA rfl <| oN <| cR <| oM rfl <| oC rfl <| oX (eA (.pointer (ad p0 2)) (e_fa runUnderlying86 rfl sizeOf84 rfl rfl)) ?_
  refine o_l rfl (l_store sizeOf84 rfl rfl rfl .head (.tail (.tail .head)) nofr0) ?_; intro _ _
  refine oN <| cR <| oM rfl <| oM rfl <| oX (eA (vi 8) (e_lenl runUnderlying72 rfl)) ?_
  refine o_l rfl (l_calle call296 (z142 (p0) (p1)) rfl rfl (.cons .head (.cons .head .nil))) ?_; intro r1 hr1
  refine o_cat (.cons (.cons .nil)) <| oM rfl <| oX (e_extract rfl rfl) <| oX (e_extract rfl rfl) <| oA rfl <| oA rfl <| oN <| c_seq <| cR <| oM rfl <| oX (eA (.bool false) (e_not rfl)) <| oN <| cL rfl <| cR <| oM rfl <| oC rfl <| oX (eA (pv p0) (e_fa runUnderlying86 rfl sizeOf72 rfl rfl)) ?_
  refine oX (e_load isAgg72 rfl (.inl M0) rfl) <| oM rfl <| oX (e_as (r := .slice (ad p1 6) 8 58) (e_sl_l runUnderlying72 sizeOf5 rfl rfl (by decide) (by decide) (by decide)) (by first | rfl | (simp; try omega))) <| oM rfl ?_
  refine o_l rfl (l_copy (vs := xb10) (k' := 8) runUnderlying72 sizeOf5 rfl rfl rfl (Sv.blk (vs := xb10) underlying72 (.inl M2) (.take (.take (.take (.take (.take (.take (.take (.take .done)))))))) (by simp [Value.oneCell'])) rfl (.tail .head) (.skip (.skip (.skip (.skip (.skip (.skip (.take (.take (.take (.take (.take (.take (.take (.take .done)))))))))))))) (.inr rfl)) ?_; intro _ _
  refine oA rfl <| oA rfl <| oN <| c_ret <| WR.sel (.cons .head (.cons .head (.cons .head .nil))) <| r_fn (l := [.tmp 4, .tmp 5]) results294 rfl rfl ?_
  exact tells (y := ()) trivial rfl rfl

theorem z144 {G : HP} (p0 : Nat) (p1 : Nat) :
    CtrE Tryz.prog 328 [.iface 89 (pv p0), vq 0] G [(p0, C [.slice (ad p1 0) 6 64, vi 0, .int .i8 0] 86), (p1, C xb20 5)] (T := Unit) (fun _ => True) (fun _ => .nilIface) (fun _ => [(p0, C [.slice (ad p1 0) 14 64, vi 0, .int .i8 0] 86), (p1, C xb20 5)]) := by
  refine fn_enter 20 func328 rfl ntmps328 rfl ?_
  intro w0
  refine cR <| oA rfl <| oN <| cR ?_
  refine o_l rfl (l_mksc (l := xb10) (n := 8) (m := 8) underlying72 (info_of typeInfo5) rfl rfl rfl rfl rfl rfl rfl (by decide) (by kernel_rfl)) ?_; intro g1 _
  refine oA rfl <| oN <| cR <| oX (e_load0 isAgg294 sizeOf294 rfl) <| oM rfl <| oM rfl ?_
  refine o_l rfl (l_calle call179 (z141 (g1)) rfl rfl (.cons .head .nil)) ?_; intro r2 hr2
  refine o_cat (.cons .nil) <| oN <| cR <| oM rfl <| oM rfl ?_
  refine o_l rfl (l_callie call294 (by intro w; kernel_rfl) (z143 (p0) (p1) (g1)) rfl rfl rfl (.cons (.tail .head) (.cons (.tail .head) (.cons .head .nil)))) ?_; intro r3 hr3
  refine o_cat (.cons (.cons (.cons .nil))) <| oM rfl <| oX (e_extract rfl rfl) <| oX (e_extract rfl rfl) <| oA rfl <| oA rfl <| oN <| cR <| oM rfl <| oA rfl <| oN <| c_ret <| WR.sel (.cons .head (.cons .head .nil)) <| r_fn1 results328 rfl ?_
  exact tells (y := ()) trivial rfl rfl

theorem z145 {G : HP} (p0 : Nat) (p1 : Nat) :
    CtrE Tryz.prog 296 [pv p0, vi 4] G [(p0, C [.slice (ad p1 0) 14 64, vi 0, .int .i8 0] 86), (p1, C xb20 5)] (T := Unit) (fun _ => True) (fun _ => .tuple #[vi 14, .bool true]) (fun _ => [(p0, C [.slice (ad p1 0) 18 64, vi 0, .int .i8 0] 86), (p1, C xb20 5)]) := by
  refine fn_enter 33 func296 rfl ntmps296 rfl ?_
  intro w0
  refine cR <| oA rfl <| oA rfl <| oN <| c_seq <| cR <| oM rfl <| oC rfl <| oX (eA (pv p0) (e_fa runUnderlying86 rfl sizeOf72 rfl rfl)) <| oX (e_load isAgg72 rfl (.inl M0) rfl) <| oX (eA (vi 14) (e_lenl runUnderlying72 rfl)) <| oA rfl <| oN <| cR <| oM rfl <| oM rfl <| oC rfl ?_
  refine oX (eA (pv p0) (e_fa runUnderlying86 rfl sizeOf72 rfl rfl)) <| oX (e_load isAgg72 rfl (.inl M0) rfl) <| oX (eA (vi 64) (e_cap runUnderlying72 rfl)) <| oM rfl <| oI (vi 50) rfl rfl <| oI (.bool true) rfl rfl <| oN <| c_then rfl <| cR <| oM rfl <| oM rfl <| oC rfl ?_
  refine oX (eA (pv p0) (e_fa runUnderlying86 rfl sizeOf72 rfl rfl)) <| oX (e_load isAgg72 rfl (.inl M0) rfl) <| oM rfl <| oM rfl <| oI (vi 18) rfl rfl <| oX (eA (.slice (ad p1 0) 18 64) (e_sl_h runUnderlying72 sizeOf5 rfl rfl (by decide) (by decide))) <| oC rfl ?_
  refine oX (eA (pv p0) (e_fa runUnderlying86 rfl sizeOf72 rfl rfl)) ?_
  refine o_l rfl (l_store sizeOf72 rfl rfl rfl .head .head nofr0) ?_; intro _ _
  refine oN <| cR <| oM rfl <| oA rfl <| oA rfl <| oN <| c_ret <| WR.sel (.cons .head (.cons .head .nil)) <| r_fn (l := [.tmp 4, .tmp 5]) results296 rfl rfl ?_
  exact tells (y := ()) trivial rfl rfl

theorem z146 {G : HP} (p0 : Nat) (p1 : Nat) (p2 : Nat) :
    CtrE Tryz.prog 294 [pv p0, .slice (ad p2 0) 4 4] G [(p0, C [.slice (ad p1 0) 14 64, vi 0, .int .i8 0] 86), (p1, C xb20 5), (p2, C [ub 1, ub 0, ub 0, ub 0] 5)] (T := Unit) (fun _ => True) (fun _ => .tuple #[vi 4, .nilIface]) (fun _ => [(p0, C [.slice (ad p1 0) 18 64, vi 0, .int .i8 0] 86), (p1, C xb21 5), (p2, C [ub 1, ub 0, ub 0, ub 0] 5)]) := by
  refine fn_enter 32 func294 rfl ntmps294 rfl ?_
  intro w0
  refine cR <| oA rfl <| oA rfl <| oN <| cR <| oM rfl <| oC rfl <| oX (eA (.pointer (ad p0 2)) (e_fa runUnderlying86 rfl sizeOf84 rfl rfl)) ?_
  refine o_l rfl (l_store sizeOf84 rfl rfl rfl .head (.tail (.tail .head)) nofr0) ?_; intro _ _
  refine oN <| cR <| oM rfl <| oM rfl <| oX (eA (vi 4) (e_lenl runUnderlying72 rfl)) ?_
  refine o_l rfl (l_calle call296 (z145 (p0) (p1)) rfl rfl (.cons .head (.cons .head .nil))) ?_; intro r1 hr1
  refine o_cat (.cons (.cons .nil)) <| oM rfl <| oX (e_extract rfl rfl) <| oX (e_extract rfl rfl) <| oA rfl <| oA rfl <| oN <| c_seq <| cR <| oM rfl <| oX (eA (.bool false) (e_not rfl)) <| oN <| cL rfl <| cR <| oM rfl <| oC rfl <| oX (eA (pv p0) (e_fa runUnderlying86 rfl sizeOf72 rfl rfl)) ?_
  refine oX (e_load isAgg72 rfl (.inl M0) rfl) <| oM rfl <| oX (e_as (r := .slice (ad p1 14) 4 50) (e_sl_l runUnderlying72 sizeOf5 rfl rfl (by decide) (by decide) (by decide)) (by first | rfl | (simp; try omega))) <| oM rfl ?_
  refine o_l rfl (l_copy (vs := [ub 1, ub 0, ub 0, ub 0]) (k' := 4) runUnderlying72 sizeOf5 rfl rfl rfl (Sv.blk (vs := [ub 1, ub 0, ub 0, ub 0]) underlying72 (.inl M2) (.take (.take (.take (.take .done)))) (by simp [Value.oneCell'])) rfl (.tail .head) (.skip (.skip (.skip (.skip (.skip (.skip (.skip (.skip (.skip (.skip (.skip (.skip (.skip (.skip (.take (.take (.take (.take .done)))))))))))))))))) (.inr rfl)) ?_; intro _ _
  refine oA rfl <| oA rfl <| oN <| c_ret <| WR.sel (.cons .head (.cons .head (.cons .head .nil))) <| r_fn (l := [.tmp 4, .tmp 5]) results294 rfl rfl ?_
  exact tells (y := ()) trivial rfl rfl

theorem z147 {G : HP} (p0 : Nat) (p1 : Nat) :
    CtrE Tryz.prog 318 [.iface 89 (pv p0), vd 1] G [(p0, C [.slice (ad p1 0) 14 64, vi 0, .int .i8 0] 86), (p1, C xb20 5)] (T := Unit) (fun _ => True) (fun _ => .nilIface) (fun _ => [(p0, C [.slice (ad p1 0) 18 64, vi 0, .int .i8 0] 86), (p1, C xb21 5)]) := by
  refine fn_enter 20 func318 rfl ntmps318 rfl ?_
  intro w0
  refine cR <| oA rfl <| oN <| cR ?_
  refine o_l rfl (l_mksc (l := [ub 0, ub 0, ub 0, ub 0]) (n := 4) (m := 4) underlying72 (info_of typeInfo5) rfl rfl rfl rfl rfl rfl rfl (by decide) (by kernel_rfl)) ?_; intro g1 _
  refine oA rfl <| oN <| cR <| oX (e_load0 isAgg294 sizeOf294 rfl) <| oM rfl <| oM rfl ?_
  refine o_l rfl (l_calle call326 (z54 (g1)) rfl rfl (.cons .head .nil)) ?_; intro r2 hr2
  refine o_cat (.cons .nil) <| oN <| cR <| oM rfl <| oM rfl ?_
  refine o_l rfl (l_callie call294 (by intro w; kernel_rfl) (z146 (p0) (p1) (g1)) rfl rfl rfl (.cons (.tail .head) (.cons (.tail .head) (.cons .head .nil)))) ?_; intro r3 hr3
  refine o_cat (.cons (.cons (.cons .nil))) <| oM rfl <| oX (e_extract rfl rfl) <| oX (e_extract rfl rfl) <| oA rfl <| oA rfl <| oN <| cR <| oM rfl <| oA rfl <| oN <| c_ret <| WR.sel (.cons .head (.cons .head .nil)) <| r_fn1 results318 rfl ?_
  exact tells (y := ()) trivial rfl rfl

theorem z148 {G : HP} (p0 : Nat) (p1 : Nat) :
    CtrE Tryz.prog 296 [pv p0, vi 4] G [(p0, C [.slice (ad p1 0) 18 64, vi 0, .int .i8 0] 86), (p1, C xb21 5)] (T := Unit) (fun _ => True) (fun _ => .tuple #[vi 18, .bool true]) (fun _ => [(p0, C [.slice (ad p1 0) 22 64, vi 0, .int .i8 0] 86), (p1, C xb21 5)]) := by
  refine fn_enter 33 func296 rfl ntmps296 rfl ?_
  intro w0
  refine cR <| oA rfl <| oA rfl <| oN <| c_seq <| cR <| oM rfl <| oC rfl <| oX (eA (pv p0) (e_fa runUnderlying86 rfl sizeOf72 rfl rfl)) <| oX (e_load isAgg72 rfl (.inl M0) rfl) <| oX (eA (vi 18) (e_lenl runUnderlying72 rfl)) <| oA rfl <| oN <| cR <| oM rfl <| oM rfl <| oC rfl ?_
  refine oX (eA (pv p0) (e_fa runUnderlying86 rfl sizeOf72 rfl rfl)) <| oX (e_load isAgg72 rfl (.inl M0) rfl) <| oX (eA (vi 64) (e_cap runUnderlying72 rfl)) <| oM rfl <| oI (vi 46) rfl rfl <| oI (.bool true) rfl rfl <| oN <| c_then rfl <| cR <| oM rfl <| oM rfl <| oC rfl ?_
  refine oX (eA (pv p0) (e_fa runUnderlying86 rfl sizeOf72 rfl rfl)) <| oX (e_load isAgg72 rfl (.inl M0) rfl) <| oM rfl <| oM rfl <| oI (vi 22) rfl rfl <| oX (eA (.slice (ad p1 0) 22 64) (e_sl_h runUnderlying72 sizeOf5 rfl rfl (by decide) (by decide))) <| oC rfl ?_
  refine oX (eA (pv p0) (e_fa runUnderlying86 rfl sizeOf72 rfl rfl)) ?_
  refine o_l rfl (l_store sizeOf72 rfl rfl rfl .head .head nofr0) ?_; intro _ _
  refine oN <| cR <| oM rfl <| oA rfl <| oA rfl <| oN <| c_ret <| WR.sel (.cons .head (.cons .head .nil)) <| r_fn (l := [.tmp 4, .tmp 5]) results296 rfl rfl ?_
  exact tells (y := ()) trivial rfl rfl

theorem z149 {G : HP} (p0 : Nat) (p1 : Nat) (p2 : Nat) :
    CtrE Tryz.prog 294 [pv p0, .slice (ad p2 0) 4 4] G [(p0, C [.slice (ad p1 0) 18 64, vi 0, .int .i8 0] 86), (p1, C xb21 5), (p2, C [ub 9, ub 0, ub 0, ub 0] 5)] (T := Unit) (fun _ => True) (fun _ => .tuple #[vi 4, .nilIface]) (fun _ => [(p0, C [.slice (ad p1 0) 22 64, vi 0, .int .i8 0] 86), (p1, C xb22 5), (p2, C [ub 9, ub 0, ub 0, ub 0] 5)]) := by
  refine fn_enter 32 func294 rfl ntmps294 rfl ?_
  intro w0
  refine cR <| oA rfl <| oA rfl <| oN <| cR <| oM rfl <| oC rfl <| oX (eA (.pointer (ad p0 2)) (e_fa runUnderlying86 rfl sizeOf84 rfl rfl)) ?_
  refine o_l rfl (l_store sizeOf84 rfl rfl rfl .head (.tail (.tail .head)) nofr0) ?_; intro _ _
  refine oN <| cR <| oM rfl <| oM rfl <| oX (eA (vi 4) (e_lenl runUnderlying72 rfl)) ?_
  refine o_l rfl (l_calle call296 (z148 (p0) (p1)) rfl rfl (.cons .head (.cons .head .nil))) ?_; intro r1 hr1
  refine o_cat (.cons (.cons .nil)) <| oM rfl <| oX (e_extract rfl rfl) <| oX (e_extract rfl rfl) <| oA rfl <| oA rfl <| oN <| c_seq <| cR <| oM rfl <| oX (eA (.bool false) (e_not rfl)) <| oN <| cL rfl <| cR <| oM rfl <| oC rfl <| oX (eA (pv p0) (e_fa runUnderlying86 rfl sizeOf72 rfl rfl)) ?_
  refine oX (e_load isAgg72 rfl (.inl M0) rfl) <| oM rfl <| oX (e_as (r := .slice (ad p1 18) 4 46) (e_sl_l runUnderlying72 sizeOf5 rfl rfl (by decide) (by decide) (by decide)) (by first | rfl | (simp; try omega))) <| oM rfl ?_
  refine o_l rfl (l_copy (vs := [ub 9, ub 0, ub 0, ub 0]) (k' := 4) runUnderlying72 sizeOf5 rfl rfl rfl (Sv.blk (vs := [ub 9, ub 0, ub 0, ub 0]) underlying72 (.inl M2) (.take (.take (.take (.take .done)))) (by simp [Value.oneCell'])) rfl (.tail .head) (.skip (.skip (.skip (.skip (.skip (.skip (.skip (.skip (.skip (.skip (.skip (.skip (.skip (.skip (.skip (.skip (.skip (.skip (.take (.take (.take (.take .done)))))))))))))))))))))) (.inr rfl)) ?_; intro _ _
  refine oA rfl <| oA rfl <| oN <| c_ret <| WR.sel (.cons .head (.cons .head (.cons .head .nil))) <| r_fn (l := [.tmp 4, .tmp 5]) results294 rfl rfl ?_
  exact tells (y := ()) trivial rfl rfl

theorem z150 {G : HP} (p0 : Nat) (p1 : Nat) :
    CtrE Tryz.prog 318 [.iface 89 (pv p0), vd 9] G [(p0, C [.slice (ad p1 0) 18 64, vi 0, .int .i8 0] 86), (p1, C xb21 5)] (T := Unit) (fun _ => True) (fun _ => .nilIface) (fun _ => [(p0, C [.slice (ad p1 0) 22 64, vi 0, .int .i8 0] 86), (p1, C xb22 5)]) := by
  refine fn_enter 20 func318 rfl ntmps318 rfl ?_
  intro w0
  refine cR <| oA rfl <| oN <| cR ?_
  refine o_l rfl (l_mksc (l := [ub 0, ub 0, ub 0, ub 0]) (n := 4) (m := 4) underlying72 (info_of typeInfo5) rfl rfl rfl rfl rfl rfl rfl (by decide) (by kernel_rfl)) ?_; intro g1 _
  refine oA rfl <| oN <| cR <| oX (e_load0 isAgg294 sizeOf294 rfl) <| oM rfl <| oM rfl ?_
  refine o_l rfl (l_calle call326 (z62 (g1)) rfl rfl (.cons .head .nil)) ?_; intro r2 hr2
  refine o_cat (.cons .nil) <| oN <| cR <| oM rfl <| oM rfl ?_
  refine o_l rfl (l_callie call294 (by intro w; kernel_rfl) (z149 (p0) (p1) (g1)) rfl rfl rfl (.cons (.tail .head) (.cons (.tail .head) (.cons .head .nil)))) ?_; intro r3 hr3
  refine o_cat (.cons (.cons (.cons .nil))) <| oM rfl <| oX (e_extract rfl rfl) <| oX (e_extract rfl rfl) <| oA rfl <| oA rfl <| oN <| cR <| oM rfl <| oA rfl <| oN <| c_ret <| WR.sel (.cons .head (.cons .head .nil)) <| r_fn1 results318 rfl ?_
  exact tells (y := ()) trivial rfl rfl

theorem z151 {G : HP} (p0 : Nat) (p1 : Nat) :
    CtrE Tryz.prog 296 [pv p0, vi 8] G [(p0, C [.slice (ad p1 0) 22 64, vi 0, .int .i8 0] 86), (p1, C xb22 5)] (T := Unit) (fun _ => True) (fun _ => .tuple #[vi 22, .bool true]) (fun _ => [(p0, C [.slice (ad p1 0) 30 64, vi 0, .int .i8 0] 86), (p1, C xb22 5)]) := by
  refine fn_enter 33 func296 rfl ntmps296 rfl ?_
  intro w0
  refine cR <| oA rfl <| oA rfl <| oN <| c_seq <| cR <| oM rfl <| oC rfl <| oX (eA (pv p0) (e_fa runUnderlying86 rfl sizeOf72 rfl rfl)) <| oX (e_load isAgg72 rfl (.inl M0) rfl) <| oX (eA (vi 22) (e_lenl runUnderlying72 rfl)) <| oA rfl <| oN <| cR <| oM rfl <| oM rfl <| oC rfl ?_
  refine oX (eA (pv p0) (e_fa runUnderlying86 rfl sizeOf72 rfl rfl)) <| oX (e_load isAgg72 rfl (.inl M0) rfl) <| oX (eA (vi 64) (e_cap runUnderlying72 rfl)) <| oM rfl <| oI (vi 42) rfl rfl <| oI (.bool true) rfl rfl <| oN <| c_then rfl <| cR <| oM rfl <| oM rfl <| oC rfl ?_
  refine oX (eA (pv p0) (e_fa runUnderlying86 rfl sizeOf72 rfl rfl)) <| oX (e_load isAgg72 rfl (.inl M0) rfl) <| oM rfl <| oM rfl <| oI (vi 30) rfl rfl <| oX (eA (.slice (ad p1 0) 30 64) (e_sl_h runUnderlying72 sizeOf5 rfl rfl (by decide) (by decide))) <| oC rfl ?_
  refine oX (eA (pv p0) (e_fa runUnderlying86 rfl sizeOf72 rfl rfl)) ?_
  refine o_l rfl (l_store sizeOf72 rfl rfl rfl .head .head nofr0) ?_; intro _ _
  refine oN <| cR <| oM rfl <| oA rfl <| oA rfl <| oN <| c_ret <| WR.sel (.cons .head (.cons .head .nil)) <| r_fn (l := [.tmp 4, .tmp 5]) results296 rfl rfl ?_
  exact tells (y := ()) trivial rfl rfl

theorem z152 {G : HP} (p0 : Nat) (p1 : Nat) (p2 : Nat) :
    CtrE Tryz.prog 294 [pv p0, .slice (ad p2 0) 8 8] G [(p0, C [.slice (ad p1 0) 22 64, vi 0, .int .i8 0] 86), (p1, C xb22 5), (p2, C xb11 5)] (T := Unit) (fun _ => True) (fun _ => .tuple #[vi 8, .nilIface]) (fun _ => [(p0, C [.slice (ad p1 0) 30 64, vi 0, .int .i8 0] 86), (p1, C xb23 5), (p2, C xb11 5)]) := by
  refine fn_enter 32 func294 rfl ntmps294 rfl ?_
  intro w0
  refine cR <| oA rfl <| oA rfl <| oN <| cR <| oM rfl <| oC rfl <| oX (eA (.pointer (ad p0 2)) (e_fa runUnderlying86 rfl sizeOf84 rfl rfl)) ?_
  refine o_l rfl (l_store sizeOf84 rfl rfl rfl .head (.tail (.tail .head)) nofr0) ?_; intro _ _
  refine oN <| cR <| oM rfl <| oM rfl <| oX (eA (vi 8) (e_lenl runUnderlying72 rfl)) ?_
  refine o_l rfl (l_calle call296 (z151 (p0) (p1)) rfl rfl (.cons .head (.cons .head .nil))) ?_; intro r1 hr1
  refine o_cat (.cons (.cons .nil)) <| oM rfl <| oX (e_extract rfl rfl) <| oX (e_extract rfl rfl) <| oA rfl <| oA rfl <| oN <| c_seq <| cR <| oM rfl <| oX (eA (.bool false) (e_not rfl)) <| oN <| cL rfl <| cR <| oM rfl <| oC rfl <| oX (eA (pv p0) (e_fa runUnderlying86 rfl sizeOf72 rfl rfl)) ?_
  refine oX (e_load isAgg72 rfl (.inl M0) rfl) <| oM rfl <| oX (e_as (r := .slice (ad p1 22) 8 42) (e_sl_l runUnderlying72 sizeOf5 rfl rfl (by decide) (by decide) (by decide)) (by first | rfl | (simp; try omega))) <| oM rfl ?_
  refine o_l rfl (l_copy (vs := xb11) (k' := 8) runUnderlying72 sizeOf5 rfl rfl rfl (Sv.blk (vs := xb11) underlying72 (.inl M2) (.take (.take (.take (.take (.take (.take (.take (.take .done)))))))) (by simp [Value.oneCell'])) rfl (.tail .head) (.skip (.skip (.skip (.skip (.skip (.skip (.skip (.skip (.skip (.skip (.skip (.skip (.skip (.skip (.skip (.skip (.skip (.skip (.skip (.skip (.skip (.skip (.take (.take (.take (.take (.take (.take (.take (.take .done)))))))))))))))))))))))))))))) (.inr rfl)) ?_; intro _ _
  refine oA rfl <| oA rfl <| oN <| c_ret <| WR.sel (.cons .head (.cons .head (.cons .head .nil))) <| r_fn (l := [.tmp 4, .tmp 5]) results294 rfl rfl ?_
  exact tells (y := ()) trivial rfl rfl

theorem z153 {G : HP} (p0 : Nat) (p1 : Nat) :
    CtrE Tryz.prog 328 [.iface 89 (pv p0), vq 9] G [(p0, C [.slice (ad p1 0) 22 64, vi 0, .int .i8 0] 86), (p1, C xb22 5)] (T := Unit) (fun _ => True) (fun _ => .nilIface) (fun _ => [(p0, C [.slice (ad p1 0) 30 64, vi 0, .int .i8 0] 86), (p1, C xb23 5)]) := by
  refine fn_enter 20 func328 rfl ntmps328 rfl ?_
  intro w0
  refine cR <| oA rfl <| oN <| cR ?_
  refine o_l rfl (l_mksc (l := xb10) (n := 8) (m := 8) underlying72 (info_of typeInfo5) rfl rfl rfl rfl rfl rfl rfl (by decide) (by kernel_rfl)) ?_; intro g1 _
  refine oA rfl <| oN <| cR <| oX (e_load0 isAgg294 sizeOf294 rfl) <| oM rfl <| oM rfl ?_
  refine o_l rfl (l_calle call179 (z66 (g1)) rfl rfl (.cons .head .nil)) ?_; intro r2 hr2
  refine o_cat (.cons .nil) <| oN <| cR <| oM rfl <| oM rfl ?_
  refine o_l rfl (l_callie call294 (by intro w; kernel_rfl) (z152 (p0) (p1) (g1)) rfl rfl rfl (.cons (.tail .head) (.cons (.tail .head) (.cons .head .nil)))) ?_; intro r3 hr3
  refine o_cat (.cons (.cons (.cons .nil))) <| oM rfl <| oX (e_extract rfl rfl) <| oX (e_extract rfl rfl) <| oA rfl <| oA rfl <| oN <| cR <| oM rfl <| oA rfl <| oN <| c_ret <| WR.sel (.cons .head (.cons .head .nil)) <| r_fn1 results328 rfl ?_
  exact tells (y := ()) trivial rfl rfl

theorem z154 {G : HP} (p0 : Nat) (p1 : Nat) :
    CtrE Tryz.prog 296 [pv p0, vi 9] G [(p0, C [.slice (ad p1 0) 30 64, vi 0, .int .i8 0] 86), (p1, C xb23 5)] (T := Unit) (fun _ => True) (fun _ => .tuple #[vi 30, .bool true]) (fun _ => [(p0, C [.slice (ad p1 0) 39 64, vi 0, .int .i8 0] 86), (p1, C xb23 5)]) := by
  refine fn_enter 33 func296 rfl ntmps296 rfl ?_
  intro w0
  refine cR <| oA rfl <| oA rfl <| oN <| c_seq <| cR <| oM rfl <| oC rfl <| oX (eA (pv p0) (e_fa runUnderlying86 rfl sizeOf72 rfl rfl)) <| oX (e_load isAgg72 rfl (.inl M0) rfl) <| oX (eA (vi 30) (e_lenl runUnderlying72 rfl)) <| oA rfl <| oN <| cR <| oM rfl <| oM rfl <| oC rfl ?_
  refine oX (eA (pv p0) (e_fa runUnderlying86 rfl sizeOf72 rfl rfl)) <| oX (e_load isAgg72 rfl (.inl M0) rfl) <| oX (eA (vi 64) (e_cap runUnderlying72 rfl)) <| oM rfl <| oI (vi 34) rfl rfl <| oI (.bool true) rfl rfl <| oN <| c_then rfl <| cR <| oM rfl <| oM rfl <| oC rfl ?_
  refine oX (eA (pv p0) (e_fa runUnderlying86 rfl sizeOf72 rfl rfl)) <| oX (e_load isAgg72 rfl (.inl M0) rfl) <| oM rfl <| oM rfl <| oI (vi 39) rfl rfl <| oX (eA (.slice (ad p1 0) 39 64) (e_sl_h runUnderlying72 sizeOf5 rfl rfl (by decide) (by decide))) <| oC rfl ?_
  refine oX (eA (pv p0) (e_fa runUnderlying86 rfl sizeOf72 rfl rfl)) ?_
  refine o_l rfl (l_store sizeOf72 rfl rfl rfl .head .head nofr0) ?_; intro _ _
  refine oN <| cR <| oM rfl <| oA rfl <| oA rfl <| oN <| c_ret <| WR.sel (.cons .head (.cons .head .nil)) <| r_fn (l := [.tmp 4, .tmp 5]) results296 rfl rfl ?_
  exact tells (y := ()) trivial rfl rfl

theorem z155 {G : HP} (p0 : Nat) (p1 : Nat) (p2 : Nat) :
    CtrE Tryz.prog 294 [pv p0, .slice (ad p2 0) 9 9] G [(p0, C [.slice (ad p1 0) 30 64, vi 0, .int .i8 0] 86), (p1, C xb23 5), (p2, C xb3 5)] (T := Unit) (fun _ => True) (fun _ => .tuple #[vi 9, .nilIface]) (fun _ => [(p0, C [.slice (ad p1 0) 39 64, vi 0, .int .i8 0] 86), (p1, C xb24 5), (p2, C xb3 5)]) := by
  refine fn_enter 32 func294 rfl ntmps294 rfl ?_
  intro w0
  refine cR <| oA rfl <| oA rfl <| oN <| cR <| oM rfl <| oC rfl <| oX (eA (.pointer (ad p0 2)) (e_fa runUnderlying86 rfl sizeOf84 rfl rfl)) ?_
  refine o_l rfl (l_store sizeOf84 rfl rfl rfl .head (.tail (.tail .head)) nofr0) ?_; intro _ _
  refine oN <| cR <| oM rfl <| oM rfl <| oX (eA (vi 9) (e_lenl runUnderlying72 rfl)) ?_
  refine o_l rfl (l_calle call296 (z154 (p0) (p1)) rfl rfl (.cons .head (.cons .head .nil))) ?_; intro r1 hr1
  refine o_cat (.cons (.cons .nil)) <| oM rfl <| oX (e_extract rfl rfl) <| oX (e_extract rfl rfl) <| oA rfl <| oA rfl <| oN <| c_seq <| cR <| oM rfl <| oX (eA (.bool false) (e_not rfl)) <| oN <| cL rfl <| cR <| oM rfl <| oC rfl <| oX (eA (pv p0) (e_fa runUnderlying86 rfl sizeOf72 rfl rfl)) ?_
  refine oX (e_load isAgg72 rfl (.inl M0) rfl) <| oM rfl <| oX (e_as (r := .slice (ad p1 30) 9 34) (e_sl_l runUnderlying72 sizeOf5 rfl rfl (by decide) (by decide) (by decide)) (by first | rfl | (simp; try omega))) <| oM rfl ?_
  refine o_l rfl (l_copy (vs := xb3) (k' := 9) runUnderlying72 sizeOf5 rfl rfl rfl (Sv.blk (vs := xb3) underlying72 (.inl M2) (.take (.take (.take (.take (.take (.take (.take (.take (.take .done))))))))) (by simp [Value.oneCell'])) rfl (.tail .head) (.skip (.skip (.skip (.skip (.skip (.skip (.skip (.skip (.skip (.skip (.skip (.skip (.skip (.skip (.skip (.skip (.skip (.skip (.skip (.skip (.skip (.skip (.skip (.skip (.skip (.skip (.skip (.skip (.skip (.skip (.take (.take (.take (.take (.take (.take (.take (.take (.take .done))))))))))))))))))))))))))))))))))))))) (.inr rfl)) ?_; intro _ _
  refine oA rfl <| oA rfl <| oN <| c_ret <| WR.sel (.cons .head (.cons .head (.cons .head .nil))) <| r_fn (l := [.tmp 4, .tmp 5]) results294 rfl rfl ?_
  exact tells (y := ()) trivial rfl rfl

theorem z156 {G : HP} (p0 : Nat) (p1 : Nat) (p2 : Nat) (p3 : Nat) :
    CtrE Tryz.prog 340 [pv p0, .iface 89 (pv p2)] G [(p0, C [vd 9, vq 1, .slice (ad p1 0) 9 9] 448), (p1, C xb3 5), (p2, C [.slice (ad p3 0) 18 64, vi 0, .int .i8 0] 86), (p3, C xb21 5)] (T := Unit) (fun _ => True) (fun _ => .tuple #[vq 21, .nilIface]) (fun _ => [(p0, C [vd 9, vq 1, .slice (ad p1 0) 9 9] 448), (p1, C xb3 5), (p2, C [.slice (ad p3 0) 39 64, vi 0, .int .i8 0] 86), (p3, C xb24 5)]) := by
  refine fn_enter 53 func340 rfl ntmps340 rfl ?_
  intro w0
  refine cR <| oA rfl <| oA rfl <| oN <| cR <| oA rfl <| oN <| c_seq <| cR <| oM rfl <| oM rfl <| oC rfl <| oX (eA (pv p0) (e_fa runUnderlying448 rfl sizeOf212 rfl rfl)) <| oX (e_load isAgg212 rfl (.inl M0) rfl) ?_
  refine o_l rfl (l_calle call318 (z150 (p2) (p3)) rfl rfl (.cons (.tail (.tail .head)) (.cons (.tail (.tail .head)) .nil))) ?_; intro r1 hr1
  refine o_cat (.cons (.cons .nil)) <| oA rfl <| oN <| cR <| oM rfl <| oX (e_nnen runUnderlying80 rfl) <| oN <| cL rfl <| cR <| oM rfl <| oI (vq 4) rfl rfl <| oA rfl <| oN <| c_seq <| cR <| oM rfl <| oM rfl <| oC rfl ?_
  refine oX (eA (.pointer (ad p0 2)) (e_fa runUnderlying448 rfl sizeOf72 rfl rfl)) <| oX (e_load isAgg72 rfl (.inl M2) rfl) <| oX (eA (vi 9) (e_lenl runUnderlying72 rfl)) <| oX (e_convc (r := vq 9) runUnderlying3 runUnderlying23 rfl (by kernel_rfl)) ?_
  refine o_l rfl (l_calle call328 (z153 (p2) (p3)) rfl rfl (.cons .head (.cons .head .nil))) ?_; intro r2 hr2
  refine o_cat (.cons (.cons .nil)) <| oA rfl <| oN <| cR <| oM rfl <| oX (e_nnen runUnderlying80 rfl) <| oN <| cL rfl <| cR <| oM rfl <| oI (vq 12) rfl rfl <| oA rfl <| oN <| c_seq ?_
  refine c_regiond [(p0, C [vd 9, vq 1, .slice (ad p1 0) 9 9] 448), (p1, C xb3 5)] (by kernel_rfl) (.cons _ (.cons _ (.cons_cons _ (.cons_cons _ (.slnil))))) <| dX 0 rfl (e_move rfl) ?_
  refine dX 1 rfl (e_move rfl) <| dX 2 rfl (e_nilCheck rfl) <| dX 3 rfl (eA (.pointer (ad p0 2)) (e_fa runUnderlying448 rfl sizeOf72 rfl rfl)) ?_
  refine dX 4 rfl (e_load isAgg72 rfl (.inl M0) rfl) <| dX 5 rfl (e_func rfl rfl) <| dX 6 rfl (e_nilm (by intro w; kernel_rfl) rfl) <| dX 7 rfl (e_move rfl) ?_
  refine d_l 8 (by kernel_rfl) rfl rfl (l_callie call294 (by intro w; kernel_rfl) (z155 (p2) (p3) (p1)) rfl rfl rfl (.cons .head (.cons .head (.cons (.tail .head) .nil)))) (fun _ _ => hs_cons M3 (hs_cons M2 (hs_nil))) ?_
  intro r3 hr3
  refine d_cat (.cons (.cons (.cons .nil))) <| dX 9 rfl (e_move rfl) <| dX 10 rfl (e_extract rfl rfl) <| dX 11 rfl (e_extract rfl rfl) <| dX 12 rfl (e_assign rfl) ?_
  refine dX 13 rfl (e_assign rfl) <| dN <| n_code <| cR <| oM rfl <| oM rfl <| oX (e_convc (r := vq 9) runUnderlying3 runUnderlying23 rfl (by kernel_rfl)) <| oI (vq 21) rfl rfl <| oM rfl <| oA rfl <| oA rfl <| oN <| c_ret ?_
  refine WR.sel (.cons (.tail (.tail (.tail .head))) (.cons (.tail (.tail .head)) (.cons .head (.cons .head .nil)))) <| r_fn (l := [.tmp 4, .tmp 5]) results340 rfl rfl ?_
  exact tells (y := ()) trivial rfl rfl

theorem z157 {G : HP} (p0 : Nat) (p1 : Nat) (p2 : Nat) (p3 : Nat) (p4 : Nat) :
    CtrE Tryz.prog 329 [pv p0, .iface 89 (pv p3)] G [(p0, C [.map (some p1), vq 0] 437), (p1, Mo .u32 [(9, .agg #[vd 9, vq 1, .slice (ad p2 0) 9 9])]), (p2, C xb3 5), (p3, C [.slice (ad p4 0) 14 64, vi 0, .int .i8 0] 86), (p4, C xb20 5)] (T := Unit) (fun _ => True) (fun _ => .tuple #[vq 25, .nilIface]) (fun _ => [(p0, C [.map (some p1), vq 0] 437), (p1, Mo .u32 [(9, .agg #[vd 9, vq 1, .slice (ad p2 0) 9 9])]), (p2, C xb3 5), (p3, C [.slice (ad p4 0) 39 64, vi 0, .int .i8 0] 86), (p4, C xb24 5)]) := by
  refine fn_enter 72 func329 rfl ntmps329 rfl ?_
  intro w0
  refine cR <| oA rfl <| oA rfl <| oN <| cR <| oA rfl <| oN <| c_seq <| cR <| oM rfl <| oM rfl <| oC rfl <| oX (e_load isAgg327 rfl (.inl M0) rfl) <| oX (eA (vi 1) (e_lenm runUnderlying327 rfl (.inl M1))) <| oX (e_convc (r := vd 1) runUnderlying3 runUnderlying212 rfl (by kernel_rfl)) ?_
  refine o_l rfl (l_calle call318 (z147 (p3) (p4)) rfl rfl (.cons (.tail (.tail (.tail .head))) (.cons (.tail (.tail (.tail .head))) .nil))) ?_; intro r1 hr1
  refine o_cat (.cons (.cons .nil)) <| oA rfl <| oN <| cR <| oM rfl <| oX (e_nnen runUnderlying80 rfl) <| oN <| cL rfl <| cR <| oM rfl <| oI (vq 4) rfl rfl <| oA rfl <| oN <| cR <| oM rfl <| oC rfl <| oX (e_load isAgg327 rfl (.inl M2) rfl) ?_
  refine oX (eA (vi 1) (e_lenm runUnderlying327 rfl (.inl M3))) ?_
  refine o_l rfl (l_mksc (l := [vd 0]) (n := 0) (m := 1) underlying472 (info_of typeInfo212) rfl rfl rfl rfl rfl rfl rfl (by decide) (by kernel_rfl)) ?_; intro g2 _
  refine oA rfl <| oN <| c_seq <| cR <| oM rfl <| oC rfl <| oX (e_load isAgg327 rfl (.inl M3) rfl) ?_
  refine o_l rfl (l_range runUnderlying327 rfl rfl (.inl M4)) ?_; intro g3 _
  refine oN <| c_block <| c_rounds 999 <| cR ?_
  refine o_l rfl (l_next1 0 rfl rfl (.inl M5) .head rfl rfl rfl) ?_; intro _ _
  refine oX (e_extract rfl rfl) <| oN <| c_seq <| c_then rfl <| c_skip <| n_code <| c_block <| cR <| oX (e_entry (j := 0) (seen := []) rfl (.inl M0) (.inl M5) rfl) <| oX (e_extract rfl rfl) <| oA rfl <| oN <| c_region <| oM rfl <| oM rfl ?_
  refine o_l rfl (l_bs1 runUnderlying472 sizeOf212 zeroValue212 rfl rfl rfl) ?_; intro g4 _
  refine o_l rfl (l_app (off := 1) (L := [vd 9]) underlying472 (info_of typeInfo212) rfl rfl rfl rfl rfl rfl (.tail (.tail .head)) rfl (by decide) (by decide) (.inr rfl) .done (Sv.blk (vs := [vd 9]) underlying472 (.inl M0) (.take .done) (by simp [Value.oneCell'])) .nil rfl rfl rfl rfl) ?_; intro y5 hy5
  refine oA rfl <| o_nil <| n_block <| n_rounds <| c_keep (sK 8 rfl <| sK 44 rfl <| sK 43 rfl <| sK 42 rfl <| sK 41 rfl <| sK 9 rfl <| sK 40 rfl <| sK 39 rfl <| sK 38 rfl <| sK 37 rfl <| sK 36 rfl <| sK 6 rfl <| sK 5 rfl <| sK 4 rfl <| sK 1 rfl <| sK 0 rfl <| sub_nil) <| cR ?_
  refine o_l rfl (l_next0 rfl rfl (.inl M6) M2 rfl) ?_; intro _ _
  refine oX (e_extract rfl rfl) <| oN <| c_seq <| c_else rfl <| c_exit <| x_code <| x_upto <| x_here <| n_code <| cR <| oM rfl ?_
  refine o_l rfl (l_calle call339 (z61 y5 hy5) rfl rfl (.cons .head .nil)) ?_; intro r6 hr6
  refine o_cat (.cons .nil) <| oN <| c_seq <| cR <| oM rfl <| oX (eA (vi 1) (e_lenl runUnderlying472 rfl)) <| oM rfl <| oN <| c_block <| c_rounds 999 <| cR <| oI (.bool true) rfl rfl <| oN <| c_seq <| c_then rfl <| c_skip <| n_code <| c_seq <| c_block <| cR ?_
  refine oX (eA (pv y5.g) (e_ia runUnderlying472 sizeOf212 rfl rfl (by decide) (by decide))) <| oX (e_load isAgg212 rfl (.inl M0) rfl) <| oA rfl <| oN <| cR <| oM rfl <| oC rfl <| oX (e_load isAgg327 rfl (.inl M5) rfl) <| oM rfl ?_
  refine oX (e_as (r := .agg #[vd 9, vq 1, .slice (ad p2 0) 9 9]) (e_lookup runUnderlying327 runUnderlying212 zeroValue448 rfl rfl (.inl M6)) (by kernel_rfl)) ?_
  refine o_l rfl (l_alloc zeroValue448 rfl rfl) ?_; intro g7 _
  refine o_l rfl (l_storea sizeOf448 rfl rfl rfl (by simp [Value.oneCell']) .head (.take (.take (.take .done))) nofrs0) ?_; intro _ _
  refine oN <| cR <| oM rfl ?_
  refine o_l rfl (l_calle call340 (z156 (g7) (p2) (p3) (p4)) rfl rfl (.cons .head (.cons (.tail (.tail (.tail (.tail (.tail (.tail (.tail .head))))))) (.cons (.tail (.tail (.tail .head))) (.cons (.tail (.tail (.tail .head))) .nil))))) ?_; intro r8 hr8
  refine o_cat (.cons (.cons (.cons (.cons .nil)))) <| oM rfl <| oX (e_extract rfl rfl) <| oX (e_extract rfl rfl) <| oA rfl <| oA rfl <| oN <| cR <| oM rfl <| oM rfl <| oI (vq 25) rfl rfl <| oA rfl <| oN <| cR <| oM rfl <| oX (e_nnen runUnderlying80 rfl) <| oN <| c_else rfl <| c_skip <| n_block <| n_code <| c_region ?_
  refine oI (vi 1) rfl rfl <| oM rfl <| o_nil <| n_rounds ?_
  refine c_keep (sK 49 rfl <| sK 70 rfl <| sK 67 rfl <| sK 66 rfl <| sK 6 rfl <| sK 65 rfl <| sK 64 rfl <| sK 63 rfl <| sK 14 rfl <| sK 13 rfl <| sK 62 rfl <| sK 61 rfl <| sK 58 rfl <| sK 60 rfl <| sK 59 rfl <| sK 12 rfl <| sK 57 rfl <| sK 56 rfl <| sK 55 rfl <| sK 54 rfl <| sK 53 rfl <| sK 11 rfl <| sK 52 rfl <| sK 51 rfl <| sK 50 rfl <| sK 48 rfl <| sK 47 rfl <| sK 5 rfl <| sK 4 rfl <| sK 1 rfl <| sK 0 rfl <| sub_nil) ?_
  refine cR <| oI (.bool false) rfl rfl <| oN <| c_seq <| c_else rfl <| c_exit <| x_code <| x_upto <| x_here <| n_code <| cR <| oM rfl <| oA rfl <| oA rfl <| oN <| c_ret <| WR.sel (.cons (.tail (.tail (.tail (.tail (.tail (.tail (.tail .head))))))) (.cons (.tail (.tail (.tail (.tail (.tail (.tail (.tail .head))))))) (.cons (.tail .head) (.cons (.tail .head) (.cons (.tail .head) .nil))))) ?_
  refine r_fn (l := [.tmp 4, .tmp 5]) results329 rfl rfl ?_
  exact tells (y := ()) trivial rfl rfl

theorem z158 {G : HP} (p0 : Nat) (p1 : Nat) (p2 : Nat) (p3 : Nat) (p4 : Nat) :
    CtrE Tryz.prog 320 [pv p0, .iface 89 (pv p3)] G [(p0, C [.map (some p1), vq 0] 437), (p1, Mo .u32 [(9, .agg #[vd 9, vq 1, .slice (ad p2 0) 9 9])]), (p2, C xb3 5), (p3, C [.slice (ad p4 0) 6 64, vi 0, .int .i8 0] 86), (p4, C xb20 5)] (T := Unit) (fun _ => True) (fun _ => .tuple #[vq 33, .nilIface]) (fun _ => [(p0, C [.map (some p1), vq 0] 437), (p1, Mo .u32 [(9, .agg #[vd 9, vq 1, .slice (ad p2 0) 9 9])]), (p2, C xb3 5), (p3, C [.slice (ad p4 0) 39 64, vi 0, .int .i8 0] 86), (p4, C xb24 5)]) := by
  refine fn_enter 29 func320 rfl ntmps320 rfl ?_
  intro w0
  refine cR <| oA rfl <| oA rfl <| oN <| c_seq <| cR <| oM rfl <| oM rfl <| oC rfl <| oX (eA (.pointer (ad p0 1)) (e_fa runUnderlying437 rfl sizeOf23 rfl rfl)) <| oX (e_load isAgg23 rfl (.inl M0) rfl) ?_
  refine o_l rfl (l_calle call328 (z144 (p3) (p4)) rfl rfl (.cons (.tail (.tail (.tail .head))) (.cons (.tail (.tail (.tail .head))) .nil))) ?_; intro r1 hr1
  refine o_cat (.cons (.cons .nil)) <| oA rfl <| oN <| cR <| oM rfl <| oX (e_nnen runUnderlying80 rfl) <| oN <| cL rfl <| cR <| oM rfl <| oC rfl <| oX (eA (pv p0) (e_fa runUnderlying437 rfl sizeOf327 rfl rfl)) <| oM rfl ?_
  refine o_l rfl (l_calle call329 (z157 (p0) (p1) (p2) (p3) (p4)) rfl rfl (.cons (.tail (.tail .head)) (.cons (.tail (.tail .head)) (.cons (.tail (.tail .head)) (.cons .head (.cons .head .nil)))))) ?_; intro r2 hr2
  refine o_cat (.cons (.cons (.cons (.cons (.cons .nil))))) <| oM rfl <| oX (e_extract rfl rfl) <| oX (e_extract rfl rfl) <| oA rfl <| oA rfl <| oN <| cR <| oM rfl <| oI (vq 33) rfl rfl <| oM rfl <| oA rfl <| oA rfl <| oN <| c_ret <| WR.sel (.cons .head (.cons .head (.cons .head (.cons .head (.cons .head .nil))))) <| r_fn (l := [.tmp 4, .tmp 5]) results320 rfl rfl ?_
  exact tells (y := ()) trivial rfl rfl

theorem z159 {G : HP} (p0 : Nat) (p1 : Nat) (p2 : Nat) (p3 : Nat) (p4 : Nat) (p5 : Nat) (p6 : Nat) :
    CtrE Tryz.prog 311 [pv p0, .iface 89 (pv p5)] G [(p0, C [.map (some p1)] 330), (p1, Mo .u64 [(0, pv p2)]), (p2, C [.map (some p3), vq 0] 437), (p3, Mo .u32 [(9, .agg #[vd 9, vq 1, .slice (ad p4 0) 9 9])]), (p4, C xb3 5), (p5, C [.slice (ad p6 0) 2 64, vi 0, .int .i8 0] 86), (p6, C xb19 5)] (T := Unit) (fun _ => True) (fun _ => .tuple #[vq 37, .nilIface]) (fun _ => [(p0, C [.map (some p1)] 330), (p1, Mo .u64 [(0, pv p2)]), (p2, C [.map (some p3), vq 0] 437), (p3, Mo .u32 [(9, .agg #[vd 9, vq 1, .slice (ad p4 0) 9 9])]), (p4, C xb3 5), (p5, C [.slice (ad p6 0) 39 64, vi 0, .int .i8 0] 86), (p6, C xb24 5)]) := by
  refine fn_enter 52 func311 rfl ntmps311 rfl ?_
  intro w0
  refine cR <| oA rfl <| oA rfl <| oN <| c_seq <| cR <| oM rfl <| oM rfl <| oC rfl <| oX (e_load isAgg330 rfl (.inl M0) rfl) <| oX (eA (vi 1) (e_lenm runUnderlying330 rfl (.inl M1))) <| oX (e_convc (r := vd 1) runUnderlying3 runUnderlying212 rfl (by kernel_rfl)) ?_
  refine o_l rfl (l_calle call318 (z136 (p5) (p6)) rfl rfl (.cons (.tail (.tail (.tail (.tail (.tail .head))))) (.cons (.tail (.tail (.tail (.tail (.tail .head))))) .nil))) ?_; intro r1 hr1
  refine o_cat (.cons (.cons .nil)) <| oA rfl <| oN <| cR <| oM rfl <| oX (e_nnen runUnderlying80 rfl) <| oN <| cL rfl <| cR <| oM rfl ?_
  refine o_l rfl (l_calle call319 (z140 (p0) (p1) (p2) (p3) (p4)) rfl rfl (.cons (.tail (.tail .head)) (.cons (.tail (.tail .head)) (.cons (.tail (.tail .head)) (.cons (.tail (.tail .head)) (.cons (.tail (.tail .head)) .nil)))))) ?_; intro r2 hr2
  refine o_cat (.cons (.cons (.cons (.cons (.cons (.cons .nil)))))) <| oA rfl <| oN <| cR <| oA rfl <| oN <| c_seq <| cR <| oM rfl <| oX (eA (vi 1) (e_lenl runUnderlying29 rfl)) <| oM rfl <| oN <| c_block <| c_rounds 999 <| cR <| oI (.bool true) rfl rfl <| oN <| c_seq <| c_then rfl <| c_skip <| n_code <| c_seq <| c_block <| c_seq ?_
  refine c_region <| oX (eA (pv r2.g) (e_ia runUnderlying29 sizeOf23 rfl rfl (by decide) (by decide))) <| oX (e_load isAgg23 rfl (.inl M5) rfl) <| oA rfl <| oN <| cR <| oM rfl <| oC rfl <| oX (e_load isAgg330 rfl (.inl M0) rfl) <| oM rfl ?_
  refine oX (e_as (r := pv p2) (e_lookup runUnderlying330 runUnderlying23 zeroValue433 rfl rfl (.inl M1)) (by kernel_rfl)) <| oA rfl <| oN <| cR <| oM rfl <| oM rfl ?_
  refine o_l rfl (l_calle call320 (z158 (p2) (p3) (p4) (p5) (p6)) rfl rfl (.cons (.tail (.tail .head)) (.cons (.tail (.tail .head)) (.cons (.tail (.tail .head)) (.cons (.tail (.tail (.tail .head))) (.cons (.tail (.tail (.tail .head))) .nil)))))) ?_; intro r3 hr3
  refine o_cat (.cons (.cons (.cons (.cons (.cons .nil))))) <| oM rfl <| oX (e_extract rfl rfl) <| oX (e_extract rfl rfl) <| oA rfl <| oA rfl <| oN <| cR <| oM rfl <| oM rfl <| oI (vq 37) rfl rfl <| oA rfl <| oN <| cR <| oM rfl <| oX (e_nnen runUnderlying80 rfl) <| oN <| c_else rfl <| c_skip <| n_block <| n_code <| c_region ?_
  refine oI (vi 1) rfl rfl <| oM rfl <| o_nil <| n_rounds ?_
  refine c_keep (sK 28 rfl <| sK 50 rfl <| sK 47 rfl <| sK 46 rfl <| sK 8 rfl <| sK 45 rfl <| sK 44 rfl <| sK 43 rfl <| sK 13 rfl <| sK 12 rfl <| sK 42 rfl <| sK 41 rfl <| sK 37 rfl <| sK 40 rfl <| sK 39 rfl <| sK 38 rfl <| sK 11 rfl <| sK 36 rfl <| sK 35 rfl <| sK 34 rfl <| sK 33 rfl <| sK 32 rfl <| sK 10 rfl <| sK 31 rfl <| sK 30 rfl <| sK 29 rfl <| sK 27 rfl <| sK 26 rfl <| sK 5 rfl <| sK 4 rfl <| sK 1 rfl <| sK 0 rfl <| sub_nil) ?_
  refine cR <| oI (.bool false) rfl rfl <| oN <| c_seq <| c_else rfl <| c_exit <| x_code <| x_upto <| x_here <| n_code <| cR <| oM rfl <| oA rfl <| oA rfl <| oN <| c_ret <| WR.sel (.cons (.tail (.tail (.tail (.tail (.tail .head))))) (.cons (.tail (.tail (.tail (.tail (.tail .head))))) (.cons .head (.cons .head (.cons .head (.cons .head (.cons .head .nil))))))) ?_
  refine r_fn (l := [.tmp 4, .tmp 5]) results311 rfl rfl ?_
  exact tells (y := ()) trivial rfl rfl
end Go.Proofs
