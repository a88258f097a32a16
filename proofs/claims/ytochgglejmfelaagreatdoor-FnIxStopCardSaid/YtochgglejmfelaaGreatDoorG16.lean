/- Runs at known values, part 3. (A part of the proof of this: for every input laws.FnIxStop returns true and its arguments read as they did, the listed package variables being what the program lays.) -/
import Derived.Test.YtochgglejmfelaaGreatDoorG02
import Derived.KernelRfl
import Derived.Test.YtochgglejmfelaaGreatDoorG15
namespace Go.Proofs
open Go Go.Sl Tryz
set_option maxRecDepth 100000
set_option maxHeartbeats 4000000
theorem z60 {G : HP} (q0 : Tl) (h0 : TlOk 1 1 q0) :
    CtrE Tryz.prog 360 [.slice (ad q0.g 0) 1 q0.cap, vi 0, vi 1, vi 1] G [(q0.g, Ob [vd 9] q0 212)] (T := Unit) (fun _ => True) (fun _ => .tuple #[]) (fun _ => [(q0.g, Ob [vd 9] q0 212)]) := by
  refine fn_enter 134 func360 rfl ntmps360 rfl ?_
  intro w0
  refine cR <| oA rfl <| oN <| cR <| oA rfl <| oN <| c_block <| c_rounds 999 <| c_block <| cR <| oM rfl <| oM rfl <| oI (vi 1) rfl rfl <| oA rfl <| oN <| c_seq <| cR <| oM rfl <| oI (.bool true) rfl rfl <| oN <| c_then rfl <| cR <| oM rfl <| oM rfl <| oM rfl ?_
  refine o_l rfl (l_calle call370 (z59 q0 h0) rfl rfl (.cons .head .nil)) ?_; intro r1 hr1
  refine o_cat (.cons .nil) <| oN <| c_ret <| WR.sel (.cons .head .nil) <| r_fn0 results360 ?_
  exact tells (y := ()) trivial rfl rfl

theorem z61 {G : HP} (q0 : Tl) (h0 : TlOk 1 1 q0) :
    CtrE Tryz.prog 339 [.slice (ad q0.g 0) 1 q0.cap] G [(q0.g, Ob [vd 9] q0 212)] (T := Unit) (fun _ => True) (fun _ => .tuple #[]) (fun _ => [(q0.g, Ob [vd 9] q0 212)]) := by
  refine fn_enter 11 func339 rfl ntmps339 rfl ?_
  intro w0
  refine cR <| oM rfl <| oX (eA (vi 1) (e_lenl runUnderlying472 rfl)) <| oA rfl <| oN <| c_region <| oM rfl <| oM rfl <| oM rfl <| oX (e_convc (r := vq 1) runUnderlying3 runUnderlying131 rfl (by kernel_rfl)) ?_
  refine o_l rfl (l_calle call66 (z58 ) rfl rfl .nil) ?_; intro r1 hr1
  refine o_cat .nil ?_
  refine o_l rfl (l_calle call360 (z60 q0 h0) rfl rfl (.cons .head .nil)) ?_; intro r2 hr2
  refine o_cat (.cons .nil) <| o_nil <| WN.sel (.cons .head .nil) <| n_fn0 results339 ?_
  exact tells (y := ()) trivial rfl rfl

theorem z62 {G : HP} (p0 : Nat) :
    CtrE Tryz.prog 326 [.agg #[], .slice (ad p0 0) 4 4, vd 9] G [(p0, C [ub 0, ub 0, ub 0, ub 0] 5)] (T := Unit) (fun _ => True) (fun _ => .tuple #[]) (fun _ => [(p0, C [ub 9, ub 0, ub 0, ub 0] 5)]) := by
  refine fn_enter 28 func326 rfl ntmps326 rfl ?_
  intro w0
  refine cR ?_
  refine o_l rfl (l_box rfl rfl rfl) ?_; intro g1 _
  refine oN <| cR <| oM rfl <| oX (eA (.pointer (ad p0 3)) (e_ia runUnderlying72 sizeOf5 rfl rfl (by decide) (by decide))) <| oX (e_load isAgg5 rfl (.inl M1) rfl) <| oN <| cR <| oM rfl <| oM rfl <| oX (e_convc (r := ub 9) runUnderlying212 runUnderlying5 rfl (by kernel_rfl)) ?_
  refine oX (eA (pv p0) (e_ia runUnderlying72 sizeOf5 rfl rfl (by decide) (by decide))) ?_
  refine o_l rfl (l_store sizeOf5 rfl rfl rfl (.tail .head) .head nofr0) ?_; intro _ _
  refine oN <| cR <| oM rfl <| oM rfl <| oX (e_shrc (r := vd 0) rfl rfl rfl (by kernel_rfl)) <| oX (e_convc (r := ub 0) runUnderlying212 runUnderlying5 rfl (by kernel_rfl)) <| oX (eA (.pointer (ad p0 1)) (e_ia runUnderlying72 sizeOf5 rfl rfl (by decide) (by decide))) ?_
  refine o_l rfl (l_store sizeOf5 rfl rfl rfl (.tail .head) (.tail .head) nofr0) ?_; intro _ _
  refine oN <| cR <| oM rfl <| oM rfl <| oX (e_shrc (r := vd 0) rfl rfl rfl (by kernel_rfl)) <| oX (e_convc (r := ub 0) runUnderlying212 runUnderlying5 rfl (by kernel_rfl)) <| oX (eA (.pointer (ad p0 2)) (e_ia runUnderlying72 sizeOf5 rfl rfl (by decide) (by decide))) ?_
  refine o_l rfl (l_store sizeOf5 rfl rfl rfl (.tail .head) (.tail (.tail .head)) nofr0) ?_; intro _ _
  refine oN <| c_region <| oM rfl <| oM rfl <| oX (e_shrc (r := vd 0) rfl rfl rfl (by kernel_rfl)) <| oX (e_convc (r := ub 0) runUnderlying212 runUnderlying5 rfl (by kernel_rfl)) <| oX (eA (.pointer (ad p0 3)) (e_ia runUnderlying72 sizeOf5 rfl rfl (by decide) (by decide))) ?_
  refine o_l rfl (l_store sizeOf5 rfl rfl rfl (.tail .head) (.tail (.tail (.tail .head))) nofr0) ?_; intro _ _
  refine o_nil <| WN.sel (.cons (.tail .head) .nil) <| n_fn0 results326 ?_
  exact tells (y := ()) trivial rfl rfl

theorem z63 {G : HP} (p0 : Nat) (p1 : Nat) :
    CtrE Tryz.prog 296 [pv p0, vi 4] G [(p0, C [.slice (ad p1 0) 6 64, vi 0, .int .i8 0] 86), (p1, C xb8 5)] (T := Unit) (fun _ => True) (fun _ => .tuple #[vi 6, .bool true]) (fun _ => [(p0, C [.slice (ad p1 0) 10 64, vi 0, .int .i8 0] 86), (p1, C xb8 5)]) := by
  refine fn_enter 33 func296 rfl ntmps296 rfl ?_
  intro w0
  refine cR <| oA rfl <| oA rfl <| oN <| c_seq <| cR <| oM rfl <| oC rfl <| oX (eA (pv p0) (e_fa runUnderlying86 rfl sizeOf72 rfl rfl)) <| oX (e_load isAgg72 rfl (.inl M0) rfl) <| oX (eA (vi 6) (e_lenl runUnderlying72 rfl)) <| oA rfl <| oN <| cR <| oM rfl <| oM rfl <| oC rfl ?_
  refine oX (eA (pv p0) (e_fa runUnderlying86 rfl sizeOf72 rfl rfl)) <| oX (e_load isAgg72 rfl (.inl M0) rfl) <| oX (eA (vi 64) (e_cap runUnderlying72 rfl)) <| oM rfl <| oI (vi 58) rfl rfl <| oI (.bool true) rfl rfl <| oN <| c_then rfl <| cR <| oM rfl <| oM rfl <| oC rfl ?_
  refine oX (eA (pv p0) (e_fa runUnderlying86 rfl sizeOf72 rfl rfl)) <| oX (e_load isAgg72 rfl (.inl M0) rfl) <| oM rfl <| oM rfl <| oI (vi 10) rfl rfl <| oX (eA (.slice (ad p1 0) 10 64) (e_sl_h runUnderlying72 sizeOf5 rfl rfl (by decide) (by decide))) <| oC rfl ?_
  refine oX (eA (pv p0) (e_fa runUnderlying86 rfl sizeOf72 rfl rfl)) ?_
  refine o_l rfl (l_store sizeOf72 rfl rfl rfl .head .head nofr0) ?_; intro _ _
  refine oN <| cR <| oM rfl <| oA rfl <| oA rfl <| oN <| c_ret <| WR.sel (.cons .head (.cons .head .nil)) <| r_fn (l := [.tmp 4, .tmp 5]) results296 rfl rfl ?_
  exact tells (y := ()) trivial rfl rfl

theorem z64 {G : HP} (p0 : Nat) (p1 : Nat) (p2 : Nat) :
    CtrE Tryz.prog 294 [pv p0, .slice (ad p2 0) 4 4] G [(p0, C [.slice (ad p1 0) 6 64, vi 0, .int .i8 0] 86), (p1, C xb8 5), (p2, C [ub 9, ub 0, ub 0, ub 0] 5)] (T := Unit) (fun _ => True) (fun _ => .tuple #[vi 4, .nilIface]) (fun _ => [(p0, C [.slice (ad p1 0) 10 64, vi 0, .int .i8 0] 86), (p1, C xb9 5), (p2, C [ub 9, ub 0, ub 0, ub 0] 5)]) := by
  refine fn_enter 32 func294 rfl ntmps294 rfl ?_
  intro w0
  refine cR <| oA rfl <| oA rfl <| oN <| cR <| oM rfl <| oC rfl <| oX (eA (.pointer (ad p0 2)) (e_fa runUnderlying86 rfl sizeOf84 rfl rfl)) ?_
  refine o_l rfl (l_store sizeOf84 rfl rfl rfl .head (.tail (.tail .head)) nofr0) ?_; intro _ _
  refine oN <| cR <| oM rfl <| oM rfl <| oX (eA (vi 4) (e_lenl runUnderlying72 rfl)) ?_
  refine o_l rfl (l_calle call296 (z63 (p0) (p1)) rfl rfl (.cons .head (.cons .head .nil))) ?_; intro r1 hr1
  refine o_cat (.cons (.cons .nil)) <| oM rfl <| oX (e_extract rfl rfl) <| oX (e_extract rfl rfl) <| oA rfl <| oA rfl <| oN <| c_seq <| cR <| oM rfl <| oX (eA (.bool false) (e_not rfl)) <| oN <| cL rfl <| cR <| oM rfl <| oC rfl <| oX (eA (pv p0) (e_fa runUnderlying86 rfl sizeOf72 rfl rfl)) ?_
  refine oX (e_load isAgg72 rfl (.inl M0) rfl) <| oM rfl <| oX (e_as (r := .slice (ad p1 6) 4 58) (e_sl_l runUnderlying72 sizeOf5 rfl rfl (by decide) (by decide) (by decide)) (by first | rfl | (simp; try omega))) <| oM rfl ?_
  refine o_l rfl (l_copy (vs := [ub 9, ub 0, ub 0, ub 0]) (k' := 4) runUnderlying72 sizeOf5 rfl rfl rfl (Sv.blk (vs := [ub 9, ub 0, ub 0, ub 0]) underlying72 (.inl M2) (.take (.take (.take (.take .done)))) (by simp [Value.oneCell'])) rfl (.tail .head) (.skip (.skip (.skip (.skip (.skip (.skip (.take (.take (.take (.take .done)))))))))) (.inr rfl)) ?_; intro _ _
  refine oA rfl <| oA rfl <| oN <| c_ret <| WR.sel (.cons .head (.cons .head (.cons .head .nil))) <| r_fn (l := [.tmp 4, .tmp 5]) results294 rfl rfl ?_
  exact tells (y := ()) trivial rfl rfl

theorem z65 {G : HP} (p0 : Nat) (p1 : Nat) :
    CtrE Tryz.prog 318 [.iface 89 (pv p0), vd 9] G [(p0, C [.slice (ad p1 0) 6 64, vi 0, .int .i8 0] 86), (p1, C xb8 5)] (T := Unit) (fun _ => True) (fun _ => .nilIface) (fun _ => [(p0, C [.slice (ad p1 0) 10 64, vi 0, .int .i8 0] 86), (p1, C xb9 5)]) := by
  refine fn_enter 20 func318 rfl ntmps318 rfl ?_
  intro w0
  refine cR <| oA rfl <| oN <| cR ?_
  refine o_l rfl (l_mksc (l := [ub 0, ub 0, ub 0, ub 0]) (n := 4) (m := 4) underlying72 (info_of typeInfo5) rfl rfl rfl rfl rfl rfl rfl (by decide) (by kernel_rfl)) ?_; intro g1 _
  refine oA rfl <| oN <| cR <| oX (e_load0 isAgg294 sizeOf294 rfl) <| oM rfl <| oM rfl ?_
  refine o_l rfl (l_calle call326 (z62 (g1)) rfl rfl (.cons .head .nil)) ?_; intro r2 hr2
  refine o_cat (.cons .nil) <| oN <| cR <| oM rfl <| oM rfl ?_
  refine o_l rfl (l_callie call294 (by intro w; kernel_rfl) (z64 (p0) (p1) (g1)) rfl rfl rfl (.cons (.tail .head) (.cons (.tail .head) (.cons .head .nil)))) ?_; intro r3 hr3
  refine o_cat (.cons (.cons (.cons .nil))) <| oM rfl <| oX (e_extract rfl rfl) <| oX (e_extract rfl rfl) <| oA rfl <| oA rfl <| oN <| cR <| oM rfl <| oA rfl <| oN <| c_ret <| WR.sel (.cons .head (.cons .head .nil)) <| r_fn1 results318 rfl ?_
  exact tells (y := ()) trivial rfl rfl

theorem z66 {G : HP} (p0 : Nat) :
    CtrE Tryz.prog 179 [.agg #[], .slice (ad p0 0) 8 8, vq 9] G [(p0, C xb10 5)] (T := Unit) (fun _ => True) (fun _ => .tuple #[]) (fun _ => [(p0, C xb11 5)]) := by
  refine fn_enter 48 func179 rfl ntmps179 rfl ?_
  intro w0
  refine cR ?_
  refine o_l rfl (l_box rfl rfl rfl) ?_; intro g1 _
  refine oN <| cR <| oM rfl <| oX (eA (.pointer (ad p0 7)) (e_ia runUnderlying72 sizeOf5 rfl rfl (by decide) (by decide))) <| oX (e_load isAgg5 rfl (.inl M1) rfl) <| oN <| cR <| oM rfl <| oM rfl <| oX (e_convc (r := ub 9) runUnderlying23 runUnderlying5 rfl (by kernel_rfl)) ?_
  refine oX (eA (pv p0) (e_ia runUnderlying72 sizeOf5 rfl rfl (by decide) (by decide))) ?_
  refine o_l rfl (l_store sizeOf5 rfl rfl rfl (.tail .head) .head nofr0) ?_; intro _ _
  refine oN <| cR <| oM rfl <| oM rfl <| oX (e_shrc (r := vq 0) rfl rfl rfl (by kernel_rfl)) <| oX (e_convc (r := ub 0) runUnderlying23 runUnderlying5 rfl (by kernel_rfl)) <| oX (eA (.pointer (ad p0 1)) (e_ia runUnderlying72 sizeOf5 rfl rfl (by decide) (by decide))) ?_
  refine o_l rfl (l_store sizeOf5 rfl rfl rfl (.tail .head) (.tail .head) nofr0) ?_; intro _ _
  refine oN <| cR <| oM rfl <| oM rfl <| oX (e_shrc (r := vq 0) rfl rfl rfl (by kernel_rfl)) <| oX (e_convc (r := ub 0) runUnderlying23 runUnderlying5 rfl (by kernel_rfl)) <| oX (eA (.pointer (ad p0 2)) (e_ia runUnderlying72 sizeOf5 rfl rfl (by decide) (by decide))) ?_
  refine o_l rfl (l_store sizeOf5 rfl rfl rfl (.tail .head) (.tail (.tail .head)) nofr0) ?_; intro _ _
  refine oN <| cR <| oM rfl <| oM rfl <| oX (e_shrc (r := vq 0) rfl rfl rfl (by kernel_rfl)) <| oX (e_convc (r := ub 0) runUnderlying23 runUnderlying5 rfl (by kernel_rfl)) <| oX (eA (.pointer (ad p0 3)) (e_ia runUnderlying72 sizeOf5 rfl rfl (by decide) (by decide))) ?_
  refine o_l rfl (l_store sizeOf5 rfl rfl rfl (.tail .head) (.tail (.tail (.tail .head))) nofr0) ?_; intro _ _
  refine oN <| cR <| oM rfl <| oM rfl <| oX (e_shrc (r := vq 0) rfl rfl rfl (by kernel_rfl)) <| oX (e_convc (r := ub 0) runUnderlying23 runUnderlying5 rfl (by kernel_rfl)) <| oX (eA (.pointer (ad p0 4)) (e_ia runUnderlying72 sizeOf5 rfl rfl (by decide) (by decide))) ?_
  refine o_l rfl (l_store sizeOf5 rfl rfl rfl (.tail .head) (.tail (.tail (.tail (.tail .head)))) nofr0) ?_; intro _ _
  refine oN <| cR <| oM rfl <| oM rfl <| oX (e_shrc (r := vq 0) rfl rfl rfl (by kernel_rfl)) <| oX (e_convc (r := ub 0) runUnderlying23 runUnderlying5 rfl (by kernel_rfl)) <| oX (eA (.pointer (ad p0 5)) (e_ia runUnderlying72 sizeOf5 rfl rfl (by decide) (by decide))) ?_
  refine o_l rfl (l_store sizeOf5 rfl rfl rfl (.tail .head) (.tail (.tail (.tail (.tail (.tail .head))))) nofr0) ?_; intro _ _
  refine oN <| cR <| oM rfl <| oM rfl <| oX (e_shrc (r := vq 0) rfl rfl rfl (by kernel_rfl)) <| oX (e_convc (r := ub 0) runUnderlying23 runUnderlying5 rfl (by kernel_rfl)) <| oX (eA (.pointer (ad p0 6)) (e_ia runUnderlying72 sizeOf5 rfl rfl (by decide) (by decide))) ?_
  refine o_l rfl (l_store sizeOf5 rfl rfl rfl (.tail .head) (.tail (.tail (.tail (.tail (.tail (.tail .head)))))) nofr0) ?_; intro _ _
  refine oN <| c_region <| oM rfl <| oM rfl <| oX (e_shrc (r := vq 0) rfl rfl rfl (by kernel_rfl)) <| oX (e_convc (r := ub 0) runUnderlying23 runUnderlying5 rfl (by kernel_rfl)) <| oX (eA (.pointer (ad p0 7)) (e_ia runUnderlying72 sizeOf5 rfl rfl (by decide) (by decide))) ?_
  refine o_l rfl (l_store sizeOf5 rfl rfl rfl (.tail .head) (.tail (.tail (.tail (.tail (.tail (.tail (.tail .head))))))) nofr0) ?_; intro _ _
  refine o_nil <| WN.sel (.cons (.tail .head) .nil) <| n_fn0 results179 ?_
  exact tells (y := ()) trivial rfl rfl

theorem z67 {G : HP} (p0 : Nat) (p1 : Nat) :
    CtrE Tryz.prog 296 [pv p0, vi 8] G [(p0, C [.slice (ad p1 0) 10 64, vi 0, .int .i8 0] 86), (p1, C xb9 5)] (T := Unit) (fun _ => True) (fun _ => .tuple #[vi 10, .bool true]) (fun _ => [(p0, C [.slice (ad p1 0) 18 64, vi 0, .int .i8 0] 86), (p1, C xb9 5)]) := by
  refine fn_enter 33 func296 rfl ntmps296 rfl ?_
  intro w0
  refine cR <| oA rfl <| oA rfl <| oN <| c_seq <| cR <| oM rfl <| oC rfl <| oX (eA (pv p0) (e_fa runUnderlying86 rfl sizeOf72 rfl rfl)) <| oX (e_load isAgg72 rfl (.inl M0) rfl) <| oX (eA (vi 10) (e_lenl runUnderlying72 rfl)) <| oA rfl <| oN <| cR <| oM rfl <| oM rfl <| oC rfl ?_
  refine oX (eA (pv p0) (e_fa runUnderlying86 rfl sizeOf72 rfl rfl)) <| oX (e_load isAgg72 rfl (.inl M0) rfl) <| oX (eA (vi 64) (e_cap runUnderlying72 rfl)) <| oM rfl <| oI (vi 54) rfl rfl <| oI (.bool true) rfl rfl <| oN <| c_then rfl <| cR <| oM rfl <| oM rfl <| oC rfl ?_
  refine oX (eA (pv p0) (e_fa runUnderlying86 rfl sizeOf72 rfl rfl)) <| oX (e_load isAgg72 rfl (.inl M0) rfl) <| oM rfl <| oM rfl <| oI (vi 18) rfl rfl <| oX (eA (.slice (ad p1 0) 18 64) (e_sl_h runUnderlying72 sizeOf5 rfl rfl (by decide) (by decide))) <| oC rfl ?_
  refine oX (eA (pv p0) (e_fa runUnderlying86 rfl sizeOf72 rfl rfl)) ?_
  refine o_l rfl (l_store sizeOf72 rfl rfl rfl .head .head nofr0) ?_; intro _ _
  refine oN <| cR <| oM rfl <| oA rfl <| oA rfl <| oN <| c_ret <| WR.sel (.cons .head (.cons .head .nil)) <| r_fn (l := [.tmp 4, .tmp 5]) results296 rfl rfl ?_
  exact tells (y := ()) trivial rfl rfl

theorem z68 {G : HP} (p0 : Nat) (p1 : Nat) (p2 : Nat) :
    CtrE Tryz.prog 294 [pv p0, .slice (ad p2 0) 8 8] G [(p0, C [.slice (ad p1 0) 10 64, vi 0, .int .i8 0] 86), (p1, C xb9 5), (p2, C xb11 5)] (T := Unit) (fun _ => True) (fun _ => .tuple #[vi 8, .nilIface]) (fun _ => [(p0, C [.slice (ad p1 0) 18 64, vi 0, .int .i8 0] 86), (p1, C xb12 5), (p2, C xb11 5)]) := by
  refine fn_enter 32 func294 rfl ntmps294 rfl ?_
  intro w0
  refine cR <| oA rfl <| oA rfl <| oN <| cR <| oM rfl <| oC rfl <| oX (eA (.pointer (ad p0 2)) (e_fa runUnderlying86 rfl sizeOf84 rfl rfl)) ?_
  refine o_l rfl (l_store sizeOf84 rfl rfl rfl .head (.tail (.tail .head)) nofr0) ?_; intro _ _
  refine oN <| cR <| oM rfl <| oM rfl <| oX (eA (vi 8) (e_lenl runUnderlying72 rfl)) ?_
  refine o_l rfl (l_calle call296 (z67 (p0) (p1)) rfl rfl (.cons .head (.cons .head .nil))) ?_; intro r1 hr1
  refine o_cat (.cons (.cons .nil)) <| oM rfl <| oX (e_extract rfl rfl) <| oX (e_extract rfl rfl) <| oA rfl <| oA rfl <| oN <| c_seq <| cR <| oM rfl <| oX (eA (.bool false) (e_not rfl)) <| oN <| cL rfl <| cR <| oM rfl <| oC rfl <| oX (eA (pv p0) (e_fa runUnderlying86 rfl sizeOf72 rfl rfl)) ?_
  refine oX (e_load isAgg72 rfl (.inl M0) rfl) <| oM rfl <| oX (e_as (r := .slice (ad p1 10) 8 54) (e_sl_l runUnderlying72 sizeOf5 rfl rfl (by decide) (by decide) (by decide)) (by first | rfl | (simp; try omega))) <| oM rfl ?_
  refine o_l rfl (l_copy (vs := xb11) (k' := 8) runUnderlying72 sizeOf5 rfl rfl rfl (Sv.blk (vs := xb11) underlying72 (.inl M2) (.take (.take (.take (.take (.take (.take (.take (.take .done)))))))) (by simp [Value.oneCell'])) rfl (.tail .head) (.skip (.skip (.skip (.skip (.skip (.skip (.skip (.skip (.skip (.skip (.take (.take (.take (.take (.take (.take (.take (.take .done)))))))))))))))))) (.inr rfl)) ?_; intro _ _
  refine oA rfl <| oA rfl <| oN <| c_ret <| WR.sel (.cons .head (.cons .head (.cons .head .nil))) <| r_fn (l := [.tmp 4, .tmp 5]) results294 rfl rfl ?_
  exact tells (y := ()) trivial rfl rfl

theorem z69 {G : HP} (p0 : Nat) (p1 : Nat) :
    CtrE Tryz.prog 328 [.iface 89 (pv p0), vq 9] G [(p0, C [.slice (ad p1 0) 10 64, vi 0, .int .i8 0] 86), (p1, C xb9 5)] (T := Unit) (fun _ => True) (fun _ => .nilIface) (fun _ => [(p0, C [.slice (ad p1 0) 18 64, vi 0, .int .i8 0] 86), (p1, C xb12 5)]) := by
  refine fn_enter 20 func328 rfl ntmps328 rfl ?_
  intro w0
  refine cR <| oA rfl <| oN <| cR ?_
  refine o_l rfl (l_mksc (l := xb10) (n := 8) (m := 8) underlying72 (info_of typeInfo5) rfl rfl rfl rfl rfl rfl rfl (by decide) (by kernel_rfl)) ?_; intro g1 _
  refine oA rfl <| oN <| cR <| oX (e_load0 isAgg294 sizeOf294 rfl) <| oM rfl <| oM rfl ?_
  refine o_l rfl (l_calle call179 (z66 (g1)) rfl rfl (.cons .head .nil)) ?_; intro r2 hr2
  refine o_cat (.cons .nil) <| oN <| cR <| oM rfl <| oM rfl ?_
  refine o_l rfl (l_callie call294 (by intro w; kernel_rfl) (z68 (p0) (p1) (g1)) rfl rfl rfl (.cons (.tail .head) (.cons (.tail .head) (.cons .head .nil)))) ?_; intro r3 hr3
  refine o_cat (.cons (.cons (.cons .nil))) <| oM rfl <| oX (e_extract rfl rfl) <| oX (e_extract rfl rfl) <| oA rfl <| oA rfl <| oN <| cR <| oM rfl <| oA rfl <| oN <| c_ret <| WR.sel (.cons .head (.cons .head .nil)) <| r_fn1 results328 rfl ?_
  exact tells (y := ()) trivial rfl rfl

theorem z70 {G : HP} (p0 : Nat) (p1 : Nat) :
    CtrE Tryz.prog 296 [pv p0, vi 9] G [(p0, C [.slice (ad p1 0) 18 64, vi 0, .int .i8 0] 86), (p1, C xb12 5)] (T := Unit) (fun _ => True) (fun _ => .tuple #[vi 18, .bool true]) (fun _ => [(p0, C [.slice (ad p1 0) 27 64, vi 0, .int .i8 0] 86), (p1, C xb12 5)]) := by
  refine fn_enter 33 func296 rfl ntmps296 rfl ?_
  intro w0
  refine cR <| oA rfl <| oA rfl <| oN <| c_seq <| cR <| oM rfl <| oC rfl <| oX (eA (pv p0) (e_fa runUnderlying86 rfl sizeOf72 rfl rfl)) <| oX (e_load isAgg72 rfl (.inl M0) rfl) <| oX (eA (vi 18) (e_lenl runUnderlying72 rfl)) <| oA rfl <| oN <| cR <| oM rfl <| oM rfl <| oC rfl ?_
  refine oX (eA (pv p0) (e_fa runUnderlying86 rfl sizeOf72 rfl rfl)) <| oX (e_load isAgg72 rfl (.inl M0) rfl) <| oX (eA (vi 64) (e_cap runUnderlying72 rfl)) <| oM rfl <| oI (vi 46) rfl rfl <| oI (.bool true) rfl rfl <| oN <| c_then rfl <| cR <| oM rfl <| oM rfl <| oC rfl ?_
  refine oX (eA (pv p0) (e_fa runUnderlying86 rfl sizeOf72 rfl rfl)) <| oX (e_load isAgg72 rfl (.inl M0) rfl) <| oM rfl <| oM rfl <| oI (vi 27) rfl rfl <| oX (eA (.slice (ad p1 0) 27 64) (e_sl_h runUnderlying72 sizeOf5 rfl rfl (by decide) (by decide))) <| oC rfl ?_
  refine oX (eA (pv p0) (e_fa runUnderlying86 rfl sizeOf72 rfl rfl)) ?_
  refine o_l rfl (l_store sizeOf72 rfl rfl rfl .head .head nofr0) ?_; intro _ _
  refine oN <| cR <| oM rfl <| oA rfl <| oA rfl <| oN <| c_ret <| WR.sel (.cons .head (.cons .head .nil)) <| r_fn (l := [.tmp 4, .tmp 5]) results296 rfl rfl ?_
  exact tells (y := ()) trivial rfl rfl

theorem z71 {G : HP} (p0 : Nat) (p1 : Nat) (p2 : Nat) :
    CtrE Tryz.prog 294 [pv p0, .slice (ad p2 0) 9 9] G [(p0, C [.slice (ad p1 0) 18 64, vi 0, .int .i8 0] 86), (p1, C xb12 5), (p2, C xb3 5)] (T := Unit) (fun _ => True) (fun _ => .tuple #[vi 9, .nilIface]) (fun _ => [(p0, C [.slice (ad p1 0) 27 64, vi 0, .int .i8 0] 86), (p1, C xb13 5), (p2, C xb3 5)]) := by
  refine fn_enter 32 func294 rfl ntmps294 rfl ?_
  intro w0
  refine cR <| oA rfl <| oA rfl <| oN <| cR <| oM rfl <| oC rfl <| oX (eA (.pointer (ad p0 2)) (e_fa runUnderlying86 rfl sizeOf84 rfl rfl)) ?_
  refine o_l rfl (l_store sizeOf84 rfl rfl rfl .head (.tail (.tail .head)) nofr0) ?_; intro _ _
  refine oN <| cR <| oM rfl <| oM rfl <| oX (eA (vi 9) (e_lenl runUnderlying72 rfl)) ?_
  refine o_l rfl (l_calle call296 (z70 (p0) (p1)) rfl rfl (.cons .head (.cons .head .nil))) ?_; intro r1 hr1
  refine o_cat (.cons (.cons .nil)) <| oM rfl <| oX (e_extract rfl rfl) <| oX (e_extract rfl rfl) <| oA rfl <| oA rfl <| oN <| c_seq <| cR <| oM rfl <| oX (eA (.bool false) (e_not rfl)) <| oN <| cL rfl <| cR <| oM rfl <| oC rfl <| oX (eA (pv p0) (e_fa runUnderlying86 rfl sizeOf72 rfl rfl)) ?_
  refine oX (e_load isAgg72 rfl (.inl M0) rfl) <| oM rfl <| oX (e_as (r := .slice (ad p1 18) 9 46) (e_sl_l runUnderlying72 sizeOf5 rfl rfl (by decide) (by decide) (by decide)) (by first | rfl | (simp; try omega))) <| oM rfl ?_
  refine o_l rfl (l_copy (vs := xb3) (k' := 9) runUnderlying72 sizeOf5 rfl rfl rfl (Sv.blk (vs := xb3) underlying72 (.inl M2) (.take (.take (.take (.take (.take (.take (.take (.take (.take .done))))))))) (by simp [Value.oneCell'])) rfl (.tail .head) (.skip (.skip (.skip (.skip (.skip (.skip (.skip (.skip (.skip (.skip (.skip (.skip (.skip (.skip (.skip (.skip (.skip (.skip (.take (.take (.take (.take (.take (.take (.take (.take (.take .done))))))))))))))))))))))))))) (.inr rfl)) ?_; intro _ _
  refine oA rfl <| oA rfl <| oN <| c_ret <| WR.sel (.cons .head (.cons .head (.cons .head .nil))) <| r_fn (l := [.tmp 4, .tmp 5]) results294 rfl rfl ?_
  exact tells (y := ()) trivial rfl rfl

theorem z72 {G : HP} (p0 : Nat) (p1 : Nat) (p2 : Nat) (p3 : Nat) :
    CtrE Tryz.prog 340 [pv p0, .iface 89 (pv p2)] G [(p0, C [vd 9, vq 1, .slice (ad p1 0) 9 9] 448), (p1, C xb3 5), (p2, C [.slice (ad p3 0) 6 64, vi 0, .int .i8 0] 86), (p3, C xb8 5)] (T := Unit) (fun _ => True) (fun _ => .tuple #[vq 21, .nilIface]) (fun _ => [(p0, C [vd 9, vq 1, .slice (ad p1 0) 9 9] 448), (p1, C xb3 5), (p2, C [.slice (ad p3 0) 27 64, vi 0, .int .i8 0] 86), (p3, C xb13 5)]) := by
  refine fn_enter 53 func340 rfl ntmps340 rfl ?_
  intro w0
  refine cR <| oA rfl <| oA rfl <| oN <| cR <| oA rfl <| oN <| c_seq <| cR <| oM rfl <| oM rfl <| oC rfl <| oX (eA (pv p0) (e_fa runUnderlying448 rfl sizeOf212 rfl rfl)) <| oX (e_load isAgg212 rfl (.inl M0) rfl) ?_
  refine o_l rfl (l_calle call318 (z65 (p2) (p3)) rfl rfl (.cons (.tail (.tail .head)) (.cons (.tail (.tail .head)) .nil))) ?_; intro r1 hr1
  refine o_cat (.cons (.cons .nil)) <| oA rfl <| oN <| cR <| oM rfl <| oX (e_nnen runUnderlying80 rfl) <| oN <| cL rfl <| cR <| oM rfl <| oI (vq 4) rfl rfl <| oA rfl <| oN <| c_seq <| cR <| oM rfl <| oM rfl <| oC rfl ?_
  refine oX (eA (.pointer (ad p0 2)) (e_fa runUnderlying448 rfl sizeOf72 rfl rfl)) <| oX (e_load isAgg72 rfl (.inl M2) rfl) <| oX (eA (vi 9) (e_lenl runUnderlying72 rfl)) <| oX (e_convc (r := vq 9) runUnderlying3 runUnderlying23 rfl (by kernel_rfl)) ?_
  refine o_l rfl (l_calle call328 (z69 (p2) (p3)) rfl rfl (.cons .head (.cons .head .nil))) ?_; intro r2 hr2
  refine o_cat (.cons (.cons .nil)) <| oA rfl <| oN <| cR <| oM rfl <| oX (e_nnen runUnderlying80 rfl) <| oN <| cL rfl <| cR <| oM rfl <| oI (vq 12) rfl rfl <| oA rfl <| oN <| c_seq ?_
  refine c_regiond [(p0, C [vd 9, vq 1, .slice (ad p1 0) 9 9] 448), (p1, C xb3 5)] (by kernel_rfl) (.cons _ (.cons _ (.cons_cons _ (.cons_cons _ (.slnil))))) <| dX 0 rfl (e_move rfl) ?_
  refine dX 1 rfl (e_move rfl) <| dX 2 rfl (e_nilCheck rfl) <| dX 3 rfl (eA (.pointer (ad p0 2)) (e_fa runUnderlying448 rfl sizeOf72 rfl rfl)) ?_
  refine dX 4 rfl (e_load isAgg72 rfl (.inl M0) rfl) <| dX 5 rfl (e_func rfl rfl) <| dX 6 rfl (e_nilm (by intro w; kernel_rfl) rfl) <| dX 7 rfl (e_move rfl) ?_
  refine d_l 8 (by kernel_rfl) rfl rfl (l_callie call294 (by intro w; kernel_rfl) (z71 (p2) (p3) (p1)) rfl rfl rfl (.cons .head (.cons .head (.cons (.tail .head) .nil)))) (fun _ _ => hs_cons M3 (hs_cons M2 (hs_nil))) ?_
  intro r3 hr3
  refine d_cat (.cons (.cons (.cons .nil))) <| dX 9 rfl (e_move rfl) <| dX 10 rfl (e_extract rfl rfl) <| dX 11 rfl (e_extract rfl rfl) <| dX 12 rfl (e_assign rfl) ?_
  refine dX 13 rfl (e_assign rfl) <| dN <| n_code <| cR <| oM rfl <| oM rfl <| oX (e_convc (r := vq 9) runUnderlying3 runUnderlying23 rfl (by kernel_rfl)) <| oI (vq 21) rfl rfl <| oM rfl <| oA rfl <| oA rfl <| oN <| c_ret ?_
  refine WR.sel (.cons (.tail (.tail (.tail .head))) (.cons (.tail (.tail .head)) (.cons .head (.cons .head .nil)))) <| r_fn (l := [.tmp 4, .tmp 5]) results340 rfl rfl ?_
  exact tells (y := ()) trivial rfl rfl

theorem z73 {G : HP} (p0 : Nat) (p1 : Nat) (p2 : Nat) (p3 : Nat) (p4 : Nat) :
    CtrE Tryz.prog 329 [pv p0, .iface 89 (pv p3)] G [(p0, C [.map (some p1)] 327), (p1, Mo .u32 [(9, .agg #[vd 9, vq 1, .slice (ad p2 0) 9 9])]), (p2, C xb3 5), (p3, C [.slice (ad p4 0) 2 64, vi 0, .int .i8 0] 86), (p4, C xb7 5)] (T := Unit) (fun _ => True) (fun _ => .tuple #[vq 25, .nilIface]) (fun _ => [(p0, C [.map (some p1)] 327), (p1, Mo .u32 [(9, .agg #[vd 9, vq 1, .slice (ad p2 0) 9 9])]), (p2, C xb3 5), (p3, C [.slice (ad p4 0) 27 64, vi 0, .int .i8 0] 86), (p4, C xb13 5)]) := by
  refine fn_enter 72 func329 rfl ntmps329 rfl ?_
  intro w0
  refine cR <| oA rfl <| oA rfl <| oN <| cR <| oA rfl <| oN <| c_seq <| cR <| oM rfl <| oM rfl <| oC rfl <| oX (e_load isAgg327 rfl (.inl M0) rfl) <| oX (eA (vi 1) (e_lenm runUnderlying327 rfl (.inl M1))) <| oX (e_convc (r := vd 1) runUnderlying3 runUnderlying212 rfl (by kernel_rfl)) ?_
  refine o_l rfl (l_calle call318 (z57 (p3) (p4)) rfl rfl (.cons (.tail (.tail (.tail .head))) (.cons (.tail (.tail (.tail .head))) .nil))) ?_; intro r1 hr1
  refine o_cat (.cons (.cons .nil)) <| oA rfl <| oN <| cR <| oM rfl <| oX (e_nnen runUnderlying80 rfl) <| oN <| cL rfl <| cR <| oM rfl <| oI (vq 4) rfl rfl <| oA rfl <| oN <| cR <| oM rfl <| oC rfl <| oX (e_load isAgg327 rfl (.inl M2) rfl) ?_
  refine oX (eA (vi 1) (e_lenm runUnderlying327 rfl (.inl M3))) ?_
  refine o_l rfl (l_mksc (l := [vd 0]) (n := 0) (m := 1) underlying472 (info_of typeInfo212) rfl rfl rfl rfl rfl rfl rfl (by decide) (by kernel_rfl)) ?_; intro g2 _
  refine oA rfl <| oN <| c_seq <| cR <| oM rfl <| oC rfl <| oX (e_load isAgg327 rfl (.inl M3) rfl) ?_
  refine o_l rfl (l_range runUnderlying327 rfl rfl (.inl M4)) ?_; intro g3 _
  refine oN <| c_block <| c_rounds 999 <| cR ?_
  refine o_l rfl (l_next1 0 rfl rfl (.inl M5) .head rfl rfl rfl) ?_; intro _ _
  refine oX (e_extract rfl rfl) <| oN <| c_seq <| c_then rfl <| c_skip <| n_code <| c_block <| cR <| oX (e_entry (j := 0) (seen := []) rfl (.inl M0) (.inl M5) rfl) <| oX (e_extract rfl rfl) <| oA rfl <| oN <| c_region <| oM rfl <| oM rfl ?_
  refine o_l rfl (l_bs1 runUnderlying472 sizeOf212 zeroValue212 rfl rfl rfl) ?_; intro g4 _
  refine o_l rfl (l_app (off := 1) (L := [vd 9]) underlying472 (info_of typeInfo212) rfl rfl rfl rfl rfl rfl (.tail (.tail .head)) rfl (by decide) (by decide) (.inr rfl) .done (Sv.blk (vs := [vd 9]) underlying472 (.inl M0) (.take .done) (by simp [Value.oneCell'])) .nil rfl rfl rfl rfl) ?_; intro y5 hy5
  refine oA rfl <| o_nil <| n_block <| n_rounds <| c_keep (sK 8 rfl <| sK 44 rfl <| sK 43 rfl <| sK 42 rfl <| sK 41 rfl <| sK 9 rfl <| sK 40 rfl <| sK 39 rfl <| sK 38 rfl <| sK 37 rfl <| sK 36 rfl <| sK 6 rfl <| sK 5 rfl <| sK 4 rfl <| sK 1 rfl <| sK 0 rfl <| sub_nil) <| cR ?_
  refine o_l rfl (l_next0 rfl rfl (.inl M6) M2 rfl) ?_; intro _ _
  refine oX (e_extract rfl rfl) <| oN <| c_seq <| c_else rfl <| c_exit <| x_code <| x_upto <| x_here <| n_code <| cR <| oM rfl ?_
  refine o_l rfl (l_calle call339 (z61 y5 hy5) rfl rfl (.cons .head .nil)) ?_; intro r6 hr6
  refine o_cat (.cons .nil) <| oN <| c_seq <| cR <| oM rfl <| oX (eA (vi 1) (e_lenl runUnderlying472 rfl)) <| oM rfl <| oN <| c_block <| c_rounds 999 <| cR <| oI (.bool true) rfl rfl <| oN <| c_seq <| c_then rfl <| c_skip <| n_code <| c_seq <| c_block <| cR ?_
  refine oX (eA (pv y5.g) (e_ia runUnderlying472 sizeOf212 rfl rfl (by decide) (by decide))) <| oX (e_load isAgg212 rfl (.inl M0) rfl) <| oA rfl <| oN <| cR <| oM rfl <| oC rfl <| oX (e_load isAgg327 rfl (.inl M5) rfl) <| oM rfl ?_
  refine oX (e_as (r := .agg #[vd 9, vq 1, .slice (ad p2 0) 9 9]) (e_lookup runUnderlying327 runUnderlying212 zeroValue448 rfl rfl (.inl M6)) (by kernel_rfl)) ?_
  refine o_l rfl (l_alloc zeroValue448 rfl rfl) ?_; intro g7 _
  refine o_l rfl (l_storea sizeOf448 rfl rfl rfl (by simp [Value.oneCell']) .head (.take (.take (.take .done))) nofrs0) ?_; intro _ _
  refine oN <| cR <| oM rfl ?_
  refine o_l rfl (l_calle call340 (z72 (g7) (p2) (p3) (p4)) rfl rfl (.cons .head (.cons (.tail (.tail (.tail (.tail (.tail (.tail (.tail .head))))))) (.cons (.tail (.tail (.tail .head))) (.cons (.tail (.tail (.tail .head))) .nil))))) ?_; intro r8 hr8
  refine o_cat (.cons (.cons (.cons (.cons .nil)))) <| oM rfl <| oX (e_extract rfl rfl) <| oX (e_extract rfl rfl) <| oA rfl <| oA rfl <| oN <| cR <| oM rfl <| oM rfl <| oI (vq 25) rfl rfl <| oA rfl <| oN <| cR <| oM rfl <| oX (e_nnen runUnderlying80 rfl) <| oN <| c_else rfl <| c_skip <| n_block <| n_code <| c_region ?_
  refine oI (vi 1) rfl rfl <| oM rfl <| o_nil <| n_rounds ?_
  refine c_keep (sK 49 rfl <| sK 70 rfl <| sK 67 rfl <| sK 66 rfl <| sK 6 rfl <| sK 65 rfl <| sK 64 rfl <| sK 63 rfl <| sK 14 rfl <| sK 13 rfl <| sK 62 rfl <| sK 61 rfl <| sK 58 rfl <| sK 60 rfl <| sK 59 rfl <| sK 12 rfl <| sK 57 rfl <| sK 56 rfl <| sK 55 rfl <| sK 54 rfl <| sK 53 rfl <| sK 11 rfl <| sK 52 rfl <| sK 51 rfl <| sK 50 rfl <| sK 48 rfl <| sK 47 rfl <| sK 5 rfl <| sK 4 rfl <| sK 1 rfl <| sK 0 rfl <| sub_nil) ?_
  refine cR <| oI (.bool false) rfl rfl <| oN <| c_seq <| c_else rfl <| c_exit <| x_code <| x_upto <| x_here <| n_code <| cR <| oM rfl <| oA rfl <| oA rfl <| oN <| c_ret <| WR.sel (.cons (.tail (.tail (.tail (.tail (.tail (.tail (.tail .head))))))) (.cons (.tail (.tail (.tail (.tail (.tail (.tail (.tail .head))))))) (.cons (.tail .head) (.cons (.tail .head) (.cons (.tail .head) .nil))))) ?_
  refine r_fn (l := [.tmp 4, .tmp 5]) results329 rfl rfl ?_
  exact tells (y := ()) trivial rfl rfl

theorem z74 {G : HP} (p0 : Nat) (p1 : Nat) (p2 : Nat) (p3 : Nat) :
    CtrE Tryz.prog 42 [.iface 328 (pv p0), .iface 89 (pv p3)] G [(p0, C [.map (some p1)] 327), (p1, Mo .u32 [(9, .agg #[vd 9, vq 1, .slice (ad p2 0) 9 9])]), (p2, C xb3 5), (p3, C [.slice none 0 0, vi 0, .int .i8 0] 86)] (T := Nat) (fun _ => True) (fun y => .tuple #[vq 27, .nilIface]) (fun y => [(p0, C [.map (some p1)] 327), (p1, Mo .u32 [(9, .agg #[vd 9, vq 1, .slice (ad p2 0) 9 9])]), (p2, C xb3 5), (p3, C [.slice (ad y 0) 27 64, vi 0, .int .i8 0] 86), (y, C xb13 5)]) := by
  refine fn_enter 43 func42 rfl ntmps42 rfl ?_
  intro w0
  refine cR <| oA rfl <| oA rfl <| oN <| cR ?_
  refine o_l rfl (l_mksc (l := xb0) (n := 10) (m := 10) underlying72 (info_of typeInfo5) rfl rfl rfl rfl rfl rfl rfl (by decide) (by kernel_rfl)) ?_; intro g1 _
  refine oA rfl <| oN <| cR <| oM rfl <| oM rfl ?_
  refine o_l rfl (l_callie call401 (by intro w; kernel_rfl) (z47 (p0) (p1) (p2)) rfl rfl rfl (.cons (.tail .head) (.cons (.tail .head) (.cons (.tail .head) .nil)))) ?_; intro r2 hr2
  refine o_cat (.cons (.cons (.cons .nil))) ?_
  refine o_l rfl (l_calle call77 (z49 (g1)) rfl rfl (.cons (.tail (.tail (.tail .head))) .nil)) ?_; intro r3 hr3
  refine o_cat (.cons .nil) <| oA rfl <| oN <| c_seq ?_
  refine c_regiond [(g1, C xb5 5), (p0, C [.map (some p1)] 327), (p1, Mo .u32 [(9, .agg #[vd 9, vq 1, .slice (ad p2 0) 9 9])]), (p2, C xb3 5)] (by kernel_rfl) (.cons_cons _ (.cons_cons _ (.cons_cons _ (.cons_cons _ (.cons _ (.slnil)))))) ?_
  refine dX 0 rfl (e_move rfl) <| dX 1 rfl (e_move rfl) <| dX 2 rfl (e_move rfl) ?_
  refine dX 3 rfl (eA (.slice (ad g1 0) 2 10) (e_sl_h runUnderlying72 sizeOf5 rfl rfl (by decide) (by decide))) <| dX 4 rfl (e_func rfl rfl) <| dX 5 rfl (e_nilm (by intro w; kernel_rfl) rfl) ?_
  refine dX 6 rfl (e_move rfl) ?_
  refine d_l 7 (by kernel_rfl) rfl rfl (l_callie call294 (by intro w; kernel_rfl) (z53 (p3) (g1)) rfl rfl rfl (.cons (.tail (.tail (.tail (.tail .head)))) (.cons .head .nil))) (fun _ _ => hs_cons M1 (hs_cons M3 (hs_cons M4 (hs_cons M5 (hs_nil))))) ?_
  intro r4 hr4
  refine d_cat (.cons (.cons (.cons .nil))) <| dX 8 rfl (e_move rfl) <| dX 9 rfl (e_extract rfl rfl) <| dX 10 rfl (e_extract rfl rfl) <| dX 11 rfl (e_assign rfl) ?_
  refine dX 12 rfl (e_assign rfl) <| dN <| n_code <| c_seq <| cR <| oM rfl <| oX (e_nnen runUnderlying80 rfl) <| oN <| cL rfl <| cR <| oM rfl <| oM rfl ?_
  refine o_l rfl (l_callie call329 (by intro w; kernel_rfl) (z73 (p0) (p1) (p2) (p3) (r4)) rfl rfl rfl (.cons (.tail (.tail (.tail .head))) (.cons (.tail (.tail (.tail .head))) (.cons (.tail (.tail (.tail .head))) (.cons .head (.cons (.tail .head) .nil)))))) ?_; intro r5 hr5
  refine o_cat (.cons (.cons (.cons (.cons (.cons .nil))))) <| oM rfl <| oX (e_extract rfl rfl) <| oX (e_extract rfl rfl) <| oA rfl <| oA rfl <| oN <| cR <| oM rfl <| oX (e_convc (r := vq 2) runUnderlying3 runUnderlying23 rfl (by kernel_rfl)) <| oM rfl <| oI (vq 27) rfl rfl <| oM rfl <| oA rfl <| oA rfl <| oN <| c_ret ?_
  refine WR.sel (.cons .head (.cons .head (.cons .head (.cons .head (.cons .head .nil))))) <| r_fn (l := [.tmp 4, .tmp 5]) results42 rfl rfl ?_
  exact tells (y := (r4)) trivial rfl rfl

theorem z75 {G : HP} (p0 : Nat) (p1 : Nat) :
    CtrE Tryz.prog 44 [pv p0] G [(p0, C [.slice (ad p1 0) 27 64, vi 0, .int .i8 0] 86), (p1, C xb13 5)] (T := Unit) (fun _ => True) (fun _ => S [128, 8, 1, 0, 0, 0, 9, 0, 0, 0, 9, 0, 0, 0, 0, 0, 0, 0, 97, 7, 0, 0, 0, 0, 0, 0, 0]) (fun _ => [(p0, C [.slice (ad p1 0) 27 64, vi 0, .int .i8 0] 86), (p1, C xb13 5)]) := by
  refine fn_enter 15 func44 rfl ntmps44 rfl ?_
  intro w0
  refine cR <| oA rfl <| oN <| c_seq <| cR <| oM rfl <| oX (eA (.bool false) (e_peqn runUnderlying89 rfl)) <| oN <| cL rfl <| c_seq <| cQ <| qM rfl <| qC rfl <| qX (eA (pv p0) (e_fa runUnderlying86 rfl sizeOf72 rfl rfl)) ?_
  refine qX (e_load isAgg72 rfl (.inl M0) rfl) <| qM rfl <| qC rfl <| qX (eA (.pointer (ad p0 1)) (e_fa runUnderlying86 rfl sizeOf3 rfl rfl)) <| qX (e_load isAgg3 rfl (.inl M0) rfl) ?_
  refine qX (e_as (r := .slice (ad p1 0) 27 64) (e_sl_l runUnderlying72 sizeOf5 rfl rfl (by decide) (by decide) (by decide)) (by first | rfl | (simp; try omega))) ?_
  refine qX (e_bs (bs := [128, 8, 1, 0, 0, 0, 9, 0, 0, 0, 9, 0, 0, 0, 0, 0, 0, 0, 97, 7, 0, 0, 0, 0, 0, 0, 0]) underlying72 underlying5 underlying9 rfl (.inl M1) (.take (.take (.take (.take (.take (.take (.take (.take (.take (.take (.take (.take (.take (.take (.take (.take (.take (.take (.take (.take (.take (.take (.take (.take (.take (.take (.take .done)))))))))))))))))))))))))))) <| qA rfl <| qN <| c_ret ?_
  refine WR.sel (.cons .head (.cons .head .nil)) <| r_fn1 results44 rfl ?_
  exact tells (y := ()) trivial rfl rfl

theorem z76 {G : HP} (p0 : Nat) (p1 : Nat) (p2 : Nat) :
    CtrE Tryz.prog 59 [.iface 328 (pv p0), .nilIface] G [(p0, C [.map (some p1)] 327), (p1, Mo .u32 [(9, .agg #[vd 9, vq 1, .slice (ad p2 0) 9 9])]), (p2, C xb3 5)] (T := Unit) (fun _ => True) (fun _ => .tuple #[S [128, 8, 1, 0, 0, 0, 9, 0, 0, 0, 9, 0, 0, 0, 0, 0, 0, 0, 97, 7, 0, 0, 0, 0, 0, 0, 0], .bool true]) (fun _ => [(p0, C [.map (some p1)] 327), (p1, Mo .u32 [(9, .agg #[vd 9, vq 1, .slice (ad p2 0) 9 9])]), (p2, C xb3 5)]) := by
  refine fn_enter 20 func59 rfl ntmps59 rfl ?_
  intro w0
  refine cR <| oA rfl <| oA rfl <| oN <| c_seq <| cR <| oM rfl <| oX (e_nnen runUnderlying80 rfl) <| oN <| cL rfl <| cR ?_
  refine o_l rfl (l_alloc zeroValue86 rfl rfl) ?_; intro g1 _
  refine oN <| c_seq <| cR <| oM rfl <| oX (e_mkif runUnderlying89 rfl rfl) ?_
  refine o_l rfl (l_calle call42 (z74 (p0) (p1) (p2) (g1)) rfl rfl (.cons (.tail .head) (.cons (.tail .head) (.cons (.tail .head) (.cons .head .nil))))) ?_; intro r2 hr2
  refine o_cat (.cons (.cons (.cons (.cons (.cons .nil))))) <| oM rfl <| oX (e_extract rfl rfl) <| oX (e_extract rfl rfl) <| oA rfl <| oA rfl <| oN <| cR <| oM rfl <| oX (e_nnen runUnderlying80 rfl) <| oN <| cL rfl <| cR ?_
  refine o_l rfl (l_calle call44 (z75 (g1) (r2)) rfl rfl (.cons (.tail (.tail (.tail .head))) (.cons (.tail (.tail (.tail .head))) .nil))) ?_; intro r3 hr3
  refine o_cat (.cons (.cons .nil)) <| oA rfl <| oA rfl <| oN <| c_ret <| WR.sel (.cons (.tail (.tail .head)) (.cons (.tail (.tail .head)) (.cons (.tail (.tail .head)) .nil))) <| r_fn (l := [.tmp 4, .tmp 5]) results59 rfl rfl ?_
  exact tells (y := ()) trivial rfl rfl

theorem z77 {G : HP} (p0 : Nat) :
    CtrE Tryz.prog 56 [.slice (ad p0 0) 1 1, vq 1024] G [(p0, C [vq 1, vq 85, vq 0, S [97], vq 7] 56)] (T := Unit) (fun _ => True) (fun _ => .tuple #[S [128, 8, 1, 0, 0, 0, 9, 0, 0, 0, 9, 0, 0, 0, 0, 0, 0, 0, 97, 7, 0, 0, 0, 0, 0, 0, 0], .bool true]) (fun _ => [(p0, C [vq 1, vq 85, vq 0, S [97], vq 7] 56)]) := by
  refine fn_enter 49 func56 rfl ntmps56 rfl ?_
  intro w0
  refine cR <| oA rfl <| oA rfl <| oN <| cR <| oM rfl ?_
  refine o_l rfl (l_calle call76 (z3 ) rfl rfl .nil) ?_; intro r1 hr1
  refine o_cat (.cons (.cons .nil)) <| oM rfl <| oX (e_extract rfl rfl) <| oX (e_extract rfl rfl) <| oA rfl <| oA rfl <| oN <| c_seq <| cR <| oM rfl <| oX (e_nnen runUnderlying80 rfl) <| oN <| cL rfl <| cR <| oA rfl <| oN <| c_seq <| cR <| oM rfl <| oX (eA (vi 1) (e_lenl runUnderlying22 rfl)) <| oM rfl <| oN ?_
  refine c_block <| c_rounds 999 <| cR <| oI (.bool true) rfl rfl <| oN <| c_seq <| c_then rfl <| c_skip <| n_code <| c_seq <| c_block <| cR <| oX (eA (pv p0) (e_ia runUnderlying22 sizeOf56 rfl rfl (by decide) (by decide))) <| oX (e_loada isAgg56 sizeOf56 rfl (.inl M2) (.take (.take (.take (.take (.take .done)))))) ?_
  refine o_l rfl (l_alloc zeroValue56 rfl rfl) ?_; intro g2 _
  refine o_l rfl (l_storea sizeOf56 rfl rfl rfl (by simp [Value.oneCell']) .head (.take (.take (.take (.take (.take .done))))) nofrs0) ?_; intro _ _
  refine oN <| cR <| oX (eA (pv g2) (e_fa runUnderlying56 rfl sizeOf25 rfl rfl)) <| oX (e_loada isAgg25 sizeOf25 rfl (.inl M0) (.take (.take (.take (.take .done))))) ?_
  refine o_l rfl (l_calle call68 (z28 ) rfl rfl .nil) ?_; intro r3 hr3
  refine o_cat .nil <| oM rfl <| oX (e_extract rfl rfl) <| oX (e_extract rfl rfl) ?_
  refine o_l rfl (l_alloc zeroValue111 rfl rfl) ?_; intro g4 _
  refine o_l rfl (l_storea sizeOf111 rfl rfl rfl (by simp [Value.oneCell']) .head (.take .done) nofrs0) ?_; intro _ _
  refine oA rfl <| oN <| c_seq <| cR <| oM rfl <| oX (eA (.bool false) (e_not rfl)) <| oN <| cL rfl <| c_region <| oM rfl <| oX (e_loada isAgg111 sizeOf111 rfl (.inl M0) (.take .done)) <| oX (eA (.pointer (ad g2 4)) (e_fa runUnderlying56 rfl sizeOf23 rfl rfl)) <| oX (e_load isAgg23 rfl (.inl M1) rfl) ?_
  refine oX (e_build (vs := [S [1, 85, 0, 1, 97], vq 7]) runUnderlying184 zeroValue184 (.cons sizeOf111 (.cons sizeOf23 .nil)) rfl (by kernel_rfl)) ?_
  refine o_l rfl (l_bs (l := [S [1, 85, 0, 1, 97], vq 7]) runUnderlying182 sizeOf184 zeroValue184 rfl rfl rfl rfl (by kernel_rfl)) ?_; intro g5 _
  refine o_l rfl (l_app0 (vs := [S [1, 85, 0, 1, 97], vq 7]) underlying182 (info_of typeInfo184) rfl rfl rfl rfl rfl rfl (Sv.blk (vs := [S [1, 85, 0, 1, 97], vq 7]) underlying182 (.inl M0) (.take (.take .done)) (by simp [Value.oneCell'])) rfl rfl rfl) ?_; intro y6 hy6
  refine oA rfl <| o_nil <| n_block <| n_code <| c_region <| oI (vi 1) rfl rfl <| oM rfl <| o_nil <| n_rounds ?_
  refine c_keep (sK 22 rfl <| sK 41 rfl <| sK 8 rfl <| sK 40 rfl <| sK 39 rfl <| sK 38 rfl <| sK 37 rfl <| sK 36 rfl <| sK 35 rfl <| sK 34 rfl <| sK 33 rfl <| sK 32 rfl <| sK 12 rfl <| sK 11 rfl <| sK 31 rfl <| sK 30 rfl <| sK 26 rfl <| sK 29 rfl <| sK 28 rfl <| sK 27 rfl <| sK 10 rfl <| sK 25 rfl <| sK 24 rfl <| sK 23 rfl <| sK 21 rfl <| sK 20 rfl <| sK 6 rfl <| sK 5 rfl <| sK 4 rfl <| sub_nil) ?_
  refine cR <| oI (.bool false) rfl rfl <| oN <| c_seq <| c_else rfl <| c_exit <| x_code <| x_upto <| x_here <| n_code <| cR <| oM rfl <| oM rfl <| oM rfl ?_
  refine o_l rfl (l_callie call316 (by intro w; kernel_rfl) (z46 (r1.1) (r1.2) y6 hy6) rfl rfl rfl (.cons (.tail (.tail (.tail (.tail .head)))) (.cons (.tail (.tail (.tail (.tail .head)))) (.cons .head .nil)))) ?_; intro r7 hr7
  refine o_cat (.cons (.cons (.cons (.cons .nil)))) ?_
  refine o_l rfl (l_calle call59 (z76 (r1.1) (r1.2) (r7)) rfl rfl (.cons .head (.cons .head (.cons (.tail .head) .nil)))) ?_; intro r8 hr8
  refine o_cat (.cons (.cons (.cons .nil))) <| oX (e_extract rfl rfl) <| oX (e_extract rfl rfl) <| oA rfl <| oA rfl <| oN <| c_ret <| WR.sel (.cons (.tail (.tail (.tail (.tail (.tail (.tail (.tail .head))))))) .nil) <| r_fn (l := [.tmp 4, .tmp 5]) results56 rfl rfl ?_
  exact tells (y := ()) trivial rfl rfl

theorem z78 {G : HP} (p0 : Nat) :
    CtrE Tryz.prog 27 [.slice (ad p0 0) 1 1, vq 1024] G [(p0, C [vq 1, vq 85, vq 0, S [97], vq 7] 56)] (T := Unit) (fun _ => True) (fun _ => .tuple #[S [128, 8, 1, 0, 0, 0, 9, 0, 0, 0, 9, 0, 0, 0, 0, 0, 0, 0, 97, 7, 0, 0, 0, 0, 0, 0, 0], .bool true]) (fun _ => [(p0, C [vq 1, vq 85, vq 0, S [97], vq 7] 56)]) := by
  refine fn_enter 11 func27 rfl ntmps27 rfl ?_
  intro w0
  refine cR <| oA rfl <| oA rfl <| oN <| cR <| oM rfl <| oM rfl ?_
  refine o_l rfl (l_calle call56 (z77 (p0)) rfl rfl (.cons .head .nil)) ?_; intro r1 hr1
  refine o_cat (.cons .nil) <| oX (e_extract rfl rfl) <| oX (e_extract rfl rfl) <| oA rfl <| oA rfl <| oN <| c_ret <| WR.sel (.cons .head .nil) <| r_fn (l := [.tmp 4, .tmp 5]) results27 rfl rfl ?_
  exact tells (y := ()) trivial rfl rfl

theorem z79 {G : HP} (q0 : Tl) (h0 : TlOk 1 27 q0) :
    CtrE Tryz.prog 40 [.slice (ad q0.g 0) 27 q0.cap] G [(q0.g, Ob xb14 q0 5)] (T := Nat) (fun _ => True) (fun y => pv y) (fun y => [(q0.g, Ob xb14 q0 5), (y, C [.slice (ad q0.g 0) 27 q0.cap, vi 0, vi (-1)] 144)]) := by
  refine fn_enter 6 func40 rfl ntmps40 rfl ?_
  intro w0
  refine cR <| oA rfl <| oN <| cR <| oM rfl <| oX (e_build (vs := [.slice (ad q0.g 0) 27 q0.cap, vi 0, vi (-1)]) runUnderlying144 zeroValue144 (.cons sizeOf72 (.cons sizeOf2 (.cons sizeOf3 .nil))) rfl (by kernel_rfl)) ?_
  refine o_l rfl (l_box rfl rfl rfl) ?_; intro g1 _
  refine oA rfl <| oN <| c_ret <| WR.sel (.cons (.tail .head) (.cons .head .nil)) <| r_fn1 results40 rfl ?_
  exact tells (y := (g1)) trivial rfl rfl
end Go.Proofs
