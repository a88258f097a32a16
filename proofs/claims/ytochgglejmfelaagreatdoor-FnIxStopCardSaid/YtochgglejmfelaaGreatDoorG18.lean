/- Runs at known values, part 5. (A part of the proof of this: for every input laws.FnIxStop returns true and its arguments read as they did, the listed package variables being what the program lays.) -/
import Derived.Test.YtochgglejmfelaaGreatDoorG02
import Derived.KernelRfl
import Derived.Test.YtochgglejmfelaaGreatDoorG17
namespace Go.Proofs
open Go Go.Sl Tryz
set_option maxRecDepth 100000
set_option maxHeartbeats 4000000
theorem z100 {G : HP} (p0 : Nat) :
    CtrE Tryz.prog 214 [.agg #[], .slice (ad p0 0) 8 8] G [(p0, C xb11 5)] (T := Unit) (fun _ => True) (fun _ => vq 9) (fun _ => [(p0, C xb11 5)]) := by
  refine fn_enter 54 func214 rfl ntmps214 rfl ?_
  intro w0
  refine cR ?_
  refine o_l rfl (l_box rfl rfl rfl) ?_; intro g1 _
  refine oA rfl <| oN <| cR <| oM rfl <| oX (eA (.pointer (ad p0 7)) (e_ia runUnderlying72 sizeOf5 rfl rfl (by decide) (by decide))) <| oX (e_load isAgg5 rfl (.inl M1) rfl) <| oN <| c_seq <| cQ <| qM rfl ?_
  refine qX (eA (pv p0) (e_ia runUnderlying72 sizeOf5 rfl rfl (by decide) (by decide))) <| qX (e_load isAgg5 rfl (.inl M1) rfl) <| qX (e_convc (r := vq 9) runUnderlying5 runUnderlying23 rfl (by kernel_rfl)) <| qM rfl ?_
  refine qX (eA (.pointer (ad p0 1)) (e_ia runUnderlying72 sizeOf5 rfl rfl (by decide) (by decide))) <| qX (e_load isAgg5 rfl (.inl M1) rfl) <| qX (e_convc (r := vq 0) runUnderlying5 runUnderlying23 rfl (by kernel_rfl)) <| qX (e_shlc (r := vq 0) rfl rfl rfl (by kernel_rfl)) <| qX (e_int (r := vq 9) rfl rfl (by kernel_rfl)) ?_
  refine qM rfl <| qX (eA (.pointer (ad p0 2)) (e_ia runUnderlying72 sizeOf5 rfl rfl (by decide) (by decide))) <| qX (e_load isAgg5 rfl (.inl M1) rfl) <| qX (e_convc (r := vq 0) runUnderlying5 runUnderlying23 rfl (by kernel_rfl)) <| qX (e_shlc (r := vq 0) rfl rfl rfl (by kernel_rfl)) ?_
  refine qX (e_int (r := vq 9) rfl rfl (by kernel_rfl)) <| qM rfl <| qX (eA (.pointer (ad p0 3)) (e_ia runUnderlying72 sizeOf5 rfl rfl (by decide) (by decide))) <| qX (e_load isAgg5 rfl (.inl M1) rfl) <| qX (e_convc (r := vq 0) runUnderlying5 runUnderlying23 rfl (by kernel_rfl)) ?_
  refine qX (e_shlc (r := vq 0) rfl rfl rfl (by kernel_rfl)) <| qX (e_int (r := vq 9) rfl rfl (by kernel_rfl)) <| qM rfl <| qX (eA (.pointer (ad p0 4)) (e_ia runUnderlying72 sizeOf5 rfl rfl (by decide) (by decide))) <| qX (e_load isAgg5 rfl (.inl M1) rfl) ?_
  refine qX (e_convc (r := vq 0) runUnderlying5 runUnderlying23 rfl (by kernel_rfl)) <| qX (e_shlc (r := vq 0) rfl rfl rfl (by kernel_rfl)) <| qX (e_int (r := vq 9) rfl rfl (by kernel_rfl)) <| qM rfl <| qX (eA (.pointer (ad p0 5)) (e_ia runUnderlying72 sizeOf5 rfl rfl (by decide) (by decide))) ?_
  refine qX (e_load isAgg5 rfl (.inl M1) rfl) <| qX (e_convc (r := vq 0) runUnderlying5 runUnderlying23 rfl (by kernel_rfl)) <| qX (e_shlc (r := vq 0) rfl rfl rfl (by kernel_rfl)) <| qX (e_int (r := vq 9) rfl rfl (by kernel_rfl)) <| qM rfl ?_
  refine qX (eA (.pointer (ad p0 6)) (e_ia runUnderlying72 sizeOf5 rfl rfl (by decide) (by decide))) <| qX (e_load isAgg5 rfl (.inl M1) rfl) <| qX (e_convc (r := vq 0) runUnderlying5 runUnderlying23 rfl (by kernel_rfl)) <| qX (e_shlc (r := vq 0) rfl rfl rfl (by kernel_rfl)) <| qX (e_int (r := vq 9) rfl rfl (by kernel_rfl)) ?_
  refine qM rfl <| qX (eA (.pointer (ad p0 7)) (e_ia runUnderlying72 sizeOf5 rfl rfl (by decide) (by decide))) <| qX (e_load isAgg5 rfl (.inl M1) rfl) <| qX (e_convc (r := vq 0) runUnderlying5 runUnderlying23 rfl (by kernel_rfl)) <| qX (e_shlc (r := vq 0) rfl rfl rfl (by kernel_rfl)) ?_
  refine qX (e_int (r := vq 9) rfl rfl (by kernel_rfl)) <| qA rfl <| qN <| c_ret <| WR.sel (.cons (.tail .head) .nil) <| r_fn1 results214 rfl ?_
  exact tells (y := ()) trivial rfl rfl

theorem z101 {G : HP} (p0 : Nat) (q1 : Tl) (h1 : TlOk 1 27 q1) (p2 : Nat) :
    CtrE Tryz.prog 331 [.iface 75 (pv p0), pv p2] G [(p0, C [.slice (ad q1.g 0) 27 q1.cap, vi 10, vi (-1)] 144), (q1.g, Ob xb14 q1 5), (p2, C [vq 0] 23)] (T := Unit) (fun _ => True) (fun _ => .nilIface) (fun _ => [(p0, C [.slice (ad q1.g 0) 27 q1.cap, vi 18, vi (-1)] 144), (q1.g, Ob xb14 q1 5), (p2, C [vq 9] 23)]) := by
  refine fn_enter 23 func331 rfl ntmps331 rfl ?_
  intro w0
  refine cR <| oA rfl <| oN <| cR ?_
  refine o_l rfl (l_mksc (l := xb10) (n := 8) (m := 8) underlying72 (info_of typeInfo5) rfl rfl rfl rfl rfl rfl rfl (by decide) (by kernel_rfl)) ?_; intro g1 _
  refine oA rfl <| oN <| c_seq <| cR <| oM rfl <| oM rfl ?_
  refine o_l rfl (l_calle call152 (z99 (p0) q1 h1 (g1)) rfl rfl (.cons (.tail .head) (.cons (.tail .head) (.cons .head .nil)))) ?_; intro r2 hr2
  refine o_cat (.cons (.cons (.cons .nil))) <| oM rfl <| oX (e_extract rfl rfl) <| oX (e_extract rfl rfl) <| oA rfl <| oA rfl <| oN <| cR <| oM rfl <| oX (e_nnen runUnderlying80 rfl) <| oN <| cL rfl <| cR <| oM rfl <| oX (e_load0 isAgg294 sizeOf294 rfl) <| oM rfl ?_
  refine o_l rfl (l_calle call214 (z100 (g1)) rfl rfl (.cons (.tail (.tail .head)) .nil)) ?_; intro r3 hr3
  refine o_cat (.cons .nil) <| oC rfl ?_
  refine o_l rfl (l_store sizeOf23 rfl rfl rfl (.tail (.tail (.tail .head))) .head nofr0) ?_; intro _ _
  refine oN <| cR <| oA rfl <| oN <| c_ret <| WR.sel (.cons (.tail .head) (.cons (.tail .head) (.cons (.tail .head) .nil))) <| r_fn1 results331 rfl ?_
  exact tells (y := ()) trivial rfl rfl

theorem z102 {G : HP} (p0 : Nat) :
    CtrE Tryz.prog 361 [pv p0, vd 9, vq 9, vq 0] G [(p0, C [vd 0, vq 0, .slice none 0 0] 448)] (T := Unit) (fun _ => True) (fun _ => .nilIface) (fun _ => [(p0, C [vd 9, vq 1, .slice none 0 0] 448)]) := by
  refine fn_enter 39 func361 rfl ntmps361 rfl ?_
  intro w0
  refine cR <| oA rfl <| oN <| c_seq <| cR <| oM rfl <| oI (.bool false) rfl rfl <| oN <| cL rfl <| c_seq <| cR <| oM rfl <| oI (.bool false) rfl rfl <| oN <| cL rfl <| cR <| oM rfl <| oM rfl <| oM rfl <| oI (vq 9) rfl rfl <| oA rfl <| oA rfl ?_
  refine oN <| c_seq <| cR <| oM rfl <| oM rfl <| oI (.bool false) rfl rfl <| oN <| cL rfl <| c_seq <| cR <| oM rfl <| oX (e_convc (r := vi 9) runUnderlying23 runUnderlying2 rfl (by kernel_rfl)) <| oI (.bool false) rfl rfl <| oN <| cL rfl <| cR <| oM rfl <| oM rfl ?_
  refine oC rfl <| oX (eA (pv p0) (e_fa runUnderlying448 rfl sizeOf212 rfl rfl)) ?_
  refine o_l rfl (l_store sizeOf212 rfl rfl rfl .head .head nofr0) ?_; intro _ _
  refine oN <| cR <| oM rfl <| oM rfl <| oM rfl <| oX (e_convc (r := vq 9) runUnderlying212 runUnderlying23 rfl (by kernel_rfl)) <| oI (vq 1) rfl rfl <| oC rfl <| oX (eA (.pointer (ad p0 1)) (e_fa runUnderlying448 rfl sizeOf23 rfl rfl)) ?_
  refine o_l rfl (l_store sizeOf23 rfl rfl rfl .head (.tail .head) nofr0) ?_; intro _ _
  refine oN <| cR <| oA rfl <| oN <| c_ret <| WR.sel (.cons .head .nil) <| r_fn1 results361 rfl ?_
  exact tells (y := ()) trivial rfl rfl

theorem z103 {G : HP} (p0 : Nat) (q1 : Tl) (h1 : TlOk 1 27 q1) (p2 : Nat) :
    CtrE Tryz.prog 288 [pv p0, .slice (ad p2 0) 9 9] G [(p0, C [.slice (ad q1.g 0) 27 q1.cap, vi 18, vi (-1)] 144), (q1.g, Ob xb14 q1 5), (p2, C xb4 5)] (T := Unit) (fun _ => True) (fun _ => .tuple #[vi 9, .nilIface]) (fun _ => [(p0, C [.slice (ad q1.g 0) 27 q1.cap, vi 27, vi (-1)] 144), (q1.g, Ob xb14 q1 5), (p2, C xb3 5)]) := by
  refine fn_enter 39 func288 rfl ntmps288 rfl ?_
  intro w0
  refine cR <| oA rfl <| oA rfl <| oN <| c_seq <| c_seq <| cQ <| qM rfl <| qC rfl <| qX (eA (.pointer (ad p0 1)) (e_fa runUnderlying144 rfl sizeOf2 rfl rfl)) <| qX (e_load isAgg2 rfl (.inl M0) rfl) <| qM rfl <| qC rfl ?_
  refine qX (eA (pv p0) (e_fa runUnderlying144 rfl sizeOf72 rfl rfl)) <| qX (e_load isAgg72 rfl (.inl M0) rfl) <| qX (eA (vi 27) (e_lenl runUnderlying72 rfl)) <| qX (e_int (r := .bool false) rfl rfl (by kernel_rfl)) <| qN <| cL rfl <| cR <| oM rfl <| oC rfl ?_
  refine oX (eA (.pointer (ad p0 2)) (e_fa runUnderlying144 rfl sizeOf3 rfl rfl)) ?_
  refine o_l rfl (l_store sizeOf3 rfl rfl rfl .head (.tail (.tail .head)) nofr0) ?_; intro _ _
  refine oN <| c_seq ?_
  refine c_regiond [(p0, C [.slice (ad q1.g 0) 27 q1.cap, vi 18, vi (-1)] 144), (q1.g, Ob xb14 q1 5)] (by kernel_rfl) (.cons_cons _ (.cons_cons _ (.cons _ (.slnil)))) ?_
  refine dX 0 rfl (e_move rfl) <| dX 1 rfl (e_move rfl) <| dX 2 rfl (e_nilCheck rfl) ?_
  refine dX 3 rfl (eA (pv p0) (e_fa runUnderlying144 rfl sizeOf72 rfl rfl)) <| dX 4 rfl (e_load isAgg72 rfl (.inl M0) rfl) <| dX 5 rfl (e_move rfl) ?_
  refine dX 6 rfl (e_nilCheck rfl) <| dX 7 rfl (eA (.pointer (ad p0 1)) (e_fa runUnderlying144 rfl sizeOf2 rfl rfl)) <| dX 8 rfl (e_load isAgg2 rfl (.inl M0) rfl) ?_
  refine dX 9 rfl (e_as (r := .slice (ad q1.g 18) 9 (q1.cap - 18)) (e_sl_l runUnderlying72 sizeOf5 rfl rfl (by decide) (by decide) (by have := h1.le; omega)) (by first | rfl | (simp; try omega))) ?_
  refine d_l 10 (by kernel_rfl) rfl rfl (l_copy (vs := xb3) (k' := 9) runUnderlying72 sizeOf5 rfl rfl rfl (Sv.blk (vs := xb3) underlying72 (.inl M1) (.skip (.skip (.skip (.skip (.skip (.skip (.skip (.skip (.skip (.skip (.skip (.skip (.skip (.skip (.skip (.skip (.skip (.skip (.take (.take (.take (.take (.take (.take (.take (.take (.take .done))))))))))))))))))))))))))) (by simp [Value.oneCell'])) rfl (.tail (.tail .head)) (.take (.take (.take (.take (.take (.take (.take (.take (.take .done))))))))) (.inr rfl)) (fun _ _ => hs_cons (.head _) (hs_cons M1 (hs_nil))) ?_
  intro _ _
  refine dX 11 rfl (e_assign rfl) <| dN <| n_code <| cR <| oM rfl <| oC rfl <| oX (eA (.pointer (ad p0 1)) (e_fa runUnderlying144 rfl sizeOf2 rfl rfl)) <| oX (e_load isAgg2 rfl (.inl M0) rfl) <| oM rfl <| oI (vi 27) rfl rfl <| oC rfl ?_
  refine oX (eA (.pointer (ad p0 1)) (e_fa runUnderlying144 rfl sizeOf2 rfl rfl)) ?_
  refine o_l rfl (l_store sizeOf2 rfl rfl rfl .head (.tail .head) nofr0) ?_; intro _ _
  refine oN <| c_ret <| WR.sel (.cons .head (.cons .head (.cons .head .nil))) <| r_fn (l := [.tmp 4, .tmp 5]) results288 rfl rfl ?_
  exact tells (y := ()) trivial rfl rfl

theorem z104 {G : HP} (p0 : Nat) (q1 : Tl) (h1 : TlOk 1 27 q1) (p2 : Nat) :
    CtrE Tryz.prog 201 [.iface 75 (pv p0), .slice (ad p2 0) 9 9, vi 9] G [(p0, C [.slice (ad q1.g 0) 27 q1.cap, vi 18, vi (-1)] 144), (q1.g, Ob xb14 q1 5), (p2, C xb4 5)] (T := Unit) (fun _ => True) (fun _ => .tuple #[vi 9, .nilIface]) (fun _ => [(p0, C [.slice (ad q1.g 0) 27 q1.cap, vi 27, vi (-1)] 144), (q1.g, Ob xb14 q1 5), (p2, C xb3 5)]) := by
  refine fn_enter 46 func201 rfl ntmps201 rfl ?_
  intro w0
  refine cR <| oA rfl <| oA rfl <| oN <| c_seq <| cR <| oM rfl <| oX (eA (vi 9) (e_lenl runUnderlying72 rfl)) <| oM rfl <| oI (.bool false) rfl rfl <| oN <| cL rfl <| c_seq <| c_block <| c_rounds 999 <| c_seq <| cR <| oM rfl <| oM rfl <| oI (.bool true) rfl rfl <| oM rfl <| oX (e_move rfl) ?_
  refine oX (e_neqn runUnderlying80 rfl) <| oX (e_pick_t rfl rfl) <| oN <| c_then rfl <| c_skip <| n_code <| c_block <| cR <| oA rfl <| oN <| c_seq ?_
  refine c_regiond [(q1.g, Ob xb14 q1 5)] (by kernel_rfl) (.cons _ (.cons_cons _ (.cons _ (.slnil)))) ?_
  refine dX 0 rfl (e_move rfl) <| dX 1 rfl (e_move rfl) <| dX 2 rfl (e_move rfl) ?_
  refine dX 3 rfl (e_as (r := .slice (ad p2 0) 9 9) (e_sl_l runUnderlying72 sizeOf5 rfl rfl (by decide) (by decide) (by decide)) (by first | rfl | (simp; try omega))) <| dX 4 rfl (e_func rfl rfl) ?_
  refine dX 5 rfl (e_nilm (by intro w; kernel_rfl) rfl) <| dX 6 rfl (e_move rfl) <| d_l 7 (by kernel_rfl) rfl rfl (l_callie call288 (by intro w; kernel_rfl) (z103 (p0) q1 h1 (p2)) rfl rfl rfl (.cons .head (.cons .head (.cons .head .nil)))) (fun _ _ => hs_cons M1 (hs_nil)) ?_
  intro r1 hr1
  refine d_cat (.cons (.cons (.cons .nil))) <| dX 8 rfl (e_move rfl) <| dX 9 rfl (e_extract rfl rfl) <| dX 10 rfl (e_extract rfl rfl) <| dX 11 rfl (e_assign rfl) ?_
  refine dX 12 rfl (e_assign rfl) <| dN <| n_code <| c_region <| oM rfl <| oM rfl <| oI (vi 9) rfl rfl <| oA rfl <| o_nil <| n_block <| n_rounds ?_
  refine c_keep (sK 6 rfl <| sK 34 rfl <| sK 33 rfl <| sK 32 rfl <| sK 7 rfl <| sK 8 rfl <| sK 31 rfl <| sK 30 rfl <| sK 21 rfl <| sK 29 rfl <| sK 28 rfl <| sK 26 rfl <| sK 25 rfl <| sK 24 rfl <| sK 23 rfl <| sK 22 rfl <| sK 20 rfl <| sK 19 rfl <| sK 18 rfl <| sK 17 rfl <| sK 16 rfl <| sK 15 rfl <| sK 14 rfl <| sK 2 rfl <| sK 1 rfl <| sK 0 rfl <| sub_nil) ?_
  refine c_seq <| cR <| oM rfl <| oM rfl <| oI (.bool false) rfl rfl <| oM rfl <| oS <| oS <| oX (e_pick_f rfl rfl) <| oN <| c_else rfl <| c_exit <| x_code <| x_upto <| x_here <| n_code <| c_seq <| cR <| oM rfl <| oM rfl <| oI (.bool true) rfl rfl <| oN <| c_then rfl <| c_region <| oA rfl <| oN <| c_ret ?_
  refine WR.sel (.cons .head (.cons .head (.cons .head .nil))) <| r_fn (l := [.tmp 6, .tmp 7]) results201 rfl rfl ?_
  exact tells (y := ()) trivial rfl rfl

theorem z105 {G : HP} (p0 : Nat) (q1 : Tl) (h1 : TlOk 1 27 q1) (p2 : Nat) :
    CtrE Tryz.prog 152 [.iface 75 (pv p0), .slice (ad p2 0) 9 9] G [(p0, C [.slice (ad q1.g 0) 27 q1.cap, vi 18, vi (-1)] 144), (q1.g, Ob xb14 q1 5), (p2, C xb4 5)] (T := Unit) (fun _ => True) (fun _ => .tuple #[vi 9, .nilIface]) (fun _ => [(p0, C [.slice (ad q1.g 0) 27 q1.cap, vi 27, vi (-1)] 144), (q1.g, Ob xb14 q1 5), (p2, C xb3 5)]) := by
  refine fn_enter 13 func152 rfl ntmps152 rfl ?_
  intro w0
  refine cR <| oA rfl <| oA rfl <| oN <| cR <| oM rfl <| oM rfl <| oM rfl <| oX (eA (vi 9) (e_lenl runUnderlying72 rfl)) ?_
  refine o_l rfl (l_calle call201 (z104 (p0) q1 h1 (p2)) rfl rfl (.cons .head (.cons .head (.cons .head .nil)))) ?_; intro r1 hr1
  refine o_cat (.cons (.cons (.cons .nil))) <| oX (e_extract rfl rfl) <| oX (e_extract rfl rfl) <| oA rfl <| oA rfl <| oN <| c_ret <| WR.sel (.cons .head (.cons .head (.cons .head .nil))) <| r_fn (l := [.tmp 4, .tmp 5]) results152 rfl rfl ?_
  exact tells (y := ()) trivial rfl rfl

theorem z106 {G : HP} (p0 : Nat) (p1 : Nat) (q2 : Tl) (h2 : TlOk 1 27 q2) :
    CtrE Tryz.prog 341 [pv p0, .iface 75 (pv p1)] G [(p0, C [vd 0, vq 0, .slice none 0 0] 448), (p1, C [.slice (ad q2.g 0) 27 q2.cap, vi 6, vi (-1)] 144), (q2.g, Ob xb14 q2 5)] (T := Nat) (fun _ => True) (fun y => .nilIface) (fun y => [(p0, C [vd 9, vq 1, .slice (ad y 0) 9 9] 448), (p1, C [.slice (ad q2.g 0) 27 q2.cap, vi 27, vi (-1)] 144), (q2.g, Ob xb14 q2 5), (y, C xb3 5)]) := by
  refine fn_enter 53 func341 rfl ntmps341 rfl ?_
  intro w0
  refine cR <| oA rfl <| oN <| cR ?_
  refine o_l rfl (l_alloc zeroValue212 rfl rfl) ?_; intro g1 _
  refine oN <| c_seq <| cR <| oM rfl ?_
  refine o_l rfl (l_calle call321 (z96 (p1) q2 h2 (g1)) rfl rfl (.cons (.tail (.tail .head)) (.cons (.tail (.tail .head)) (.cons .head .nil)))) ?_; intro r2 hr2
  refine o_cat (.cons (.cons (.cons .nil))) <| oA rfl <| oN <| cR <| oM rfl <| oX (e_nnen runUnderlying80 rfl) <| oN <| cL rfl <| cR ?_
  refine o_l rfl (l_alloc zeroValue23 rfl rfl) ?_; intro g3 _
  refine oN <| c_seq <| cR <| oM rfl ?_
  refine o_l rfl (l_calle call331 (z101 (p1) q2 h2 (g3)) rfl rfl (.cons (.tail .head) (.cons (.tail .head) (.cons .head .nil)))) ?_; intro r4 hr4
  refine o_cat (.cons (.cons (.cons .nil))) <| oA rfl <| oN <| cR <| oM rfl <| oX (e_nnen runUnderlying80 rfl) <| oN <| cL rfl <| c_seq <| cR <| oM rfl <| oX (e_load isAgg212 rfl (.inl M3) rfl) <| oX (e_load isAgg23 rfl (.inl M2) rfl) ?_
  refine o_l rfl (l_calle call361 (z102 (p0)) rfl rfl (.cons (.tail (.tail (.tail (.tail .head)))) .nil)) ?_; intro r5 hr5
  refine o_cat (.cons .nil) <| oA rfl <| oN <| cR <| oM rfl <| oX (e_nnen runUnderlying80 rfl) <| oN <| cL rfl <| cR <| oX (e_load isAgg23 rfl (.inl M3) rfl) ?_
  refine o_l rfl (l_mksc (l := xb4) (n := 9) (m := 9) underlying72 (info_of typeInfo5) rfl rfl rfl rfl rfl rfl rfl (by decide) (by kernel_rfl)) ?_; intro g6 _
  refine oA rfl <| oN <| c_seq <| cR <| oM rfl <| oM rfl ?_
  refine o_l rfl (l_calle call152 (z105 (p1) q2 h2 (g6)) rfl rfl (.cons (.tail (.tail .head)) (.cons (.tail (.tail .head)) (.cons .head .nil)))) ?_; intro r7 hr7
  refine o_cat (.cons (.cons (.cons .nil))) <| oM rfl <| oX (e_extract rfl rfl) <| oX (e_extract rfl rfl) <| oA rfl <| oA rfl <| oN <| cR <| oM rfl <| oX (e_nnen runUnderlying80 rfl) <| oN <| cL rfl <| cR <| oM rfl <| oM rfl <| oC rfl <| oX (eA (.pointer (ad p0 2)) (e_fa runUnderlying448 rfl sizeOf72 rfl rfl)) ?_
  refine o_l rfl (l_store sizeOf72 rfl rfl rfl (.tail (.tail (.tail .head))) (.tail (.tail .head)) nofr0) ?_; intro _ _
  refine oN <| cR <| oA rfl <| oN <| c_ret <| WR.sel (.cons (.tail (.tail (.tail .head))) (.cons .head (.cons .head (.cons .head .nil)))) <| r_fn1 results341 rfl ?_
  exact tells (y := (g6)) trivial rfl rfl

theorem z107 {G : HP} (p0 : Nat) (q1 : Tl) (h1 : TlOk 1 27 q1) :
    CtrE Tryz.prog 290 [pv p0, vi 0, vi 1] G [(p0, C [.slice (ad q1.g 0) 27 q1.cap, vi 27, vi (-1)] 144), (q1.g, Ob xb14 q1 5)] (T := Unit) (fun _ => True) (fun _ => .tuple #[vi 27, .nilIface]) (fun _ => [(p0, C [.slice (ad q1.g 0) 27 q1.cap, vi 27, vi (-1)] 144), (q1.g, Ob xb14 q1 5)]) := by
  refine fn_enter 42 func290 rfl ntmps290 rfl ?_
  intro w0
  refine cR <| oA rfl <| oA rfl <| oN <| cR <| oM rfl <| oC rfl <| oX (eA (.pointer (ad p0 2)) (e_fa runUnderlying144 rfl sizeOf3 rfl rfl)) ?_
  refine o_l rfl (l_store sizeOf3 rfl rfl rfl .head (.tail (.tail .head)) nofr0) ?_; intro _ _
  refine oN <| cR <| oA rfl <| oN <| c_seq <| cR <| oM rfl <| oN <| c_block <| cR <| oI (.bool false) rfl rfl <| oA rfl <| oN <| c_else rfl <| cR <| oI (.bool true) rfl rfl <| oA rfl <| oN <| c_then rfl <| c_region <| oM rfl <| oC rfl ?_
  refine oX (eA (.pointer (ad p0 1)) (e_fa runUnderlying144 rfl sizeOf2 rfl rfl)) <| oX (e_load isAgg2 rfl (.inl M0) rfl) <| oM rfl <| oI (vi 27) rfl rfl <| oA rfl <| o_nil <| n_block <| n_code <| c_seq <| cR <| oM rfl <| oI (.bool false) rfl rfl <| oN <| cL rfl <| cR <| oM rfl <| oM rfl ?_
  refine oC rfl <| oX (eA (.pointer (ad p0 1)) (e_fa runUnderlying144 rfl sizeOf2 rfl rfl)) ?_
  refine o_l rfl (l_store sizeOf2 rfl rfl rfl .head (.tail .head) nofr0) ?_; intro _ _
  refine oN <| cR <| oM rfl <| oA rfl <| oA rfl <| oN <| c_ret <| WR.sel (.cons .head (.cons .head .nil)) <| r_fn (l := [.tmp 6, .tmp 7]) results290 rfl rfl ?_
  exact tells (y := ()) trivial rfl rfl

theorem z108 {G : HP} (p0 : Nat) (p1 : Nat) (p2 : Nat) (q3 : Tl) (h3 : TlOk 1 27 q3) :
    CtrE Tryz.prog 332 [pv p0, .iface 75 (pv p2)] G [(p0, C [.map (some p1)] 327), (p1, Mo .u32 []), (p2, C [.slice (ad q3.g 0) 27 q3.cap, vi 2, vi (-1)] 144), (q3.g, Ob xb14 q3 5)] (T := Nat) (fun _ => True) (fun y => .nilIface) (fun y => [(p0, C [.map (some p1)] 327), (p1, Mo .u32 [(9, .agg #[vd 9, vq 1, .slice (ad y 0) 9 9])]), (p2, C [.slice (ad q3.g 0) 27 q3.cap, vi 27, vi (-1)] 144), (q3.g, Ob xb14 q3 5), (y, C xb3 5)]) := by
  refine fn_enter 75 func332 rfl ntmps332 rfl ?_
  intro w0
  refine cR <| oA rfl <| oN <| cR <| oM rfl ?_
  refine o_l rfl (l_calle call164 (z85 (p2) q3 h3) rfl rfl (.cons (.tail (.tail .head)) (.cons (.tail (.tail .head)) .nil))) ?_; intro r1 hr1
  refine o_cat (.cons (.cons .nil)) <| oA rfl <| oN <| cR ?_
  refine o_l rfl (l_alloc zeroValue212 rfl rfl) ?_; intro g2 _
  refine oN <| c_seq <| cR <| oM rfl ?_
  refine o_l rfl (l_calle call321 (z90 (p2) q3 h3 (g2)) rfl rfl (.cons (.tail .head) (.cons (.tail .head) (.cons .head .nil)))) ?_; intro r3 hr3
  refine o_cat (.cons (.cons (.cons .nil))) <| oA rfl <| oN <| cR <| oM rfl <| oX (e_nnen runUnderlying80 rfl) <| oN <| cL rfl <| cR <| oX (e_load isAgg212 rfl (.inl M2) rfl) <| oX (e_convc (r := .int .i32 1) runUnderlying212 runUnderlying21 rfl (by kernel_rfl)) <| oA rfl <| oN <| cR <| oM rfl ?_
  refine o_l rfl (l_callie call290 (by intro w; kernel_rfl) (z91 (p2) q3 h3) rfl rfl rfl (.cons .head (.cons .head .nil))) ?_; intro r4 hr4
  refine o_cat (.cons (.cons .nil)) <| oM rfl <| oX (e_extract rfl rfl) <| oX (e_extract rfl rfl) <| oA rfl <| oA rfl <| oN <| c_seq <| cR <| oM rfl <| oX (e_nnen runUnderlying80 rfl) <| oN <| cL rfl <| c_seq <| cR <| oM rfl <| oI (.bool false) rfl rfl <| oN <| cL rfl <| c_seq <| cR <| oA rfl <| o_nil ?_
  refine n_code <| c_block <| c_rounds 999 <| c_seq <| cR <| oM rfl <| oM rfl <| oX (e_convc (r := vi 1) runUnderlying21 runUnderlying3 rfl (by kernel_rfl)) <| oI (.bool true) rfl rfl <| oN <| c_then rfl <| c_skip <| n_code <| c_seq <| c_block <| cR ?_
  refine oX (e_build (vs := [vd 0, vq 0, .slice none 0 0]) runUnderlying448 zeroValue448 (.cons sizeOf212 (.cons sizeOf23 (.cons sizeOf72 .nil))) rfl (by kernel_rfl)) ?_
  refine o_l rfl (l_alloc zeroValue448 rfl rfl) ?_; intro g5 _
  refine o_l rfl (l_storea sizeOf448 rfl rfl rfl (by simp [Value.oneCell']) .head (.take (.take (.take .done))) nofrs0) ?_; intro _ _
  refine oN <| c_seq <| cR <| oM rfl ?_
  refine o_l rfl (l_calle call341 (z106 (g5) (p2) q3 h3) rfl rfl (.cons .head (.cons .head (.cons .head .nil)))) ?_; intro r6 hr6
  refine o_cat (.cons (.cons (.cons (.cons .nil)))) <| oA rfl <| oN <| cR <| oM rfl <| oX (e_nnen runUnderlying80 rfl) <| oN <| cL rfl <| cR <| oM rfl ?_
  refine o_l rfl (l_callie call290 (by intro w; kernel_rfl) (z107 (p2) q3 h3) rfl rfl rfl (.cons (.tail .head) (.cons (.tail .head) .nil))) ?_; intro r7 hr7
  refine o_cat (.cons (.cons .nil)) <| oM rfl <| oX (e_extract rfl rfl) <| oX (e_extract rfl rfl) <| oA rfl <| oA rfl <| oN <| c_seq <| cR <| oM rfl <| oX (e_nnen runUnderlying80 rfl) <| oN <| cL rfl <| cR <| oM rfl <| oA rfl <| oN <| cR <| oM rfl <| oM rfl <| oI (vi 33) rfl rfl <| oA rfl <| oN ?_
  refine c_seq <| c_seq ?_
  refine c_keep (sK 9 rfl <| sK 64 rfl <| sK 63 rfl <| sK 62 rfl <| sK 16 rfl <| sK 61 rfl <| sK 59 rfl <| sK 58 rfl <| sK 15 rfl <| sK 14 rfl <| sK 57 rfl <| sK 56 rfl <| sK 53 rfl <| sK 55 rfl <| sK 54 rfl <| sK 51 rfl <| sK 50 rfl <| sK 13 rfl <| sK 49 rfl <| sK 48 rfl <| sK 12 rfl <| sK 47 rfl <| sK 44 rfl <| sK 43 rfl <| sK 42 rfl <| sK 41 rfl <| sK 11 rfl <| sK 8 rfl <| sK 5 rfl <| sK 4 rfl <| sK 1 rfl <| sK 0 rfl <| sub_nil) ?_
  refine c_region <| oM rfl <| oM rfl <| oI (.bool false) rfl rfl <| oN <| cL rfl ?_
  refine c_regiond [(p2, C [.slice (ad q3.g 0) 27 q3.cap, vi 27, vi (-1)] 144), (q3.g, Ob xb14 q3 5), (g5, C [vd 9, vq 1, .slice (ad r6 0) 9 9] 448), (r6, C xb3 5), (g2, C [vd 1] 212), (p0, C [.map (some p1)] 327)] (by kernel_rfl) (.cons_cons _ (.cons_cons _ (.cons_cons _ (.cons_cons _ (.cons_cons _ (.cons_cons _ (.cons _ (.slnil)))))))) ?_
  refine dX 0 rfl (e_move rfl) <| dX 1 rfl (e_nilCheck rfl) <| dX 2 rfl (e_load isAgg327 rfl (.inl M5) rfl) ?_
  refine dX 3 rfl (eA (pv g5) (e_fa runUnderlying448 rfl sizeOf212 rfl rfl)) <| dX 4 rfl (e_load isAgg212 rfl (.inl M2) rfl) ?_
  refine dX 5 rfl (e_loada isAgg448 sizeOf448 rfl (.inl M2) (.take (.take (.take .done)))) ?_
  refine d_l 6 (by kernel_rfl) rfl rfl (l_mapup runUnderlying327 runUnderlying212 rfl rfl rfl (.tail (.tail (.tail (.tail (.tail (.tail .head))))))) (fun _ _ => hs_cons (.head _) (hs_cons M1 (hs_cons M2 (hs_cons M3 (hs_cons M4 (hs_cons M5 (hs_nil))))))) ?_
  intro _ _
  refine dN <| n_block <| n_code <| c_region <| oM rfl <| oI (vi 1) rfl rfl <| oA rfl <| o_nil <| n_rounds ?_
  refine c_keep (sK 11 rfl <| sK 46 rfl <| sK 45 rfl <| sK 74 rfl <| sK 73 rfl <| sK 72 rfl <| sK 71 rfl <| sK 70 rfl <| sK 69 rfl <| sK 67 rfl <| sK 66 rfl <| sK 65 rfl <| sK 9 rfl <| sK 64 rfl <| sK 63 rfl <| sK 62 rfl <| sK 16 rfl <| sK 61 rfl <| sK 59 rfl <| sK 58 rfl <| sK 15 rfl <| sK 14 rfl <| sK 57 rfl <| sK 56 rfl <| sK 53 rfl <| sK 55 rfl <| sK 54 rfl <| sK 51 rfl <| sK 50 rfl <| sK 13 rfl <| sK 49 rfl <| sK 48 rfl <| sK 12 rfl <| sK 47 rfl <| sK 44 rfl <| sK 43 rfl <| sK 42 rfl <| sK 41 rfl <| sK 8 rfl <| sK 5 rfl <| sK 4 rfl <| sK 1 rfl <| sK 0 rfl <| sub_nil) ?_
  refine c_seq <| cR <| oM rfl <| oM rfl <| oX (e_convc (r := vi 1) runUnderlying21 runUnderlying3 rfl (by kernel_rfl)) <| oI (.bool false) rfl rfl <| oN <| c_else rfl <| c_exit <| x_code <| x_upto <| x_here <| n_code <| cR <| oA rfl <| oN <| c_ret ?_
  refine WR.sel (.cons (.tail (.tail (.tail (.tail (.tail .head))))) (.cons (.tail (.tail (.tail (.tail (.tail .head))))) (.cons .head (.cons .head (.cons (.tail .head) .nil))))) <| r_fn1 results332 rfl ?_
  exact tells (y := (r6)) trivial rfl rfl

theorem z109 {G : HP} (p0 : Nat) (q1 : Tl) (h1 : TlOk 1 27 q1) :
    CtrE Tryz.prog 41 [.iface 75 (pv p0)] G [(p0, C [.slice (ad q1.g 0) 27 q1.cap, vi 0, vi (-1)] 144), (q1.g, Ob xb14 q1 5)] (T := Nat × Nat × Nat) (fun _ => True) (fun y => .tuple #[.iface 328 (pv y.1), .nilIface]) (fun y => [(p0, C [.slice (ad q1.g 0) 27 q1.cap, vi 27, vi (-1)] 144), (q1.g, Ob xb14 q1 5), (y.1, C [.map (some y.2.1)] 327), (y.2.1, Mo .u32 [(9, .agg #[vd 9, vq 1, .slice (ad y.2.2 0) 9 9])]), (y.2.2, C xb3 5)]) := by
  refine fn_enter 31 func41 rfl ntmps41 rfl ?_
  intro w0
  refine cR <| oA rfl <| oA rfl <| oN <| cR <| oM rfl ?_
  refine o_l rfl (l_calle call45 (z84 (p0) q1 h1) rfl rfl (.cons .head (.cons .head .nil))) ?_; intro r1 hr1
  refine o_cat (.cons (.cons .nil)) <| oM rfl <| oX (e_extract rfl rfl) <| oX (e_extract rfl rfl) <| oA rfl <| oA rfl <| oN <| c_seq <| cR <| oM rfl <| oX (e_nnen runUnderlying80 rfl) <| oN <| cL rfl <| cR <| oM rfl ?_
  refine o_l rfl (l_calle call76 (z3 ) rfl rfl .nil) ?_; intro r2 hr2
  refine o_cat (.cons (.cons .nil)) <| oM rfl <| oX (e_extract rfl rfl) <| oX (e_extract rfl rfl) <| oA rfl <| oA rfl <| oN <| c_seq <| cR <| oM rfl <| oX (e_nnen runUnderlying80 rfl) <| oN <| cL rfl <| c_seq <| cR <| oM rfl <| oM rfl ?_
  refine o_l rfl (l_callie call332 (by intro w; kernel_rfl) (z108 (r2.1) (r2.2) (p0) q1 h1) rfl rfl rfl (.cons .head (.cons .head (.cons .head (.cons .head .nil))))) ?_; intro r3 hr3
  refine o_cat (.cons (.cons (.cons (.cons (.cons .nil))))) <| oA rfl <| oN <| cR <| oM rfl <| oX (e_nnen runUnderlying80 rfl) <| oN <| cL rfl <| cR <| oM rfl <| oA rfl <| oA rfl <| oN <| c_ret <| WR.sel (.cons (.tail (.tail .head)) (.cons (.tail (.tail .head)) (.cons .head (.cons .head (.cons .head .nil))))) <| r_fn (l := [.tmp 2, .tmp 3]) results41 rfl rfl ?_
  exact tells (y := (r2.1, r2.2, r3)) trivial rfl rfl

theorem z110 {G : HP} (q0 : Tl) (h0 : TlOk 1 5 q0) (p1 : Nat) :
    CtrE Tryz.prog 342 [.slice (ad q0.g 4) 1 (q0.cap - 4), .slice (ad p1 0) 1 9] G [(q0.g, Ob xb2 q0 5), (p1, C xb3 5)] (T := Unit) (fun _ => True) (fun _ => vi 0) (fun _ => [(q0.g, Ob xb2 q0 5), (p1, C xb3 5)]) := by
  refine fn_enter 8 func342 rfl ntmps342 rfl ?_
  intro w0
  refine cR <| oA rfl <| oN <| cR <| oM rfl <| oM rfl <| oX (e_as (r := vi 0) (e_cmp rfl rfl rfl (Bv.blk (bs := [97]) (.inl M0) rfl (.skip (.skip (.skip (.skip (.take .done)))))) (Bv.blk (bs := [97]) (.inl M1) rfl (.take .done))) (by kernel_rfl)) <| oA rfl <| oN <| c_ret <| WR.sel (.cons .head (.cons .head .nil)) <| r_fn1 results342 rfl ?_
  exact tells (y := ()) trivial rfl rfl

theorem z111 {G : HP} (p0 : Nat) (p1 : Nat) (q2 : Tl) (h2 : TlOk 1 5 q2) :
    CtrE Tryz.prog 335 [pv p0, vi 0, .slice (ad q2.g 4) 1 (q2.cap - 4)] G [(p0, C [vd 9, vq 1, .slice (ad p1 0) 9 9] 448), (p1, C xb3 5), (q2.g, Ob xb2 q2 5)] (T := Unit) (fun _ => True) (fun _ => .bool true) (fun _ => [(p0, C [vd 9, vq 1, .slice (ad p1 0) 9 9] 448), (p1, C xb3 5), (q2.g, Ob xb2 q2 5)]) := by
  refine fn_enter 32 func335 rfl ntmps335 rfl ?_
  intro w0
  refine cR <| oA rfl <| oN <| c_seq <| c_regiond [(p0, C [vd 9, vq 1, .slice (ad p1 0) 9 9] 448), (p1, C xb3 5), (q2.g, Ob xb2 q2 5)] (by kernel_rfl) (.cons_cons _ (.cons_cons _ (.cons_cons _ (.slnil)))) ?_
  refine dX 0 rfl (e_move rfl) <| dX 1 rfl (e_sl_n runUnderlying72 sizeOf5 rfl) <| dX 2 rfl (e_move rfl) <| dX 3 rfl (e_nilCheck rfl) ?_
  refine dX 4 rfl (eA (.pointer (ad p0 2)) (e_fa runUnderlying448 rfl sizeOf72 rfl rfl)) <| dX 5 rfl (e_load isAgg72 rfl (.inl M0) rfl) <| dX 6 rfl (e_move rfl) ?_
  refine dX 7 rfl (e_move rfl) <| dX 8 rfl (e_nilCheck rfl) <| dX 9 rfl (eA (pv p0) (e_fa runUnderlying448 rfl sizeOf212 rfl rfl)) ?_
  refine dX 10 rfl (e_load isAgg212 rfl (.inl M0) rfl) <| dX 11 rfl (e_convc (r := vi 9) runUnderlying212 runUnderlying3 rfl (by kernel_rfl)) <| dX 12 rfl (e_int (r := vi 0) rfl rfl (by kernel_rfl)) ?_
  refine dX 13 rfl (e_move rfl) <| dX 14 rfl (e_int (r := vi 1) rfl rfl (by kernel_rfl)) <| dX 15 rfl (e_move rfl) <| dX 16 rfl (e_nilCheck rfl) ?_
  refine dX 17 rfl (eA (pv p0) (e_fa runUnderlying448 rfl sizeOf212 rfl rfl)) <| dX 18 rfl (e_load isAgg212 rfl (.inl M0) rfl) ?_
  refine dX 19 rfl (e_convc (r := vi 9) runUnderlying212 runUnderlying3 rfl (by kernel_rfl)) <| dX 20 rfl (e_int (r := vi 9) rfl rfl (by kernel_rfl)) <| dX 21 rfl (e_int (r := vi 1) rfl rfl (by kernel_rfl)) ?_
  refine dX 22 rfl (e_as (r := .slice (ad p1 0) 1 9) (e_sl_lh runUnderlying72 sizeOf5 rfl rfl rfl (by decide) (by decide) (by decide) (by decide)) (by first | rfl | (simp; try omega))) ?_
  refine d_l 23 (by kernel_rfl) rfl rfl (l_calle call342 (z110 q2 h2 (p1)) rfl rfl (.cons (.tail (.tail .head)) (.cons (.tail .head) .nil))) (fun _ _ => hs_cons M2 (hs_cons M1 (hs_cons (.head _) (hs_nil)))) ?_
  intro r1 hr1
  refine d_cat (.cons (.cons .nil)) <| dX 24 rfl (e_int (r := .bool true) rfl rfl (by kernel_rfl)) <| dX 25 rfl (e_assign rfl) <| dN <| n_code <| c_ret <| WR.sel (.cons (.tail (.tail .head)) (.cons (.tail .head) (.cons .head .nil))) <| r_fn1 results335 rfl ?_
  exact tells (y := ()) trivial rfl rfl

theorem z112 {G : HP} (p0 : Nat) (p1 : Nat) (p2 : Nat) (p3 : Nat) (q4 : Tl) (h4 : TlOk 1 5 q4) :
    CtrE Tryz.prog 334 [vi 0, pv p0, pv p3] G [(p0, C [pv p1] 464), (p1, C [vd 9, vq 1, .slice (ad p2 0) 9 9] 448), (p2, C xb3 5), (p3, C [.slice (ad q4.g 4) 1 (q4.cap - 4)] 72), (q4.g, Ob xb2 q4 5)] (T := Unit) (fun _ => True) (fun _ => .bool true) (fun _ => [(p0, C [pv p1] 464), (p1, C [vd 9, vq 1, .slice (ad p2 0) 9 9] 448), (p2, C xb3 5), (p3, C [.slice (ad q4.g 4) 1 (q4.cap - 4)] 72), (q4.g, Ob xb2 q4 5)]) := by
  refine fn_enter 9 func334 rfl ntmps334 rfl ?_
  intro w0
  refine cR <| oA rfl <| oN <| cR <| oX (e_load isAgg464 rfl (.inl M0) rfl) <| oM rfl <| oX (e_load isAgg72 rfl (.inl M3) rfl) ?_
  refine o_l rfl (l_calle call335 (z111 (p1) (p2) q4 h4) rfl rfl (.cons (.tail .head) (.cons (.tail .head) (.cons (.tail (.tail .head)) .nil)))) ?_; intro r1 hr1
  refine o_cat (.cons (.cons (.cons .nil))) <| oA rfl <| oN <| c_ret <| WR.sel (.cons (.tail (.tail (.tail .head))) (.cons .head (.cons .head (.cons (.tail .head) (.cons .head .nil))))) <| r_fn1 results334 rfl ?_
  exact tells (y := ()) trivial rfl rfl

theorem z113 {G : HP} (p0 : Nat) (p1 : Nat) (p2 : Nat) (p3 : Nat) (q4 : Tl) (h4 : TlOk 1 5 q4) :
    CtrE Tryz.prog 333 [vi 1, .func (.func 334) #[] #[pv p0, pv p3]] G [(p0, C [pv p1] 464), (p1, C [vd 9, vq 1, .slice (ad p2 0) 9 9] 448), (p2, C xb3 5), (p3, C [.slice (ad q4.g 4) 1 (q4.cap - 4)] 72), (q4.g, Ob xb2 q4 5)] (T := Unit) (fun _ => True) (fun _ => vi 0) (fun _ => [(p0, C [pv p1] 464), (p1, C [vd 9, vq 1, .slice (ad p2 0) 9 9] 448), (p2, C xb3 5), (p3, C [.slice (ad q4.g 4) 1 (q4.cap - 4)] 72), (q4.g, Ob xb2 q4 5)]) := by
  refine fn_enter 26 func333 rfl ntmps333 rfl ?_
  intro w0
  refine cR <| oA rfl <| oN <| cR <| oM rfl <| oA rfl <| oA rfl <| oN <| c_seq <| c_block <| c_rounds 999 <| c_seq <| cR <| oM rfl <| oM rfl <| oI (.bool true) rfl rfl <| oN <| c_then rfl <| c_skip <| n_code <| c_block <| cR <| oM rfl <| oM rfl <| oI (vi 1) rfl rfl ?_
  refine oX (e_convc (r := vq 1) runUnderlying3 runUnderlying131 rfl (by kernel_rfl)) <| oX (e_shrc (r := vq 0) rfl rfl rfl (by kernel_rfl)) <| oX (e_convc (r := vi 0) runUnderlying131 runUnderlying3 rfl (by kernel_rfl)) <| oA rfl <| oN <| cR <| oM rfl <| oM rfl ?_
  refine o_l rfl (l_callcf call334 (z112 (p0) (p1) (p2) (p3) q4 h4) rfl rfl rfl rfl (.cons .head (.cons .head (.cons .head (.cons .head (.cons .head .nil)))))) ?_; intro r1 hr1
  refine o_cat (.cons (.cons (.cons (.cons (.cons .nil))))) <| oX (eA (.bool false) (e_not rfl)) <| oN <| c_else rfl <| c_region <| oM rfl <| oA rfl <| o_nil <| n_block <| n_rounds <| c_seq <| cR <| oM rfl <| oM rfl <| oI (.bool false) rfl rfl <| oN <| c_else rfl <| c_exit <| x_code <| x_upto <| x_here <| n_code <| cR <| oM rfl <| oA rfl <| oN <| c_ret ?_
  refine WR.sel (.cons .head (.cons .head (.cons .head (.cons .head (.cons .head .nil))))) <| r_fn1 results333 rfl ?_
  exact tells (y := ()) trivial rfl rfl

theorem z114 {G : HP} (q0 : Tl) (h0 : TlOk 1 5 q0) (p1 : Nat) :
    CtrE Tryz.prog 336 [.slice (ad q0.g 4) 1 (q0.cap - 4), .slice (ad p1 0) 1 9] G [(q0.g, Ob xb2 q0 5), (p1, C xb3 5)] (T := Unit) (fun _ => True) (fun _ => .bool true) (fun _ => [(q0.g, Ob xb2 q0 5), (p1, C xb3 5)]) := by
  refine fn_enter 10 func336 rfl ntmps336 rfl ?_
  intro w0
  refine cR <| oA rfl <| oN <| cR <| oM rfl <| oX (e_bs (bs := [97]) underlying72 underlying5 underlying9 rfl (.inl M0) (.skip (.skip (.skip (.skip (.take .done)))))) <| oM rfl <| oX (e_bs (bs := [97]) underlying72 underlying5 underlying9 rfl (.inl M1) (.take .done)) <| oX (e_as (r := .bool true) (e_seq rfl rfl) (by kernel_rfl)) <| oA rfl <| oN <| c_ret ?_
  refine WR.sel (.cons .head (.cons .head .nil)) <| r_fn1 results336 rfl ?_
  exact tells (y := ()) trivial rfl rfl

theorem z115 {G : HP} (p0 : Nat) :
    CtrE Tryz.prog 214 [.agg #[], .slice (ad p0 1) 8 8] G [(p0, C xb3 5)] (T := Unit) (fun _ => True) (fun _ => vq 7) (fun _ => [(p0, C xb3 5)]) := by
  refine fn_enter 54 func214 rfl ntmps214 rfl ?_
  intro w0
  refine cR ?_
  refine o_l rfl (l_box rfl rfl rfl) ?_; intro g1 _
  refine oA rfl <| oN <| cR <| oM rfl <| oX (eA (.pointer (ad p0 8)) (e_ia runUnderlying72 sizeOf5 rfl rfl (by decide) (by decide))) <| oX (e_load isAgg5 rfl (.inl M1) rfl) <| oN <| c_seq <| cQ <| qM rfl ?_
  refine qX (eA (.pointer (ad p0 1)) (e_ia runUnderlying72 sizeOf5 rfl rfl (by decide) (by decide))) <| qX (e_load isAgg5 rfl (.inl M1) rfl) <| qX (e_convc (r := vq 7) runUnderlying5 runUnderlying23 rfl (by kernel_rfl)) <| qM rfl ?_
  refine qX (eA (.pointer (ad p0 2)) (e_ia runUnderlying72 sizeOf5 rfl rfl (by decide) (by decide))) <| qX (e_load isAgg5 rfl (.inl M1) rfl) <| qX (e_convc (r := vq 0) runUnderlying5 runUnderlying23 rfl (by kernel_rfl)) <| qX (e_shlc (r := vq 0) rfl rfl rfl (by kernel_rfl)) <| qX (e_int (r := vq 7) rfl rfl (by kernel_rfl)) ?_
  refine qM rfl <| qX (eA (.pointer (ad p0 3)) (e_ia runUnderlying72 sizeOf5 rfl rfl (by decide) (by decide))) <| qX (e_load isAgg5 rfl (.inl M1) rfl) <| qX (e_convc (r := vq 0) runUnderlying5 runUnderlying23 rfl (by kernel_rfl)) <| qX (e_shlc (r := vq 0) rfl rfl rfl (by kernel_rfl)) ?_
  refine qX (e_int (r := vq 7) rfl rfl (by kernel_rfl)) <| qM rfl <| qX (eA (.pointer (ad p0 4)) (e_ia runUnderlying72 sizeOf5 rfl rfl (by decide) (by decide))) <| qX (e_load isAgg5 rfl (.inl M1) rfl) <| qX (e_convc (r := vq 0) runUnderlying5 runUnderlying23 rfl (by kernel_rfl)) ?_
  refine qX (e_shlc (r := vq 0) rfl rfl rfl (by kernel_rfl)) <| qX (e_int (r := vq 7) rfl rfl (by kernel_rfl)) <| qM rfl <| qX (eA (.pointer (ad p0 5)) (e_ia runUnderlying72 sizeOf5 rfl rfl (by decide) (by decide))) <| qX (e_load isAgg5 rfl (.inl M1) rfl) ?_
  refine qX (e_convc (r := vq 0) runUnderlying5 runUnderlying23 rfl (by kernel_rfl)) <| qX (e_shlc (r := vq 0) rfl rfl rfl (by kernel_rfl)) <| qX (e_int (r := vq 7) rfl rfl (by kernel_rfl)) <| qM rfl <| qX (eA (.pointer (ad p0 6)) (e_ia runUnderlying72 sizeOf5 rfl rfl (by decide) (by decide))) ?_
  refine qX (e_load isAgg5 rfl (.inl M1) rfl) <| qX (e_convc (r := vq 0) runUnderlying5 runUnderlying23 rfl (by kernel_rfl)) <| qX (e_shlc (r := vq 0) rfl rfl rfl (by kernel_rfl)) <| qX (e_int (r := vq 7) rfl rfl (by kernel_rfl)) <| qM rfl ?_
  refine qX (eA (.pointer (ad p0 7)) (e_ia runUnderlying72 sizeOf5 rfl rfl (by decide) (by decide))) <| qX (e_load isAgg5 rfl (.inl M1) rfl) <| qX (e_convc (r := vq 0) runUnderlying5 runUnderlying23 rfl (by kernel_rfl)) <| qX (e_shlc (r := vq 0) rfl rfl rfl (by kernel_rfl)) <| qX (e_int (r := vq 7) rfl rfl (by kernel_rfl)) ?_
  refine qM rfl <| qX (eA (.pointer (ad p0 8)) (e_ia runUnderlying72 sizeOf5 rfl rfl (by decide) (by decide))) <| qX (e_load isAgg5 rfl (.inl M1) rfl) <| qX (e_convc (r := vq 0) runUnderlying5 runUnderlying23 rfl (by kernel_rfl)) <| qX (e_shlc (r := vq 0) rfl rfl rfl (by kernel_rfl)) ?_
  refine qX (e_int (r := vq 7) rfl rfl (by kernel_rfl)) <| qA rfl <| qN <| c_ret <| WR.sel (.cons (.tail .head) .nil) <| r_fn1 results214 rfl ?_
  exact tells (y := ()) trivial rfl rfl

theorem z116 {G : HP} (p0 : Nat) (p1 : Nat) :
    CtrE Tryz.prog 69 [vq 7, pv p0, pv p1] G [(p0, C [.slice none 0 0] 29), (p1, C [vi 9] 3)] (T := Tl) (fun y => TlOk 1 1 y) (fun y => .bool true) (fun y => [(p0, C [.slice (ad y.g 0) 1 y.cap] 29), (p1, C [vi 9] 3), (y.g, Ob [vq 7] y 23)]) := by
  refine fn_enter 13 func69 rfl ntmps69 rfl ?_
  intro w0
  refine cR <| oA rfl <| oN <| cR <| oX (e_load isAgg29 rfl (.inl M0) rfl) <| oM rfl ?_
  refine o_l rfl (l_bs1 runUnderlying29 sizeOf23 zeroValue23 rfl rfl rfl) ?_; intro g1 _
  refine o_l rfl (l_app0 (vs := [vq 7]) underlying29 (info_of typeInfo23) rfl rfl rfl rfl rfl rfl (Sv.blk (vs := [vq 7]) underlying29 (.inl M0) (.take .done) (by simp [Value.oneCell'])) rfl rfl rfl) ?_; intro y2 hy2
  refine o_l rfl (l_store sizeOf29 rfl rfl rfl (.tail (.tail .head)) .head nofr0) ?_; intro _ _
  refine oN <| cR <| oX (e_load isAgg29 rfl (.inl M2) rfl) <| oX (eA (vi 1) (e_lenl runUnderlying29 rfl)) <| oX (e_load isAgg3 rfl (.inl M3) rfl) <| oI (.bool true) rfl rfl <| oA rfl <| oN <| c_ret <| WR.sel (.cons (.tail (.tail .head)) (.cons (.tail (.tail .head)) (.cons .head .nil))) <| r_fn1 results69 rfl ?_
  exact tells (y := (y2)) hy2 rfl rfl

theorem z117 {G : HP} (p0 : Nat) (p1 : Nat) (q2 : Tl) (h2 : TlOk 1 5 q2) (p3 : Nat) (p4 : Nat) :
    CtrE Tryz.prog 323 [pv p0, .slice (ad q2.g 4) 1 (q2.cap - 4), .func (.func 69) #[] #[pv p3, pv p4]] G [(p0, C [vd 9, vq 1, .slice (ad p1 0) 9 9] 448), (p1, C xb3 5), (q2.g, Ob xb2 q2 5), (p3, C [.slice none 0 0] 29), (p4, C [vi 9] 3)] (T := Tl) (fun y => TlOk 1 1 y) (fun y => .nilIface) (fun y => [(p0, C [vd 9, vq 1, .slice (ad p1 0) 9 9] 448), (p1, C xb3 5), (q2.g, Ob xb2 q2 5), (p3, C [.slice (ad y.g 0) 1 y.cap] 29), (p4, C [vi 9] 3), (y.g, Ob [vq 7] y 23)]) := by
  refine fn_enter 72 func323 rfl ntmps323 rfl ?_
  intro w0
  refine cR ?_
  refine o_l rfl (l_box rfl rfl rfl) ?_; intro g1 _
  refine o_l rfl (l_box rfl rfl rfl) ?_; intro g2 _
  refine oA rfl <| oN <| cR <| oX (e_load isAgg464 rfl (.inl M1) rfl) <| oC rfl <| oX (eA (.pointer (ad p0 1)) (e_fa runUnderlying448 rfl sizeOf23 rfl rfl)) <| oX (e_load isAgg23 rfl (.inl M2) rfl) <| oX (e_convc (r := vi 1) runUnderlying23 runUnderlying3 rfl (by kernel_rfl)) <| oX (e_func rfl rfl) ?_
  refine o_l rfl (l_calle call333 (z113 (g1) (p0) (p1) (g2) q2 h2) rfl rfl (.cons (.tail .head) (.cons (.tail .head) (.cons (.tail .head) (.cons .head (.cons .head .nil)))))) ?_; intro r3 hr3
  refine o_cat (.cons (.cons (.cons (.cons (.cons .nil))))) <| oA rfl <| oN <| cR <| oA rfl <| oN <| c_seq <| c_block <| c_rounds 999 <| c_seq <| cR <| oM rfl <| oX (e_convc (r := vq 0) runUnderlying3 runUnderlying23 rfl (by kernel_rfl)) <| oX (e_load isAgg464 rfl (.inl M0) rfl) <| oC rfl ?_
  refine oX (eA (.pointer (ad p0 1)) (e_fa runUnderlying448 rfl sizeOf23 rfl rfl)) <| oX (e_load isAgg23 rfl (.inl M1) rfl) <| oI (.bool true) rfl rfl <| oN <| c_then rfl <| c_skip <| n_code <| c_seq <| c_block <| cR <| oM rfl <| oX (e_load isAgg464 rfl (.inl M0) rfl) <| oC rfl ?_
  refine oX (eA (pv p0) (e_fa runUnderlying448 rfl sizeOf212 rfl rfl)) <| oX (e_load isAgg212 rfl (.inl M1) rfl) <| oX (e_convc (r := vi 9) runUnderlying212 runUnderlying3 rfl (by kernel_rfl)) <| oI (vi 0) rfl rfl <| oA rfl <| oN <| cR <| oM rfl <| oI (vi 1) rfl rfl ?_
  refine oX (e_load isAgg464 rfl (.inl M0) rfl) <| oC rfl <| oX (eA (pv p0) (e_fa runUnderlying448 rfl sizeOf212 rfl rfl)) <| oX (e_load isAgg212 rfl (.inl M1) rfl) <| oX (e_convc (r := vi 9) runUnderlying212 runUnderlying3 rfl (by kernel_rfl)) <| oI (vi 9) rfl rfl <| oA rfl <| oN <| cR <| oM rfl ?_
  refine oI (vi 1) rfl rfl <| oA rfl <| oN <| c_seq ?_
  refine c_regiond [(g1, C [pv p0] 464), (p0, C [vd 9, vq 1, .slice (ad p1 0) 9 9] 448), (p1, C xb3 5), (g2, C [.slice (ad q2.g 4) 1 (q2.cap - 4)] 72), (q2.g, Ob xb2 q2 5), (p3, C [.slice none 0 0] 29), (p4, C [vi 9] 3)] (by kernel_rfl) (.cons_cons _ (.cons_cons _ (.cons_cons _ (.cons_cons _ (.cons_cons _ (.cons_cons _ (.cons_cons _ (.slnil)))))))) ?_
  refine dX 0 rfl (e_load isAgg72 rfl (.inl M3) rfl) <| dX 1 rfl (e_sl_n runUnderlying72 sizeOf5 rfl) <| dX 2 rfl (e_load isAgg464 rfl (.inl M0) rfl) ?_
  refine dX 3 rfl (e_nilCheck rfl) <| dX 4 rfl (eA (.pointer (ad p0 2)) (e_fa runUnderlying448 rfl sizeOf72 rfl rfl)) <| dX 5 rfl (e_load isAgg72 rfl (.inl M1) rfl) ?_
  refine dX 6 rfl (e_move rfl) <| dX 7 rfl (e_move rfl) <| dX 8 rfl (e_as (r := .slice (ad p1 0) 1 9) (e_sl_lh runUnderlying72 sizeOf5 rfl rfl rfl (by decide) (by decide) (by decide) (by decide)) (by first | rfl | (simp; try omega))) ?_
  refine d_l 9 (by kernel_rfl) rfl rfl (l_calle call336 (z114 q2 h2 (p1)) rfl rfl (.cons (.tail (.tail (.tail (.tail .head)))) (.cons (.tail (.tail .head)) .nil))) (fun _ _ => hs_cons M2 (hs_cons M3 (hs_cons M1 (hs_cons M4 (hs_cons (.head _) (hs_cons M5 (hs_cons M6 (hs_nil)))))))) ?_
  intro r4 hr4
  refine d_cat (.cons (.cons .nil)) <| dN <| n_code <| c_then rfl <| c_seq ?_
  refine c_keep (sK 55 rfl <| sK 54 rfl <| sK 53 rfl <| sK 52 rfl <| sK 51 rfl <| sK 50 rfl <| sK 49 rfl <| sK 48 rfl <| sK 47 rfl <| sK 46 rfl <| sK 11 rfl <| sK 45 rfl <| sK 44 rfl <| sK 10 rfl <| sK 43 rfl <| sK 42 rfl <| sK 41 rfl <| sK 40 rfl <| sK 39 rfl <| sK 38 rfl <| sK 37 rfl <| sK 36 rfl <| sK 9 rfl <| sK 35 rfl <| sK 34 rfl <| sK 33 rfl <| sK 32 rfl <| sK 31 rfl <| sK 30 rfl <| sK 29 rfl <| sK 26 rfl <| sK 25 rfl <| sK 24 rfl <| sK 23 rfl <| sK 22 rfl <| sK 21 rfl <| sK 20 rfl <| sK 8 rfl <| sK 7 rfl <| sK 6 rfl <| sK 4 rfl <| sK 3 rfl <| sK 2 rfl <| sub_nil) ?_
  refine c_region <| oA rfl <| oN <| c_seq ?_
  refine c_regiond [(q2.g, Ob xb2 q2 5), (p1, C xb3 5), (g1, C [pv p0] 464), (p0, C [vd 9, vq 1, .slice (ad p1 0) 9 9] 448), (g2, C [.slice (ad q2.g 4) 1 (q2.cap - 4)] 72), (p3, C [.slice none 0 0] 29), (p4, C [vi 9] 3)] (by kernel_rfl) (.cons_cons _ (.cons_cons _ (.cons_cons _ (.cons_cons _ (.cons_cons _ (.cons_cons _ (.cons_cons _ (.slnil)))))))) ?_
  refine dX 0 rfl (e_load0 isAgg294 sizeOf294 rfl) <| dX 1 rfl (e_load isAgg464 rfl (.inl M2) rfl) <| dX 2 rfl (e_nilCheck rfl) ?_
  refine dX 3 rfl (eA (.pointer (ad p0 2)) (e_fa runUnderlying448 rfl sizeOf72 rfl rfl)) <| dX 4 rfl (e_load isAgg72 rfl (.inl M3) rfl) <| dX 5 rfl (e_move rfl) ?_
  refine dX 6 rfl (e_move rfl) <| dX 7 rfl (e_as (r := .slice (ad p1 1) 8 8) (e_sl_lh runUnderlying72 sizeOf5 rfl rfl rfl (by decide) (by decide) (by decide) (by decide)) (by first | rfl | (simp; try omega))) ?_
  refine d_l 8 (by kernel_rfl) rfl rfl (l_calle call214 (z115 (p1)) rfl rfl (.cons (.tail .head) .nil)) (fun _ _ => hs_cons M1 (hs_cons (.head _) (hs_cons M2 (hs_cons M3 (hs_cons M4 (hs_cons M5 (hs_cons M6 (hs_nil)))))))) ?_
  intro r5 hr5
  refine d_cat (.cons .nil) <| dX 9 rfl (e_assign rfl) <| dN <| n_code <| c_seq ?_
  refine c_keep (sK 12 rfl <| sK 64 rfl <| sK 63 rfl <| sK 62 rfl <| sK 61 rfl <| sK 60 rfl <| sK 59 rfl <| sK 58 rfl <| sK 57 rfl <| sK 56 rfl <| sK 8 rfl <| sK 55 rfl <| sK 54 rfl <| sK 53 rfl <| sK 52 rfl <| sK 51 rfl <| sK 50 rfl <| sK 49 rfl <| sK 48 rfl <| sK 47 rfl <| sK 46 rfl <| sK 11 rfl <| sK 45 rfl <| sK 44 rfl <| sK 10 rfl <| sK 43 rfl <| sK 42 rfl <| sK 41 rfl <| sK 40 rfl <| sK 39 rfl <| sK 38 rfl <| sK 37 rfl <| sK 36 rfl <| sK 9 rfl <| sK 35 rfl <| sK 34 rfl <| sK 33 rfl <| sK 32 rfl <| sK 31 rfl <| sK 30 rfl <| sK 29 rfl <| sK 26 rfl <| sK 25 rfl <| sK 24 rfl <| sK 23 rfl <| sK 22 rfl <| sK 21 rfl <| sK 20 rfl <| sK 7 rfl <| sK 6 rfl <| sK 4 rfl <| sK 3 rfl <| sK 2 rfl <| sub_nil) ?_
  refine c_region <| oM rfl <| oM rfl ?_
  refine o_l rfl (l_callcf call69 (z116 (p3) (p4)) rfl rfl rfl rfl (.cons (.tail (.tail (.tail (.tail (.tail .head))))) (.cons (.tail (.tail (.tail (.tail (.tail .head))))) .nil))) ?_; intro r6 hr6
  refine o_cat (.cons (.cons (.cons .nil))) <| oX (eA (.bool false) (e_not rfl)) <| oN <| c_else rfl <| c_skip <| n_block <| n_code ?_
  refine c_keep (sK 68 rfl <| sK 67 rfl <| sK 66 rfl <| sK 65 rfl <| sK 12 rfl <| sK 64 rfl <| sK 63 rfl <| sK 62 rfl <| sK 61 rfl <| sK 60 rfl <| sK 59 rfl <| sK 58 rfl <| sK 57 rfl <| sK 56 rfl <| sK 8 rfl <| sK 55 rfl <| sK 54 rfl <| sK 53 rfl <| sK 52 rfl <| sK 51 rfl <| sK 50 rfl <| sK 49 rfl <| sK 48 rfl <| sK 47 rfl <| sK 46 rfl <| sK 11 rfl <| sK 45 rfl <| sK 44 rfl <| sK 10 rfl <| sK 43 rfl <| sK 42 rfl <| sK 41 rfl <| sK 40 rfl <| sK 39 rfl <| sK 38 rfl <| sK 37 rfl <| sK 36 rfl <| sK 9 rfl <| sK 35 rfl <| sK 34 rfl <| sK 33 rfl <| sK 32 rfl <| sK 31 rfl <| sK 30 rfl <| sK 29 rfl <| sK 26 rfl <| sK 25 rfl <| sK 24 rfl <| sK 23 rfl <| sK 22 rfl <| sK 21 rfl <| sK 20 rfl <| sK 7 rfl <| sK 6 rfl <| sK 4 rfl <| sK 3 rfl <| sK 2 rfl <| sub_nil) ?_
  refine c_region <| oM rfl <| oI (vi 1) rfl rfl <| oA rfl <| o_nil <| n_rounds ?_
  refine c_keep (sK 7 rfl <| sK 28 rfl <| sK 27 rfl <| sK 68 rfl <| sK 67 rfl <| sK 66 rfl <| sK 65 rfl <| sK 12 rfl <| sK 64 rfl <| sK 63 rfl <| sK 62 rfl <| sK 61 rfl <| sK 60 rfl <| sK 59 rfl <| sK 58 rfl <| sK 57 rfl <| sK 56 rfl <| sK 8 rfl <| sK 55 rfl <| sK 54 rfl <| sK 53 rfl <| sK 52 rfl <| sK 51 rfl <| sK 50 rfl <| sK 49 rfl <| sK 48 rfl <| sK 47 rfl <| sK 46 rfl <| sK 11 rfl <| sK 45 rfl <| sK 44 rfl <| sK 10 rfl <| sK 43 rfl <| sK 42 rfl <| sK 41 rfl <| sK 40 rfl <| sK 39 rfl <| sK 38 rfl <| sK 37 rfl <| sK 36 rfl <| sK 9 rfl <| sK 35 rfl <| sK 34 rfl <| sK 33 rfl <| sK 32 rfl <| sK 31 rfl <| sK 30 rfl <| sK 29 rfl <| sK 26 rfl <| sK 25 rfl <| sK 24 rfl <| sK 23 rfl <| sK 22 rfl <| sK 21 rfl <| sK 20 rfl <| sK 6 rfl <| sK 4 rfl <| sK 3 rfl <| sK 2 rfl <| sub_nil) ?_
  refine c_seq <| c_seq ?_
  refine c_keep (sK 7 rfl <| sK 28 rfl <| sK 27 rfl <| sK 68 rfl <| sK 67 rfl <| sK 66 rfl <| sK 65 rfl <| sK 12 rfl <| sK 64 rfl <| sK 63 rfl <| sK 62 rfl <| sK 61 rfl <| sK 60 rfl <| sK 59 rfl <| sK 58 rfl <| sK 57 rfl <| sK 56 rfl <| sK 8 rfl <| sK 55 rfl <| sK 54 rfl <| sK 53 rfl <| sK 52 rfl <| sK 51 rfl <| sK 50 rfl <| sK 49 rfl <| sK 48 rfl <| sK 47 rfl <| sK 46 rfl <| sK 11 rfl <| sK 45 rfl <| sK 44 rfl <| sK 10 rfl <| sK 43 rfl <| sK 42 rfl <| sK 41 rfl <| sK 40 rfl <| sK 39 rfl <| sK 38 rfl <| sK 37 rfl <| sK 36 rfl <| sK 9 rfl <| sK 35 rfl <| sK 34 rfl <| sK 33 rfl <| sK 32 rfl <| sK 31 rfl <| sK 30 rfl <| sK 29 rfl <| sK 26 rfl <| sK 25 rfl <| sK 24 rfl <| sK 23 rfl <| sK 22 rfl <| sK 21 rfl <| sK 20 rfl <| sK 6 rfl <| sK 4 rfl <| sK 3 rfl <| sK 2 rfl <| sub_nil) ?_
  refine c_region <| oM rfl <| oX (e_convc (r := vq 1) runUnderlying3 runUnderlying23 rfl (by kernel_rfl)) <| oX (e_load isAgg464 rfl (.inl M5) rfl) <| oC rfl <| oX (eA (.pointer (ad p0 1)) (e_fa runUnderlying448 rfl sizeOf23 rfl rfl)) <| oX (e_load isAgg23 rfl (.inl M6) rfl) ?_
  refine oI (.bool false) rfl rfl <| oN <| c_else rfl <| c_exit <| x_code <| x_upto <| x_here <| n_code <| c_seq <| c_seq <| c_keep (sK 8 rfl <| sK 6 rfl <| sub_nil) <| c_region <| oM rfl <| oX (eA (.bool false) (e_not rfl)) <| oN <| cL rfl <| cR <| oA rfl <| oN <| c_ret ?_
  refine WR.sel (.cons (.tail (.tail (.tail (.tail (.tail (.tail .head)))))) (.cons (.tail (.tail (.tail .head))) (.cons (.tail (.tail (.tail .head))) (.cons .head (.cons .head (.cons .head .nil)))))) <| r_fn1 results323 rfl ?_
  exact tells (y := (r6)) hr6 rfl rfl

theorem z118 {G : HP} (p0 : Nat) (p1 : Nat) (p2 : Nat) (p3 : Nat) (p4 : Nat) :
    CtrE Tryz.prog 314 [pv p0, .agg #[S [1, 85, 0, 1, 97]], .func (.func 69) #[] #[pv p3, pv p4]] G [(p0, C [.map (some p1)] 327), (p1, Mo .u32 [(9, .agg #[vd 9, vq 1, .slice (ad p2 0) 9 9])]), (p2, C xb3 5), (p3, C [.slice none 0 0] 29), (p4, C [vi 9] 3)] (T := Tl) (fun y => TlOk 1 1 y) (fun y => .nilIface) (fun y => [(p0, C [.map (some p1)] 327), (p1, Mo .u32 [(9, .agg #[vd 9, vq 1, .slice (ad p2 0) 9 9])]), (p2, C xb3 5), (p3, C [.slice (ad y.g 0) 1 y.cap] 29), (p4, C [vi 9] 3), (y.g, Ob [vq 7] y 23)]) := by
  refine fn_enter 42 func314 rfl ntmps314 rfl ?_
  intro w0
  refine cR ?_
  refine o_l rfl (l_box rfl rfl rfl) ?_; intro g1 _
  refine oA rfl <| oN <| cR <| oX (e_loada isAgg111 sizeOf111 rfl (.inl M0) (.take .done)) ?_
  refine o_l rfl (l_calle call93 (z34 ) rfl rfl .nil) ?_; intro r2 hr2
  refine o_cat (.cons .nil) ?_
  refine o_l rfl (l_calle call92 (z41 r2 hr2) rfl rfl (.cons .head .nil)) ?_; intro r3 hr3
  refine o_cat (.cons (.cons .nil)) <| oM rfl <| oX (e_extract rfl rfl) <| oX (e_extract rfl rfl) <| oA rfl <| oA rfl <| oN <| c_seq <| cR <| oM rfl <| oX (e_nnen runUnderlying80 rfl) <| oN <| cL rfl <| c_seq <| c_seq ?_
  refine c_regiond [(r2.g, Ob xb2 r2 5), (r3, C [vq 0, S [], vi 1, .slice (ad r2.g 4) 1 (r2.cap - 4)] 181), (g1, C [S [1, 85, 0, 1, 97]] 111), (p0, C [.map (some p1)] 327), (p1, Mo .u32 [(9, .agg #[vd 9, vq 1, .slice (ad p2 0) 9 9])]), (p2, C xb3 5), (p3, C [.slice none 0 0] 29), (p4, C [vi 9] 3)] (by kernel_rfl) (.cons_cons _ (.cons_cons _ (.cons_cons _ (.cons_cons _ (.cons_cons _ (.cons_cons _ (.cons_cons _ (.cons_cons _ (.slnil))))))))) ?_
  refine dX 0 rfl (e_move rfl) <| dX 1 rfl (e_nilCheck rfl) <| dX 2 rfl (e_load isAgg327 rfl (.inl M3) rfl) <| dX 3 rfl (e_move rfl) ?_
  refine dX 4 rfl (e_nilCheck rfl) <| dX 5 rfl (eA (.pointer (ad r3 3)) (e_fa runUnderlying181 rfl sizeOf72 rfl rfl)) <| dX 6 rfl (e_load isAgg72 rfl (.inl M1) rfl) ?_
  refine dX 7 rfl (eA (vi 1) (e_lenl runUnderlying72 rfl)) <| dX 8 rfl (e_int (r := vi 9) rfl rfl (by kernel_rfl)) ?_
  refine dX 9 rfl (e_convc (r := vd 9) runUnderlying3 runUnderlying212 rfl (by kernel_rfl)) ?_
  refine dX 10 rfl (e_as (r := .tuple #[.agg #[vd 9, vq 1, .slice (ad p2 0) 9 9], .bool true]) (e_lookup2 runUnderlying327 runUnderlying212 zeroValue448 rfl rfl (.inl M4)) (by kernel_rfl)) <| dX 11 rfl (e_move rfl) ?_
  refine dX 12 rfl (e_extract rfl rfl) <| dX 13 rfl (e_extract rfl rfl) ?_
  refine d_l 14 (by kernel_rfl) rfl rfl (l_alloc zeroValue448 rfl rfl) (fun _ _ => hs_cons M1 (hs_cons M2 (hs_cons M3 (hs_cons M4 (hs_cons M5 (hs_cons M6 (hs_cons M7 (hs_cons M8 (hs_nil))))))))) ?_
  intro g4 _
  refine d_l 15 (by kernel_rfl) rfl rfl (l_storea sizeOf448 rfl rfl rfl (by simp [Value.oneCell']) .head (.take (.take (.take .done))) nofrs0) (fun _ _ => hs_cons M1 (hs_cons M2 (hs_cons M3 (hs_cons M4 (hs_cons M5 (hs_cons M6 (hs_cons M7 (hs_cons M8 (hs_nil))))))))) ?_
  intro _ _
  refine dX 16 rfl (e_assign rfl) <| dN <| n_code <| cR <| oM rfl <| oN <| c_then rfl <| cR <| oM rfl <| oC rfl <| oX (eA (.pointer (ad r3 3)) (e_fa runUnderlying181 rfl sizeOf72 rfl rfl)) <| oX (e_load isAgg72 rfl (.inl M2) rfl) <| oM rfl ?_
  refine o_l rfl (l_calle call323 (z117 (g4) (p2) r2 hr2 (p3) (p4)) rfl rfl (.cons .head (.cons (.tail (.tail (.tail (.tail (.tail .head))))) (.cons .head (.cons (.tail (.tail (.tail (.tail .head)))) (.cons (.tail (.tail (.tail (.tail .head)))) .nil)))))) ?_; intro r5 hr5
  refine o_cat (.cons (.cons (.cons (.cons (.cons (.cons .nil)))))) <| oA rfl <| oN <| c_ret <| WR.sel (.cons (.tail (.tail (.tail (.tail (.tail (.tail (.tail (.tail .head)))))))) (.cons (.tail (.tail (.tail (.tail (.tail (.tail (.tail (.tail .head)))))))) (.cons (.tail .head) (.cons (.tail (.tail .head)) (.cons (.tail (.tail .head)) (.cons (.tail (.tail .head)) .nil)))))) <| r_fn1 results314 rfl ?_
  exact tells (y := (r5)) hr5 rfl rfl

theorem z119 {G : HP}  :
    CtrE Tryz.prog 70 [.nilIface] G [] (T := Unit) (fun _ => True) (fun _ => ub 0) (fun _ => []) := by
  refine fn_enter 9 func70 rfl ntmps70 rfl ?_
  intro w0
  refine cR <| oA rfl <| oN <| c_seq <| cR <| oM rfl <| oN <| c_block <| cR <| oX (e_neqn runUnderlying80 rfl) <| oA rfl <| oN <| c_then rfl <| cR <| oA rfl <| oN <| c_ret <| WR.sel .nil <| r_fn1 results70 rfl ?_
  exact tells (y := ()) trivial rfl rfl
end Go.Proofs
