/- Runs at known values, part 4. (A part of the proof of this: for every input laws.FnIxStop returns true and its arguments read as they did, the listed package variables being what the program lays.) -/
import Derived.Test.YtochgglejmfelaaGreatDoorG02
import Derived.KernelRfl
import Derived.Test.YtochgglejmfelaaGreatDoorG16
namespace Go.Proofs
open Go Go.Sl Tryz
set_option maxRecDepth 100000
set_option maxHeartbeats 4000000
theorem z80 {G : HP} (p0 : Nat) (q1 : Tl) (h1 : TlOk 1 27 q1) :
    CtrE Tryz.prog 79 [.iface 75 (pv p0)] G [(p0, C [.slice (ad q1.g 0) 27 q1.cap, vi 0, vi (-1)] 144), (q1.g, Ob xb14 q1 5)] (T := Unit) (fun _ => True) (fun _ => .iface 75 (pv p0)) (fun _ => [(p0, C [.slice (ad q1.g 0) 27 q1.cap, vi 0, vi (-1)] 144), (q1.g, Ob xb14 q1 5)]) := by
  refine fn_enter 16 func79 rfl ntmps79 rfl ?_
  intro w0
  refine cR <| oA rfl <| oN <| c_seq <| cR <| oM rfl <| oX (e_ta rfl (r := .tuple #[.iface 75 (pv p0), .bool true]) (by intro w; kernel_rfl)) <| oM rfl <| oX (e_extract rfl rfl) <| oX (e_extract rfl rfl) <| oA rfl <| oA rfl <| oN <| cR <| oM rfl <| oN <| c_then rfl <| cR <| oM rfl <| oA rfl <| oN <| c_ret ?_
  refine WR.sel (.cons .head (.cons .head .nil)) <| r_fn1 results79 rfl ?_
  exact tells (y := ()) trivial rfl rfl

theorem z81 {G : HP} (p0 : Nat) (q1 : Tl) (h1 : TlOk 1 27 q1) :
    CtrE Tryz.prog 289 [pv p0] G [(p0, C [.slice (ad q1.g 0) 27 q1.cap, vi 0, vi (-1)] 144), (q1.g, Ob xb14 q1 5)] (T := Unit) (fun _ => True) (fun _ => .tuple #[ub 128, .nilIface]) (fun _ => [(p0, C [.slice (ad q1.g 0) 27 q1.cap, vi 1, vi (-1)] 144), (q1.g, Ob xb14 q1 5)]) := by
  refine fn_enter 37 func289 rfl ntmps289 rfl ?_
  intro w0
  refine cR <| oA rfl <| oA rfl <| oN <| cR <| oM rfl <| oC rfl <| oX (eA (.pointer (ad p0 2)) (e_fa runUnderlying144 rfl sizeOf3 rfl rfl)) ?_
  refine o_l rfl (l_store sizeOf3 rfl rfl rfl .head (.tail (.tail .head)) nofr0) ?_; intro _ _
  refine oN <| c_seq <| c_seq <| cQ <| qM rfl <| qC rfl <| qX (eA (.pointer (ad p0 1)) (e_fa runUnderlying144 rfl sizeOf2 rfl rfl)) <| qX (e_load isAgg2 rfl (.inl M0) rfl) <| qM rfl <| qC rfl ?_
  refine qX (eA (pv p0) (e_fa runUnderlying144 rfl sizeOf72 rfl rfl)) <| qX (e_load isAgg72 rfl (.inl M0) rfl) <| qX (eA (vi 27) (e_lenl runUnderlying72 rfl)) <| qX (e_int (r := .bool false) rfl rfl (by kernel_rfl)) <| qN <| cL rfl <| c_seq <| cQ <| qM rfl ?_
  refine qC rfl <| qX (eA (pv p0) (e_fa runUnderlying144 rfl sizeOf72 rfl rfl)) <| qX (e_load isAgg72 rfl (.inl M0) rfl) <| qM rfl <| qC rfl <| qX (eA (.pointer (ad p0 1)) (e_fa runUnderlying144 rfl sizeOf2 rfl rfl)) <| qX (e_load isAgg2 rfl (.inl M0) rfl) ?_
  refine qX (eA (pv q1.g) (e_ia runUnderlying72 sizeOf5 rfl rfl (by decide) (by decide))) <| qX (e_load isAgg5 rfl (.inl M1) rfl) <| qA rfl <| qN <| cR <| oM rfl <| oC rfl <| oX (eA (.pointer (ad p0 1)) (e_fa runUnderlying144 rfl sizeOf2 rfl rfl)) ?_
  refine oX (e_load isAgg2 rfl (.inl M0) rfl) <| oI (vi 1) rfl rfl <| oC rfl <| oX (eA (.pointer (ad p0 1)) (e_fa runUnderlying144 rfl sizeOf2 rfl rfl)) ?_
  refine o_l rfl (l_store sizeOf2 rfl rfl rfl .head (.tail .head) nofr0) ?_; intro _ _
  refine oN <| cR <| oM rfl <| oA rfl <| oA rfl <| oN <| c_ret <| WR.sel (.cons .head (.cons .head .nil)) <| r_fn (l := [.tmp 2, .tmp 3]) results289 rfl rfl ?_
  exact tells (y := ()) trivial rfl rfl

theorem z82 {G : HP} (p0 : Nat) (q1 : Tl) (h1 : TlOk 1 27 q1) :
    CtrE Tryz.prog 289 [pv p0] G [(p0, C [.slice (ad q1.g 0) 27 q1.cap, vi 1, vi (-1)] 144), (q1.g, Ob xb14 q1 5)] (T := Unit) (fun _ => True) (fun _ => .tuple #[ub 8, .nilIface]) (fun _ => [(p0, C [.slice (ad q1.g 0) 27 q1.cap, vi 2, vi (-1)] 144), (q1.g, Ob xb14 q1 5)]) := by
  refine fn_enter 37 func289 rfl ntmps289 rfl ?_
  intro w0
  refine cR <| oA rfl <| oA rfl <| oN <| cR <| oM rfl <| oC rfl <| oX (eA (.pointer (ad p0 2)) (e_fa runUnderlying144 rfl sizeOf3 rfl rfl)) ?_
  refine o_l rfl (l_store sizeOf3 rfl rfl rfl .head (.tail (.tail .head)) nofr0) ?_; intro _ _
  refine oN <| c_seq <| c_seq <| cQ <| qM rfl <| qC rfl <| qX (eA (.pointer (ad p0 1)) (e_fa runUnderlying144 rfl sizeOf2 rfl rfl)) <| qX (e_load isAgg2 rfl (.inl M0) rfl) <| qM rfl <| qC rfl ?_
  refine qX (eA (pv p0) (e_fa runUnderlying144 rfl sizeOf72 rfl rfl)) <| qX (e_load isAgg72 rfl (.inl M0) rfl) <| qX (eA (vi 27) (e_lenl runUnderlying72 rfl)) <| qX (e_int (r := .bool false) rfl rfl (by kernel_rfl)) <| qN <| cL rfl <| c_seq <| cQ <| qM rfl ?_
  refine qC rfl <| qX (eA (pv p0) (e_fa runUnderlying144 rfl sizeOf72 rfl rfl)) <| qX (e_load isAgg72 rfl (.inl M0) rfl) <| qM rfl <| qC rfl <| qX (eA (.pointer (ad p0 1)) (e_fa runUnderlying144 rfl sizeOf2 rfl rfl)) <| qX (e_load isAgg2 rfl (.inl M0) rfl) ?_
  refine qX (eA (.pointer (ad q1.g 1)) (e_ia runUnderlying72 sizeOf5 rfl rfl (by decide) (by decide))) <| qX (e_load isAgg5 rfl (.inl M1) rfl) <| qA rfl <| qN <| cR <| oM rfl <| oC rfl <| oX (eA (.pointer (ad p0 1)) (e_fa runUnderlying144 rfl sizeOf2 rfl rfl)) ?_
  refine oX (e_load isAgg2 rfl (.inl M0) rfl) <| oI (vi 2) rfl rfl <| oC rfl <| oX (eA (.pointer (ad p0 1)) (e_fa runUnderlying144 rfl sizeOf2 rfl rfl)) ?_
  refine o_l rfl (l_store sizeOf2 rfl rfl rfl .head (.tail .head) nofr0) ?_; intro _ _
  refine oN <| cR <| oM rfl <| oA rfl <| oA rfl <| oN <| c_ret <| WR.sel (.cons .head (.cons .head .nil)) <| r_fn (l := [.tmp 2, .tmp 3]) results289 rfl rfl ?_
  exact tells (y := ()) trivial rfl rfl

theorem z83 {G : HP} (p0 : Nat) (q1 : Tl) (h1 : TlOk 1 27 q1) :
    CtrE Tryz.prog 78 [.iface 75 (pv p0)] G [(p0, C [.slice (ad q1.g 0) 27 q1.cap, vi 0, vi (-1)] 144), (q1.g, Ob xb14 q1 5)] (T := Unit) (fun _ => True) (fun _ => .tuple #[vq 1024, .nilIface]) (fun _ => [(p0, C [.slice (ad q1.g 0) 27 q1.cap, vi 2, vi (-1)] 144), (q1.g, Ob xb14 q1 5)]) := by
  refine fn_enter 59 func78 rfl ntmps78 rfl ?_
  intro w0
  refine cR <| oA rfl <| oA rfl <| oN <| cR <| oA rfl <| oN <| cR <| oA rfl <| oN <| cR <| oA rfl <| oN <| c_block <| c_rounds 999 <| c_seq <| c_block <| cR <| oM rfl ?_
  refine o_l rfl (l_callie call289 (by intro w; kernel_rfl) (z81 (p0) q1 h1) rfl rfl rfl (.cons .head (.cons .head .nil))) ?_; intro r1 hr1
  refine o_cat (.cons (.cons .nil)) <| oM rfl <| oX (e_extract rfl rfl) <| oX (e_extract rfl rfl) <| oA rfl <| oA rfl <| oN <| c_seq <| cR <| oM rfl <| oX (e_nnen runUnderlying80 rfl) <| oN <| cL rfl <| c_seq <| cR <| oM rfl <| oI (.bool false) rfl rfl <| oM rfl <| oS <| oS <| oX (e_pick_f rfl rfl) <| oM rfl ?_
  refine oX (e_move rfl) <| oX (e_int (r := .bool false) rfl rfl (by kernel_rfl)) <| oX (e_pick_f rfl rfl) <| oN <| cL rfl <| c_seq <| cR <| oM rfl <| oI (.bool false) rfl rfl <| oN <| cL rfl <| c_region <| oM rfl <| oM rfl <| oI (ub 0) rfl rfl ?_
  refine oX (e_convc (r := vq 0) runUnderlying5 runUnderlying23 rfl (by kernel_rfl)) <| oM rfl <| oX (e_shlc (r := vq 0) rfl rfl rfl (by kernel_rfl)) <| oI (vq 0) rfl rfl <| oA rfl <| o_nil <| n_block <| n_code <| c_region <| oM rfl <| oI (vq 7) rfl rfl <| oA rfl <| o_nil <| n_rounds ?_
  refine c_keep (sK 5 rfl <| sK 9 rfl <| sK 8 rfl <| sK 4 rfl <| sK 58 rfl <| sK 57 rfl <| sK 56 rfl <| sK 55 rfl <| sK 54 rfl <| sK 53 rfl <| sK 52 rfl <| sK 38 rfl <| sK 37 rfl <| sK 35 rfl <| sK 34 rfl <| sK 33 rfl <| sK 32 rfl <| sK 31 rfl <| sK 30 rfl <| sK 29 rfl <| sK 28 rfl <| sK 27 rfl <| sK 26 rfl <| sK 16 rfl <| sK 15 rfl <| sK 7 rfl <| sK 6 rfl <| sK 14 rfl <| sK 13 rfl <| sK 10 rfl <| sK 12 rfl <| sK 11 rfl <| sK 3 rfl <| sK 2 rfl <| sK 0 rfl <| sub_nil) ?_
  refine c_seq <| c_block <| cR <| oM rfl ?_
  refine o_l rfl (l_callie call289 (by intro w; kernel_rfl) (z82 (p0) q1 h1) rfl rfl rfl (.cons .head (.cons .head .nil))) ?_; intro r2 hr2
  refine o_cat (.cons (.cons .nil)) <| oM rfl <| oX (e_extract rfl rfl) <| oX (e_extract rfl rfl) <| oA rfl <| oA rfl <| oN <| c_seq <| cR <| oM rfl <| oX (e_nnen runUnderlying80 rfl) <| oN <| cL rfl <| c_seq <| cR <| oM rfl <| oI (.bool false) rfl rfl <| oM rfl <| oS <| oS <| oX (e_pick_f rfl rfl) <| oM rfl ?_
  refine oX (e_move rfl) <| oX (e_int (r := .bool false) rfl rfl (by kernel_rfl)) <| oX (e_pick_f rfl rfl) <| oN <| cL rfl <| c_seq <| c_seq ?_
  refine c_keep (sK 35 rfl <| sK 34 rfl <| sK 33 rfl <| sK 32 rfl <| sK 31 rfl <| sK 30 rfl <| sK 29 rfl <| sK 28 rfl <| sK 27 rfl <| sK 26 rfl <| sK 16 rfl <| sK 15 rfl <| sK 7 rfl <| sK 6 rfl <| sK 14 rfl <| sK 13 rfl <| sK 10 rfl <| sK 12 rfl <| sK 11 rfl <| sK 5 rfl <| sK 9 rfl <| sK 8 rfl <| sK 4 rfl <| sK 58 rfl <| sK 57 rfl <| sK 56 rfl <| sK 55 rfl <| sK 54 rfl <| sK 53 rfl <| sK 52 rfl <| sK 38 rfl <| sK 37 rfl <| sK 3 rfl <| sK 2 rfl <| sK 0 rfl <| sub_nil) ?_
  refine c_region <| oM rfl <| oI (.bool true) rfl rfl <| oN <| c_then rfl <| c_seq <| cR <| oM rfl <| oI (.bool false) rfl rfl <| oM rfl <| oS <| oS <| oX (e_pick_f rfl rfl) <| oN <| cL rfl <| cR <| oM rfl <| oM rfl <| oX (e_convc (r := vq 8) runUnderlying5 runUnderlying23 rfl (by kernel_rfl)) ?_
  refine oM rfl <| oX (e_shlc (r := vq 1024) rfl rfl rfl (by kernel_rfl)) <| oI (vq 1024) rfl rfl <| oA rfl <| oA rfl <| oN <| c_ret <| WR.sel (.cons .head (.cons .head .nil)) <| r_fn (l := [.tmp 2, .tmp 3]) results78 rfl rfl ?_
  exact tells (y := ()) trivial rfl rfl

theorem z84 {G : HP} (p0 : Nat) (q1 : Tl) (h1 : TlOk 1 27 q1) :
    CtrE Tryz.prog 45 [.iface 75 (pv p0)] G [(p0, C [.slice (ad q1.g 0) 27 q1.cap, vi 0, vi (-1)] 144), (q1.g, Ob xb14 q1 5)] (T := Unit) (fun _ => True) (fun _ => .tuple #[vq 1024, .nilIface]) (fun _ => [(p0, C [.slice (ad q1.g 0) 27 q1.cap, vi 2, vi (-1)] 144), (q1.g, Ob xb14 q1 5)]) := by
  refine fn_enter 16 func45 rfl ntmps45 rfl ?_
  intro w0
  refine cR <| oA rfl <| oA rfl <| oN <| cR <| oM rfl ?_
  refine o_l rfl (l_calle call79 (z80 (p0) q1 h1) rfl rfl (.cons .head (.cons .head .nil))) ?_; intro r1 hr1
  refine o_cat (.cons (.cons .nil)) ?_
  refine o_l rfl (l_calle call78 (z83 (p0) q1 h1) rfl rfl (.cons .head (.cons .head .nil))) ?_; intro r2 hr2
  refine o_cat (.cons (.cons .nil)) <| oM rfl <| oX (e_extract rfl rfl) <| oX (e_extract rfl rfl) <| oA rfl <| oA rfl <| oN <| c_seq <| cR <| oM rfl <| oX (e_nnen runUnderlying80 rfl) <| oN <| cL rfl <| cR <| oM rfl <| oA rfl <| oA rfl <| oN <| c_ret <| WR.sel (.cons .head (.cons .head .nil)) <| r_fn (l := [.tmp 2, .tmp 3]) results45 rfl rfl ?_
  exact tells (y := ()) trivial rfl rfl

theorem z85 {G : HP} (p0 : Nat) (q1 : Tl) (h1 : TlOk 1 27 q1) :
    CtrE Tryz.prog 164 [.iface 75 (pv p0)] G [(p0, C [.slice (ad q1.g 0) 27 q1.cap, vi 2, vi (-1)] 144), (q1.g, Ob xb14 q1 5)] (T := Unit) (fun _ => True) (fun _ => .iface 75 (pv p0)) (fun _ => [(p0, C [.slice (ad q1.g 0) 27 q1.cap, vi 2, vi (-1)] 144), (q1.g, Ob xb14 q1 5)]) := by
  refine fn_enter 28 func164 rfl ntmps164 rfl ?_
  intro w0
  refine cR <| oA rfl <| oN <| c_seq <| cR <| oM rfl <| oX (e_ta rfl (r := .tuple #[.iface 75 (pv p0), .bool true]) (by intro w; kernel_rfl)) <| oM rfl <| oX (e_extract rfl rfl) <| oX (e_extract rfl rfl) <| oA rfl <| oA rfl <| oN <| cR <| oM rfl <| oN <| c_then rfl <| cR <| oM rfl <| oA rfl <| oN <| c_ret ?_
  refine WR.sel (.cons .head (.cons .head .nil)) <| r_fn1 results164 rfl ?_
  exact tells (y := ()) trivial rfl rfl

theorem z86 {G : HP} (p0 : Nat) (q1 : Tl) (h1 : TlOk 1 27 q1) (p2 : Nat) :
    CtrE Tryz.prog 288 [pv p0, .slice (ad p2 0) 4 4] G [(p0, C [.slice (ad q1.g 0) 27 q1.cap, vi 2, vi (-1)] 144), (q1.g, Ob xb14 q1 5), (p2, C [ub 0, ub 0, ub 0, ub 0] 5)] (T := Unit) (fun _ => True) (fun _ => .tuple #[vi 4, .nilIface]) (fun _ => [(p0, C [.slice (ad q1.g 0) 27 q1.cap, vi 6, vi (-1)] 144), (q1.g, Ob xb14 q1 5), (p2, C [ub 1, ub 0, ub 0, ub 0] 5)]) := by
  refine fn_enter 39 func288 rfl ntmps288 rfl ?_
  intro w0
  refine cR <| oA rfl <| oA rfl <| oN <| c_seq <| c_seq <| cQ <| qM rfl <| qC rfl <| qX (eA (.pointer (ad p0 1)) (e_fa runUnderlying144 rfl sizeOf2 rfl rfl)) <| qX (e_load isAgg2 rfl (.inl M0) rfl) <| qM rfl <| qC rfl ?_
  refine qX (eA (pv p0) (e_fa runUnderlying144 rfl sizeOf72 rfl rfl)) <| qX (e_load isAgg72 rfl (.inl M0) rfl) <| qX (eA (vi 27) (e_lenl runUnderlying72 rfl)) <| qX (e_int (r := .bool false) rfl rfl (by kernel_rfl)) <| qN <| cL rfl <| cR <| oM rfl <| oC rfl ?_
  refine oX (eA (.pointer (ad p0 2)) (e_fa runUnderlying144 rfl sizeOf3 rfl rfl)) ?_
  refine o_l rfl (l_store sizeOf3 rfl rfl rfl .head (.tail (.tail .head)) nofr0) ?_; intro _ _
  refine oN <| c_seq ?_
  refine c_regiond [(p0, C [.slice (ad q1.g 0) 27 q1.cap, vi 2, vi (-1)] 144), (q1.g, Ob xb14 q1 5)] (by kernel_rfl) (.cons_cons _ (.cons_cons _ (.cons _ (.slnil)))) ?_
  refine dX 0 rfl (e_move rfl) <| dX 1 rfl (e_move rfl) <| dX 2 rfl (e_nilCheck rfl) ?_
  refine dX 3 rfl (eA (pv p0) (e_fa runUnderlying144 rfl sizeOf72 rfl rfl)) <| dX 4 rfl (e_load isAgg72 rfl (.inl M0) rfl) <| dX 5 rfl (e_move rfl) ?_
  refine dX 6 rfl (e_nilCheck rfl) <| dX 7 rfl (eA (.pointer (ad p0 1)) (e_fa runUnderlying144 rfl sizeOf2 rfl rfl)) <| dX 8 rfl (e_load isAgg2 rfl (.inl M0) rfl) ?_
  refine dX 9 rfl (e_as (r := .slice (ad q1.g 2) 25 (q1.cap - 2)) (e_sl_l runUnderlying72 sizeOf5 rfl rfl (by decide) (by decide) (by have := h1.le; omega)) (by first | rfl | (simp; try omega))) ?_
  refine d_l 10 (by kernel_rfl) rfl rfl (l_copy (vs := xb15) (k' := 4) runUnderlying72 sizeOf5 rfl rfl rfl (Sv.blk (vs := xb15) underlying72 (.inl M1) (.skip (.skip (.take (.take (.take (.take (.take (.take (.take (.take (.take (.take (.take (.take (.take (.take (.take (.take (.take (.take (.take (.take (.take (.take (.take (.take (.take .done))))))))))))))))))))))))))) (by simp [Value.oneCell'])) rfl (.tail (.tail .head)) (.take (.take (.take (.take .done)))) (.inr rfl)) (fun _ _ => hs_cons (.head _) (hs_cons M1 (hs_nil))) ?_
  intro _ _
  refine dX 11 rfl (e_assign rfl) <| dN <| n_code <| cR <| oM rfl <| oC rfl <| oX (eA (.pointer (ad p0 1)) (e_fa runUnderlying144 rfl sizeOf2 rfl rfl)) <| oX (e_load isAgg2 rfl (.inl M0) rfl) <| oM rfl <| oI (vi 6) rfl rfl <| oC rfl ?_
  refine oX (eA (.pointer (ad p0 1)) (e_fa runUnderlying144 rfl sizeOf2 rfl rfl)) ?_
  refine o_l rfl (l_store sizeOf2 rfl rfl rfl .head (.tail .head) nofr0) ?_; intro _ _
  refine oN <| c_ret <| WR.sel (.cons .head (.cons .head (.cons .head .nil))) <| r_fn (l := [.tmp 4, .tmp 5]) results288 rfl rfl ?_
  exact tells (y := ()) trivial rfl rfl

theorem z87 {G : HP} (p0 : Nat) (q1 : Tl) (h1 : TlOk 1 27 q1) (p2 : Nat) :
    CtrE Tryz.prog 201 [.iface 75 (pv p0), .slice (ad p2 0) 4 4, vi 4] G [(p0, C [.slice (ad q1.g 0) 27 q1.cap, vi 2, vi (-1)] 144), (q1.g, Ob xb14 q1 5), (p2, C [ub 0, ub 0, ub 0, ub 0] 5)] (T := Unit) (fun _ => True) (fun _ => .tuple #[vi 4, .nilIface]) (fun _ => [(p0, C [.slice (ad q1.g 0) 27 q1.cap, vi 6, vi (-1)] 144), (q1.g, Ob xb14 q1 5), (p2, C [ub 1, ub 0, ub 0, ub 0] 5)]) := by
  refine fn_enter 46 func201 rfl ntmps201 rfl ?_
  intro w0
  refine cR <| oA rfl <| oA rfl <| oN <| c_seq <| cR <| oM rfl <| oX (eA (vi 4) (e_lenl runUnderlying72 rfl)) <| oM rfl <| oI (.bool false) rfl rfl <| oN <| cL rfl <| c_seq <| c_block <| c_rounds 999 <| c_seq <| cR <| oM rfl <| oM rfl <| oI (.bool true) rfl rfl <| oM rfl <| oX (e_move rfl) ?_
  refine oX (e_neqn runUnderlying80 rfl) <| oX (e_pick_t rfl rfl) <| oN <| c_then rfl <| c_skip <| n_code <| c_block <| cR <| oA rfl <| oN <| c_seq ?_
  refine c_regiond [(q1.g, Ob xb14 q1 5)] (by kernel_rfl) (.cons _ (.cons_cons _ (.cons _ (.slnil)))) ?_
  refine dX 0 rfl (e_move rfl) <| dX 1 rfl (e_move rfl) <| dX 2 rfl (e_move rfl) ?_
  refine dX 3 rfl (e_as (r := .slice (ad p2 0) 4 4) (e_sl_l runUnderlying72 sizeOf5 rfl rfl (by decide) (by decide) (by decide)) (by first | rfl | (simp; try omega))) <| dX 4 rfl (e_func rfl rfl) ?_
  refine dX 5 rfl (e_nilm (by intro w; kernel_rfl) rfl) <| dX 6 rfl (e_move rfl) <| d_l 7 (by kernel_rfl) rfl rfl (l_callie call288 (by intro w; kernel_rfl) (z86 (p0) q1 h1 (p2)) rfl rfl rfl (.cons .head (.cons .head (.cons .head .nil)))) (fun _ _ => hs_cons M1 (hs_nil)) ?_
  intro r1 hr1
  refine d_cat (.cons (.cons (.cons .nil))) <| dX 8 rfl (e_move rfl) <| dX 9 rfl (e_extract rfl rfl) <| dX 10 rfl (e_extract rfl rfl) <| dX 11 rfl (e_assign rfl) ?_
  refine dX 12 rfl (e_assign rfl) <| dN <| n_code <| c_region <| oM rfl <| oM rfl <| oI (vi 4) rfl rfl <| oA rfl <| o_nil <| n_block <| n_rounds ?_
  refine c_keep (sK 6 rfl <| sK 34 rfl <| sK 33 rfl <| sK 32 rfl <| sK 7 rfl <| sK 8 rfl <| sK 31 rfl <| sK 30 rfl <| sK 21 rfl <| sK 29 rfl <| sK 28 rfl <| sK 26 rfl <| sK 25 rfl <| sK 24 rfl <| sK 23 rfl <| sK 22 rfl <| sK 20 rfl <| sK 19 rfl <| sK 18 rfl <| sK 17 rfl <| sK 16 rfl <| sK 15 rfl <| sK 14 rfl <| sK 2 rfl <| sK 1 rfl <| sK 0 rfl <| sub_nil) ?_
  refine c_seq <| cR <| oM rfl <| oM rfl <| oI (.bool false) rfl rfl <| oM rfl <| oS <| oS <| oX (e_pick_f rfl rfl) <| oN <| c_else rfl <| c_exit <| x_code <| x_upto <| x_here <| n_code <| c_seq <| cR <| oM rfl <| oM rfl <| oI (.bool true) rfl rfl <| oN <| c_then rfl <| c_region <| oA rfl <| oN <| c_ret ?_
  refine WR.sel (.cons .head (.cons .head (.cons .head .nil))) <| r_fn (l := [.tmp 6, .tmp 7]) results201 rfl rfl ?_
  exact tells (y := ()) trivial rfl rfl

theorem z88 {G : HP} (p0 : Nat) (q1 : Tl) (h1 : TlOk 1 27 q1) (p2 : Nat) :
    CtrE Tryz.prog 152 [.iface 75 (pv p0), .slice (ad p2 0) 4 4] G [(p0, C [.slice (ad q1.g 0) 27 q1.cap, vi 2, vi (-1)] 144), (q1.g, Ob xb14 q1 5), (p2, C [ub 0, ub 0, ub 0, ub 0] 5)] (T := Unit) (fun _ => True) (fun _ => .tuple #[vi 4, .nilIface]) (fun _ => [(p0, C [.slice (ad q1.g 0) 27 q1.cap, vi 6, vi (-1)] 144), (q1.g, Ob xb14 q1 5), (p2, C [ub 1, ub 0, ub 0, ub 0] 5)]) := by
  refine fn_enter 13 func152 rfl ntmps152 rfl ?_
  intro w0
  refine cR <| oA rfl <| oA rfl <| oN <| cR <| oM rfl <| oM rfl <| oM rfl <| oX (eA (vi 4) (e_lenl runUnderlying72 rfl)) ?_
  refine o_l rfl (l_calle call201 (z87 (p0) q1 h1 (p2)) rfl rfl (.cons .head (.cons .head (.cons .head .nil)))) ?_; intro r1 hr1
  refine o_cat (.cons (.cons (.cons .nil))) <| oX (e_extract rfl rfl) <| oX (e_extract rfl rfl) <| oA rfl <| oA rfl <| oN <| c_ret <| WR.sel (.cons .head (.cons .head (.cons .head .nil))) <| r_fn (l := [.tmp 4, .tmp 5]) results152 rfl rfl ?_
  exact tells (y := ()) trivial rfl rfl

theorem z89 {G : HP} (p0 : Nat) :
    CtrE Tryz.prog 330 [.agg #[], .slice (ad p0 0) 4 4] G [(p0, C [ub 1, ub 0, ub 0, ub 0] 5)] (T := Unit) (fun _ => True) (fun _ => vd 1) (fun _ => [(p0, C [ub 1, ub 0, ub 0, ub 0] 5)]) := by
  refine fn_enter 30 func330 rfl ntmps330 rfl ?_
  intro w0
  refine cR ?_
  refine o_l rfl (l_box rfl rfl rfl) ?_; intro g1 _
  refine oA rfl <| oN <| cR <| oM rfl <| oX (eA (.pointer (ad p0 3)) (e_ia runUnderlying72 sizeOf5 rfl rfl (by decide) (by decide))) <| oX (e_load isAgg5 rfl (.inl M1) rfl) <| oN <| c_seq <| cQ <| qM rfl ?_
  refine qX (eA (pv p0) (e_ia runUnderlying72 sizeOf5 rfl rfl (by decide) (by decide))) <| qX (e_load isAgg5 rfl (.inl M1) rfl) <| qX (e_convc (r := vd 1) runUnderlying5 runUnderlying212 rfl (by kernel_rfl)) <| qM rfl ?_
  refine qX (eA (.pointer (ad p0 1)) (e_ia runUnderlying72 sizeOf5 rfl rfl (by decide) (by decide))) <| qX (e_load isAgg5 rfl (.inl M1) rfl) <| qX (e_convc (r := vd 0) runUnderlying5 runUnderlying212 rfl (by kernel_rfl)) <| qX (e_shlc (r := vd 0) rfl rfl rfl (by kernel_rfl)) <| qX (e_int (r := vd 1) rfl rfl (by kernel_rfl)) ?_
  refine qM rfl <| qX (eA (.pointer (ad p0 2)) (e_ia runUnderlying72 sizeOf5 rfl rfl (by decide) (by decide))) <| qX (e_load isAgg5 rfl (.inl M1) rfl) <| qX (e_convc (r := vd 0) runUnderlying5 runUnderlying212 rfl (by kernel_rfl)) <| qX (e_shlc (r := vd 0) rfl rfl rfl (by kernel_rfl)) ?_
  refine qX (e_int (r := vd 1) rfl rfl (by kernel_rfl)) <| qM rfl <| qX (eA (.pointer (ad p0 3)) (e_ia runUnderlying72 sizeOf5 rfl rfl (by decide) (by decide))) <| qX (e_load isAgg5 rfl (.inl M1) rfl) <| qX (e_convc (r := vd 0) runUnderlying5 runUnderlying212 rfl (by kernel_rfl)) ?_
  refine qX (e_shlc (r := vd 0) rfl rfl rfl (by kernel_rfl)) <| qX (e_int (r := vd 1) rfl rfl (by kernel_rfl)) <| qA rfl <| qN <| c_ret <| WR.sel (.cons (.tail .head) .nil) <| r_fn1 results330 rfl ?_
  exact tells (y := ()) trivial rfl rfl

theorem z90 {G : HP} (p0 : Nat) (q1 : Tl) (h1 : TlOk 1 27 q1) (p2 : Nat) :
    CtrE Tryz.prog 321 [.iface 75 (pv p0), pv p2] G [(p0, C [.slice (ad q1.g 0) 27 q1.cap, vi 2, vi (-1)] 144), (q1.g, Ob xb14 q1 5), (p2, C [vd 0] 212)] (T := Unit) (fun _ => True) (fun _ => .nilIface) (fun _ => [(p0, C [.slice (ad q1.g 0) 27 q1.cap, vi 6, vi (-1)] 144), (q1.g, Ob xb14 q1 5), (p2, C [vd 1] 212)]) := by
  refine fn_enter 23 func321 rfl ntmps321 rfl ?_
  intro w0
  refine cR <| oA rfl <| oN <| cR ?_
  refine o_l rfl (l_mksc (l := [ub 0, ub 0, ub 0, ub 0]) (n := 4) (m := 4) underlying72 (info_of typeInfo5) rfl rfl rfl rfl rfl rfl rfl (by decide) (by kernel_rfl)) ?_; intro g1 _
  refine oA rfl <| oN <| c_seq <| cR <| oM rfl <| oM rfl ?_
  refine o_l rfl (l_calle call152 (z88 (p0) q1 h1 (g1)) rfl rfl (.cons (.tail .head) (.cons (.tail .head) (.cons .head .nil)))) ?_; intro r2 hr2
  refine o_cat (.cons (.cons (.cons .nil))) <| oM rfl <| oX (e_extract rfl rfl) <| oX (e_extract rfl rfl) <| oA rfl <| oA rfl <| oN <| cR <| oM rfl <| oX (e_nnen runUnderlying80 rfl) <| oN <| cL rfl <| cR <| oM rfl <| oX (e_load0 isAgg294 sizeOf294 rfl) <| oM rfl ?_
  refine o_l rfl (l_calle call330 (z89 (g1)) rfl rfl (.cons (.tail (.tail .head)) .nil)) ?_; intro r3 hr3
  refine o_cat (.cons .nil) <| oC rfl ?_
  refine o_l rfl (l_store sizeOf212 rfl rfl rfl (.tail (.tail (.tail .head))) .head nofr0) ?_; intro _ _
  refine oN <| cR <| oA rfl <| oN <| c_ret <| WR.sel (.cons (.tail .head) (.cons (.tail .head) (.cons (.tail .head) .nil))) <| r_fn1 results321 rfl ?_
  exact tells (y := ()) trivial rfl rfl

theorem z91 {G : HP} (p0 : Nat) (q1 : Tl) (h1 : TlOk 1 27 q1) :
    CtrE Tryz.prog 290 [pv p0, vi 0, vi 1] G [(p0, C [.slice (ad q1.g 0) 27 q1.cap, vi 6, vi (-1)] 144), (q1.g, Ob xb14 q1 5)] (T := Unit) (fun _ => True) (fun _ => .tuple #[vi 6, .nilIface]) (fun _ => [(p0, C [.slice (ad q1.g 0) 27 q1.cap, vi 6, vi (-1)] 144), (q1.g, Ob xb14 q1 5)]) := by
  refine fn_enter 42 func290 rfl ntmps290 rfl ?_
  intro w0
  refine cR <| oA rfl <| oA rfl <| oN <| cR <| oM rfl <| oC rfl <| oX (eA (.pointer (ad p0 2)) (e_fa runUnderlying144 rfl sizeOf3 rfl rfl)) ?_
  refine o_l rfl (l_store sizeOf3 rfl rfl rfl .head (.tail (.tail .head)) nofr0) ?_; intro _ _
  refine oN <| cR <| oA rfl <| oN <| c_seq <| cR <| oM rfl <| oN <| c_block <| cR <| oI (.bool false) rfl rfl <| oA rfl <| oN <| c_else rfl <| cR <| oI (.bool true) rfl rfl <| oA rfl <| oN <| c_then rfl <| c_region <| oM rfl <| oC rfl ?_
  refine oX (eA (.pointer (ad p0 1)) (e_fa runUnderlying144 rfl sizeOf2 rfl rfl)) <| oX (e_load isAgg2 rfl (.inl M0) rfl) <| oM rfl <| oI (vi 6) rfl rfl <| oA rfl <| o_nil <| n_block <| n_code <| c_seq <| cR <| oM rfl <| oI (.bool false) rfl rfl <| oN <| cL rfl <| cR <| oM rfl <| oM rfl ?_
  refine oC rfl <| oX (eA (.pointer (ad p0 1)) (e_fa runUnderlying144 rfl sizeOf2 rfl rfl)) ?_
  refine o_l rfl (l_store sizeOf2 rfl rfl rfl .head (.tail .head) nofr0) ?_; intro _ _
  refine oN <| cR <| oM rfl <| oA rfl <| oA rfl <| oN <| c_ret <| WR.sel (.cons .head (.cons .head .nil)) <| r_fn (l := [.tmp 6, .tmp 7]) results290 rfl rfl ?_
  exact tells (y := ()) trivial rfl rfl

theorem z92 {G : HP} (p0 : Nat) (q1 : Tl) (h1 : TlOk 1 27 q1) (p2 : Nat) :
    CtrE Tryz.prog 288 [pv p0, .slice (ad p2 0) 4 4] G [(p0, C [.slice (ad q1.g 0) 27 q1.cap, vi 6, vi (-1)] 144), (q1.g, Ob xb14 q1 5), (p2, C [ub 0, ub 0, ub 0, ub 0] 5)] (T := Unit) (fun _ => True) (fun _ => .tuple #[vi 4, .nilIface]) (fun _ => [(p0, C [.slice (ad q1.g 0) 27 q1.cap, vi 10, vi (-1)] 144), (q1.g, Ob xb14 q1 5), (p2, C [ub 9, ub 0, ub 0, ub 0] 5)]) := by
  refine fn_enter 39 func288 rfl ntmps288 rfl ?_
  intro w0
  refine cR <| oA rfl <| oA rfl <| oN <| c_seq <| c_seq <| cQ <| qM rfl <| qC rfl <| qX (eA (.pointer (ad p0 1)) (e_fa runUnderlying144 rfl sizeOf2 rfl rfl)) <| qX (e_load isAgg2 rfl (.inl M0) rfl) <| qM rfl <| qC rfl ?_
  refine qX (eA (pv p0) (e_fa runUnderlying144 rfl sizeOf72 rfl rfl)) <| qX (e_load isAgg72 rfl (.inl M0) rfl) <| qX (eA (vi 27) (e_lenl runUnderlying72 rfl)) <| qX (e_int (r := .bool false) rfl rfl (by kernel_rfl)) <| qN <| cL rfl <| cR <| oM rfl <| oC rfl ?_
  refine oX (eA (.pointer (ad p0 2)) (e_fa runUnderlying144 rfl sizeOf3 rfl rfl)) ?_
  refine o_l rfl (l_store sizeOf3 rfl rfl rfl .head (.tail (.tail .head)) nofr0) ?_; intro _ _
  refine oN <| c_seq ?_
  refine c_regiond [(p0, C [.slice (ad q1.g 0) 27 q1.cap, vi 6, vi (-1)] 144), (q1.g, Ob xb14 q1 5)] (by kernel_rfl) (.cons_cons _ (.cons_cons _ (.cons _ (.slnil)))) ?_
  refine dX 0 rfl (e_move rfl) <| dX 1 rfl (e_move rfl) <| dX 2 rfl (e_nilCheck rfl) ?_
  refine dX 3 rfl (eA (pv p0) (e_fa runUnderlying144 rfl sizeOf72 rfl rfl)) <| dX 4 rfl (e_load isAgg72 rfl (.inl M0) rfl) <| dX 5 rfl (e_move rfl) ?_
  refine dX 6 rfl (e_nilCheck rfl) <| dX 7 rfl (eA (.pointer (ad p0 1)) (e_fa runUnderlying144 rfl sizeOf2 rfl rfl)) <| dX 8 rfl (e_load isAgg2 rfl (.inl M0) rfl) ?_
  refine dX 9 rfl (e_as (r := .slice (ad q1.g 6) 21 (q1.cap - 6)) (e_sl_l runUnderlying72 sizeOf5 rfl rfl (by decide) (by decide) (by have := h1.le; omega)) (by first | rfl | (simp; try omega))) ?_
  refine d_l 10 (by kernel_rfl) rfl rfl (l_copy (vs := xb16) (k' := 4) runUnderlying72 sizeOf5 rfl rfl rfl (Sv.blk (vs := xb16) underlying72 (.inl M1) (.skip (.skip (.skip (.skip (.skip (.skip (.take (.take (.take (.take (.take (.take (.take (.take (.take (.take (.take (.take (.take (.take (.take (.take (.take (.take (.take (.take (.take .done))))))))))))))))))))))))))) (by simp [Value.oneCell'])) rfl (.tail (.tail .head)) (.take (.take (.take (.take .done)))) (.inr rfl)) (fun _ _ => hs_cons (.head _) (hs_cons M1 (hs_nil))) ?_
  intro _ _
  refine dX 11 rfl (e_assign rfl) <| dN <| n_code <| cR <| oM rfl <| oC rfl <| oX (eA (.pointer (ad p0 1)) (e_fa runUnderlying144 rfl sizeOf2 rfl rfl)) <| oX (e_load isAgg2 rfl (.inl M0) rfl) <| oM rfl <| oI (vi 10) rfl rfl <| oC rfl ?_
  refine oX (eA (.pointer (ad p0 1)) (e_fa runUnderlying144 rfl sizeOf2 rfl rfl)) ?_
  refine o_l rfl (l_store sizeOf2 rfl rfl rfl .head (.tail .head) nofr0) ?_; intro _ _
  refine oN <| c_ret <| WR.sel (.cons .head (.cons .head (.cons .head .nil))) <| r_fn (l := [.tmp 4, .tmp 5]) results288 rfl rfl ?_
  exact tells (y := ()) trivial rfl rfl

theorem z93 {G : HP} (p0 : Nat) (q1 : Tl) (h1 : TlOk 1 27 q1) (p2 : Nat) :
    CtrE Tryz.prog 201 [.iface 75 (pv p0), .slice (ad p2 0) 4 4, vi 4] G [(p0, C [.slice (ad q1.g 0) 27 q1.cap, vi 6, vi (-1)] 144), (q1.g, Ob xb14 q1 5), (p2, C [ub 0, ub 0, ub 0, ub 0] 5)] (T := Unit) (fun _ => True) (fun _ => .tuple #[vi 4, .nilIface]) (fun _ => [(p0, C [.slice (ad q1.g 0) 27 q1.cap, vi 10, vi (-1)] 144), (q1.g, Ob xb14 q1 5), (p2, C [ub 9, ub 0, ub 0, ub 0] 5)]) := by
  refine fn_enter 46 func201 rfl ntmps201 rfl ?_
  intro w0
  refine cR <| oA rfl <| oA rfl <| oN <| c_seq <| cR <| oM rfl <| oX (eA (vi 4) (e_lenl runUnderlying72 rfl)) <| oM rfl <| oI (.bool false) rfl rfl <| oN <| cL rfl <| c_seq <| c_block <| c_rounds 999 <| c_seq <| cR <| oM rfl <| oM rfl <| oI (.bool true) rfl rfl <| oM rfl <| oX (e_move rfl) ?_
  refine oX (e_neqn runUnderlying80 rfl) <| oX (e_pick_t rfl rfl) <| oN <| c_then rfl <| c_skip <| n_code <| c_block <| cR <| oA rfl <| oN <| c_seq ?_
  refine c_regiond [(q1.g, Ob xb14 q1 5)] (by kernel_rfl) (.cons _ (.cons_cons _ (.cons _ (.slnil)))) ?_
  refine dX 0 rfl (e_move rfl) <| dX 1 rfl (e_move rfl) <| dX 2 rfl (e_move rfl) ?_
  refine dX 3 rfl (e_as (r := .slice (ad p2 0) 4 4) (e_sl_l runUnderlying72 sizeOf5 rfl rfl (by decide) (by decide) (by decide)) (by first | rfl | (simp; try omega))) <| dX 4 rfl (e_func rfl rfl) ?_
  refine dX 5 rfl (e_nilm (by intro w; kernel_rfl) rfl) <| dX 6 rfl (e_move rfl) <| d_l 7 (by kernel_rfl) rfl rfl (l_callie call288 (by intro w; kernel_rfl) (z92 (p0) q1 h1 (p2)) rfl rfl rfl (.cons .head (.cons .head (.cons .head .nil)))) (fun _ _ => hs_cons M1 (hs_nil)) ?_
  intro r1 hr1
  refine d_cat (.cons (.cons (.cons .nil))) <| dX 8 rfl (e_move rfl) <| dX 9 rfl (e_extract rfl rfl) <| dX 10 rfl (e_extract rfl rfl) <| dX 11 rfl (e_assign rfl) ?_
  refine dX 12 rfl (e_assign rfl) <| dN <| n_code <| c_region <| oM rfl <| oM rfl <| oI (vi 4) rfl rfl <| oA rfl <| o_nil <| n_block <| n_rounds ?_
  refine c_keep (sK 6 rfl <| sK 34 rfl <| sK 33 rfl <| sK 32 rfl <| sK 7 rfl <| sK 8 rfl <| sK 31 rfl <| sK 30 rfl <| sK 21 rfl <| sK 29 rfl <| sK 28 rfl <| sK 26 rfl <| sK 25 rfl <| sK 24 rfl <| sK 23 rfl <| sK 22 rfl <| sK 20 rfl <| sK 19 rfl <| sK 18 rfl <| sK 17 rfl <| sK 16 rfl <| sK 15 rfl <| sK 14 rfl <| sK 2 rfl <| sK 1 rfl <| sK 0 rfl <| sub_nil) ?_
  refine c_seq <| cR <| oM rfl <| oM rfl <| oI (.bool false) rfl rfl <| oM rfl <| oS <| oS <| oX (e_pick_f rfl rfl) <| oN <| c_else rfl <| c_exit <| x_code <| x_upto <| x_here <| n_code <| c_seq <| cR <| oM rfl <| oM rfl <| oI (.bool true) rfl rfl <| oN <| c_then rfl <| c_region <| oA rfl <| oN <| c_ret ?_
  refine WR.sel (.cons .head (.cons .head (.cons .head .nil))) <| r_fn (l := [.tmp 6, .tmp 7]) results201 rfl rfl ?_
  exact tells (y := ()) trivial rfl rfl

theorem z94 {G : HP} (p0 : Nat) (q1 : Tl) (h1 : TlOk 1 27 q1) (p2 : Nat) :
    CtrE Tryz.prog 152 [.iface 75 (pv p0), .slice (ad p2 0) 4 4] G [(p0, C [.slice (ad q1.g 0) 27 q1.cap, vi 6, vi (-1)] 144), (q1.g, Ob xb14 q1 5), (p2, C [ub 0, ub 0, ub 0, ub 0] 5)] (T := Unit) (fun _ => True) (fun _ => .tuple #[vi 4, .nilIface]) (fun _ => [(p0, C [.slice (ad q1.g 0) 27 q1.cap, vi 10, vi (-1)] 144), (q1.g, Ob xb14 q1 5), (p2, C [ub 9, ub 0, ub 0, ub 0] 5)]) := by
  refine fn_enter 13 func152 rfl ntmps152 rfl ?_
  intro w0
  refine cR <| oA rfl <| oA rfl <| oN <| cR <| oM rfl <| oM rfl <| oM rfl <| oX (eA (vi 4) (e_lenl runUnderlying72 rfl)) ?_
  refine o_l rfl (l_calle call201 (z93 (p0) q1 h1 (p2)) rfl rfl (.cons .head (.cons .head (.cons .head .nil)))) ?_; intro r1 hr1
  refine o_cat (.cons (.cons (.cons .nil))) <| oX (e_extract rfl rfl) <| oX (e_extract rfl rfl) <| oA rfl <| oA rfl <| oN <| c_ret <| WR.sel (.cons .head (.cons .head (.cons .head .nil))) <| r_fn (l := [.tmp 4, .tmp 5]) results152 rfl rfl ?_
  exact tells (y := ()) trivial rfl rfl

theorem z95 {G : HP} (p0 : Nat) :
    CtrE Tryz.prog 330 [.agg #[], .slice (ad p0 0) 4 4] G [(p0, C [ub 9, ub 0, ub 0, ub 0] 5)] (T := Unit) (fun _ => True) (fun _ => vd 9) (fun _ => [(p0, C [ub 9, ub 0, ub 0, ub 0] 5)]) := by
  refine fn_enter 30 func330 rfl ntmps330 rfl ?_
  intro w0
  refine cR ?_
  refine o_l rfl (l_box rfl rfl rfl) ?_; intro g1 _
  refine oA rfl <| oN <| cR <| oM rfl <| oX (eA (.pointer (ad p0 3)) (e_ia runUnderlying72 sizeOf5 rfl rfl (by decide) (by decide))) <| oX (e_load isAgg5 rfl (.inl M1) rfl) <| oN <| c_seq <| cQ <| qM rfl ?_
  refine qX (eA (pv p0) (e_ia runUnderlying72 sizeOf5 rfl rfl (by decide) (by decide))) <| qX (e_load isAgg5 rfl (.inl M1) rfl) <| qX (e_convc (r := vd 9) runUnderlying5 runUnderlying212 rfl (by kernel_rfl)) <| qM rfl ?_
  refine qX (eA (.pointer (ad p0 1)) (e_ia runUnderlying72 sizeOf5 rfl rfl (by decide) (by decide))) <| qX (e_load isAgg5 rfl (.inl M1) rfl) <| qX (e_convc (r := vd 0) runUnderlying5 runUnderlying212 rfl (by kernel_rfl)) <| qX (e_shlc (r := vd 0) rfl rfl rfl (by kernel_rfl)) <| qX (e_int (r := vd 9) rfl rfl (by kernel_rfl)) ?_
  refine qM rfl <| qX (eA (.pointer (ad p0 2)) (e_ia runUnderlying72 sizeOf5 rfl rfl (by decide) (by decide))) <| qX (e_load isAgg5 rfl (.inl M1) rfl) <| qX (e_convc (r := vd 0) runUnderlying5 runUnderlying212 rfl (by kernel_rfl)) <| qX (e_shlc (r := vd 0) rfl rfl rfl (by kernel_rfl)) ?_
  refine qX (e_int (r := vd 9) rfl rfl (by kernel_rfl)) <| qM rfl <| qX (eA (.pointer (ad p0 3)) (e_ia runUnderlying72 sizeOf5 rfl rfl (by decide) (by decide))) <| qX (e_load isAgg5 rfl (.inl M1) rfl) <| qX (e_convc (r := vd 0) runUnderlying5 runUnderlying212 rfl (by kernel_rfl)) ?_
  refine qX (e_shlc (r := vd 0) rfl rfl rfl (by kernel_rfl)) <| qX (e_int (r := vd 9) rfl rfl (by kernel_rfl)) <| qA rfl <| qN <| c_ret <| WR.sel (.cons (.tail .head) .nil) <| r_fn1 results330 rfl ?_
  exact tells (y := ()) trivial rfl rfl

theorem z96 {G : HP} (p0 : Nat) (q1 : Tl) (h1 : TlOk 1 27 q1) (p2 : Nat) :
    CtrE Tryz.prog 321 [.iface 75 (pv p0), pv p2] G [(p0, C [.slice (ad q1.g 0) 27 q1.cap, vi 6, vi (-1)] 144), (q1.g, Ob xb14 q1 5), (p2, C [vd 0] 212)] (T := Unit) (fun _ => True) (fun _ => .nilIface) (fun _ => [(p0, C [.slice (ad q1.g 0) 27 q1.cap, vi 10, vi (-1)] 144), (q1.g, Ob xb14 q1 5), (p2, C [vd 9] 212)]) := by
  refine fn_enter 23 func321 rfl ntmps321 rfl ?_
  intro w0
  refine cR <| oA rfl <| oN <| cR ?_
  refine o_l rfl (l_mksc (l := [ub 0, ub 0, ub 0, ub 0]) (n := 4) (m := 4) underlying72 (info_of typeInfo5) rfl rfl rfl rfl rfl rfl rfl (by decide) (by kernel_rfl)) ?_; intro g1 _
  refine oA rfl <| oN <| c_seq <| cR <| oM rfl <| oM rfl ?_
  refine o_l rfl (l_calle call152 (z94 (p0) q1 h1 (g1)) rfl rfl (.cons (.tail .head) (.cons (.tail .head) (.cons .head .nil)))) ?_; intro r2 hr2
  refine o_cat (.cons (.cons (.cons .nil))) <| oM rfl <| oX (e_extract rfl rfl) <| oX (e_extract rfl rfl) <| oA rfl <| oA rfl <| oN <| cR <| oM rfl <| oX (e_nnen runUnderlying80 rfl) <| oN <| cL rfl <| cR <| oM rfl <| oX (e_load0 isAgg294 sizeOf294 rfl) <| oM rfl ?_
  refine o_l rfl (l_calle call330 (z95 (g1)) rfl rfl (.cons (.tail (.tail .head)) .nil)) ?_; intro r3 hr3
  refine o_cat (.cons .nil) <| oC rfl ?_
  refine o_l rfl (l_store sizeOf212 rfl rfl rfl (.tail (.tail (.tail .head))) .head nofr0) ?_; intro _ _
  refine oN <| cR <| oA rfl <| oN <| c_ret <| WR.sel (.cons (.tail .head) (.cons (.tail .head) (.cons (.tail .head) .nil))) <| r_fn1 results321 rfl ?_
  exact tells (y := ()) trivial rfl rfl

theorem z97 {G : HP} (p0 : Nat) (q1 : Tl) (h1 : TlOk 1 27 q1) (p2 : Nat) :
    CtrE Tryz.prog 288 [pv p0, .slice (ad p2 0) 8 8] G [(p0, C [.slice (ad q1.g 0) 27 q1.cap, vi 10, vi (-1)] 144), (q1.g, Ob xb14 q1 5), (p2, C xb10 5)] (T := Unit) (fun _ => True) (fun _ => .tuple #[vi 8, .nilIface]) (fun _ => [(p0, C [.slice (ad q1.g 0) 27 q1.cap, vi 18, vi (-1)] 144), (q1.g, Ob xb14 q1 5), (p2, C xb11 5)]) := by
  refine fn_enter 39 func288 rfl ntmps288 rfl ?_
  intro w0
  refine cR <| oA rfl <| oA rfl <| oN <| c_seq <| c_seq <| cQ <| qM rfl <| qC rfl <| qX (eA (.pointer (ad p0 1)) (e_fa runUnderlying144 rfl sizeOf2 rfl rfl)) <| qX (e_load isAgg2 rfl (.inl M0) rfl) <| qM rfl <| qC rfl ?_
  refine qX (eA (pv p0) (e_fa runUnderlying144 rfl sizeOf72 rfl rfl)) <| qX (e_load isAgg72 rfl (.inl M0) rfl) <| qX (eA (vi 27) (e_lenl runUnderlying72 rfl)) <| qX (e_int (r := .bool false) rfl rfl (by kernel_rfl)) <| qN <| cL rfl <| cR <| oM rfl <| oC rfl ?_
  refine oX (eA (.pointer (ad p0 2)) (e_fa runUnderlying144 rfl sizeOf3 rfl rfl)) ?_
  refine o_l rfl (l_store sizeOf3 rfl rfl rfl .head (.tail (.tail .head)) nofr0) ?_; intro _ _
  refine oN <| c_seq ?_
  refine c_regiond [(p0, C [.slice (ad q1.g 0) 27 q1.cap, vi 10, vi (-1)] 144), (q1.g, Ob xb14 q1 5)] (by kernel_rfl) (.cons_cons _ (.cons_cons _ (.cons _ (.slnil)))) ?_
  refine dX 0 rfl (e_move rfl) <| dX 1 rfl (e_move rfl) <| dX 2 rfl (e_nilCheck rfl) ?_
  refine dX 3 rfl (eA (pv p0) (e_fa runUnderlying144 rfl sizeOf72 rfl rfl)) <| dX 4 rfl (e_load isAgg72 rfl (.inl M0) rfl) <| dX 5 rfl (e_move rfl) ?_
  refine dX 6 rfl (e_nilCheck rfl) <| dX 7 rfl (eA (.pointer (ad p0 1)) (e_fa runUnderlying144 rfl sizeOf2 rfl rfl)) <| dX 8 rfl (e_load isAgg2 rfl (.inl M0) rfl) ?_
  refine dX 9 rfl (e_as (r := .slice (ad q1.g 10) 17 (q1.cap - 10)) (e_sl_l runUnderlying72 sizeOf5 rfl rfl (by decide) (by decide) (by have := h1.le; omega)) (by first | rfl | (simp; try omega))) ?_
  refine d_l 10 (by kernel_rfl) rfl rfl (l_copy (vs := xb17) (k' := 8) runUnderlying72 sizeOf5 rfl rfl rfl (Sv.blk (vs := xb17) underlying72 (.inl M1) (.skip (.skip (.skip (.skip (.skip (.skip (.skip (.skip (.skip (.skip (.take (.take (.take (.take (.take (.take (.take (.take (.take (.take (.take (.take (.take (.take (.take (.take (.take .done))))))))))))))))))))))))))) (by simp [Value.oneCell'])) rfl (.tail (.tail .head)) (.take (.take (.take (.take (.take (.take (.take (.take .done)))))))) (.inr rfl)) (fun _ _ => hs_cons (.head _) (hs_cons M1 (hs_nil))) ?_
  intro _ _
  refine dX 11 rfl (e_assign rfl) <| dN <| n_code <| cR <| oM rfl <| oC rfl <| oX (eA (.pointer (ad p0 1)) (e_fa runUnderlying144 rfl sizeOf2 rfl rfl)) <| oX (e_load isAgg2 rfl (.inl M0) rfl) <| oM rfl <| oI (vi 18) rfl rfl <| oC rfl ?_
  refine oX (eA (.pointer (ad p0 1)) (e_fa runUnderlying144 rfl sizeOf2 rfl rfl)) ?_
  refine o_l rfl (l_store sizeOf2 rfl rfl rfl .head (.tail .head) nofr0) ?_; intro _ _
  refine oN <| c_ret <| WR.sel (.cons .head (.cons .head (.cons .head .nil))) <| r_fn (l := [.tmp 4, .tmp 5]) results288 rfl rfl ?_
  exact tells (y := ()) trivial rfl rfl

theorem z98 {G : HP} (p0 : Nat) (q1 : Tl) (h1 : TlOk 1 27 q1) (p2 : Nat) :
    CtrE Tryz.prog 201 [.iface 75 (pv p0), .slice (ad p2 0) 8 8, vi 8] G [(p0, C [.slice (ad q1.g 0) 27 q1.cap, vi 10, vi (-1)] 144), (q1.g, Ob xb14 q1 5), (p2, C xb10 5)] (T := Unit) (fun _ => True) (fun _ => .tuple #[vi 8, .nilIface]) (fun _ => [(p0, C [.slice (ad q1.g 0) 27 q1.cap, vi 18, vi (-1)] 144), (q1.g, Ob xb14 q1 5), (p2, C xb11 5)]) := by
  refine fn_enter 46 func201 rfl ntmps201 rfl ?_
  intro w0
  refine cR <| oA rfl <| oA rfl <| oN <| c_seq <| cR <| oM rfl <| oX (eA (vi 8) (e_lenl runUnderlying72 rfl)) <| oM rfl <| oI (.bool false) rfl rfl <| oN <| cL rfl <| c_seq <| c_block <| c_rounds 999 <| c_seq <| cR <| oM rfl <| oM rfl <| oI (.bool true) rfl rfl <| oM rfl <| oX (e_move rfl) ?_
  refine oX (e_neqn runUnderlying80 rfl) <| oX (e_pick_t rfl rfl) <| oN <| c_then rfl <| c_skip <| n_code <| c_block <| cR <| oA rfl <| oN <| c_seq ?_
  refine c_regiond [(q1.g, Ob xb14 q1 5)] (by kernel_rfl) (.cons _ (.cons_cons _ (.cons _ (.slnil)))) ?_
  refine dX 0 rfl (e_move rfl) <| dX 1 rfl (e_move rfl) <| dX 2 rfl (e_move rfl) ?_
  refine dX 3 rfl (e_as (r := .slice (ad p2 0) 8 8) (e_sl_l runUnderlying72 sizeOf5 rfl rfl (by decide) (by decide) (by decide)) (by first | rfl | (simp; try omega))) <| dX 4 rfl (e_func rfl rfl) ?_
  refine dX 5 rfl (e_nilm (by intro w; kernel_rfl) rfl) <| dX 6 rfl (e_move rfl) <| d_l 7 (by kernel_rfl) rfl rfl (l_callie call288 (by intro w; kernel_rfl) (z97 (p0) q1 h1 (p2)) rfl rfl rfl (.cons .head (.cons .head (.cons .head .nil)))) (fun _ _ => hs_cons M1 (hs_nil)) ?_
  intro r1 hr1
  refine d_cat (.cons (.cons (.cons .nil))) <| dX 8 rfl (e_move rfl) <| dX 9 rfl (e_extract rfl rfl) <| dX 10 rfl (e_extract rfl rfl) <| dX 11 rfl (e_assign rfl) ?_
  refine dX 12 rfl (e_assign rfl) <| dN <| n_code <| c_region <| oM rfl <| oM rfl <| oI (vi 8) rfl rfl <| oA rfl <| o_nil <| n_block <| n_rounds ?_
  refine c_keep (sK 6 rfl <| sK 34 rfl <| sK 33 rfl <| sK 32 rfl <| sK 7 rfl <| sK 8 rfl <| sK 31 rfl <| sK 30 rfl <| sK 21 rfl <| sK 29 rfl <| sK 28 rfl <| sK 26 rfl <| sK 25 rfl <| sK 24 rfl <| sK 23 rfl <| sK 22 rfl <| sK 20 rfl <| sK 19 rfl <| sK 18 rfl <| sK 17 rfl <| sK 16 rfl <| sK 15 rfl <| sK 14 rfl <| sK 2 rfl <| sK 1 rfl <| sK 0 rfl <| sub_nil) ?_
  refine c_seq <| cR <| oM rfl <| oM rfl <| oI (.bool false) rfl rfl <| oM rfl <| oS <| oS <| oX (e_pick_f rfl rfl) <| oN <| c_else rfl <| c_exit <| x_code <| x_upto <| x_here <| n_code <| c_seq <| cR <| oM rfl <| oM rfl <| oI (.bool true) rfl rfl <| oN <| c_then rfl <| c_region <| oA rfl <| oN <| c_ret ?_
  refine WR.sel (.cons .head (.cons .head (.cons .head .nil))) <| r_fn (l := [.tmp 6, .tmp 7]) results201 rfl rfl ?_
  exact tells (y := ()) trivial rfl rfl

theorem z99 {G : HP} (p0 : Nat) (q1 : Tl) (h1 : TlOk 1 27 q1) (p2 : Nat) :
    CtrE Tryz.prog 152 [.iface 75 (pv p0), .slice (ad p2 0) 8 8] G [(p0, C [.slice (ad q1.g 0) 27 q1.cap, vi 10, vi (-1)] 144), (q1.g, Ob xb14 q1 5), (p2, C xb10 5)] (T := Unit) (fun _ => True) (fun _ => .tuple #[vi 8, .nilIface]) (fun _ => [(p0, C [.slice (ad q1.g 0) 27 q1.cap, vi 18, vi (-1)] 144), (q1.g, Ob xb14 q1 5), (p2, C xb11 5)]) := by
  refine fn_enter 13 func152 rfl ntmps152 rfl ?_
  intro w0
  refine cR <| oA rfl <| oA rfl <| oN <| cR <| oM rfl <| oM rfl <| oM rfl <| oX (eA (vi 8) (e_lenl runUnderlying72 rfl)) ?_
  refine o_l rfl (l_calle call201 (z98 (p0) q1 h1 (p2)) rfl rfl (.cons .head (.cons .head (.cons .head .nil)))) ?_; intro r1 hr1
  refine o_cat (.cons (.cons (.cons .nil))) <| oX (e_extract rfl rfl) <| oX (e_extract rfl rfl) <| oA rfl <| oA rfl <| oN <| c_ret <| WR.sel (.cons .head (.cons .head (.cons .head .nil))) <| r_fn (l := [.tmp 4, .tmp 5]) results152 rfl rfl ?_
  exact tells (y := ()) trivial rfl rfl
end Go.Proofs
