/- Runs at known values, part 2. (A part of the proof of this: for every input laws.FnIxStop returns true and its arguments read as they did, the listed package variables being what the program lays.) -/
import Derived.Test.YtochgglejmfelaaGreatDoorG02
import Derived.KernelRfl
import Derived.Test.YtochgglejmfelaaGreatDoorG14
namespace Go.Proofs
open Go Go.Sl Tryz
set_option maxRecDepth 100000
set_option maxHeartbeats 4000000
theorem z40 {G : HP} (q0 : Tl) (h0 : TlOk 1 5 q0) :
    CtrE Tryz.prog 162 [.slice (ad q0.g 2) 3 (q0.cap - 2)] G [(q0.g, Ob xb2 q0 5)] (T := Unit) (fun _ => True) (fun _ => .tuple #[.agg #[vq 0, S [], vi 1, .slice (ad q0.g 4) 1 (q0.cap - 4)], .nilIface]) (fun _ => [(q0.g, Ob xb2 q0 5)]) := by
  refine fn_enter 33 func162 rfl ntmps162 rfl ?_
  intro w0
  refine cR ?_
  refine o_l rfl (l_alloc zeroValue181 rfl rfl) ?_; intro g1 _
  refine oA rfl <| oN <| cR <| oM rfl ?_
  refine o_l rfl (l_calle call211 (z39 q0 h0) rfl rfl (.cons (.tail .head) .nil)) ?_; intro r2 hr2
  refine o_cat (.cons .nil) <| oM rfl <| oX (e_extract rfl rfl) <| oX (e_extract rfl rfl) <| oX (e_extract rfl rfl) <| oX (e_extract rfl rfl) <| oA rfl <| oA rfl <| oA rfl <| oA rfl <| oN <| c_seq <| cR <| oM rfl <| oX (e_nnen runUnderlying80 rfl) <| oN <| cL rfl <| cR <| oM rfl <| oM rfl <| oX (eA (vi 1) (e_lenl runUnderlying72 rfl)) ?_
  refine oM rfl <| oX (e_build (vs := [vq 0, S [], vi 1, .slice (ad q0.g 4) 1 (q0.cap - 4)]) runUnderlying181 zeroValue181 (.cons sizeOf23 (.cons sizeOf9 (.cons sizeOf3 (.cons sizeOf72 .nil)))) rfl (by kernel_rfl)) ?_
  refine o_l rfl (l_storea sizeOf181 rfl rfl rfl (by simp [Value.oneCell']) (.tail .head) (.take (.take (.take (.take .done)))) nofrs0) ?_; intro _ _
  refine oN <| c_seq <| cR <| oM rfl <| oX (eA (vi 3) (e_lenl runUnderlying72 rfl)) <| oM rfl <| oI (.bool false) rfl rfl <| oN <| cL rfl <| cR <| oX (e_loada isAgg181 sizeOf181 rfl (.inl M1) (.take (.take (.take (.take .done))))) ?_
  refine o_l rfl (l_storea sizeOf181 rfl rfl rfl (by simp [Value.oneCell']) (.tail .head) (.take (.take (.take (.take .done)))) nofrs0) ?_; intro _ _
  refine oA rfl <| oN <| c_ret <| r_fnx results162 (.cella isAgg181 sizeOf181 rfl (.inl M1) (.take (.take (.take (.take .done)))) (.tmp rfl .nil)) (.cons .head .nil) rfl ?_
  exact tells (y := ()) trivial rfl rfl

theorem z41 {G : HP} (q0 : Tl) (h0 : TlOk 1 5 q0) :
    CtrE Tryz.prog 92 [.slice (ad q0.g 2) 3 (q0.cap - 2)] G [(q0.g, Ob xb2 q0 5)] (T := Nat) (fun _ => True) (fun y => .tuple #[pv y, .nilIface]) (fun y => [(q0.g, Ob xb2 q0 5), (y, C [vq 0, S [], vi 1, .slice (ad q0.g 4) 1 (q0.cap - 4)] 181)]) := by
  refine fn_enter 14 func92 rfl ntmps92 rfl ?_
  intro w0
  refine cR <| oA rfl <| oA rfl <| oN <| cR <| oM rfl ?_
  refine o_l rfl (l_calle call162 (z40 q0 h0) rfl rfl (.cons .head .nil)) ?_; intro r1 hr1
  refine o_cat (.cons .nil) <| oM rfl <| oX (e_extract rfl rfl) <| oX (e_extract rfl rfl) ?_
  refine o_l rfl (l_alloc zeroValue181 rfl rfl) ?_; intro g2 _
  refine o_l rfl (l_storea sizeOf181 rfl rfl rfl (by simp [Value.oneCell']) .head (.take (.take (.take (.take .done)))) nofrs0) ?_; intro _ _
  refine oA rfl <| oN <| c_seq <| cR <| oM rfl <| oX (e_nnen runUnderlying80 rfl) <| oN <| cL rfl <| cR <| oA rfl <| oA rfl <| oN <| c_ret <| WR.sel (.cons (.tail .head) (.cons .head .nil)) <| r_fn (l := [.tmp 2, .tmp 3]) results92 rfl rfl ?_
  exact tells (y := (g2)) trivial rfl rfl

theorem z42 {G : HP} (q0 : Tl) (h0 : TlOk 2 1 q0) (q1 : Tl) (h1 : TlOk 1 5 q1) :
    CtrE Tryz.prog 424 [.slice (ad q0.g 0) 1 q0.cap] G [(q0.g, Ob [.slice (ad q1.g 4) 1 (q1.cap - 4), vq 7] q0 455), (q1.g, Ob xb2 q1 5)] (T := Unit) (fun _ => True) (fun _ => vi 1) (fun _ => [(q0.g, Ob [.slice (ad q1.g 4) 1 (q1.cap - 4), vq 7] q0 455), (q1.g, Ob xb2 q1 5)]) := by
  refine fn_enter 5 func424 rfl ntmps424 rfl ?_
  intro w0
  refine cR <| oA rfl <| oN <| cR <| oM rfl <| oX (eA (vi 1) (e_lenl runUnderlying457 rfl)) <| oA rfl <| oN <| c_ret <| WR.sel (.cons .head (.cons .head .nil)) <| r_fn1 results424 rfl ?_
  exact tells (y := ()) trivial rfl rfl

theorem z43 {G : HP} (q0 : Tl) (h0 : TlOk 2 1 q0) (q1 : Tl) (h1 : TlOk 1 5 q1) :
    CtrE Tryz.prog 324 [.iface 457 (.slice (ad q0.g 0) 1 q0.cap)] G [(q0.g, Ob [.slice (ad q1.g 4) 1 (q1.cap - 4), vq 7] q0 455), (q1.g, Ob xb2 q1 5)] (T := Unit) (fun _ => True) (fun _ => .tuple #[]) (fun _ => [(q0.g, Ob [.slice (ad q1.g 4) 1 (q1.cap - 4), vq 7] q0 455), (q1.g, Ob xb2 q1 5)]) := by
  refine fn_enter 15 func324 rfl ntmps324 rfl ?_
  intro w0
  refine cR <| oM rfl ?_
  refine o_l rfl (l_callie call424 (by intro w; kernel_rfl) (z42 q0 h0 q1 h1) rfl rfl rfl (.cons .head (.cons .head .nil))) ?_; intro r1 hr1
  refine o_cat (.cons (.cons .nil)) <| oA rfl <| oN <| c_seq <| cR <| oM rfl <| oI (.bool true) rfl rfl <| oN <| c_then rfl <| c_ret <| WR.sel (.cons .head (.cons .head .nil)) <| r_fn0 results324 ?_
  exact tells (y := ()) trivial rfl rfl

theorem z44 {G : HP} (p0 : Nat) :
    CtrE Tryz.prog 179 [.agg #[], .slice (ad p0 1) 8 8, vq 7] G [(p0, C [ub 97, ub 0, ub 0, ub 0, ub 0, ub 0, ub 0, ub 0, ub 0] 5)] (T := Unit) (fun _ => True) (fun _ => .tuple #[]) (fun _ => [(p0, C xb3 5)]) := by
  refine fn_enter 48 func179 rfl ntmps179 rfl ?_
  intro w0
  refine cR ?_
  refine o_l rfl (l_box rfl rfl rfl) ?_; intro g1 _
  refine oN <| cR <| oM rfl <| oX (eA (.pointer (ad p0 8)) (e_ia runUnderlying72 sizeOf5 rfl rfl (by decide) (by decide))) <| oX (e_load isAgg5 rfl (.inl M1) rfl) <| oN <| cR <| oM rfl <| oM rfl <| oX (e_convc (r := ub 7) runUnderlying23 runUnderlying5 rfl (by kernel_rfl)) ?_
  refine oX (eA (.pointer (ad p0 1)) (e_ia runUnderlying72 sizeOf5 rfl rfl (by decide) (by decide))) ?_
  refine o_l rfl (l_store sizeOf5 rfl rfl rfl (.tail .head) (.tail .head) nofr0) ?_; intro _ _
  refine oN <| cR <| oM rfl <| oM rfl <| oX (e_shrc (r := vq 0) rfl rfl rfl (by kernel_rfl)) <| oX (e_convc (r := ub 0) runUnderlying23 runUnderlying5 rfl (by kernel_rfl)) <| oX (eA (.pointer (ad p0 2)) (e_ia runUnderlying72 sizeOf5 rfl rfl (by decide) (by decide))) ?_
  refine o_l rfl (l_store sizeOf5 rfl rfl rfl (.tail .head) (.tail (.tail .head)) nofr0) ?_; intro _ _
  refine oN <| cR <| oM rfl <| oM rfl <| oX (e_shrc (r := vq 0) rfl rfl rfl (by kernel_rfl)) <| oX (e_convc (r := ub 0) runUnderlying23 runUnderlying5 rfl (by kernel_rfl)) <| oX (eA (.pointer (ad p0 3)) (e_ia runUnderlying72 sizeOf5 rfl rfl (by decide) (by decide))) ?_
  refine o_l rfl (l_store sizeOf5 rfl rfl rfl (.tail .head) (.tail (.tail (.tail .head))) nofr0) ?_; intro _ _
  refine oN <| cR <| oM rfl <| oM rfl <| oX (e_shrc (r := vq 0) rfl rfl rfl (by kernel_rfl)) <| oX (e_convc (r := ub 0) runUnderlying23 runUnderlying5 rfl (by kernel_rfl)) <| oX (eA (.pointer (ad p0 4)) (e_ia runUnderlying72 sizeOf5 rfl rfl (by decide) (by decide))) ?_
  refine o_l rfl (l_store sizeOf5 rfl rfl rfl (.tail .head) (.tail (.tail (.tail (.tail .head)))) nofr0) ?_; intro _ _
  refine oN <| cR <| oM rfl <| oM rfl <| oX (e_shrc (r := vq 0) rfl rfl rfl (by kernel_rfl)) <| oX (e_convc (r := ub 0) runUnderlying23 runUnderlying5 rfl (by kernel_rfl)) <| oX (eA (.pointer (ad p0 5)) (e_ia runUnderlying72 sizeOf5 rfl rfl (by decide) (by decide))) ?_
  refine o_l rfl (l_store sizeOf5 rfl rfl rfl (.tail .head) (.tail (.tail (.tail (.tail (.tail .head))))) nofr0) ?_; intro _ _
  refine oN <| cR <| oM rfl <| oM rfl <| oX (e_shrc (r := vq 0) rfl rfl rfl (by kernel_rfl)) <| oX (e_convc (r := ub 0) runUnderlying23 runUnderlying5 rfl (by kernel_rfl)) <| oX (eA (.pointer (ad p0 6)) (e_ia runUnderlying72 sizeOf5 rfl rfl (by decide) (by decide))) ?_
  refine o_l rfl (l_store sizeOf5 rfl rfl rfl (.tail .head) (.tail (.tail (.tail (.tail (.tail (.tail .head)))))) nofr0) ?_; intro _ _
  refine oN <| cR <| oM rfl <| oM rfl <| oX (e_shrc (r := vq 0) rfl rfl rfl (by kernel_rfl)) <| oX (e_convc (r := ub 0) runUnderlying23 runUnderlying5 rfl (by kernel_rfl)) <| oX (eA (.pointer (ad p0 7)) (e_ia runUnderlying72 sizeOf5 rfl rfl (by decide) (by decide))) ?_
  refine o_l rfl (l_store sizeOf5 rfl rfl rfl (.tail .head) (.tail (.tail (.tail (.tail (.tail (.tail (.tail .head))))))) nofr0) ?_; intro _ _
  refine oN <| c_region <| oM rfl <| oM rfl <| oX (e_shrc (r := vq 0) rfl rfl rfl (by kernel_rfl)) <| oX (e_convc (r := ub 0) runUnderlying23 runUnderlying5 rfl (by kernel_rfl)) <| oX (eA (.pointer (ad p0 8)) (e_ia runUnderlying72 sizeOf5 rfl rfl (by decide) (by decide))) ?_
  refine o_l rfl (l_store sizeOf5 rfl rfl rfl (.tail .head) (.tail (.tail (.tail (.tail (.tail (.tail (.tail (.tail .head)))))))) nofr0) ?_; intro _ _
  refine o_nil <| WN.sel (.cons (.tail .head) .nil) <| n_fn0 results179 ?_
  exact tells (y := ()) trivial rfl rfl

theorem z45 {G : HP} (q0 : Tl) (h0 : TlOk 1 5 q0) (p1 : Nat) :
    CtrE Tryz.prog 325 [.agg #[.slice (ad q0.g 4) 1 (q0.cap - 4), vq 7], .slice (ad p1 0) 9 9] G [(q0.g, Ob xb2 q0 5), (p1, C xb4 5)] (T := Unit) (fun _ => True) (fun _ => .tuple #[]) (fun _ => [(q0.g, Ob xb2 q0 5), (p1, C xb3 5)]) := by
  refine fn_enter 17 func325 rfl ntmps325 rfl ?_
  intro w0
  refine cR ?_
  refine o_l rfl (l_box rfl rfl rfl) ?_; intro g1 _
  refine oN <| c_seq <| c_regiond [(g1, C [.slice (ad q0.g 4) 1 (q0.cap - 4), vq 7] 455), (q0.g, Ob xb2 q0 5)] (by kernel_rfl) (.cons_cons _ (.cons_cons _ (.cons _ (.slnil)))) <| dX 0 rfl (e_move rfl) ?_
  refine dX 1 rfl (e_sl_n runUnderlying72 sizeOf5 rfl) <| dX 2 rfl (eA (pv g1) (e_fa runUnderlying455 rfl sizeOf72 rfl rfl)) <| dX 3 rfl (e_load isAgg72 rfl (.inl M0) rfl) ?_
  refine d_l 4 (by kernel_rfl) rfl rfl (l_copy (vs := [ub 97]) (k' := 1) runUnderlying72 sizeOf5 rfl rfl rfl (Sv.blk (vs := [ub 97]) underlying72 (.inl M1) (.skip (.skip (.skip (.skip (.take .done))))) (by simp [Value.oneCell'])) rfl (.tail (.tail .head)) (.take .done) (.inr rfl)) (fun _ _ => hs_cons (.head _) (hs_cons M1 (hs_nil))) ?_
  intro _ _
  refine dX 5 rfl (e_assign rfl) <| dN <| n_code <| c_regiond [(g1, C [.slice (ad q0.g 4) 1 (q0.cap - 4), vq 7] 455), (q0.g, Ob xb2 q0 5)] (by kernel_rfl) (.cons_cons _ (.cons_cons _ (.cons _ (.slnil)))) ?_
  refine dX 0 rfl (e_load0 isAgg294 sizeOf294 rfl) <| dX 1 rfl (e_move rfl) <| dX 2 rfl (e_move rfl) ?_
  refine dX 3 rfl (e_as (r := .slice (ad p1 1) 8 8) (e_sl_l runUnderlying72 sizeOf5 rfl rfl (by decide) (by decide) (by decide)) (by first | rfl | (simp; try omega))) <| dX 4 rfl (eA (.pointer (ad g1 1)) (e_fa runUnderlying455 rfl sizeOf23 rfl rfl)) ?_
  refine dX 5 rfl (e_load isAgg23 rfl (.inl M0) rfl) <| d_l 6 (by kernel_rfl) rfl rfl (l_calle call179 (z44 (p1)) rfl rfl (.cons (.tail (.tail .head)) .nil)) (fun _ _ => hs_cons M1 (hs_cons M2 (hs_nil))) ?_
  intro r2 hr2
  refine d_cat (.cons .nil) <| dN <| WN.sel (.cons (.tail (.tail .head)) (.cons .head .nil)) <| n_fn0 results325 ?_
  exact tells (y := ()) trivial rfl rfl

theorem z46 {G : HP} (p0 : Nat) (p1 : Nat) (q2 : Tl) (h2 : TlOk 2 1 q2) :
    CtrE Tryz.prog 316 [pv p0, .slice (ad q2.g 0) 1 q2.cap] G [(p0, C [.map (some p1)] 327), (p1, Mo .u32 []), (q2.g, Ob [S [1, 85, 0, 1, 97], vq 7] q2 184)] (T := Nat) (fun _ => True) (fun y => .nilIface) (fun y => [(p0, C [.map (some p1)] 327), (p1, Mo .u32 [(9, .agg #[vd 9, vq 1, .slice (ad y 0) 9 9])]), (q2.g, Ob [S [1, 85, 0, 1, 97], vq 7] q2 184), (y, C xb3 5)]) := by
  refine fn_enter 119 func316 rfl ntmps316 rfl ?_
  intro w0
  refine cR <| oA rfl <| oN <| cR ?_
  refine o_l rfl (l_mkmap rfl .i64) ?_; intro g1 _
  refine oA rfl <| oN <| c_seq <| cR <| oM rfl <| oX (eA (vi 1) (e_lenl runUnderlying182 rfl)) <| oM rfl <| oN <| c_block <| c_rounds 999 <| cR <| oI (.bool true) rfl rfl <| oN <| c_seq <| c_then rfl <| c_skip <| n_code <| c_seq <| c_block <| cR ?_
  refine oX (eA (pv q2.g) (e_ia runUnderlying182 sizeOf184 rfl rfl (by decide) (by decide))) <| oX (e_loada isAgg184 sizeOf184 rfl (.inl M3) (.take (.take .done))) ?_
  refine o_l rfl (l_alloc zeroValue184 rfl rfl) ?_; intro g2 _
  refine o_l rfl (l_storea sizeOf184 rfl rfl rfl (by simp [Value.oneCell']) .head (.take (.take .done)) nofrs0) ?_; intro _ _
  refine oN <| cR <| oX (eA (pv g2) (e_fa runUnderlying184 rfl sizeOf111 rfl rfl)) <| oX (e_loada isAgg111 sizeOf111 rfl (.inl M0) (.take .done)) ?_
  refine o_l rfl (l_calle call93 (z34 ) rfl rfl .nil) ?_; intro r3 hr3
  refine o_cat (.cons .nil) ?_
  refine o_l rfl (l_calle call92 (z41 r3 hr3) rfl rfl (.cons .head .nil)) ?_; intro r4 hr4
  refine o_cat (.cons (.cons .nil)) <| oM rfl <| oX (e_extract rfl rfl) <| oX (e_extract rfl rfl) <| oA rfl <| oA rfl <| oN <| c_seq <| cR <| oM rfl <| oX (e_nnen runUnderlying80 rfl) <| oN <| cL rfl <| cR <| oM rfl <| oC rfl <| oX (eA (.pointer (ad r4 3)) (e_fa runUnderlying181 rfl sizeOf72 rfl rfl)) ?_
  refine oX (e_load isAgg72 rfl (.inl M1) rfl) <| oA rfl <| oN <| cR <| oM rfl <| oM rfl <| oX (eA (vi 1) (e_lenl runUnderlying72 rfl)) <| oX (e_as (r := .tuple #[.slice none 0 0, .bool false]) (e_lookup2 runUnderlying451 runUnderlying3 zeroValue452 rfl rfl (.inl M3)) (by kernel_rfl)) <| oM rfl <| oX (e_extract rfl rfl) ?_
  refine oX (e_extract rfl rfl) <| oA rfl <| oA rfl <| oN <| c_seq <| cR <| oM rfl <| oX (eA (.bool true) (e_not rfl)) <| oN <| c_then rfl <| cR <| oM rfl <| oM rfl <| oX (eA (vi 1) (e_lenl runUnderlying72 rfl)) ?_
  refine o_l rfl (l_mksc (l := []) (n := 0) (m := 0) underlying452 (info_of typeInfo455) rfl rfl rfl rfl rfl rfl rfl (by decide) (by kernel_rfl)) ?_; intro g5 _
  refine o_l rfl (l_mapup runUnderlying451 runUnderlying3 rfl rfl rfl (.tail (.tail (.tail (.tail .head))))) ?_; intro _ _
  refine oN <| c_region <| oM rfl <| oM rfl <| oX (eA (vi 1) (e_lenl runUnderlying72 rfl)) <| oX (e_as (r := .slice (ad g5 0) 0 0) (e_lookup runUnderlying451 runUnderlying3 zeroValue452 rfl rfl (.inl M4)) (by kernel_rfl)) <| oA rfl <| oN <| c_region <| oM rfl <| oM rfl <| oX (eA (vi 1) (e_lenl runUnderlying72 rfl)) ?_
  refine oM rfl <| oM rfl <| oX (eA (.pointer (ad g2 1)) (e_fa runUnderlying184 rfl sizeOf23 rfl rfl)) <| oX (e_load isAgg23 rfl (.inl M3) rfl) <| oX (e_build (vs := [.slice (ad r3.g 4) 1 (r3.cap - 4), vq 7]) runUnderlying455 zeroValue455 (.cons sizeOf72 (.cons sizeOf23 .nil)) rfl (by kernel_rfl)) ?_
  refine o_l rfl (l_bs (l := [.slice (ad r3.g 4) 1 (r3.cap - 4), vq 7]) runUnderlying452 sizeOf455 zeroValue455 rfl rfl rfl rfl (by kernel_rfl)) ?_; intro g6 _
  refine o_l rfl (l_app (off := 1) (L := [.slice (ad r3.g 4) 1 (r3.cap - 4), vq 7]) underlying452 (info_of typeInfo455) rfl rfl rfl rfl rfl rfl (.tail .head) rfl (by decide) (by decide) (.inr rfl) .done (Sv.blk (vs := [.slice (ad r3.g 4) 1 (r3.cap - 4), vq 7]) underlying452 (.inl M0) (.take (.take .done)) (by simp [Value.oneCell'])) .nil rfl rfl rfl rfl) ?_; intro y7 hy7
  refine o_l rfl (l_mapup runUnderlying451 runUnderlying3 rfl rfl rfl (.tail (.tail (.tail (.tail (.tail .head)))))) ?_; intro _ _
  refine o_nil <| n_block <| n_code ?_
  refine c_keep (sK 67 rfl <| sK 66 rfl <| sK 65 rfl <| sK 64 rfl <| sK 63 rfl <| sK 62 rfl <| sK 61 rfl <| sK 60 rfl <| sK 59 rfl <| sK 58 rfl <| sK 11 rfl <| sK 57 rfl <| sK 56 rfl <| sK 55 rfl <| sK 54 rfl <| sK 53 rfl <| sK 52 rfl <| sK 51 rfl <| sK 50 rfl <| sK 49 rfl <| sK 48 rfl <| sK 12 rfl <| sK 47 rfl <| sK 46 rfl <| sK 41 rfl <| sK 45 rfl <| sK 44 rfl <| sK 43 rfl <| sK 42 rfl <| sK 10 rfl <| sK 40 rfl <| sK 39 rfl <| sK 38 rfl <| sK 37 rfl <| sK 35 rfl <| sK 34 rfl <| sK 9 rfl <| sK 8 rfl <| sK 33 rfl <| sK 32 rfl <| sK 27 rfl <| sK 31 rfl <| sK 30 rfl <| sK 29 rfl <| sK 28 rfl <| sK 7 rfl <| sK 26 rfl <| sK 25 rfl <| sK 24 rfl <| sK 23 rfl <| sK 22 rfl <| sK 21 rfl <| sK 5 rfl <| sK 4 rfl <| sK 0 rfl <| sub_nil) ?_
  refine c_region <| oI (vi 1) rfl rfl <| oM rfl <| o_nil <| n_rounds ?_
  refine c_keep (sK 23 rfl <| sK 68 rfl <| sK 67 rfl <| sK 66 rfl <| sK 65 rfl <| sK 64 rfl <| sK 63 rfl <| sK 62 rfl <| sK 61 rfl <| sK 60 rfl <| sK 59 rfl <| sK 58 rfl <| sK 11 rfl <| sK 57 rfl <| sK 56 rfl <| sK 55 rfl <| sK 54 rfl <| sK 53 rfl <| sK 52 rfl <| sK 51 rfl <| sK 50 rfl <| sK 49 rfl <| sK 48 rfl <| sK 12 rfl <| sK 47 rfl <| sK 46 rfl <| sK 41 rfl <| sK 45 rfl <| sK 44 rfl <| sK 43 rfl <| sK 42 rfl <| sK 10 rfl <| sK 40 rfl <| sK 39 rfl <| sK 38 rfl <| sK 37 rfl <| sK 35 rfl <| sK 34 rfl <| sK 9 rfl <| sK 8 rfl <| sK 33 rfl <| sK 32 rfl <| sK 27 rfl <| sK 31 rfl <| sK 30 rfl <| sK 29 rfl <| sK 28 rfl <| sK 7 rfl <| sK 26 rfl <| sK 25 rfl <| sK 24 rfl <| sK 22 rfl <| sK 21 rfl <| sK 5 rfl <| sK 4 rfl <| sK 0 rfl <| sub_nil) ?_
  refine c_seq ?_
  refine c_keep (sK 23 rfl <| sK 68 rfl <| sK 67 rfl <| sK 66 rfl <| sK 65 rfl <| sK 64 rfl <| sK 63 rfl <| sK 62 rfl <| sK 61 rfl <| sK 60 rfl <| sK 59 rfl <| sK 58 rfl <| sK 11 rfl <| sK 57 rfl <| sK 56 rfl <| sK 55 rfl <| sK 54 rfl <| sK 53 rfl <| sK 52 rfl <| sK 51 rfl <| sK 50 rfl <| sK 49 rfl <| sK 48 rfl <| sK 12 rfl <| sK 47 rfl <| sK 46 rfl <| sK 41 rfl <| sK 45 rfl <| sK 44 rfl <| sK 43 rfl <| sK 42 rfl <| sK 10 rfl <| sK 40 rfl <| sK 39 rfl <| sK 38 rfl <| sK 37 rfl <| sK 35 rfl <| sK 34 rfl <| sK 9 rfl <| sK 8 rfl <| sK 33 rfl <| sK 32 rfl <| sK 27 rfl <| sK 31 rfl <| sK 30 rfl <| sK 29 rfl <| sK 28 rfl <| sK 7 rfl <| sK 26 rfl <| sK 25 rfl <| sK 24 rfl <| sK 22 rfl <| sK 21 rfl <| sK 5 rfl <| sK 4 rfl <| sK 0 rfl <| sub_nil) ?_
  refine c_region <| oI (.bool false) rfl rfl <| oN <| c_seq <| c_else rfl <| c_exit <| x_code <| x_upto <| x_here <| n_code <| c_seq <| c_seq <| c_keep (sK 5 rfl <| sK 4 rfl <| sK 0 rfl <| sub_nil) <| c_region <| oM rfl ?_
  refine o_l rfl (l_range runUnderlying451 rfl rfl (.inl M5)) ?_; intro g8 _
  refine oN <| c_block <| c_rounds 999 <| cR ?_
  refine o_l rfl (l_next1 0 rfl rfl (.inl M6) .head rfl rfl rfl) ?_; intro _ _
  refine oX (e_extract rfl rfl) <| oN <| c_seq <| c_then rfl <| c_skip <| n_code <| c_block <| cR <| oX (e_entry (j := 0) (seen := []) rfl (.inl M0) (.inl M6) rfl) <| oX (e_extract rfl rfl) <| oX (e_extract rfl rfl) <| oA rfl <| oA rfl <| oN <| cR <| oM rfl <| oX (e_mkif runUnderlying457 rfl rfl) ?_
  refine o_l rfl (l_calle call324 (z43 y7 hy7 r3 hr3) rfl rfl (.cons (.tail .head) (.cons (.tail (.tail .head)) .nil))) ?_; intro r9 hr9
  refine o_cat (.cons (.cons .nil)) <| oN <| cR <| oM rfl <| oI (vi 9) rfl rfl <| oA rfl <| oN <| cR <| oM rfl <| oM rfl <| oX (eA (vi 1) (e_lenl runUnderlying452 rfl)) <| oI (vi 9) rfl rfl ?_
  refine o_l rfl (l_mksc (l := xb4) (n := 9) (m := 9) underlying72 (info_of typeInfo5) rfl rfl rfl rfl rfl rfl rfl (by decide) (by kernel_rfl)) ?_; intro g10 _
  refine oA rfl <| oN <| c_seq <| cR <| oM rfl <| oX (eA (vi 1) (e_lenl runUnderlying452 rfl)) <| oM rfl <| oN <| c_block <| c_rounds 999 <| cR <| oI (.bool true) rfl rfl <| oN <| c_seq <| c_then rfl <| c_skip <| n_code <| c_seq <| c_block <| cR <| oM rfl ?_
  refine oX (eA (pv y7.g) (e_ia runUnderlying452 sizeOf455 rfl rfl (by decide) (by decide))) <| oX (e_loada isAgg455 sizeOf455 rfl (.inl M1) (.take (.take .done))) ?_
  refine o_l rfl (l_alloc zeroValue455 rfl rfl) ?_; intro g11 _
  refine oA rfl ?_
  refine o_l rfl (l_storea sizeOf455 rfl rfl rfl (by simp [Value.oneCell']) .head (.take (.take .done)) nofrs0) ?_; intro _ _
  refine oN ?_
  refine c_regiond [(g11, C [.slice (ad r3.g 4) 1 (r3.cap - 4), vq 7] 455), (y7.g, Ob [.slice (ad r3.g 4) 1 (r3.cap - 4), vq 7] y7 455), (r3.g, Ob xb2 r3 5), (g8, Io g1 1 [0]), (g6, C [.slice (ad r3.g 4) 1 (r3.cap - 4), vq 7] 455), (r4, C [vq 0, S [], vi 1, .slice (ad r3.g 4) 1 (r3.cap - 4)] 181), (g2, C [S [1, 85, 0, 1, 97], vq 7] 184), (g1, Mo .i64 [(1, .slice (ad y7.g 0) 1 y7.cap)]), (p0, C [.map (some p1)] 327), (p1, Mo .u32 []), (q2.g, Ob [S [1, 85, 0, 1, 97], vq 7] q2 184)] (by kernel_rfl) (.cons_cons _ (.cons _ (.cons_cons _ (.cons_cons _ (.cons_cons _ (.cons_cons _ (.cons_cons _ (.cons_cons _ (.cons_cons _ (.cons_cons _ (.cons_cons _ (.cons_cons _ (.slnil))))))))))))) ?_
  refine dX 0 rfl (e_loada isAgg455 sizeOf455 rfl (.inl M0) (.take (.take .done))) <| dX 1 rfl (e_move rfl) <| dX 2 rfl (e_move rfl) <| dX 3 rfl (e_move rfl) ?_
  refine dX 4 rfl (e_int (r := vi 0) rfl rfl (by kernel_rfl)) <| dX 5 rfl (e_move rfl) <| dX 6 rfl (e_int (r := vi 1) rfl rfl (by kernel_rfl)) ?_
  refine dX 7 rfl (e_move rfl) <| dX 8 rfl (e_int (r := vi 9) rfl rfl (by kernel_rfl)) ?_
  refine dX 9 rfl (e_as (r := .slice (ad g10 0) 9 9) (e_sl_lh runUnderlying72 sizeOf5 rfl rfl rfl (by decide) (by decide) (by decide) (by decide)) (by first | rfl | (simp; try omega))) ?_
  refine d_l 10 (by kernel_rfl) rfl rfl (l_calle call325 (z45 r3 hr3 (g10)) rfl rfl (.cons (.tail (.tail (.tail .head))) (.cons (.tail .head) .nil))) (fun _ _ => hs_cons M2 (hs_cons M3 (hs_cons (.head _) (hs_cons M4 (hs_cons M5 (hs_cons M6 (hs_cons M7 (hs_cons M8 (hs_cons M9 (hs_cons M10 (hs_cons M11 (hs_nil)))))))))))) ?_
  intro r12 hr12
  refine d_cat (.cons (.cons .nil)) <| dN <| n_block <| n_code <| c_region <| oI (vi 1) rfl rfl <| oM rfl <| o_nil <| n_rounds ?_
  refine c_keep (sK 88 rfl <| sK 104 rfl <| sK 102 rfl <| sK 101 rfl <| sK 100 rfl <| sK 99 rfl <| sK 98 rfl <| sK 97 rfl <| sK 96 rfl <| sK 95 rfl <| sK 94 rfl <| sK 93 rfl <| sK 17 rfl <| sK 18 rfl <| sK 92 rfl <| sK 91 rfl <| sK 90 rfl <| sK 89 rfl <| sK 87 rfl <| sK 86 rfl <| sK 16 rfl <| sK 85 rfl <| sK 84 rfl <| sK 83 rfl <| sK 82 rfl <| sK 81 rfl <| sK 15 rfl <| sK 80 rfl <| sK 79 rfl <| sK 77 rfl <| sK 76 rfl <| sK 14 rfl <| sK 13 rfl <| sK 75 rfl <| sK 74 rfl <| sK 73 rfl <| sK 72 rfl <| sK 71 rfl <| sK 70 rfl <| sK 4 rfl <| sK 0 rfl <| sub_nil) ?_
  refine cR <| oI (.bool false) rfl rfl <| oN <| c_seq <| c_else rfl <| c_exit <| x_code <| x_upto <| x_here <| n_code <| cR <| oM rfl <| oX (e_convc (r := vd 9) runUnderlying3 runUnderlying212 rfl (by kernel_rfl)) <| oM rfl <| oX (eA (vi 1) (e_lenl runUnderlying452 rfl)) <| oX (e_convc (r := vq 1) runUnderlying3 runUnderlying23 rfl (by kernel_rfl)) ?_
  refine oM rfl <| oX (e_build (vs := [vd 9, vq 1, .slice (ad g10 0) 9 9]) runUnderlying448 zeroValue448 (.cons sizeOf212 (.cons sizeOf23 (.cons sizeOf72 .nil))) rfl (by kernel_rfl)) ?_
  refine o_l rfl (l_alloc zeroValue448 rfl rfl) ?_; intro g13 _
  refine o_l rfl (l_storea sizeOf448 rfl rfl rfl (by simp [Value.oneCell']) .head (.take (.take (.take .done))) nofrs0) ?_; intro _ _
  refine oN ?_
  refine c_regiond [(g13, C [vd 9, vq 1, .slice (ad g10 0) 9 9] 448), (r3.g, Ob xb2 r3 5), (g10, C xb3 5), (g11, C [.slice (ad r3.g 4) 1 (r3.cap - 4), vq 7] 455), (y7.g, Ob [.slice (ad r3.g 4) 1 (r3.cap - 4), vq 7] y7 455), (g8, Io g1 1 [0]), (g6, C [.slice (ad r3.g 4) 1 (r3.cap - 4), vq 7] 455), (r4, C [vq 0, S [], vi 1, .slice (ad r3.g 4) 1 (r3.cap - 4)] 181), (g2, C [S [1, 85, 0, 1, 97], vq 7] 184), (g1, Mo .i64 [(1, .slice (ad y7.g 0) 1 y7.cap)]), (p0, C [.map (some p1)] 327), (q2.g, Ob [S [1, 85, 0, 1, 97], vq 7] q2 184)] (by kernel_rfl) (.cons_cons _ (.cons_cons _ (.cons_cons _ (.cons_cons _ (.cons_cons _ (.cons_cons _ (.cons_cons _ (.cons_cons _ (.cons_cons _ (.cons_cons _ (.cons_cons _ (.cons _ (.cons_cons _ (.slnil)))))))))))))) ?_
  refine dX 0 rfl (e_move rfl) <| dX 1 rfl (e_nilCheck rfl) <| dX 2 rfl (e_load isAgg327 rfl (.inl M10) rfl) ?_
  refine dX 3 rfl (e_move rfl) <| dX 4 rfl (e_convc (r := vd 1) runUnderlying3 runUnderlying212 rfl (by kernel_rfl)) <| dX 5 rfl (e_int (r := vd 9) rfl rfl (by kernel_rfl)) ?_
  refine dX 6 rfl (e_loada isAgg448 sizeOf448 rfl (.inl M0) (.take (.take (.take .done)))) ?_
  refine d_l 7 (by kernel_rfl) rfl rfl (l_mapup runUnderlying327 runUnderlying212 rfl rfl rfl (.tail (.tail (.tail (.tail (.tail (.tail (.tail (.tail (.tail (.tail (.tail .head)))))))))))) (fun _ _ => hs_cons (.head _) (hs_cons M1 (hs_cons M2 (hs_cons M3 (hs_cons M4 (hs_cons M5 (hs_cons M6 (hs_cons M7 (hs_cons M8 (hs_cons M9 (hs_cons M10 (hs_cons M12 (hs_nil))))))))))))) ?_
  intro _ _
  refine dN <| n_block <| n_rounds ?_
  refine c_keep (sK 118 rfl <| sK 117 rfl <| sK 116 rfl <| sK 115 rfl <| sK 114 rfl <| sK 113 rfl <| sK 112 rfl <| sK 19 rfl <| sK 111 rfl <| sK 110 rfl <| sK 109 rfl <| sK 108 rfl <| sK 107 rfl <| sK 106 rfl <| sK 105 rfl <| sK 89 rfl <| sK 88 rfl <| sK 104 rfl <| sK 102 rfl <| sK 101 rfl <| sK 100 rfl <| sK 99 rfl <| sK 98 rfl <| sK 97 rfl <| sK 96 rfl <| sK 95 rfl <| sK 94 rfl <| sK 93 rfl <| sK 17 rfl <| sK 18 rfl <| sK 92 rfl <| sK 91 rfl <| sK 90 rfl <| sK 87 rfl <| sK 86 rfl <| sK 16 rfl <| sK 85 rfl <| sK 84 rfl <| sK 83 rfl <| sK 82 rfl <| sK 81 rfl <| sK 15 rfl <| sK 80 rfl <| sK 79 rfl <| sK 77 rfl <| sK 76 rfl <| sK 14 rfl <| sK 13 rfl <| sK 75 rfl <| sK 74 rfl <| sK 73 rfl <| sK 72 rfl <| sK 71 rfl <| sK 70 rfl <| sK 4 rfl <| sK 0 rfl <| sub_nil) ?_
  refine c_seq ?_
  refine c_keep (sK 118 rfl <| sK 117 rfl <| sK 116 rfl <| sK 115 rfl <| sK 114 rfl <| sK 113 rfl <| sK 112 rfl <| sK 19 rfl <| sK 111 rfl <| sK 110 rfl <| sK 109 rfl <| sK 108 rfl <| sK 107 rfl <| sK 106 rfl <| sK 105 rfl <| sK 89 rfl <| sK 88 rfl <| sK 104 rfl <| sK 102 rfl <| sK 101 rfl <| sK 100 rfl <| sK 99 rfl <| sK 98 rfl <| sK 97 rfl <| sK 96 rfl <| sK 95 rfl <| sK 94 rfl <| sK 93 rfl <| sK 17 rfl <| sK 18 rfl <| sK 92 rfl <| sK 91 rfl <| sK 90 rfl <| sK 87 rfl <| sK 86 rfl <| sK 16 rfl <| sK 85 rfl <| sK 84 rfl <| sK 83 rfl <| sK 82 rfl <| sK 81 rfl <| sK 15 rfl <| sK 80 rfl <| sK 79 rfl <| sK 77 rfl <| sK 76 rfl <| sK 14 rfl <| sK 13 rfl <| sK 75 rfl <| sK 74 rfl <| sK 73 rfl <| sK 72 rfl <| sK 71 rfl <| sK 70 rfl <| sK 4 rfl <| sK 0 rfl <| sub_nil) ?_
  refine c_region ?_
  refine o_l rfl (l_next0 rfl rfl (.inl M9) M5 rfl) ?_; intro _ _
  refine oX (e_extract rfl rfl) <| oN <| c_seq <| c_else rfl <| c_exit <| x_code <| x_upto <| x_here <| n_code <| c_seq <| c_keep (sK 4 rfl <| sub_nil) <| c_region <| oA rfl <| oN <| c_ret ?_
  refine WR.sel (.cons (.tail (.tail (.tail (.tail (.tail (.tail (.tail (.tail (.tail (.tail .head)))))))))) (.cons (.tail (.tail (.tail (.tail (.tail (.tail (.tail (.tail (.tail (.tail .head)))))))))) (.cons (.tail (.tail (.tail (.tail (.tail (.tail (.tail (.tail (.tail (.tail .head)))))))))) (.cons (.tail (.tail .head)) .nil)))) <| r_fn1 results316 rfl ?_
  exact tells (y := (g10)) trivial rfl rfl

theorem z47 {G : HP} (p0 : Nat) (p1 : Nat) (p2 : Nat) :
    CtrE Tryz.prog 401 [pv p0] G [(p0, C [.map (some p1)] 327), (p1, Mo .u32 [(9, .agg #[vd 9, vq 1, .slice (ad p2 0) 9 9])]), (p2, C xb3 5)] (T := Unit) (fun _ => True) (fun _ => vq 1024) (fun _ => [(p0, C [.map (some p1)] 327), (p1, Mo .u32 [(9, .agg #[vd 9, vq 1, .slice (ad p2 0) 9 9])]), (p2, C xb3 5)]) := by
  refine fn_enter 3 func401 rfl ntmps401 rfl ?_
  intro w0
  refine cR <| oA rfl <| oN <| cR <| oA rfl <| oN <| c_ret <| WR.sel (.cons .head (.cons .head (.cons .head .nil))) <| r_fn1 results401 rfl ?_
  exact tells (y := ()) trivial rfl rfl

theorem z48 {G : HP} (p0 : Nat) :
    CtrE Tryz.prog 150 [.slice (ad p0 0) 10 10, vq 1024] G [(p0, C xb0 5)] (T := Unit) (fun _ => True) (fun _ => vi 2) (fun _ => [(p0, C xb5 5)]) := by
  refine fn_enter 25 func150 rfl ntmps150 rfl ?_
  intro w0
  refine cR <| oA rfl <| oN <| cR <| oA rfl <| oN <| c_seq <| c_block <| c_rounds 999 <| c_seq <| cR <| oM rfl <| oI (.bool true) rfl rfl <| oN <| c_then rfl <| c_skip <| n_code <| c_block <| cR <| oM rfl <| oM rfl <| oM rfl <| oX (e_convc (r := ub 0) runUnderlying23 runUnderlying5 rfl (by kernel_rfl)) ?_
  refine oI (ub 128) rfl rfl <| oX (eA (pv p0) (e_ia runUnderlying72 sizeOf5 rfl rfl (by decide) (by decide))) ?_
  refine o_l rfl (l_store sizeOf5 rfl rfl rfl .head .head nofr0) ?_; intro _ _
  refine oN <| cR <| oM rfl <| oX (e_shrc (r := vq 8) rfl rfl rfl (by kernel_rfl)) <| oA rfl <| oN <| c_region <| oM rfl <| oI (vi 1) rfl rfl <| oA rfl <| o_nil <| n_block <| n_rounds <| c_seq <| cR <| oM rfl <| oI (.bool false) rfl rfl <| oN <| c_else rfl <| c_exit <| x_code <| x_upto <| x_here <| n_code <| cR <| oM rfl ?_
  refine oM rfl <| oM rfl <| oX (e_convc (r := ub 8) runUnderlying23 runUnderlying5 rfl (by kernel_rfl)) <| oX (eA (.pointer (ad p0 1)) (e_ia runUnderlying72 sizeOf5 rfl rfl (by decide) (by decide))) ?_
  refine o_l rfl (l_store sizeOf5 rfl rfl rfl .head (.tail .head) nofr0) ?_; intro _ _
  refine oN <| cR <| oM rfl <| oI (vi 2) rfl rfl <| oA rfl <| oN <| c_ret <| WR.sel (.cons .head .nil) <| r_fn1 results150 rfl ?_
  exact tells (y := ()) trivial rfl rfl

theorem z49 {G : HP} (p0 : Nat) :
    CtrE Tryz.prog 77 [.slice (ad p0 0) 10 10, vq 1024] G [(p0, C xb0 5)] (T := Unit) (fun _ => True) (fun _ => vi 2) (fun _ => [(p0, C xb5 5)]) := by
  refine fn_enter 8 func77 rfl ntmps77 rfl ?_
  intro w0
  refine cR <| oA rfl <| oN <| cR <| oM rfl <| oM rfl ?_
  refine o_l rfl (l_calle call150 (z48 (p0)) rfl rfl (.cons .head .nil)) ?_; intro r1 hr1
  refine o_cat (.cons .nil) <| oA rfl <| oN <| c_ret <| WR.sel (.cons .head .nil) <| r_fn1 results77 rfl ?_
  exact tells (y := ()) trivial rfl rfl

theorem z50 {G : HP} (p0 : Nat) :
    CtrE Tryz.prog 296 [pv p0, vi 2] G [(p0, C [.slice none 0 0, vi 0, .int .i8 0] 86)] (T := Unit) (fun _ => True) (fun _ => .tuple #[vi 0, .bool false]) (fun _ => [(p0, C [.slice none 0 0, vi 0, .int .i8 0] 86)]) := by
  refine fn_enter 33 func296 rfl ntmps296 rfl ?_
  intro w0
  refine cR <| oA rfl <| oA rfl <| oN <| c_seq <| cR <| oM rfl <| oC rfl <| oX (eA (pv p0) (e_fa runUnderlying86 rfl sizeOf72 rfl rfl)) <| oX (e_load isAgg72 rfl (.inl M0) rfl) <| oX (eA (vi 0) (e_lenl runUnderlying72 rfl)) <| oA rfl <| oN <| cR <| oM rfl <| oM rfl <| oC rfl ?_
  refine oX (eA (pv p0) (e_fa runUnderlying86 rfl sizeOf72 rfl rfl)) <| oX (e_load isAgg72 rfl (.inl M0) rfl) <| oX (eA (vi 0) (e_cap runUnderlying72 rfl)) <| oM rfl <| oI (vi 0) rfl rfl <| oI (.bool false) rfl rfl <| oN <| cL rfl <| cR <| oA rfl <| oA rfl <| oN <| c_ret ?_
  refine WR.sel (.cons .head .nil) <| r_fn (l := [.tmp 4, .tmp 5]) results296 rfl rfl ?_
  exact tells (y := ()) trivial rfl rfl

theorem z51 {G : HP} (p0 : Nat) :
    CtrE Tryz.prog 298 [pv p0] G [(p0, C [.slice none 0 0, vi 0, .int .i8 0] 86)] (T := Unit) (fun _ => True) (fun _ => vi 0) (fun _ => [(p0, C [.slice none 0 0, vi 0, .int .i8 0] 86)]) := by
  refine fn_enter 13 func298 rfl ntmps298 rfl ?_
  intro w0
  refine cR <| oA rfl <| oN <| c_seq <| cQ <| qM rfl <| qC rfl <| qX (eA (pv p0) (e_fa runUnderlying86 rfl sizeOf72 rfl rfl)) <| qX (e_load isAgg72 rfl (.inl M0) rfl) <| qX (eA (vi 0) (e_lenl runUnderlying72 rfl)) <| qM rfl ?_
  refine qC rfl <| qX (eA (.pointer (ad p0 1)) (e_fa runUnderlying86 rfl sizeOf3 rfl rfl)) <| qX (e_load isAgg3 rfl (.inl M0) rfl) <| qX (e_int (r := vi 0) rfl rfl (by kernel_rfl)) <| qA rfl <| qN <| c_ret <| WR.sel (.cons .head .nil) <| r_fn1 results298 rfl ?_
  exact tells (y := ()) trivial rfl rfl

theorem z52 {G : HP} (p0 : Nat) :
    CtrE Tryz.prog 297 [pv p0, vi 2] G [(p0, C [.slice none 0 0, vi 0, .int .i8 0] 86)] (T := Nat) (fun _ => True) (fun y => vi 0) (fun y => [(p0, C [.slice (ad y 0) 2 64, vi 0, .int .i8 0] 86), (y, C xb6 5)]) := by
  refine fn_enter 110 func297 rfl ntmps297 rfl ?_
  intro w0
  refine cR <| oA rfl <| oN <| cR <| oM rfl ?_
  refine o_l rfl (l_calle call298 (z51 (p0)) rfl rfl (.cons .head .nil)) ?_; intro r1 hr1
  refine o_cat (.cons .nil) <| oA rfl <| oN <| c_seq <| cR <| oM rfl <| oI (.bool true) rfl rfl <| oM rfl <| oX (e_move rfl) <| oC rfl <| oX (eA (.pointer (ad p0 1)) (e_fa runUnderlying86 rfl sizeOf3 rfl rfl)) <| oX (e_load isAgg3 rfl (.inl M0) rfl) <| oX (e_int (r := .bool false) rfl rfl (by kernel_rfl)) ?_
  refine oX (e_pick_t rfl rfl) <| oN <| cL rfl <| c_seq <| cR <| oM rfl <| oM rfl ?_
  refine o_l rfl (l_calle call296 (z50 (p0)) rfl rfl (.cons .head .nil)) ?_; intro r2 hr2
  refine o_cat (.cons .nil) <| oM rfl <| oX (e_extract rfl rfl) <| oX (e_extract rfl rfl) <| oA rfl <| oA rfl <| oN <| cR <| oM rfl <| oN <| cL rfl <| c_seq <| cR <| oM rfl <| oC rfl <| oX (eA (pv p0) (e_fa runUnderlying86 rfl sizeOf72 rfl rfl)) <| oX (e_load isAgg72 rfl (.inl M0) rfl) ?_
  refine oX (eA (.bool true) (e_leqn runUnderlying72 rfl)) <| oM rfl <| oX (e_move rfl) <| oX (e_int (r := .bool true) rfl rfl (by kernel_rfl)) <| oX (e_pick_t rfl rfl) <| oN <| c_then rfl <| cR <| oM rfl <| oM rfl ?_
  refine o_l rfl (l_mksc (l := xb6) (n := 2) (m := 64) underlying72 (info_of typeInfo5) rfl rfl rfl rfl rfl rfl rfl (by decide) (by kernel_rfl)) ?_; intro g3 _
  refine oC rfl <| oX (eA (pv p0) (e_fa runUnderlying86 rfl sizeOf72 rfl rfl)) ?_
  refine o_l rfl (l_store sizeOf72 rfl rfl rfl (.tail .head) .head nofr0) ?_; intro _ _
  refine oN <| cR <| oA rfl <| oN <| c_ret <| WR.sel (.cons (.tail .head) (.cons .head .nil)) <| r_fn1 results297 rfl ?_
  exact tells (y := (g3)) trivial rfl rfl

theorem z53 {G : HP} (p0 : Nat) (p1 : Nat) :
    CtrE Tryz.prog 294 [pv p0, .slice (ad p1 0) 2 10] G [(p0, C [.slice none 0 0, vi 0, .int .i8 0] 86), (p1, C xb5 5)] (T := Nat) (fun _ => True) (fun y => .tuple #[vi 2, .nilIface]) (fun y => [(p0, C [.slice (ad y 0) 2 64, vi 0, .int .i8 0] 86), (p1, C xb5 5), (y, C xb7 5)]) := by
  refine fn_enter 32 func294 rfl ntmps294 rfl ?_
  intro w0
  refine cR <| oA rfl <| oA rfl <| oN <| cR <| oM rfl <| oC rfl <| oX (eA (.pointer (ad p0 2)) (e_fa runUnderlying86 rfl sizeOf84 rfl rfl)) ?_
  refine o_l rfl (l_store sizeOf84 rfl rfl rfl .head (.tail (.tail .head)) nofr0) ?_; intro _ _
  refine oN <| cR <| oM rfl <| oM rfl <| oX (eA (vi 2) (e_lenl runUnderlying72 rfl)) ?_
  refine o_l rfl (l_calle call296 (z50 (p0)) rfl rfl (.cons .head .nil)) ?_; intro r1 hr1
  refine o_cat (.cons .nil) <| oM rfl <| oX (e_extract rfl rfl) <| oX (e_extract rfl rfl) <| oA rfl <| oA rfl <| oN <| c_seq <| cR <| oM rfl <| oX (eA (.bool true) (e_not rfl)) <| oN <| c_then rfl <| c_region <| oM rfl <| oM rfl <| oX (eA (vi 2) (e_lenl runUnderlying72 rfl)) ?_
  refine o_l rfl (l_calle call297 (z52 (p0)) rfl rfl (.cons .head .nil)) ?_; intro r2 hr2
  refine o_cat (.cons (.cons .nil)) <| oA rfl <| oN <| cR <| oM rfl <| oC rfl <| oX (eA (pv p0) (e_fa runUnderlying86 rfl sizeOf72 rfl rfl)) <| oX (e_load isAgg72 rfl (.inl M0) rfl) <| oM rfl <| oX (e_as (r := .slice (ad r2 0) 2 64) (e_sl_l runUnderlying72 sizeOf5 rfl rfl (by decide) (by decide) (by decide)) (by first | rfl | (simp; try omega))) ?_
  refine oM rfl ?_
  refine o_l rfl (l_copy (vs := [ub 128, ub 8]) (k' := 2) runUnderlying72 sizeOf5 rfl rfl rfl (Sv.blk (vs := [ub 128, ub 8]) underlying72 (.inl M2) (.take (.take .done)) (by simp [Value.oneCell'])) rfl (.tail .head) (.take (.take .done)) (.inr rfl)) ?_; intro _ _
  refine oA rfl <| oA rfl <| oN <| c_ret <| WR.sel (.cons .head (.cons (.tail .head) (.cons .head .nil))) <| r_fn (l := [.tmp 4, .tmp 5]) results294 rfl rfl ?_
  exact tells (y := (r2)) trivial rfl rfl

theorem z54 {G : HP} (p0 : Nat) :
    CtrE Tryz.prog 326 [.agg #[], .slice (ad p0 0) 4 4, vd 1] G [(p0, C [ub 0, ub 0, ub 0, ub 0] 5)] (T := Unit) (fun _ => True) (fun _ => .tuple #[]) (fun _ => [(p0, C [ub 1, ub 0, ub 0, ub 0] 5)]) := by
  refine fn_enter 28 func326 rfl ntmps326 rfl ?_
  intro w0
  refine cR ?_
  refine o_l rfl (l_box rfl rfl rfl) ?_; intro g1 _
  refine oN <| cR <| oM rfl <| oX (eA (.pointer (ad p0 3)) (e_ia runUnderlying72 sizeOf5 rfl rfl (by decide) (by decide))) <| oX (e_load isAgg5 rfl (.inl M1) rfl) <| oN <| cR <| oM rfl <| oM rfl <| oX (e_convc (r := ub 1) runUnderlying212 runUnderlying5 rfl (by kernel_rfl)) ?_
  refine oX (eA (pv p0) (e_ia runUnderlying72 sizeOf5 rfl rfl (by decide) (by decide))) ?_
  refine o_l rfl (l_store sizeOf5 rfl rfl rfl (.tail .head) .head nofr0) ?_; intro _ _
  refine oN <| cR <| oM rfl <| oM rfl <| oX (e_shrc (r := vd 0) rfl rfl rfl (by kernel_rfl)) <| oX (e_convc (r := ub 0) runUnderlying212 runUnderlying5 rfl (by kernel_rfl)) <| oX (eA (.pointer (ad p0 1)) (e_ia runUnderlying72 sizeOf5 rfl rfl (by decide) (by decide))) ?_
  refine o_l rfl (l_store sizeOf5 rfl rfl rfl (.tail .head) (.tail .head) nofr0) ?_; intro _ _
  refine oN <| cR <| oM rfl <| oM rfl <| oX (e_shrc (r := vd 0) rfl rfl rfl (by kernel_rfl)) <| oX (e_convc (r := ub 0) runUnderlying212 runUnderlying5 rfl (by kernel_rfl)) <| oX (eA (.pointer (ad p0 2)) (e_ia runUnderlying72 sizeOf5 rfl rfl (by decide) (by decide))) ?_
  refine o_l rfl (l_store sizeOf5 rfl rfl rfl (.tail .head) (.tail (.tail .head)) nofr0) ?_; intro _ _
  refine oN <| c_region <| oM rfl <| oM rfl <| oX (e_shrc (r := vd 0) rfl rfl rfl (by kernel_rfl)) <| oX (e_convc (r := ub 0) runUnderlying212 runUnderlying5 rfl (by kernel_rfl)) <| oX (eA (.pointer (ad p0 3)) (e_ia runUnderlying72 sizeOf5 rfl rfl (by decide) (by decide))) ?_
  refine o_l rfl (l_store sizeOf5 rfl rfl rfl (.tail .head) (.tail (.tail (.tail .head))) nofr0) ?_; intro _ _
  refine o_nil <| WN.sel (.cons (.tail .head) .nil) <| n_fn0 results326 ?_
  exact tells (y := ()) trivial rfl rfl

theorem z55 {G : HP} (p0 : Nat) (p1 : Nat) :
    CtrE Tryz.prog 296 [pv p0, vi 4] G [(p0, C [.slice (ad p1 0) 2 64, vi 0, .int .i8 0] 86), (p1, C xb7 5)] (T := Unit) (fun _ => True) (fun _ => .tuple #[vi 2, .bool true]) (fun _ => [(p0, C [.slice (ad p1 0) 6 64, vi 0, .int .i8 0] 86), (p1, C xb7 5)]) := by
  refine fn_enter 33 func296 rfl ntmps296 rfl ?_
  intro w0
  refine cR <| oA rfl <| oA rfl <| oN <| c_seq <| cR <| oM rfl <| oC rfl <| oX (eA (pv p0) (e_fa runUnderlying86 rfl sizeOf72 rfl rfl)) <| oX (e_load isAgg72 rfl (.inl M0) rfl) <| oX (eA (vi 2) (e_lenl runUnderlying72 rfl)) <| oA rfl <| oN <| cR <| oM rfl <| oM rfl <| oC rfl ?_
  refine oX (eA (pv p0) (e_fa runUnderlying86 rfl sizeOf72 rfl rfl)) <| oX (e_load isAgg72 rfl (.inl M0) rfl) <| oX (eA (vi 64) (e_cap runUnderlying72 rfl)) <| oM rfl <| oI (vi 62) rfl rfl <| oI (.bool true) rfl rfl <| oN <| c_then rfl <| cR <| oM rfl <| oM rfl <| oC rfl ?_
  refine oX (eA (pv p0) (e_fa runUnderlying86 rfl sizeOf72 rfl rfl)) <| oX (e_load isAgg72 rfl (.inl M0) rfl) <| oM rfl <| oM rfl <| oI (vi 6) rfl rfl <| oX (eA (.slice (ad p1 0) 6 64) (e_sl_h runUnderlying72 sizeOf5 rfl rfl (by decide) (by decide))) <| oC rfl ?_
  refine oX (eA (pv p0) (e_fa runUnderlying86 rfl sizeOf72 rfl rfl)) ?_
  refine o_l rfl (l_store sizeOf72 rfl rfl rfl .head .head nofr0) ?_; intro _ _
  refine oN <| cR <| oM rfl <| oA rfl <| oA rfl <| oN <| c_ret <| WR.sel (.cons .head (.cons .head .nil)) <| r_fn (l := [.tmp 4, .tmp 5]) results296 rfl rfl ?_
  exact tells (y := ()) trivial rfl rfl

theorem z56 {G : HP} (p0 : Nat) (p1 : Nat) (p2 : Nat) :
    CtrE Tryz.prog 294 [pv p0, .slice (ad p2 0) 4 4] G [(p0, C [.slice (ad p1 0) 2 64, vi 0, .int .i8 0] 86), (p1, C xb7 5), (p2, C [ub 1, ub 0, ub 0, ub 0] 5)] (T := Unit) (fun _ => True) (fun _ => .tuple #[vi 4, .nilIface]) (fun _ => [(p0, C [.slice (ad p1 0) 6 64, vi 0, .int .i8 0] 86), (p1, C xb8 5), (p2, C [ub 1, ub 0, ub 0, ub 0] 5)]) := by
  refine fn_enter 32 func294 rfl ntmps294 rfl ?_
  intro w0
  refine cR <| oA rfl <| oA rfl <| oN <| cR <| oM rfl <| oC rfl <| oX (eA (.pointer (ad p0 2)) (e_fa runUnderlying86 rfl sizeOf84 rfl rfl)) ?_
  refine o_l rfl (l_store sizeOf84 rfl rfl rfl .head (.tail (.tail .head)) nofr0) ?_; intro _ _
  refine oN <| cR <| oM rfl <| oM rfl <| oX (eA (vi 4) (e_lenl runUnderlying72 rfl)) ?_
  refine o_l rfl (l_calle call296 (z55 (p0) (p1)) rfl rfl (.cons .head (.cons .head .nil))) ?_; intro r1 hr1
  refine o_cat (.cons (.cons .nil)) <| oM rfl <| oX (e_extract rfl rfl) <| oX (e_extract rfl rfl) <| oA rfl <| oA rfl <| oN <| c_seq <| cR <| oM rfl <| oX (eA (.bool false) (e_not rfl)) <| oN <| cL rfl <| cR <| oM rfl <| oC rfl <| oX (eA (pv p0) (e_fa runUnderlying86 rfl sizeOf72 rfl rfl)) ?_
  refine oX (e_load isAgg72 rfl (.inl M0) rfl) <| oM rfl <| oX (e_as (r := .slice (ad p1 2) 4 62) (e_sl_l runUnderlying72 sizeOf5 rfl rfl (by decide) (by decide) (by decide)) (by first | rfl | (simp; try omega))) <| oM rfl ?_
  refine o_l rfl (l_copy (vs := [ub 1, ub 0, ub 0, ub 0]) (k' := 4) runUnderlying72 sizeOf5 rfl rfl rfl (Sv.blk (vs := [ub 1, ub 0, ub 0, ub 0]) underlying72 (.inl M2) (.take (.take (.take (.take .done)))) (by simp [Value.oneCell'])) rfl (.tail .head) (.skip (.skip (.take (.take (.take (.take .done)))))) (.inr rfl)) ?_; intro _ _
  refine oA rfl <| oA rfl <| oN <| c_ret <| WR.sel (.cons .head (.cons .head (.cons .head .nil))) <| r_fn (l := [.tmp 4, .tmp 5]) results294 rfl rfl ?_
  exact tells (y := ()) trivial rfl rfl

theorem z57 {G : HP} (p0 : Nat) (p1 : Nat) :
    CtrE Tryz.prog 318 [.iface 89 (pv p0), vd 1] G [(p0, C [.slice (ad p1 0) 2 64, vi 0, .int .i8 0] 86), (p1, C xb7 5)] (T := Unit) (fun _ => True) (fun _ => .nilIface) (fun _ => [(p0, C [.slice (ad p1 0) 6 64, vi 0, .int .i8 0] 86), (p1, C xb8 5)]) := by
  refine fn_enter 20 func318 rfl ntmps318 rfl ?_
  intro w0
  refine cR <| oA rfl <| oN <| cR ?_
  refine o_l rfl (l_mksc (l := [ub 0, ub 0, ub 0, ub 0]) (n := 4) (m := 4) underlying72 (info_of typeInfo5) rfl rfl rfl rfl rfl rfl rfl (by decide) (by kernel_rfl)) ?_; intro g1 _
  refine oA rfl <| oN <| cR <| oX (e_load0 isAgg294 sizeOf294 rfl) <| oM rfl <| oM rfl ?_
  refine o_l rfl (l_calle call326 (z54 (g1)) rfl rfl (.cons .head .nil)) ?_; intro r2 hr2
  refine o_cat (.cons .nil) <| oN <| cR <| oM rfl <| oM rfl ?_
  refine o_l rfl (l_callie call294 (by intro w; kernel_rfl) (z56 (p0) (p1) (g1)) rfl rfl rfl (.cons (.tail .head) (.cons (.tail .head) (.cons .head .nil)))) ?_; intro r3 hr3
  refine o_cat (.cons (.cons (.cons .nil))) <| oM rfl <| oX (e_extract rfl rfl) <| oX (e_extract rfl rfl) <| oA rfl <| oA rfl <| oN <| cR <| oM rfl <| oA rfl <| oN <| c_ret <| WR.sel (.cons .head (.cons .head .nil)) <| r_fn1 results318 rfl ?_
  exact tells (y := ()) trivial rfl rfl

theorem z58 {G : HP}  :
    CtrE Tryz.prog 66 [vq 1] G [] (T := Unit) (fun _ => True) (fun _ => vi 1) (fun _ => []) := by
  refine fn_enter 8 func66 rfl ntmps66 rfl ?_
  intro w0
  refine cR <| oA rfl <| oN <| c_seq <| cL rfl <| cR <| oM rfl ?_
  refine o_l rfl (l_calle call123 (z6 ) rfl rfl .nil) ?_; intro r1 hr1
  refine o_cat .nil <| oA rfl <| oN <| c_ret <| WR.sel .nil <| r_fn1 results66 rfl ?_
  exact tells (y := ()) trivial rfl rfl

theorem z59 {G : HP} (q0 : Tl) (h0 : TlOk 1 1 q0) :
    CtrE Tryz.prog 370 [.slice (ad q0.g 0) 1 q0.cap, vi 0, vi 1] G [(q0.g, Ob [vd 9] q0 212)] (T := Unit) (fun _ => True) (fun _ => .tuple #[]) (fun _ => [(q0.g, Ob [vd 9] q0 212)]) := by
  refine fn_enter 49 func370 rfl ntmps370 rfl ?_
  intro w0
  refine cR <| oM rfl <| oI (vi 1) rfl rfl <| oA rfl <| oN <| c_block <| c_rounds 999 <| c_seq <| cR <| oM rfl <| oM rfl <| oI (.bool false) rfl rfl <| oN <| c_else rfl <| c_exit <| x_code <| x_upto <| x_here <| WN.sel (.cons .head .nil) <| n_fn0 results370 ?_
  exact tells (y := ()) trivial rfl rfl
end Go.Proofs
