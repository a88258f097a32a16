/- The specification's header; The specification's file of version 1; where its sections begin; the entries that are generated; A header read by impl.HdRead; The entries that are generated; spec.Once: true says that no two are of one digest; Guards: sizes; what files the statements speak of; laws.wrGood; laws.FnIxMakeHeads: true. (A part of the proof of this: for every input laws.FnWrOptions returns true and its arguments read as they did, the listed package variables being what the program lays) -/
import Derived.Test.YtochgglejmfelaaGreatDoorLSlZ
import Derived.Test.YtochgglejmfelaaGreatDoorL20
import Derived.Test.YtochgglejmfelaaGreatDoorL16
import Derived.Test.YtochgglejmfelaaGreatDoorL04
import Derived.Stop.Asserts
import Derived.Test.YtochgglejmfelaaGreatDoorL18
import Derived.Test.YtochgglejmfelaaGreatDoorL12
set_option linter.unusedVariables false
set_option linter.unusedSimpArgs false
namespace Go.Proofs
open Go Go.Sl Tryz
set_option maxRecDepth 100000
set_option maxHeartbeats 1000000
/-- A row of things, each of so many cells. -/
inductive RwS {α : Type} (f : α → List Value) (sz : Nat) (H : HP) : Value → List α → Prop where
  | emp {A : Option Addr} {cap : Nat} : RwS f sz H (.slice A 0 cap) []
  | blk {l : List α} {L : List Value} {g off n cap : Nat} {e : TypeId} {fr : Nat × Nat} (hm : (g, Obj.cells L.toArray e fr) ∈ H) (hn : l.length = n) (hc : ∀ i (h : i < l.length), CutL L (off + i * sz) sz (f l[i])) : RwS f sz H (.slice (some ⟨g, off, none⟩) n cap) l
theorem hdB_len (b n : Nat) : (hdB b n).length ≤ 2 := by
  unfold hdB; split <;> simp
theorem RwS.shape {α : Type} {f : α → List Value} {sz : Nat} {H : HP} {v : Value} {l : List α} (h : RwS f sz H v l) : ∃ A cap, v = .slice A l.length cap := by
  cases h with
  | emp => exact ⟨_, _, rfl⟩
  | blk hm hn hc => rw [hn]; exact ⟨_, _, rfl⟩
theorem RwS.at {α : Type} {f : α → List Value} {sz : Nat} {H : HP} {A : Option Addr} {n c : Nat} {l : List α} (h : RwS f sz H (.slice A n c) l) {i : Nat} (hi : i < l.length) : ∃ (g off : Nat) (L : List Value) (e : TypeId) (fr : Nat × Nat), A = some ⟨g, off, none⟩ ∧ (g, Obj.cells L.toArray e fr) ∈ H ∧ CutL L (off + i * sz) sz (f l[i]) := by
  generalize hv : Value.slice A n c = v0 at h
  cases h with
  | emp => simp at hi
  | blk hm hn hc =>
    injection hv with h1 h2 h3
    exact ⟨_, _, _, _, _, h1, hm, hc i hi⟩
theorem RwS.mono {α : Type} {f : α → List Value} {sz : Nat} {H K : HP} {v : Value} {l : List α} (h : RwS f sz H v l) (hs : ∀ p ∈ H, p ∈ K) : RwS f sz K v l := by
  cases h with
  | emp => exact .emp
  | blk hm hn hc => exact .blk (hs _ hm) hn hc
section
variable {G : HP} {x : En} {xs : List En} {vr : Value}
theorem link_is (hx : CidOk x) : Ctr prog 82 [.agg (cC x).toArray] G [] (fun r H' => r = S (linkB x) ∧ H' = []) := by
  have hcl := cidB_len hx.ht hx.hd
  show Ctr prog 82 [.agg #[.int .u64 x.v, .int .u64 x.c, .int .u64 x.h, S x.d]] G [] (fun r H' => r = S (linkB x) ∧ H' = [])
  refine fn_enter 16 func82 rfl ntmps82 rfl ?_
  intro w0
  refine gn 2 ?_
  refine oB ?_; intro g1 _
  refine gn 6 ?_
  refine oL (lC (cidBytes_is hx.ht hx.hf hx.hd) rfl .nil) ?_
  rintro ⟨r, H'⟩ ⟨rfl, rfl⟩
  simp only [List.nil_append]
  refine gn 5 ?_
  refine oL (lC (head_is (m := 6) (n := 42) (by decide) (by decide)) rfl .nil) ?_
  rintro ⟨r, H'⟩ ⟨rfl, rfl⟩
  simp only [List.nil_append]
  refine gn 4 ?_
  refine oL (lC (head_is (m := 2) (n := (cidB x).length + 1) (by decide) (by omega)) rfl .nil) ?_
  rintro ⟨r, H'⟩ ⟨rfl, rfl⟩
  simp only [List.nil_append]
  have hb := hdB_len 64 ((cidB x).length + 1)
  have hc := hdB_len 192 42
  refine oX (e_sadd rfl rfl aN) ?_
  refine oX (e_sadd rfl rfl aN) ?_
  refine gn 1 ?_
  refine oX (e_sadd rfl rfl aN) ?_
  refine gn 4 ?_
  refine WR.sel .nil ?_
  refine r_fn1 results82 rfl ?_
  refine ⟨?_, rfl⟩
  have e1 : hdB (6 * 32) 42 = [216, 42] := by decide
  rw [e1]
  simp [linkB]
theorem linkB_len (hx : CidOk x) : (linkB x).length ≤ 240 := by
  have h1 := cidB_len hx.ht hx.hd
  have h2 := hdB_len 64 ((cidB x).length + 1)
  simp only [linkB, List.length_cons, List.length_append]
  omega
theorem links_len : ∀ {xs : List En}, (∀ x ∈ xs, CidOk x) → (xs.flatMap linkB).length ≤ xs.length * 240
  | [], _ => by simp
  | x :: xs, h => by
    have h1 := linkB_len (h x (.head _))
    have h2 := links_len (xs := xs) fun y hy => h y (.tail _ hy)
    simp only [List.flatMap_cons, List.length_append, List.length_cons]
    omega
theorem headB_len (h : ∀ x ∈ xs, CidOk x) : (headB xs).length ≤ xs.length * 240 + 30 := by
  have h1 := links_len h
  have h2 := hdB_len 128 xs.length
  have h3 : rootsT.length = 5 := rfl
  have h4 : versT.length = 7 := rfl
  simp only [headB, List.length_cons, List.length_append, List.length_nil, h3, h4]
  omega
theorem headerBytes_is (hv : RwS cC 4 G vr xs) (hn : xs.length ≤ 200) (hok : ∀ x ∈ xs, CidOk x) : Ctr prog 49 [vr, .int .u64 1] G [] (fun r H' => r = S (hedB xs) ∧ H' = []) := by
  obtain ⟨A0, c0, rfl⟩ := hv.shape
  have hll := links_len hok
  have e1 : hdB (5 * 32) 2 = [162] := by decide
  have e2 : hdB (3 * 32) 5 = [101] := by decide
  have e3 : hdB (3 * 32) 7 = [103] := by decide
  have e4 : hdB (0 * 32) 1 = [1] := by decide
  have hb := hdB_len 128 xs.length
  refine fn_enter 42 func49 rfl ntmps49 rfl ?_
  intro w0
  refine gn 7 ?_
  refine oL (lC (head_is (m := 5) (n := 2) (by decide) (by decide)) rfl .nil) ?_
  rintro ⟨r, H'⟩ ⟨rfl, rfl⟩
  simp only [List.nil_append]
  rw [e1]
  refine oL (lC (head_is (m := 3) (n := 5) (by decide) (by decide)) rfl .nil) ?_
  rintro ⟨r, H'⟩ ⟨rfl, rfl⟩
  simp only [List.nil_append]
  rw [e2]
  refine oX (e_sadd rfl rfl aN) ?_
  refine oX (e_sadd rfl rfl aN) ?_
  refine gn 3 ?_
  refine oL (lC (head_is (m := 4) (n := xs.length) (by decide) (by omega)) rfl .nil) ?_
  rintro ⟨r, H'⟩ ⟨rfl, rfl⟩
  simp only [List.nil_append]
  refine oX (e_sadd rfl rfl aN) ?_
  refine gn 12 ?_
  obtain ⟨p0, hp0⟩ : ∃ p0 : List UInt8, p0 = [162] ++ [101] ++ [114, 111, 111, 116, 115] ++ hdB (4 * 32) xs.length := ⟨_, rfl⟩
  rw [← hp0]
  have hpl : p0.length ≤ 9 := by
    have h1 := hdB_len (4 * 32) xs.length
    rw [hp0]
    simp only [List.length_append, List.length_cons, List.length_nil]
    omega
  refine c_loop (X := Nat) (fun i => [(1, .int .u64 1), (5, S (p0 ++ (xs.take i).flatMap linkB)), (17, .slice A0 xs.length c0), (18, .int .i64 xs.length), (19, .int .i64 i)]) (fun _ => []) (fun i => i ≤ xs.length) (fun i => xs.length - i) 0 (Nat.zero_le _) (sub_cons rfl (sub_cons (by show some (S p0) = some (S (p0 ++ [])); rw [List.append_nil]) aK)) (.refl _) ?_
  intro i hi0
  refine gn 6 ?_
  refine c_ifp rfl (fun h2 => ?_) (fun h2 => ?_)
  · have hi3 : i < xs.length := by omega
    obtain ⟨gS, off, LS, eS, frS, rfl, hmS, hcS⟩ := hv.at hi3
    have hx := hok xs[i] (List.getElem_mem _)
    have hl1 := linkB_len hx
    have hl2 := links_len (xs := xs.take i) fun x hx => hok x (List.mem_of_mem_take hx)
    have hl3 : (xs.take i).length ≤ 200 := by rw [List.length_take]; omega
    refine gn 8 ?_
    refine oZ ?_; intro g7 _
    refine oL (l_storea sizeOf25 rfl rfl rfl (by simp [cC, Value.oneCell']) .head (.take (.take (.take (.take .done)))) nofrs0) ?_
    intro _ _
    refine gn 5 ?_
    refine oL (lC (link_is hx) rfl .nil) ?_
    rintro ⟨r, H'⟩ ⟨rfl, rfl⟩
    simp only [List.nil_append]
    refine oX (e_sadd rfl rfl aN) ?_
    refine gn 8 ?_
    refine n_round' (y := i) (i + 1) (by omega) (by omega) (sub_cons rfl (sub_cons ?_ aK)) _ (.refl _) (List.nil_sublist _)
    show some (S (p0 ++ (xs.take i).flatMap linkB ++ linkB xs[i])) = some (S (p0 ++ (xs.take (i + 1)).flatMap linkB))
    rw [List.take_succ_eq_append_getElem hi3, List.flatMap_append, List.append_assoc]
    simp
  · skip
    obtain rfl : i = xs.length := by omega
    rw [List.take_length]
    refine gn 8 ?_
    refine oL (lC (head_is (m := 3) (n := 7) (by decide) (by decide)) rfl .nil) ?_
    rintro ⟨r, H'⟩ ⟨rfl, rfl⟩
    simp only [List.nil_append]
    rw [e3]
    refine oX (e_sadd rfl rfl aN) ?_
    refine gn 1 ?_
    refine oL (lC (head_is (m := 0) (n := 1) (by decide) (by decide)) rfl .nil) ?_
    rintro ⟨r, H'⟩ ⟨rfl, rfl⟩
    simp only [List.nil_append]
    rw [e4]
    refine oX (e_sadd rfl rfl aN) ?_
    refine oX (e_sadd rfl rfl aN) ?_
    have hH : p0 ++ xs.flatMap linkB ++ ([103] ++ [118, 101, 114, 115, 105, 111, 110] ++ [1]) = headB xs := by
      rw [hp0]
      simp [headB, rootsT, versT]
    have hHl := headB_len hok
    rw [hH]
    refine gn 8 ?_
    refine oL (lC (varint_is (x := (headB xs).length) (by omega)) rfl .nil) ?_
    rintro ⟨v1, H1⟩ ho1
    simp only [List.append_nil] at ho1 ⊢
    have u1 := uv_le (headB xs).length
    refine oX (e_bsO underlying72 underlying5 underlying9 ho1 (fun _ h => h) rfl) ?_
    refine gn 1 ?_
    refine oX (e_sadd rfl rfl aN) ?_
    refine gn 4 ?_
    refine WR.sel .nil ?_
    refine r_fn1 results49 rfl ?_
    refine ⟨?_, rfl⟩
    simp [hedB]
end
end Go.Proofs
namespace Go.Proofs
open Go Go.Sl Tryz
set_option maxRecDepth 100000
set_option maxHeartbeats 1000000
def bC (b : Blk) : List Value := cC b.1 ++ [S b.2]
structure BlkOk (b : Blk) : Prop where
  hx : CidOk b.1
  hd : b.2.length ≤ 32768
theorem secB_len {b : Blk} (h : BlkOk b) : (secB b).length ≤ 33100 := by
  have h1 := cidB_len h.hx.ht h.hx.hd
  have h2 := uv_le ((cidB b.1).length + b.2.length)
  have h3 := h.hd
  simp only [secB, List.length_append]
  omega
theorem secs_len : ∀ {bs : List Blk}, (∀ b ∈ bs, BlkOk b) → (bs.flatMap secB).length ≤ bs.length * 33100
  | [], _ => by simp
  | x :: xs, h => by
    have h1 := secB_len (h x (.head _))
    have h2 := secs_len (bs := xs) fun y hy => h y (.tail _ hy)
    simp only [List.flatMap_cons, List.length_append, List.length_cons]
    omega
theorem hedB_len {xs : List En} (h : ∀ x ∈ xs, CidOk x) : (hedB xs).length ≤ xs.length * 240 + 40 := by
  have h1 := headB_len h
  have h2 := uv_le (headB xs).length
  simp only [hedB, List.length_append]
  omega
section
variable {G : HP} {xs : List En} {blks : List Blk} {vr vb : Value} {ib : Bool}
theorem car1_is (hv : RwS cC 4 G vr xs) (hn : xs.length ≤ 200) (hok : ∀ x ∈ xs, CidOk x) (hvb : RwS bC 5 G vb blks) (hnb : blks.length ≤ 1000) (hbk : ∀ b ∈ blks, BlkOk b) : Ctr prog 24 [.agg #[vr, vb]] G [] (fun r H' => r = S (hedB xs ++ blks.flatMap secB) ∧ H' = []) := by
  have hhl := hedB_len hok
  obtain ⟨A0, c0, rfl⟩ := hvb.shape
  refine fn_enter 22 func24 rfl ntmps24 rfl ?_
  intro w0
  refine gn 2 ?_
  refine oB ?_; intro g1 _
  refine gn 7 ?_
  refine oL (lC (headerBytes_is hv hn hok) rfl .nil) ?_
  rintro ⟨r, H'⟩ ⟨rfl, rfl⟩
  simp only [List.nil_append]
  refine gn 13 ?_
  refine WC.less (fun _ _ h => h) (List.nil_sublist _) ?_
  refine c_loop (X := Nat) (fun i => [(3, S (hedB xs ++ (blks.take i).flatMap secB)), (10, .slice A0 blks.length c0), (11, .int .i64 blks.length), (12, .int .i64 i)]) (fun _ => []) (fun i => i ≤ blks.length) (fun i => blks.length - i) 0 (Nat.zero_le _) (sub_cons (by show some (S (hedB xs)) = some (S (hedB xs ++ [])); rw [List.append_nil]) aK) (.refl _) ?_
  intro i hi0
  refine gn 6 ?_
  refine c_ifp rfl (fun h2 => ?_) (fun h2 => ?_)
  · have hi3 : i < blks.length := by omega
    obtain ⟨gS, off, LS, eS, frS, rfl, hmS, hcS⟩ := hvb.at hi3
    have hx := hbk blks[i] (List.getElem_mem _)
    have hl1 : (secB (blks[i].1, blks[i].2)).length ≤ 33100 := secB_len hx
    have hl2 := secs_len (bs := blks.take i) fun x hx => hbk x (List.mem_of_mem_take hx)
    have hl3 : (blks.take i).length ≤ 1000 := by rw [List.length_take]; omega
    have hsd := hx.hd
    refine gn 8 ?_
    refine oZ ?_; intro g5 _
    refine oL (l_storea sizeOf98 rfl rfl rfl (by simp [bC, cC, Value.oneCell']) .head (.take (.take (.take (.take (.take .done))))) nofrs0) ?_
    intro _ _
    refine gn 5 ?_
    refine oL (lC (section_is hx.hx (by omega)) rfl .nil) ?_
    rintro ⟨r, H'⟩ ⟨rfl, rfl⟩
    simp only [List.nil_append]
    refine oX (e_sadd rfl rfl aN) ?_
    refine gn 8 ?_
    refine n_round' (y := i) (i + 1) (by omega) (by omega) (sub_cons ?_ aK) _ (.refl _) (List.nil_sublist _)
    show some (S (hedB xs ++ (blks.take i).flatMap secB ++ secB blks[i])) = some (S (hedB xs ++ (blks.take (i + 1)).flatMap secB))
    rw [List.take_succ_eq_append_getElem hi3, List.flatMap_append, List.append_assoc]
    simp
  · skip
    obtain rfl : i = blks.length := by omega
    rw [List.take_length]
    refine gn 12 ?_
    refine r_fn1 results24 rfl ?_
    exact ⟨rfl, rfl⟩
/-- Where sections begin, and where the last ends. -/
def placeL : Nat → List Blk → List Nat
  | p, [] => [p]
  | p, b :: bs => p :: placeL (p + (secB b).length) bs
theorem placeL_len : ∀ (p : Nat) (l : List Blk), (placeL p l).length = l.length + 1
  | _, [] => rfl
  | p, b :: l => by simp [placeL, placeL_len]
theorem placeL_at : ∀ (p : Nat) (l : List Blk) (i : Nat) (h : i < (placeL p l).length), (placeL p l)[i] = p + ((l.take i).flatMap secB).length
  | p, [], 0, h => by simp [placeL]
  | p, [], i + 1, h => by simp [placeL] at h
  | p, b :: l, 0, h => by simp [placeL]
  | p, b :: l, i + 1, h => by
    have := placeL_at (p + (secB b).length) l i (by simpa [placeL] using h)
    simp only [placeL, List.getElem_cons_succ, this, List.take_succ_cons, List.flatMap_cons, List.length_append]
    omega
theorem placeL_snoc (p : Nat) : ∀ (l : List Blk) (b : Blk), placeL p (l ++ [b]) = placeL p l ++ [p + ((l ++ [b]).flatMap secB).length] := by
  intro l
  induction l generalizing p with
  | nil => intro b; simp [placeL]
  | cons a l ih =>
    intro b
    simp only [List.cons_append, placeL, ih]
    simp [Nat.add_assoc]
theorem places_is (hv : RwS cC 4 G vr xs) (hn : xs.length ≤ 200) (hok : ∀ x ∈ xs, CidOk x) (hvb : RwS bC 5 G vb blks) (hnb : blks.length ≤ 1000) (hbk : ∀ b ∈ blks, BlkOk b) : Ctr prog 48 [.agg #[vr, vb]] G [] (fun r H' => Osl 3 1 r (blks.length + 1) (V .i64 ((placeL (hedB xs).length blks).map fun k : Nat => (k : Int))) H') := by
  have hhl := hedB_len hok
  obtain ⟨A0, c0, rfl⟩ := hvb.shape
  refine fn_enter 31 func48 rfl ntmps48 rfl ?_
  intro w0
  refine gn 2 ?_
  refine oB ?_; intro g1 _
  refine gn 7 ?_
  refine oL (lC (headerBytes_is hv hn hok) rfl .nil) ?_
  rintro ⟨r, H'⟩ ⟨rfl, rfl⟩
  simp only [List.nil_append]
  refine gn 7 ?_
  refine oL (l_bs1 runUnderlying99 sizeOf3 zeroValue3 rfl rfl rfl) ?_; intro g12 _
  refine gn 13 ?_
  refine WC.less (fun _ _ h => h) (.cons_cons _ (List.nil_sublist _)) ?_
  obtain ⟨p0, hp0⟩ : ∃ p0, p0 = (hedB xs).length := ⟨_, rfl⟩
  rw [← hp0] at hhl ⊢
  refine c_loop (X := Nat × Value × HP) (fun y => [(3, .int .i64 (p0 + ((blks.take y.1).flatMap secB).length : Nat)), (4, y.2.1), (14, .slice A0 blks.length c0), (15, .int .i64 blks.length), (16, .int .i64 y.1)]) (fun y => y.2.2) (fun y => y.1 ≤ blks.length ∧ Osl 3 1 y.2.1 (y.1 + 1) (V .i64 ((placeL p0 (blks.take y.1)).map fun k : Nat => (k : Int))) y.2.2) (fun y => blks.length - y.1) (0, .slice (some ⟨g12, 0, none⟩) 1 1, [(g12, C [.int .i64 p0] 3)]) ⟨Nat.zero_le _, .own (xs := [.int .i64 p0]) (rest := []) (lo := 0) (hi := 0) rfl rfl (Nat.le_refl _) (by decide) (.inr rfl)⟩ aK (.refl _) ?_
  rintro ⟨i, v, HS⟩ ⟨hi0, ho⟩
  simp only at hi0 ho ⊢
  refine gn 6 ?_
  refine c_ifp rfl (fun h2 => ?_) (fun h2 => ?_)
  · have hi3 : i < blks.length := by omega
    obtain ⟨gS, off, LS, eS, frS, rfl, hmS, hcS⟩ := hvb.at hi3
    have hx := hbk blks[i] (List.getElem_mem _)
    have hl1 : (secB (blks[i].1, blks[i].2)).length ≤ 33100 := secB_len hx
    have hl2 := secs_len (bs := blks.take i) fun x hx => hbk x (List.mem_of_mem_take hx)
    have hl3 : (blks.take i).length ≤ 1000 := by rw [List.length_take]; omega
    have hsd := hx.hd
    refine gn 8 ?_
    refine oZ ?_; intro g6 _
    refine oL (l_storea sizeOf98 rfl rfl rfl (by simp [bC, cC, Value.oneCell']) .head (.take (.take (.take (.take (.take .done))))) nofrs0) ?_
    intro _ _
    refine gn 6 ?_
    refine oL (lC (section_is hx.hx (by omega)) rfl .nil) ?_
    rintro ⟨r, H'⟩ ⟨rfl, rfl⟩
    simp only [List.nil_append]
    have hq : p0 + ((blks.take i).flatMap secB).length + (secB (blks[i].1, blks[i].2)).length = p0 + ((blks.take (i + 1)).flatMap secB).length := by
      rw [List.take_succ_eq_append_getElem hi3, List.flatMap_append, List.length_append]
      simp [Nat.add_assoc]
    refine gn 8 ?_
    refine oL (l_bs1 runUnderlying99 sizeOf3 zeroValue3 rfl rfl rfl) ?_; intro g27 _
    rw [hq]
    refine oL (l_append (sz := 1) (m := 1) (news := [.int .i64 (p0 + ((blks.take (i + 1)).flatMap secB).length : Nat)]) underlying99 (info_of typeInfo3) rfl rfl rfl rfl rfl rfl ho (List.perm_append_comm (l₁ := [_, _]) (l₂ := HS)) (.blk underlying99 (.inl (.head _)) (.take .done) (by simp [Value.oneCell'])) (by show _ * 8 ≤ _; omega) (by omega)) ?_
    rintro ⟨v2, HS2⟩ ho2
    simp only at ho2 ⊢
    refine gn 8 ?_
    refine n_round' (y := (i, v, HS)) (i + 1, v2, HS2) (by show blks.length - (i + 1) < blks.length - i; omega) ⟨by show i + 1 ≤ blks.length; omega, ?_⟩ aK _ (.refl _) (List.sublist_append_left HS2 _)
    show Osl 3 1 v2 (i + 1 + 1) (V .i64 ((placeL p0 (blks.take (i + 1))).map fun k : Nat => (k : Int))) HS2
    have e := placeL_snoc p0 (blks.take i) blks[i]
    rw [← List.take_succ_eq_append_getElem hi3] at e
    rw [e, List.map_append]
    simpa [V] using ho2
  · skip
    obtain rfl : i = blks.length := by omega
    rw [List.take_length] at ho
    refine gn 12 ?_
    refine r_fn1 results48 rfl ?_
    exact ho
end
end Go.Proofs
namespace Go.Proofs
open Go Go.Sl Tryz
set_option maxRecDepth 100000
set_option maxHeartbeats 1000000
theorem flat_cut {α : Type} {f : α → List Value} {sz : Nat} (hf : ∀ x, (f x).length = sz) (rest : List Value) : ∀ {l : List α} {i : Nat} (h : i < l.length), CutL (l.flatMap f ++ rest) (i * sz) sz (f l[i])
  | a :: l, 0, _ => by
    have := CutL.of (l := (a :: l).flatMap f ++ rest) (i := 0 * sz) (n := sz) (by simp [hf])
    rw [Nat.zero_mul, List.drop_zero, List.flatMap_cons, List.append_assoc, List.take_left' (hf a)] at this
    rw [Nat.zero_mul, List.flatMap_cons, List.append_assoc]
    exact this
  | a :: l, i + 1, h => by
    have := flat_cut hf rest (l := l) (i := i) (by simpa using h)
    rw [Nat.succ_mul, List.flatMap_cons, List.append_assoc, Nat.add_comm]
    have h2 := cut_skip (f a) this
    rw [hf a] at h2
    exact h2
theorem _root_.Go.Sl.Osl.rw {α : Type} {f : α → List Value} {sz n : Nat} {e : TypeId} {v : Value} {H : HP} {l : List α} (h : Osl e sz v n (l.flatMap f) H) (hn : l.length = n) (hf : ∀ x, (f x).length = sz) : RwS f sz H v l := by
  generalize hx : l.flatMap f = xs at h
  cases h with
  | nil =>
    have : l = [] := List.eq_nil_of_length_eq_zero hn
    subst this
    exact .emp
  | own h1 h2 h3 h4 h5 =>
    subst hx
    refine .blk (.head _) hn fun i hi => ?_
    rw [Nat.zero_add]
    exact flat_cut hf _ hi
end Go.Proofs
namespace Go.Proofs
open Go Go.Sl Tryz
set_option maxRecDepth 100000
set_option maxHeartbeats 1000000
section
variable {G : HP} {xs : List En} {blks : List Blk} {vr vb : Value} {ib : Bool}
theorem generated_is (hv : RwS cC 4 G vr xs) (hn : xs.length ≤ 200) (hok : ∀ x ∈ xs, CidOk x) (hvb : RwS bC 5 G vb blks) (hnb : blks.length ≤ 100) (hbk : ∀ b ∈ blks, BlkOk b) : Ctr prog 23 [.agg #[vr, vb], .bool ib] G [] (fun r H' => Osl 56 5 r (keepE ib (genE (hedB xs).length blks)).length (cells5 (keepE ib (genE (hedB xs).length blks))) H') := by
  have hhl := hedB_len hok
  have hpl := places_is hv hn hok hvb (by omega) hbk
  obtain ⟨A0, c0, rfl⟩ := hvb.shape
  refine fn_enter 39 func23 rfl ntmps23 rfl ?_
  intro w0
  refine gn 2 ?_
  refine oB ?_; intro g2 _
  refine gn 11 ?_
  refine oL (lC hpl rfl .nil) ?_
  rintro ⟨vp, HP0⟩ hop
  simp only at hop ⊢
  refine o_perm List.perm_append_comm ?_
  simp only [List.cons_append, List.nil_append]
  refine gn 13 ?_
  obtain ⟨gP, capP, restP, loP, hiP, rfl, rfl, hP1, hP2, hP3, hP4, -⟩ := hop.open_ (by omega)
  refine WC.less (fun _ _ h => h) (.cons _ (List.Sublist.refl _)) ?_
  obtain ⟨p0, hp0⟩ : ∃ p0, p0 = (hedB xs).length := ⟨_, rfl⟩
  rw [← hp0] at hhl hP1 ⊢
  refine c_loop (X := Nat × Value × HP) (fun y => [(1, .bool ib), (5, y.2.1), (6, .slice (some ⟨gP, 0, none⟩) (blks.length + 1) capP), (12, .slice A0 blks.length c0), (13, .int .i64 blks.length), (14, .int .i64 y.1)]) (fun y => (gP, .cells (V .i64 ((placeL p0 blks).map fun k : Nat => (k : Int)) ++ restP).toArray 3 (loP, hiP)) :: y.2.2) (fun y => y.1 ≤ blks.length ∧ Osl 56 5 y.2.1 (keepE ib (genE p0 (blks.take y.1))).length (cells5 (keepE ib (genE p0 (blks.take y.1)))) y.2.2) (fun y => blks.length - y.1) (0, .slice none 0 0, []) ⟨Nat.zero_le _, .nil⟩ aK (.refl _) ?_
  rintro ⟨i, v, HS⟩ ⟨hi0, ho⟩
  simp only at hi0 ho ⊢
  refine gn 6 ?_
  refine c_ifp rfl (fun h2 => ?_) (fun h2 => ?_)
  · have hi3 : i < blks.length := by omega
    obtain ⟨gS, off, LS, eS, frS, rfl, hmS, hcS⟩ := hvb.at hi3
    have hx := hbk blks[i] (List.getElem_mem _)
    have hpi : (V .i64 ((placeL p0 blks).map fun k : Nat => (k : Int)) ++ restP)[0 + i * 1]? = some (.int .i64 (p0 + ((blks.take i).flatMap secB).length : Nat)) := by
      have h1 : i < (placeL p0 blks).length := by rw [placeL_len]; omega
      rw [Nat.zero_add, Nat.mul_one, List.getElem?_append_left (by simpa [V] using h1)]
      simp [V, h1, placeL_at]
    have hkl : (keepE ib (genE p0 (blks.take i))).length ≤ 100 := Nat.le_trans (List.length_filter_le _ _) (by rw [genE_len, List.length_take]; omega)
    have hl2 := secs_len (bs := blks.take i) fun x hx => hbk x (List.mem_of_mem_take hx)
    have hl3 : (blks.take i).length ≤ 1000 := by rw [List.length_take]; omega
    refine gn 9 ?_
    refine oZ ?_; intro g8 _
    refine gn 1 ?_
    refine oL (l_storea sizeOf98 rfl rfl rfl (by simp [bC, cC, Value.oneCell']) .head (.take (.take (.take (.take (.take .done))))) nofrs0) ?_
    intro _ _
    have hgs : keepE ib (genE p0 (blks.take (i + 1))) = keepE ib (genE p0 (blks.take i)) ++ (if (ib || decide (blks[i].1.h ≠ 0)) = true then [{ blks[i].1 with o := ((p0 + ((blks.take i).flatMap secB).length : Nat) : Int) }] else []) := by
      rw [List.take_succ_eq_append_getElem hi3, genE_snoc, keepE_snoc]
    refine gn 2 ?_
    refine WC.less (fun _ _ h => h) (.refl _) ?_
    refine c_cut (X := Value × HP) (fun y => [(1, .bool ib), (5, y.1), (6, .slice (some ⟨gP, 0, none⟩) (blks.length + 1) capP), (12, .slice (some ⟨gS, off, none⟩) blks.length c0), (13, .int .i64 blks.length), (14, .int .i64 i)]) (fun y => (gP, .cells (V .i64 ((placeL p0 blks).map fun k : Nat => (k : Int)) ++ restP).toArray 3 (loP, hiP)) :: y.2) (fun y => Osl 56 5 y.1 (keepE ib (genE p0 (blks.take (i + 1)))).length (cells5 (keepE ib (genE p0 (blks.take (i + 1))))) y.2) ?_ ?_
    · skip
      refine gn 7 ?_
      refine o_split 23 rfl (fun hh => ?_) (fun hh => ?_)
      · refine gn 5 ?_
        refine c_regiong [9, 10] (by kernel_rfl) ?_
        refine lg [0, 1, 1002, 3, 4, 5, 1006, 7] ?_
        refine gM 8 rfl (eB (cE ⟨blks[i].1.v, blks[i].1.c, blks[i].1.h, blks[i].1.d, ((p0 + ((blks.take i).flatMap secB).length : Nat) : Int)⟩)) ?_
        refine gL 9 rfl (l_bs (l := cE ⟨blks[i].1.v, blks[i].1.c, blks[i].1.h, blks[i].1.d, ((p0 + ((blks.take i).flatMap secB).length : Nat) : Int)⟩) runUnderlying22 sizeOf56 zeroValue56 rfl rfl rfl rfl (by kernel_rfl)) ?_
        intro g35 _
        refine dL 10 rfl (l_append (sz := 5) (m := 1) (news := cE ⟨blks[i].1.v, blks[i].1.c, blks[i].1.h, blks[i].1.d, ((p0 + ((blks.take i).flatMap secB).length : Nat) : Int)⟩) underlying22 (info_of typeInfo56) rfl rfl rfl rfl rfl rfl ho (List.perm_append_comm (l₁ := [_, _, _]) (l₂ := HS)) (.blk underlying22 (.inl (.head _)) (.take (.take (.take (.take (.take .done))))) (by simp [cE, Value.oneCell'])) (by show _ * 48 ≤ _; omega) (by omega)) ?_
        rintro ⟨v2, HS2⟩ ho2
        simp only at ho2 ⊢
        refine ld [11] ?_
        refine gn 1 ?_
        refine n_cut' (v2, HS2) ?_ aK (show List.Perm _ ((g35, _) :: (g8, _) :: (gP, _) :: HS2) from aP) (.cons _ (.cons _ (List.Sublist.refl _)))
        show Osl 56 5 v2 (keepE ib (genE p0 (blks.take (i + 1)))).length (cells5 (keepE ib (genE p0 (blks.take (i + 1))))) HS2
        rw [hgs, if_pos (by rw [hh]; simp)]
        simp only [List.length_append, cells5, List.flatMap_append] at ho2 ⊢
        exact ho2
      · skip
        refine gn 4 ?_
        refine c_if rfl (fun hi => ?_) (fun hi => ?_)
        · refine c_regiong [9, 10] (by kernel_rfl) ?_
          refine lg [0, 1, 1002, 3, 4, 5, 1006, 7] ?_
          refine gM 8 rfl (eB (cE ⟨blks[i].1.v, blks[i].1.c, blks[i].1.h, blks[i].1.d, ((p0 + ((blks.take i).flatMap secB).length : Nat) : Int)⟩)) ?_
          refine gL 9 rfl (l_bs (l := cE ⟨blks[i].1.v, blks[i].1.c, blks[i].1.h, blks[i].1.d, ((p0 + ((blks.take i).flatMap secB).length : Nat) : Int)⟩) runUnderlying22 sizeOf56 zeroValue56 rfl rfl rfl rfl (by kernel_rfl)) ?_
          intro g35 _
          refine dL 10 rfl (l_append (sz := 5) (m := 1) (news := cE ⟨blks[i].1.v, blks[i].1.c, blks[i].1.h, blks[i].1.d, ((p0 + ((blks.take i).flatMap secB).length : Nat) : Int)⟩) underlying22 (info_of typeInfo56) rfl rfl rfl rfl rfl rfl ho (List.perm_append_comm (l₁ := [_, _, _]) (l₂ := HS)) (.blk underlying22 (.inl (.head _)) (.take (.take (.take (.take (.take .done))))) (by simp [cE, Value.oneCell'])) (by show _ * 48 ≤ _; omega) (by omega)) ?_
          rintro ⟨v2, HS2⟩ ho2
          simp only at ho2 ⊢
          refine ld [11] ?_
          refine gn 1 ?_
          refine n_cut' (v2, HS2) ?_ aK (show List.Perm _ ((g35, _) :: (g8, _) :: (gP, _) :: HS2) from aP) (.cons _ (.cons _ (List.Sublist.refl _)))
          show Osl 56 5 v2 (keepE ib (genE p0 (blks.take (i + 1)))).length (cells5 (keepE ib (genE p0 (blks.take (i + 1))))) HS2
          rw [hgs, if_pos (by rw [hi]; rfl)]
          simp only [List.length_append, cells5, List.flatMap_append] at ho2 ⊢
          exact ho2
        · skip
          refine gn 1 ?_
          refine n_cut' (v, HS) ?_ aK (.refl _) (.cons _ (List.Sublist.refl _))
          show Osl 56 5 v (keepE ib (genE p0 (blks.take (i + 1)))).length (cells5 (keepE ib (genE p0 (blks.take (i + 1))))) HS
          rw [hgs, if_neg (by rw [hh, hi]; simp), List.append_nil]
          exact ho
    rintro ⟨v2, HS2⟩ ho2
    simp only at ho2 ⊢
    refine gn 6 ?_
    exact n_round' (y := (i, v, HS)) (i + 1, v2, HS2) (by show blks.length - (i + 1) < blks.length - i; omega) ⟨by show i + 1 ≤ blks.length; omega, ho2⟩ aK _ (.refl _) (List.Sublist.refl _)
  · skip
    obtain rfl : i = blks.length := by omega
    rw [List.take_length] at ho
    refine gn 12 ?_
    refine WR.less (fun _ _ h => h) (.cons _ (List.Sublist.refl _)) ?_
    refine r_fn1 results23 rfl ?_
    exact ho
end
end Go.Proofs
namespace Go.Proofs
open Go Go.Sl Tryz
set_option maxRecDepth 100000
set_option maxHeartbeats 1000000
/-- Two entries that may stand in one index. -/
def Two (kind : Int) (x y : En) : Prop := ¬ (x.d = y.d ∧ (kind = 1024 ∨ x.h = y.h))
theorem onceT_is {G : HP} {v : Value} {l : List En} {kind : Int} (h : EnS G v l) (hl : l.length < 9223372036854775808) (hcap : ∀ A n cap, v = .slice A n cap → n ≤ cap) : Ctr prog 19 [v, .int .u64 kind] G [] (fun r _ => ∃ b, r = .bool b ∧ (b = true → ∀ i j, j < i → ∀ (hi : i < l.length) (hj : j < l.length), Two kind l[i] l[j])) := by
  cases h with
  | @none A cap =>
    refine fn_enter 46 func19 rfl ntmps19 rfl ?_
    intro w0
    refine gn 14 ?_
    refine c_rounds 1 ?_
    refine gn 18 ?_
    refine r_fn1 results19 rfl ?_
    exact ⟨_, rfl, fun _ i j _ hi => absurd hi (Nat.not_lt_zero _)⟩
  | @blk l L g off n cap e fr hm hn hc =>
    have hcap := hcap _ _ _ rfl
    refine fn_enter 46 func19 rfl ntmps19 rfl ?_
    intro w0
    refine gn 14 ?_
    refine c_loop (X := Nat) (fun i => [(0, .slice (some ⟨g, off, none⟩) n cap), (1, .int .u64 kind), (9, .slice (some ⟨g, off, none⟩) n cap), (10, .int .i64 n), (11, .int .i64 i)]) (fun _ => []) (fun i => i ≤ n ∧ ∀ a b, b < a → a < i → ∀ (ha : a < l.length) (hb : b < l.length), Two kind l[a] l[b]) (fun i => n - i) 0 ⟨Nat.zero_le _, fun a b _ h => absurd h (Nat.not_lt_zero _)⟩ aK (.refl _) ?_
    rintro i ⟨hi, hall⟩
    refine gn 6 ?_
    refine c_ifp rfl (fun h2 => ?_) (fun h2 => ?_)
    · have hi2 : i < l.length := by omega
      have hci := hc i hi2
      generalize hxe : l[i] = x at hci
      obtain ⟨xv, xc, xh, xd, xo⟩ := x
      simp only [cE] at hci
      refine gn 9 ?_
      refine oZ ?_; intro g6 _
      refine gn 1 ?_
      refine oL (l_storea sizeOf56 rfl rfl rfl (by simp [Value.oneCell']) .head (.take (.take (.take (.take (.take .done))))) nofrs0) ?_
      intro _ _
      refine gn 12 ?_
      refine c_loop (X := Nat) (fun j => [(0, .slice (some ⟨g, off, none⟩) n cap), (1, .int .u64 kind), (9, .slice (some ⟨g, off, none⟩) n cap), (10, .int .i64 n), (11, .int .i64 i), (6, .pointer (some ⟨g6, 0, none⟩)), (18, .slice (some ⟨g, off, none⟩) i cap), (19, .int .i64 i), (20, .int .i64 j)]) (fun _ => [(g6, C [.int .u64 xv, .int .u64 xc, .int .u64 xh, S xd, .int .u64 xo] 56)]) (fun j => j ≤ i ∧ ∀ b, b < j → ∀ (hb : b < l.length), Two kind (l[i]'(by omega)) l[b]) (fun j => i - j) 0 ⟨Nat.zero_le _, fun b h => absurd h (Nat.not_lt_zero _)⟩ aK (.refl _) ?_
      rintro j ⟨hj, hin⟩
      refine gn 6 ?_
      refine c_ifp rfl (fun h3 => ?_) (fun h3 => ?_)
      · have hj2 : j < l.length := by omega
        have hcj := hc j hj2
        generalize hye : l[j] = y at hcj
        obtain ⟨yv, yc, yh, yd, yo⟩ := y
        simp only [cE] at hcj
        refine gn 8 ?_
        refine oZ ?_; intro g8 _
        refine oL (l_storea sizeOf56 rfl rfl rfl (by simp [Value.oneCell']) .head (.take (.take (.take (.take (.take .done))))) nofrs0) ?_
        intro _ _
        refine gn 12 ?_
        refine o_splitp 31 rfl (fun h4 => ?_) (fun h4 => ?_)
        · refine gn 3 ?_
          refine o_splitp 34 rfl (fun h5 => ?_) (fun h5 => ?_)
          · refine gn 18 ?_
            refine r_fn1 results19 rfl ?_
            exact ⟨_, rfl, fun h => by cases h⟩
          · skip
            refine gn 11 ?_
            refine c_ifp rfl (fun h6 => ?_) (fun h6 => ?_)
            · refine gn 6 ?_
              refine r_fn1 results19 rfl ?_
              exact ⟨_, rfl, fun h => by cases h⟩
            · skip
              refine gn 7 ?_
              refine n_round' (j + 1) (by omega) ⟨by omega, ?_⟩ aK _ (.refl _) (List.sublist_cons_self _ _)
              intro b hb hb2
              by_cases hbj : b = j
              · subst hbj
                rw [hxe, hye]
                rintro ⟨h7, h8⟩
                rcases h8 with h8 | h8
                · simp [h8] at h5
                · exact h6 h8
              · exact hin b (by omega) hb2
        · skip
          refine gn 22 ?_
          refine n_round' (j + 1) (by omega) ⟨by omega, ?_⟩ aK _ (.refl _) (List.sublist_cons_self _ _)
          intro b hb hb2
          by_cases hbj : b = j
          · subst hbj
            rw [hxe, hye]
            rintro ⟨h7, -⟩
            simp only at h7
            simp [h7] at h4
          · exact hin b (by omega) hb2
      · skip
        refine gn 10 ?_
        refine n_round' (i + 1) (by omega) ⟨by omega, ?_⟩ aK _ (.refl _) (List.nil_sublist _)
        intro a b hab ha ha2 hb2
        by_cases hai : a = i
        · subst hai
          exact hin b (by omega) hb2
        · exact hall a b hab (by omega) ha2 hb2
    · skip
      refine gn 11 ?_
      refine r_fn1 results19 rfl ?_
      exact ⟨_, rfl, fun _ i' j hij hi' hj => hall i' j hij (by omega) hi' hj⟩
end Go.Proofs
namespace Go.Proofs
open Go Go.Sl Tryz
set_option maxRecDepth 100000
set_option maxHeartbeats 1000000
theorem onceK_of {l : List En} {kind : Int} (h : ∀ i j, j < i → ∀ (hi : i < l.length) (hj : j < l.length), Two kind l[i] l[j]) : OnceK l kind := by
  have hp : l.Pairwise fun x y => Two kind y x := List.pairwise_iff_getElem.2 fun i j hi hj hij => h j i hij hj hi
  constructor
  · intro hk
    rw [List.Nodup, List.pairwise_map]
    exact hp.imp fun {a b} h1 h2 => h1 ⟨h2.symm, .inl hk⟩
  · intro hk c
    rw [List.Nodup, List.pairwise_map]
    refine (hp.filter _).imp_of_mem fun {a b} ha hb h1 h2 => h1 ⟨h2.symm, .inr ?_⟩
    have h3 := (List.mem_filter.1 ha).2
    have h4 := (List.mem_filter.1 hb).2
    simp only [decide_eq_true_eq] at h3 h4
    omega
section
variable {G : HP} {xs : List En} {blks : List Blk} {vr vb : Value}
theorem fits2 (hv : RwS cC 4 G vr xs) (hl : xs.length < 9223372036854775808) : Ctr prog 46 [vr] G [] (fun r H' => (∃ b, r = .bool b) ∧ H' = []) := by
  obtain ⟨A0, c0, rfl⟩ := hv.shape
  refine fn_enter 18 func46 rfl ntmps46 rfl ?_
  intro w0
  refine gn 13 ?_
  refine c_ifp rfl (fun h1 => ?_) (fun h1 => ?_)
  · refine gn 6 ?_
    refine r_fn1 results46 rfl ?_
    exact ⟨⟨_, rfl⟩, rfl⟩
  · skip
    refine gn 11 ?_
    refine c_loop (X := Nat) (fun i => [(8, .slice A0 xs.length c0), (9, .int .i64 xs.length), (10, .int .i64 i)]) (fun _ => []) (fun i => i ≤ xs.length) (fun i => xs.length - i) 0 (Nat.zero_le _) aK (.refl _) ?_
    intro i hi0
    refine gn 6 ?_
    refine c_ifp rfl (fun h2 => ?_) (fun h2 => ?_)
    · have hi3 : i < xs.length := by omega
      obtain ⟨gS, off, LS, eS, frS, rfl, hmS, hcS⟩ := hv.at hi3
      refine gn 8 ?_
      refine oZ ?_; intro g4 _
      refine oL (l_storea sizeOf25 rfl rfl rfl (by simp [cC, Value.oneCell']) .head (.take (.take (.take (.take .done)))) nofrs0) ?_
      intro _ _
      refine gn 5 ?_
      refine oL (lC (fits1 xs[i]) rfl .nil) ?_
      rintro ⟨r, H'⟩ ⟨b, rfl⟩
      refine gn 3 ?_
      refine c_if rfl (fun hb => ?_) (fun hb => ?_)
      · refine gn 6 ?_
        refine WR.sel .nil ?_
        refine r_fn1 results46 rfl ?_
        exact ⟨⟨_, rfl⟩, rfl⟩
      · skip
        refine gn 7 ?_
        exact n_round' (y := i) (i + 1) (by omega) (by omega) aK _ (.refl _) (List.nil_sublist _)
    · skip
      refine gn 11 ?_
      refine r_fn1 results46 rfl ?_
      exact ⟨⟨_, rfl⟩, rfl⟩
theorem fits6 {b : Blk} : Ctr prog 80 [.agg (bC b).toArray] G [] (fun r H' => (∃ b, r = .bool b) ∧ H' = []) := by
  obtain ⟨⟨v, c, h, d, o⟩, dat⟩ := b
  have h1 := fits1 (G := G) ⟨v, c, h, d, o⟩
  show Ctr prog 80 [.agg #[.int .u64 v, .int .u64 c, .int .u64 h, S d, S dat]] G [] (fun r H' => (∃ b, r = .bool b) ∧ H' = [])
  simp only [cC] at h1
  refine fn_enter 11 func80 rfl ntmps80 rfl ?_
  intro w0
  refine gn 2 ?_
  refine oB ?_; intro g1 _
  refine gn 8 ?_
  refine oL (lC h1 rfl .nil) ?_
  rintro ⟨r, H'⟩ ⟨b, rfl⟩
  refine o_less (fun _ _ h => h) (List.sublist_append_right _ _) ?_
  refine gn 3 ?_
  refine c_if rfl (fun hb => ?_) (fun hb => ?_)
  · refine gn 6 ?_
    refine WR.sel .nil ?_
    refine r_fn1 results80 rfl ?_
    exact ⟨⟨_, rfl⟩, rfl⟩
  · skip
    refine gn 11 ?_
    refine c_ifp rfl (fun h5 => ?_) (fun h5 => ?_)
    · refine gn 6 ?_
      refine WR.sel .nil ?_
      refine r_fn1 results80 rfl ?_
      exact ⟨⟨_, rfl⟩, rfl⟩
    · skip
      refine gn 8 ?_
      refine WR.sel .nil ?_
      refine r_fn1 results80 rfl ?_
      exact ⟨⟨_, rfl⟩, rfl⟩
theorem fits5 (hv : RwS bC 5 G vb blks) (hl : blks.length < 9223372036854775808) : Ctr prog 47 [vb] G [] (fun r H' => (∃ b, r = .bool b) ∧ H' = []) := by
  obtain ⟨A0, c0, rfl⟩ := hv.shape
  refine fn_enter 18 func47 rfl ntmps47 rfl ?_
  intro w0
  refine gn 13 ?_
  refine c_ifp rfl (fun h1 => ?_) (fun h1 => ?_)
  · refine gn 6 ?_
    refine r_fn1 results47 rfl ?_
    exact ⟨⟨_, rfl⟩, rfl⟩
  · skip
    refine gn 11 ?_
    refine c_loop (X := Nat) (fun i => [(8, .slice A0 blks.length c0), (9, .int .i64 blks.length), (10, .int .i64 i)]) (fun _ => []) (fun i => i ≤ blks.length) (fun i => blks.length - i) 0 (Nat.zero_le _) aK (.refl _) ?_
    intro i hi0
    refine gn 6 ?_
    refine c_ifp rfl (fun h2 => ?_) (fun h2 => ?_)
    · have hi3 : i < blks.length := by omega
      obtain ⟨gS, off, LS, eS, frS, rfl, hmS, hcS⟩ := hv.at hi3
      refine gn 8 ?_
      refine oZ ?_; intro g4 _
      refine oL (l_storea sizeOf98 rfl rfl rfl (by simp [bC, cC, Value.oneCell']) .head (.take (.take (.take (.take (.take .done))))) nofrs0) ?_
      intro _ _
      refine gn 5 ?_
      refine oL (lC (fits6 (b := blks[i])) rfl .nil) ?_
      rintro ⟨r, H'⟩ ⟨⟨b, rfl⟩, rfl⟩
      simp only [List.nil_append]
      refine gn 3 ?_
      refine c_if rfl (fun hb => ?_) (fun hb => ?_)
      · refine gn 6 ?_
        refine WR.sel .nil ?_
        refine r_fn1 results47 rfl ?_
        exact ⟨⟨_, rfl⟩, rfl⟩
      · skip
        refine gn 7 ?_
        exact n_round' (y := i) (i + 1) (by omega) (by omega) aK _ (.refl _) (List.nil_sublist _)
    · skip
      refine gn 11 ?_
      refine r_fn1 results47 rfl ?_
      exact ⟨⟨_, rfl⟩, rfl⟩
theorem fits4 (hv : RwS cC 4 G vr xs) (hl : xs.length < 9223372036854775808) (hvb : RwS bC 5 G vb blks) (hlb : blks.length < 9223372036854775808) : Ctr prog 21 [.agg #[vr, vb]] G [] (fun r H' => (∃ b, r = .bool b) ∧ H' = []) := by
  have h2 := fits2 hv hl
  have h5 := fits5 hvb hlb
  obtain ⟨A0, c0, rfl⟩ := hv.shape
  obtain ⟨A1, c1, rfl⟩ := hvb.shape
  refine fn_enter 11 func21 rfl ntmps21 rfl ?_
  intro w0
  refine gn 2 ?_
  refine oB ?_; intro g1 _
  refine gn 8 ?_
  refine oL (lC h2 rfl .nil) ?_
  rintro ⟨r, H'⟩ ⟨⟨b, rfl⟩, rfl⟩
  simp only [List.nil_append]
  refine gn 3 ?_
  refine c_if rfl (fun hb => ?_) (fun hb => ?_)
  · refine gn 6 ?_
    refine WR.sel .nil ?_
    refine r_fn1 results21 rfl ?_
    exact ⟨⟨_, rfl⟩, rfl⟩
  · skip
    refine gn 7 ?_
    refine oL (lC h5 rfl .nil) ?_
    rintro ⟨r, H'⟩ ⟨⟨b, rfl⟩, rfl⟩
    simp only [List.nil_append]
    refine gn 3 ?_
    refine c_if rfl (fun hb => ?_) (fun hb => ?_)
    · refine gn 6 ?_
      refine WR.sel .nil ?_
      refine r_fn1 results21 rfl ?_
      exact ⟨⟨_, rfl⟩, rfl⟩
    · skip
      refine gn 8 ?_
      refine WR.sel .nil ?_
      refine r_fn1 results21 rfl ?_
      exact ⟨⟨_, rfl⟩, rfl⟩
end
end Go.Proofs
namespace Go.Proofs
open Go Go.Sl Tryz
set_option maxRecDepth 100000
set_option maxHeartbeats 1000000
structure WG (xs : List En) (blks : List Blk) : Prop where
  n1 : xs.length ≤ 50
  n2 : blks.length ≤ 50
  h1 : ∀ i (h : i < xs.length), xs[i].d.length ≤ 200 ∧ Tidy xs[i]
  h2 : ∀ i (h : i < blks.length), blks[i].1.d.length ≤ 200 ∧ blks[i].2.length ≤ 32768 ∧ Tidy blks[i].1
section
variable {G : HP} {xs : List En} {blks : List Blk} {vr vb : Value}
theorem wrGood_is (hv : RwS cC 4 G vr xs) (hl : xs.length < 9223372036854775808) (hvb : RwS bC 5 G vb blks) (hlb : blks.length < 9223372036854775808) : Ctr prog 22 [.agg #[vr, vb]] G [] (fun r H' => (∃ b, r = .bool b ∧ (b = true → WG xs blks)) ∧ H' = []) := by
  obtain ⟨A0, c0, rfl⟩ := hv.shape
  obtain ⟨A1, c1, rfl⟩ := hvb.shape
  refine fn_enter 59 func22 rfl ntmps22 rfl ?_
  intro w0
  refine gn 2 ?_
  refine oB ?_; intro g1 _
  refine gn 11 ?_
  refine o_splitp 11 rfl (fun h1 => ?_) (fun h1 => ?_)
  · refine gn 14 ?_
    refine WR.sel .nil ?_
    refine r_fn1 results22 rfl ?_
    exact ⟨⟨_, rfl, by simp⟩, rfl⟩
  · skip
    refine gn 7 ?_
    refine c_ifp rfl (fun h2 => ?_) (fun h2 => ?_)
    · refine gn 6 ?_
      refine WR.sel .nil ?_
      refine r_fn1 results22 rfl ?_
      exact ⟨⟨_, rfl, by simp⟩, rfl⟩
    · skip
      refine gn 12 ?_
      refine c_loop (X := Nat) (fun i => [(1, .pointer (some ⟨g1, 0, none⟩)), (18, .slice A0 xs.length c0), (19, .int .i64 xs.length), (20, .int .i64 i)]) (fun _ => [(g1, C [.slice A0 xs.length c0, .slice A1 blks.length c1] 47)]) (fun i => i ≤ xs.length ∧ ∀ j (h : j < xs.length), j < i → xs[j].d.length ≤ 200 ∧ Tidy xs[j]) (fun i => xs.length - i) 0 ⟨Nat.zero_le _, fun _ _ h => absurd h (Nat.not_lt_zero _)⟩ aK (.refl _) ?_
      rintro i ⟨hi0, hok⟩
      refine gn 6 ?_
      refine c_ifp rfl (fun h3 => ?_) (fun h3 => ?_)
      · have hi3 : i < xs.length := by omega
        obtain ⟨gS, off, LS, eS, frS, rfl, hmS, hcS⟩ := hv.at hi3
        have ht := tidy_is (G := G) xs[i]
        have hnext : xs[i].d.length ≤ 200 → Tidy xs[i] → ∀ j (h : j < xs.length), j < i + 1 → xs[j].d.length ≤ 200 ∧ Tidy xs[j] := by
          intro a1 a2 j hj hji
          by_cases e : j = i
          · subst e; exact ⟨a1, a2⟩
          · exact hok j hj (by omega)
        refine gn 8 ?_
        refine oZ ?_; intro g4 _
        refine oL (l_storea sizeOf25 rfl rfl rfl (by simp [cC, Value.oneCell']) .head (.take (.take (.take (.take .done)))) nofrs0) ?_
        intro _ _
        refine gn 9 ?_
        refine o_splitp 28 rfl (fun h4 => ?_) (fun h4 => ?_)
        · refine gn 13 ?_
          refine WR.sel .nil ?_
          refine r_fn1 results22 rfl ?_
          exact ⟨⟨_, rfl, by simp⟩, rfl⟩
        · skip
          refine gn 1 ?_
          refine oL (lC ht rfl .nil) ?_
          rintro ⟨r, H'⟩ rfl
          refine o_less (fun _ _ h => h) (List.sublist_append_right _ _) ?_
          refine gn 4 ?_
          refine c_if rfl (fun h5 => ?_) (fun h5 => ?_)
          · refine gn 6 ?_
            refine WR.sel .nil ?_
            refine r_fn1 results22 rfl ?_
            exact ⟨⟨_, rfl, by simp⟩, rfl⟩
          · skip
            refine gn 7 ?_
            exact n_round' (y := i) (i + 1) (by omega) ⟨by omega, hnext (by omega) (by simpa using h5)⟩ aK _ (.refl _) (.cons _ (List.Sublist.refl _))
      · skip
        obtain rfl : i = xs.length := by omega
        refine gn 15 ?_
        refine WC.less (fun _ _ h => h) (List.nil_sublist _) ?_
        refine c_loop (X := Nat) (fun i => [(35, .slice A1 blks.length c1), (36, .int .i64 blks.length), (37, .int .i64 i)]) (fun _ => []) (fun i => i ≤ blks.length ∧ ∀ j (h : j < blks.length), j < i → blks[j].1.d.length ≤ 200 ∧ blks[j].2.length ≤ 32768 ∧ Tidy blks[j].1) (fun i => blks.length - i) 0 ⟨Nat.zero_le _, fun _ _ h => absurd h (Nat.not_lt_zero _)⟩ aK (.refl _) ?_
        rintro i ⟨hi1, hok2⟩
        refine gn 6 ?_
        refine c_ifp rfl (fun h6 => ?_) (fun h6 => ?_)
        · have hi3 : i < blks.length := by omega
          obtain ⟨gS, off, LS, eS, frS, rfl, hmS, hcS⟩ := hvb.at hi3
          have ht := tidy_is (G := G) blks[i].1
          have hnext : blks[i].1.d.length ≤ 200 → blks[i].2.length ≤ 32768 → Tidy blks[i].1 → ∀ j (h : j < blks.length), j < i + 1 → blks[j].1.d.length ≤ 200 ∧ blks[j].2.length ≤ 32768 ∧ Tidy blks[j].1 := by
            intro a1 a2 a3 j hj hji
            by_cases e : j = i
            · subst e; exact ⟨a1, a2, a3⟩
            · exact hok2 j hj (by omega)
          refine gn 8 ?_
          refine oZ ?_; intro g6 _
          refine oL (l_storea sizeOf98 rfl rfl rfl (by simp [bC, cC, Value.oneCell']) .head (.take (.take (.take (.take (.take .done))))) nofrs0) ?_
          intro _ _
          refine gn 10 ?_
          refine o_splitp 46 rfl (fun h4 => ?_) (fun h4 => ?_)
          · refine gn 20 ?_
            refine WR.sel .nil ?_
            refine r_fn1 results22 rfl ?_
            exact ⟨⟨_, rfl, by simp⟩, rfl⟩
          · skip
            refine gn 6 ?_
            refine o_splitp 52 rfl (fun h7 => ?_) (fun h7 => ?_)
            · refine gn 14 ?_
              refine WR.sel .nil ?_
              refine r_fn1 results22 rfl ?_
              exact ⟨⟨_, rfl, by simp⟩, rfl⟩
            · skip
              refine gn 2 ?_
              refine oL (lC ht rfl .nil) ?_
              rintro ⟨r, H'⟩ rfl
              refine o_less (fun _ _ h => h) (List.sublist_append_right _ _) ?_
              refine gn 4 ?_
              refine c_if rfl (fun h5 => ?_) (fun h5 => ?_)
              · refine gn 6 ?_
                refine WR.sel .nil ?_
                refine r_fn1 results22 rfl ?_
                exact ⟨⟨_, rfl, by simp⟩, rfl⟩
              · skip
                refine gn 7 ?_
                exact n_round' (y := i) (i + 1) (by omega) ⟨by omega, hnext (by omega) (by omega) (by simpa using h5)⟩ aK _ (.refl _) (List.nil_sublist _)
        · skip
          obtain rfl : i = blks.length := by omega
          refine gn 11 ?_
          refine r_fn1 results22 rfl ?_
          exact ⟨⟨_, rfl, fun _ => ⟨by omega, by omega, fun i h => hok i h (by omega), fun i h => hok2 i h h⟩⟩, rfl⟩
end
end Go.Proofs
namespace Go.Proofs
open Go Go.Sl Tryz
set_option maxRecDepth 100000
set_option maxHeartbeats 1000000
theorem rwE {H : HP} {v : Value} {l : List En} (h : RwS cE 5 H v l) : EnS H v l := by
  cases h with
  | emp => exact .none
  | blk hm hn hc => exact .blk hm hn hc
theorem EnS.mono {H K : HP} {v : Value} {l : List En} (h : EnS H v l) (hs : ∀ p ∈ H, p ∈ K) : EnS K v l := by
  cases h with
  | none => exact .none
  | blk hm hn hc => exact .blk (hs _ hm) hn hc
theorem osl_cap {e : TypeId} {sz n : Nat} {v : Value} {l : List Value} {H : HP} (h : Osl e sz v n l H) : ∀ A n cap, v = .slice A n cap → n ≤ cap := by
  cases h with
  | nil => intro A n cap h; injection h with _ h1 h2; omega
  | own h1 h2 h3 h4 h5 => intro A n cap h; injection h with _ h1 h2; omega
theorem genE_ok : ∀ {blks : List Blk} {p : Nat}, (∀ b ∈ blks, BlkOk b) → p + (blks.flatMap secB).length < 18446744073709551616 → ∀ x ∈ genE p blks, CidOk x
  | [], _, _, _, x, hx => by cases hx
  | b :: bs, p, h, hp, x, hx => by
    simp only [List.flatMap_cons, List.length_append] at hp
    rcases List.mem_cons.1 hx with rfl | hx
    · have hb := (h b (.head _)).hx
      exact ⟨hb.ht, ⟨hb.hf.v0, hb.hf.v1, hb.hf.c0, hb.hf.c1, hb.hf.h0, hb.hf.h1, by show (0 : Int) ≤ (p : Nat); omega, by show ((p : Nat) : Int) < _; omega⟩, hb.hd⟩
    · exact genE_ok (fun b hb => h b (.tail _ hb)) (by omega) x hx
end Go.Proofs
