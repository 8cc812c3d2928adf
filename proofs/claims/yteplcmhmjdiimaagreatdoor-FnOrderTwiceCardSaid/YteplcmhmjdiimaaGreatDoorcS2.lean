/-
  sort.order2_func, median_func, medianAdjacent_func, choosePivot_func over a comparison that makes memory: the plain functions of Derived/Sort; nothing of the row turns.
  sort.choosePivot_func over a comparison that makes memory: the plain function; nothing of the row turns.
-/
import Derived.Test.YteplcmhmjdiimaaGreatDoorcS0
import Derived.Sort.LotD4
import Derived.Sort.LotD1
namespace Go.Proofs.YteplcmhmjdiimaaGreatDoor
open Go.RowKit
variable {α : Type} [Inhabited α]

set_option maxHeartbeats 1000000 in
set_option maxRecDepth 100000 in
theorem order2_calls (enc : α → Value) (lt : α → α → Bool) (g : Nat) (lb : Array Value) (y : Value) (blk off : Nat) (w0 W : World) (d : Array α) (a b cb co s : Nat)
    (eg : ∀ args w, (callFunc g args).run Tryz.prog w = .ok (.enter g args) w) (hL : LessB Tryz.prog g lb enc lt blk off d.size w0) (hW : To enc blk off d w0 W) (ha : a < d.size) (hb : b < d.size)
    (hS : Sort.Holds (Value.int .i64) W cb co #[(s : Int)]) (hcb : cb < W.heap.size) (hs : s < 4611686018427387904) :
    Calls Tryz.prog 106 #[.agg #[.func (.func g) #[] lb, y], .int .i64 a, .int .i64 b, .pointer (some ⟨cb, co, none⟩)] W fun e w' =>
      e = .returned (.tuple #[.int .i64 (Sort.order2 lt d a b s).1, .int .i64 (Sort.order2 lt d a b s).2.1]) ∧ To (Value.int .i64) cb co #[((Sort.order2 lt d a b s).2.2 : Int)] W w' := by
  obtain ⟨cs, fs⟩ := one_cells hS
  have hl : ∀ v, lt d[b]! d[a]! = v → Calls Tryz.prog g (#[.int .i64 b, .int .i64 a] ++ lb) (W.alloc (.cells #[.func (.func g) #[] lb, y] 101)) fun e w' => e = .returned (.bool v) ∧ To (Value.int .i64) cb co #[(s : Int)] W w' ∧ w'.cell? ⟨cb, co, none⟩ = some (.int .i64 s) ∧ w'.frozen? ⟨cb, co, none⟩ = false := fun v hv =>
    (hL _ d (hW.alloc _) rfl b a hb ha).mono fun e w' ⟨he, hb⟩ => ⟨by rw [he, hv], ((To.start hS).alloc _).below hb,
      by rw [hb.cell (p := ⟨cb, co, none⟩) (by simp; omega), World.cell?_alloc_past _ _ _ hcb]; exact cs, by rw [hb.frozen (p := ⟨cb, co, none⟩) (by simp; omega), World.frozen?_alloc_past _ _ _ hcb]; exact fs⟩
  go_enter Tryz.func106, Tryz.ntmps106
  cases hlv : lt d[b]! d[a]! with
  | true =>
    have h1 := hl true hlv
    have e2 : Sort.order2 lt d a b s = (b, a, s + 1) := by simp [Sort.order2, hlv]
    rw [e2]
    clear hl
    go_wp2_with (go_at_fn g; refine h1.mono ?_; rintro e w1 ⟨rfl, t1, c1, f1⟩)
    go_ret2
    refine ⟨rfl, ?_⟩
    have := t1.count ((s : Int) + 1)
    exact this
  | false =>
    have h1 := hl false hlv
    have e2 : Sort.order2 lt d a b s = (a, b, s) := by simp [Sort.order2, hlv]
    rw [e2]
    clear hl
    go_wp2_with (go_at_fn g; refine h1.mono ?_; rintro e w1 ⟨rfl, t1, c1, f1⟩)
    go_ret2
    exact ⟨rfl, t1⟩

theorem order2_lt1 (lt : α → α → Bool) (d : Array α) {a b n : Nat} (s : Nat) (ha : a < n) (hb : b < n) : (Sort.order2 lt d a b s).1 < n ∧ (Sort.order2 lt d a b s).2.1 < n := by
  unfold Sort.order2; split <;> exact ⟨by assumption, by assumption⟩

set_option maxHeartbeats 1000000 in
set_option maxRecDepth 100000 in
theorem median_calls (enc : α → Value) (lt : α → α → Bool) (g : Nat) (lb : Array Value) (y : Value) (blk off : Nat) (w0 W : World) (d : Array α) (a b c cb co s : Nat)
    (eg : ∀ args w, (callFunc g args).run Tryz.prog w = .ok (.enter g args) w) (hL : LessB Tryz.prog g lb enc lt blk off d.size w0) (hW : To enc blk off d w0 W) (ha : a < d.size) (hb : b < d.size) (hc : c < d.size)
    (hS : Sort.Holds (Value.int .i64) W cb co #[(s : Int)]) (hcb0 : w0.heap.size ≤ cb) (hcb : cb < W.heap.size) (hs : s + 3 < 4611686018427387904) :
    Calls Tryz.prog 86 #[.agg #[.func (.func g) #[] lb, y], .int .i64 a, .int .i64 b, .int .i64 c, .pointer (some ⟨cb, co, none⟩)] W fun e w' =>
      e = .returned (.int .i64 (Sort.median lt d a b c s).1) ∧ To (Value.int .i64) cb co #[((Sort.median lt d a b c s).2 : Int)] W w' := by
  have l1 := order2_lt1 lt d s ha hb
  have s1 := Sort.order2_count lt d a b s
  have l2 := order2_lt1 lt d (Sort.order2 lt d a b s).2.2 l1.2 hc
  have s2 := Sort.order2_count lt d (Sort.order2 lt d a b s).2.1 c (Sort.order2 lt d a b s).2.2
  have step : ∀ (wr : World) (t a' b' : Nat), To (Value.int .i64) cb co #[(t : Int)] W wr → Box W.heap.size (.func (.func g) #[] lb) y wr → a' < d.size → b' < d.size → t < 4611686018427387904 →
      Calls Tryz.prog 106 #[.agg #[.func (.func g) #[] lb, y], .int .i64 a', .int .i64 b', .pointer (some ⟨cb, co, none⟩)] wr fun e w' =>
        e = .returned (.tuple #[.int .i64 (Sort.order2 lt d a' b' t).1, .int .i64 (Sort.order2 lt d a' b' t).2.1]) ∧ To (Value.int .i64) cb co #[((Sort.order2 lt d a' b' t).2.2 : Int)] W w' ∧
          w'.cell? ⟨W.heap.size, 0, none⟩ = some (.func (.func g) #[] lb) ∧ w'.cell? ⟨W.heap.size, 1, none⟩ = some y ∧ W.heap.size < w'.heap.size := fun wr t a' b' ht hB ha' hb' hlt =>
    (order2_calls enc lt g lb y blk off w0 wr d a' b' cb co t eg hL (hW.over hcb0 ht) ha' hb' (ht.holds hcb hS rfl) (ht.lt hcb) hlt).mono fun _ _ ⟨he, k⟩ =>
      ⟨he, ht.trans k rfl, hB.over k (by omega)⟩
  have st0 := step (W.alloc (.cells #[.func (.func g) #[] lb, y] 101)) s a b ((To.start hS).alloc _) (Box.new _ _ _ _) ha hb (by omega)
  clear hS hL hW
  go_enter Tryz.func86, Tryz.ntmps86
  go_wp2_with fail
  refine st0.mono ?_
  rintro e w1 ⟨rfl, t1, c0, c1, c2⟩
  have st1 := step w1 _ _ _ t1 ⟨c0, c1, c2⟩ l1.2 hc (by omega)
  go_wp2_with fail
  refine st1.mono ?_
  clear c0 c1 c2 st0 st1
  rintro e w2 ⟨rfl, t2, c0, c1, c2⟩
  have st2 := step w2 _ _ _ t2 ⟨c0, c1, c2⟩ l1.1 l2.1 (by omega)
  go_wp2_with fail
  refine st2.mono ?_
  clear c0 c1 c2 st2
  rintro e w3 ⟨rfl, t3, c0, c1, c2⟩
  go_wp2_with fail
  go_ret
  exact ⟨rfl, t3⟩

set_option maxHeartbeats 1000000 in
set_option maxRecDepth 100000 in
theorem medianAdjacent_calls (enc : α → Value) (lt : α → α → Bool) (g : Nat) (lb : Array Value) (y : Value) (blk off : Nat) (w0 W : World) (d : Array α) (a cb co s : Nat)
    (eg : ∀ args w, (callFunc g args).run Tryz.prog w = .ok (.enter g args) w) (hL : LessB Tryz.prog g lb enc lt blk off d.size w0) (hW : To enc blk off d w0 W) (ha : 1 ≤ a) (hb : a + 1 < d.size) (hsz : d.size < 4611686018427387904)
    (hS : Sort.Holds (Value.int .i64) W cb co #[(s : Int)]) (hcb0 : w0.heap.size ≤ cb) (hcb : cb < W.heap.size) (hs : s + 3 < 4611686018427387904) :
    Calls Tryz.prog 85 #[.agg #[.func (.func g) #[] lb, y], .int .i64 a, .pointer (some ⟨cb, co, none⟩)] W fun e w' =>
      e = .returned (.int .i64 (Sort.medianAdjacent lt d a s).1) ∧ To (Value.int .i64) cb co #[((Sort.medianAdjacent lt d a s).2 : Int)] W w' := by
  have hm := median_calls enc lt g lb y blk off w0 (W.alloc (.cells #[.func (.func g) #[] lb, y] 101)) d (a - 1) a (a + 1) cb co s eg hL (hW.alloc _) (by omega) (by omega) hb ((((To.start hS).alloc _).holds hcb hS rfl)) hcb0 (by simp; omega) hs
  rw [show ((a - 1 : Nat) : Int) = (a : Int) - 1 by omega, show ((a + 1 : Nat) : Int) = (a : Int) + 1 by omega] at hm
  have hT := (To.start hS).alloc (.cells #[.func (.func g) #[] lb, y] 101)
  clear hS hL hW
  go_enter Tryz.func85, Tryz.ntmps85
  go_wp2_with fail
  refine hm.mono ?_
  rintro e w1 ⟨rfl, t1⟩
  go_wp2_with fail
  go_ret
  exact ⟨rfl, hT.trans t1 rfl⟩
end Go.Proofs.YteplcmhmjdiimaaGreatDoor
namespace Go.Proofs.YteplcmhmjdiimaaGreatDoor
open Go.RowKit
variable {α : Type} [Inhabited α]

def HintOf (s : Nat) (h : Int) : Prop := h = Sort.hintCode (Sort.hintOf s)
theorem hintOf_zero {s : Nat} (h : s = 0) : (1 : Int) = Sort.hintCode (Sort.hintOf s) := by subst h; rfl
theorem hintOf_twelve {s : Nat} (h : s = 12) : (2 : Int) = Sort.hintCode (Sort.hintOf s) := by subst h; rfl
theorem hintOf_other {s : Nat} (h : s ≠ 0) (h' : s ≠ 12) : (0 : Int) = Sort.hintCode (Sort.hintOf s) := by unfold Sort.hintOf; rw [if_neg h, if_neg h']; rfl

set_option maxHeartbeats 2000000 in
set_option maxRecDepth 100000 in
theorem choosePivot_calls (enc : α → Value) (lt : α → α → Bool) (g : Nat) (lb : Array Value) (y : Value) (blk off a b : Nat) (W : World) (d : Array α)
    (eg : ∀ args w, (callFunc g args).run Tryz.prog w = .ok (.enter g args) w) (hL : LessB Tryz.prog g lb enc lt blk off d.size W) (hH : Sort.Holds enc W blk off d) (hab : a < b) (hb : b ≤ d.size) (hsz : d.size < 4611686018427387904) :
    Calls Tryz.prog 63 #[.agg #[.func (.func g) #[] lb, y], .int .i64 a, .int .i64 b] W fun e w' =>
      e = .returned (.tuple #[.int .i64 (Sort.choosePivot lt d a b).1, .int .i64 (Sort.hintCode (Sort.choosePivot lt d a b).2)]) ∧ To enc blk off d W w' := by
  rw [Sort.choosePivot_eq]
  obtain ⟨I, hI⟩ : ∃ I : Nat, I = a + (b - a) / 4 * 1 := ⟨_, rfl⟩
  obtain ⟨J, hJ⟩ : ∃ J : Nat, J = a + (b - a) / 4 * 2 := ⟨_, rfl⟩
  obtain ⟨K, hK⟩ : ∃ K : Nat, K = a + (b - a) / 4 * 3 := ⟨_, rfl⟩
  have eI : ((a : Int) + ((b : Int) - (a : Int)) / 4) = (I : Int) := by omega
  have eJ : ((a : Int) + ((b : Int) - (a : Int)) / 4 * 2) = (J : Int) := by omega
  have eK : ((a : Int) + ((b : Int) - (a : Int)) / 4 * 3) = (K : Int) := by omega
  -- the world with the box and the counter
  have hS : Sort.Holds (Value.int .i64) ((W.alloc (.cells #[.func (.func g) #[] lb, y] 101)).alloc (.cells #[.int .i64 0] 3)) (W.heap.size + 1) 0 #[((0 : Nat) : Int)] :=
    holds_one (by rw [World.cell?_alloc_at _ _ _ _ (by simp)]; rfl) (World.frozen?_alloc_at _ _ _ _ (by simp))
  have hT2 : To enc blk off d W ((W.alloc (.cells #[.func (.func g) #[] lb, y] 101)).alloc (.cells #[.int .i64 0] 3)) := ((To.start hH).alloc _).alloc _
  have hB2 : Box W.heap.size (.func (.func g) #[] lb) y ((W.alloc (.cells #[.func (.func g) #[] lb, y] 101)).alloc (.cells #[.int .i64 0] 3)) :=
    (Box.new W _ _ _).below ((Below.refl _ _).alloc (Nat.le_refl _) _)
  have hsz2 : W.heap.size + 1 < ((W.alloc (.cells #[.func (.func g) #[] lb, y] 101)).alloc (.cells #[.int .i64 0] 3)).heap.size := by simp
  have tc0 := To.start hS
  -- the callees at a world of the family
  have MA : ∀ (wr : World) (x s : Nat), To (Value.int .i64) (W.heap.size + 1) 0 #[(s : Int)] ((W.alloc (.cells #[.func (.func g) #[] lb, y] 101)).alloc (.cells #[.int .i64 0] 3)) wr → 1 ≤ x → x + 1 < d.size → s + 3 < 4611686018427387904 →
      Calls Tryz.prog 85 #[.agg #[.func (.func g) #[] lb, y], .int .i64 x, .pointer (some ⟨W.heap.size + 1, 0, none⟩)] wr fun e w' => e = .returned (.int .i64 (Sort.medianAdjacent lt d x s).1) ∧
        To (Value.int .i64) (W.heap.size + 1) 0 #[((Sort.medianAdjacent lt d x s).2 : Int)] ((W.alloc (.cells #[.func (.func g) #[] lb, y] 101)).alloc (.cells #[.int .i64 0] 3)) w' ∧
        w'.cell? ⟨W.heap.size, 0, none⟩ = some (.func (.func g) #[] lb) ∧ w'.cell? ⟨W.heap.size, 1, none⟩ = some y ∧ W.heap.size < w'.heap.size := fun wr x s ht h1 h2 h3 =>
    (medianAdjacent_calls enc lt g lb y blk off W wr d x (W.heap.size + 1) 0 s eg hL (hT2.over (by omega) ht) h1 h2 hsz (ht.holds hsz2 hS rfl) (by omega) (ht.lt hsz2) h3).mono fun _ _ ⟨he, k⟩ => ⟨he, ht.trans k rfl, hB2.over (ht.trans k rfl) (by omega)⟩
  have MD : ∀ (wr : World) (x z u s : Nat), To (Value.int .i64) (W.heap.size + 1) 0 #[(s : Int)] ((W.alloc (.cells #[.func (.func g) #[] lb, y] 101)).alloc (.cells #[.int .i64 0] 3)) wr → x < d.size → z < d.size → u < d.size → s + 3 < 4611686018427387904 →
      Calls Tryz.prog 86 #[.agg #[.func (.func g) #[] lb, y], .int .i64 x, .int .i64 z, .int .i64 u, .pointer (some ⟨W.heap.size + 1, 0, none⟩)] wr fun e w' => e = .returned (.int .i64 (Sort.median lt d x z u s).1) ∧
        To (Value.int .i64) (W.heap.size + 1) 0 #[((Sort.median lt d x z u s).2 : Int)] ((W.alloc (.cells #[.func (.func g) #[] lb, y] 101)).alloc (.cells #[.int .i64 0] 3)) w' ∧
        w'.cell? ⟨W.heap.size + 1, 0, none⟩ = some (.int .i64 ((Sort.median lt d x z u s).2 : Int)) := fun wr x z u s ht h1 h2 h3 h4 =>
    (median_calls enc lt g lb y blk off W wr d x z u (W.heap.size + 1) 0 s eg hL (hT2.over (by omega) ht) h1 h2 h3 (ht.holds hsz2 hS rfl) (by omega) (ht.lt hsz2) h4).mono fun _ _ ⟨he, k⟩ => ⟨he, ht.trans k rfl, (one_cells ((ht.trans k rfl).holds hsz2 hS rfl)).1⟩
  have fin : ∀ (w' : World) (s : Nat), To (Value.int .i64) (W.heap.size + 1) 0 #[(s : Int)] ((W.alloc (.cells #[.func (.func g) #[] lb, y] 101)).alloc (.cells #[.int .i64 0] 3)) w' → To enc blk off d W w' := fun w' s h => hT2.over (by omega) h
  obtain ⟨b0, b1, b2⟩ := hB2
  clear hL hH hS hT2
  by_cases h8 : b - a ≥ 8
  · by_cases h50 : b - a ≥ 50
    · obtain ⟨i1, s1, h1⟩ : ∃ i1 s1, Sort.medianAdjacent lt d I 0 = (i1, s1) := ⟨_, _, rfl⟩
      obtain ⟨j1, s2, h2⟩ : ∃ j1 s2, Sort.medianAdjacent lt d J s1 = (j1, s2) := ⟨_, _, rfl⟩
      obtain ⟨k1, s3, h3⟩ : ∃ k1 s3, Sort.medianAdjacent lt d K s2 = (k1, s3) := ⟨_, _, rfl⟩
      obtain ⟨p, s, h4⟩ : ∃ p s, Sort.median lt d i1 j1 k1 s3 = (p, s) := ⟨_, _, rfl⟩
      have hraw : Sort.rawPivot lt d a b = (p, s) := by simp only [Sort.rawPivot, if_pos h8, if_pos h50, ← hI, ← hJ, ← hK, h1, h2, h3, h4]
      have m1 := Sort.medianAdjacent_mem lt d I 0; rw [h1] at m1
      have m2 := Sort.medianAdjacent_mem lt d J s1; rw [h2] at m2
      have m3 := Sort.medianAdjacent_mem lt d K s2; rw [h3] at m3
      have n1 := Sort.medianAdjacent_count lt d I 0; rw [h1] at n1
      have n2 := Sort.medianAdjacent_count lt d J s1; rw [h2] at n2
      have n3 := Sort.medianAdjacent_count lt d K s2; rw [h3] at n3
      simp only [] at m1 m2 m3 n1 n2 n3
      have c1 := MA _ I 0 tc0 (by omega) (by omega) (by omega)
      rw [h1] at c1
      have c2 := fun wr t => MA wr J s1 t (by omega) (by omega) (by omega)
      rw [h2] at c2
      have c3 := fun wr t => MA wr K s2 t (by omega) (by omega) (by omega)
      rw [h3] at c3
      have c4 := fun wr t => MD wr i1 j1 k1 s3 t (by omega) (by omega) (by omega) (by omega)
      rw [h4] at c4
      rw [hraw]
      have C2 := hid c2
      have C3 := hid c3
      have C4 := hid c4
      clear c2 c3 c4 h1 h2 h3 h4 MA MD hI hJ hK m1 m2 m3 hraw tc0
      go_enter Tryz.func63, Tryz.ntmps63
      go_wp2_with fail
      refine c1.mono ?_
      clear b0 b1 b2 c1
      rintro e w1 ⟨rfl, t1, b0, b1, b2⟩
      have c2 := C2.out w1 t1
      go_wp2_with fail
      refine c2.mono ?_
      clear b0 b1 b2 c2
      rintro e w2 ⟨rfl, t2, b0, b1, b2⟩
      have c3 := C3.out w2 t2
      go_wp2_with fail
      refine c3.mono ?_
      clear b0 b1 b2 c3
      rintro e w3 ⟨rfl, t3, b0, b1, b2⟩
      have c4 := C4.out w3 t3
      go_wp2_with fail
      refine c4.mono ?_
      clear b0 b1 b2 c4
      rintro e w4 ⟨rfl, t4, b0⟩
      have hw := fin w4 s t4
      by_cases z0 : s = 0
      · have z0' : ((s : Int) == 0) = true := by simp [z0]
        go_wp2_with fail
        go_ret2
        exact ⟨by rw [← hintOf_zero z0]; rfl, hw⟩
      · have z0' : ((s : Int) == 0) = false := by simp [z0]
        by_cases z1 : s = 12
        · have z1' : ((s : Int) == 12) = true := by simp [z1]
          go_wp2_with fail
          go_ret2
          exact ⟨by rw [← hintOf_twelve z1]; rfl, hw⟩
        · have z1' : ((s : Int) == 12) = false := by simp; omega
          go_wp2_with fail
          go_ret2
          exact ⟨by rw [← hintOf_other z0 z1]; rfl, hw⟩
    · obtain ⟨p, s, h4⟩ : ∃ p s, Sort.median lt d I J K 0 = (p, s) := ⟨_, _, rfl⟩
      have hraw : Sort.rawPivot lt d a b = (p, s) := by simp only [Sort.rawPivot, if_pos h8, if_neg h50, ← hI, ← hJ, ← hK, h4]
      have c4 := MD _ I J K 0 tc0 (by omega) (by omega) (by omega) (by omega)
      rw [h4] at c4
      rw [hraw]
      clear h4 MA MD hI hJ hK hraw tc0
      go_enter Tryz.func63, Tryz.ntmps63
      go_wp2_with fail
      refine c4.mono ?_
      clear b0 b1 b2 c4
      rintro e w4 ⟨rfl, t4, b0⟩
      have hw := fin w4 s t4
      by_cases z0 : s = 0
      · have z0' : ((s : Int) == 0) = true := by simp [z0]
        go_wp2_with fail
        go_ret2
        exact ⟨by rw [← hintOf_zero z0]; rfl, hw⟩
      · have z0' : ((s : Int) == 0) = false := by simp [z0]
        by_cases z1 : s = 12
        · have z1' : ((s : Int) == 12) = true := by simp [z1]
          go_wp2_with fail
          go_ret2
          exact ⟨by rw [← hintOf_twelve z1]; rfl, hw⟩
        · have z1' : ((s : Int) == 12) = false := by simp; omega
          go_wp2_with fail
          go_ret2
          exact ⟨by rw [← hintOf_other z0 z1]; rfl, hw⟩
  · have hraw : Sort.rawPivot lt d a b = (J, 0) := by simp only [Sort.rawPivot, if_neg h8, ← hJ]
    rw [hraw]
    have hw := fin _ 0 tc0
    clear MA MD hI hJ hK hraw tc0
    go_enter Tryz.func63, Tryz.ntmps63
    go_wp2_with fail
    go_ret2
    exact ⟨rfl, hw⟩
end Go.Proofs.YteplcmhmjdiimaaGreatDoor
