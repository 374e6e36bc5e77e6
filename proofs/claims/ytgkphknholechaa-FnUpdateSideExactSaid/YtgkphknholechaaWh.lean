/-
  The contracts of ZZSetSide, ZZUpdateSide and zzSideIs at every side. Conditions: a side number of 0 to 3; the shapes of box and rules.
-/
import Derived.Test.YtgkphknholechaaWf
import Derived.Test.YtgkphknholechaaWg
namespace Go.Proofs.Ytgkphknholechaa
open Go.ChangeShapes Go.WideShapes Go.ChangeAt Go.RowKit

/-- what a call that writes into block b leaves alone -/
structure Kept (w w' : World) (b : Nat) : Prop where
  size : w.heap.size ≤ w'.heap.size
  cell : ∀ c o, c < w.heap.size → c ≠ b → w'.cell? ⟨c, o, none⟩ = w.cell? ⟨c, o, none⟩
  frozen : ∀ c o, c < w.heap.size → w'.frozen? ⟨c, o, none⟩ = w.frozen? ⟨c, o, none⟩
  below : ∀ m w0, m ≤ b → Below m w0 w → Below m w0 w'

theorem puts_size (b base : Nat) (x : Sd) (n : Nat) (w : World) : (puts b base x n w).heap.size = w.heap.size := by
  induction n with
  | zero => rfl
  | succ n ih => rw [puts, ← ih]; simp [go_sem]

theorem drew_below {m : Nat} {w0 w : World} (h : Below m w0 w) : Below m w0 w.drew := h.drew
theorem box_alloc {w : World} {b : Nat} {f : Nat → Sd} (h : Box w b f) (hb : b < w.heap.size) (o : Obj) (ho : ∀ a, (w.alloc o).frozen? a = w.frozen? a) : Box (w.alloc o) b f :=
  ⟨fun j o' hj ho' => by rw [World.cell?_alloc_lt w _ _ hb]; exact h.1 j o' hj ho', fun o' => by rw [ho]; exact h.2 o'⟩

theorem drew_cell (w : World) (a : Addr) : w.drew.cell? a = w.cell? a := rfl
theorem drew_frozen (w : World) (a : Addr) : w.drew.frozen? a = w.frozen? a := rfl
theorem drew_size (w : World) : w.drew.heap.size = w.heap.size := rfl

theorem set_kept (w : World) (b j n : Nat) (hb : b < w.heap.size) (x : Sd) (T : TypeId) (A : Array Value) : Kept w ((puts b (1 + j * 11) x n w).alloc (.cells A T)).drew b := by
  have hsz := puts_size b (1 + j * 11) x n w
  have hbl := puts_block b (1 + j * 11) x n w
  have hfz := puts_frozen b (1 + j * 11) x n w
  have hbe := puts_below b (1 + j * 11) x n w
  generalize puts b (1 + j * 11) x n w = V at *
  refine ⟨?_, fun c o hc hcb => ?_, fun c o hc => ?_, fun m w0 hm h => ?_⟩
  · rw [drew_size]
    have : (V.alloc (.cells A T)).heap.size = V.heap.size + 1 := by simp [go_sem]
    omega
  · have h2 : c < V.heap.size := by rw [hsz]; exact hc
    rw [drew_cell, World.cell?_alloc_lt _ _ _ h2, hbl _ _ (fun e => hcb e.symm)]
  · rw [drew_frozen, frozen?_alloc_cells, hfz]
  · have h1 := hbe w0 m hm h
    exact (h1.alloc (by omega) _).drew

theorem set_box {w : World} {b : Nat} {f : Nat → Sd} (h : Box w b f) (hb : b < w.heap.size) (j : Nat) (hj : j < 4) (x : Sd) (T : TypeId) (A : Array Value) : Box ((puts b (1 + j * 11) x 11 w).alloc (.cells A T)).drew b (upd f j x) := by
  have h1 := h.put j hj x
  have h2 : b < (puts b (1 + j * 11) x 11 w).heap.size := by rw [puts_size]; exact hb
  generalize puts b (1 + j * 11) x 11 w = V at *
  have h3 := box_alloc h1 h2 (.cells A T) (fun a => by rw [frozen?_alloc_cells])
  exact ⟨fun j o a b => by rw [drew_cell]; exact h3.1 j o a b, fun o => by rw [drew_frozen]; exact h3.2 o⟩

theorem set21 (b j : Nat) (hj : j < 4) (x : Sd) (f : Nat → Sd) (w : World) (hb : b < w.heap.size) (h : Box w b f) :
    Calls Try.prog 21 #[.pointer (some ⟨b, 0, none⟩), .int .i64 j, .agg x.cells] w fun e w' => e = .returned (.tuple #[]) ∧ Kept w w' b ∧ Box w' b (upd f j x) := by
  have e : j = 0 ∨ j = 1 ∨ j = 2 ∨ j = 3 := by omega
  rcases e with rfl | rfl | rfl | rfl
  · refine (set21_0 b x f w hb h).mono ?_
    rintro e w' ⟨rfl, rfl⟩
    exact ⟨rfl, set_kept w b 0 11 hb x _ _, set_box h hb 0 hj x _ _⟩
  · refine (set21_1 b x f w hb h).mono ?_
    rintro e w' ⟨rfl, rfl⟩
    exact ⟨rfl, set_kept w b 1 11 hb x _ _, set_box h hb 1 hj x _ _⟩
  · refine (set21_2 b x f w hb h).mono ?_
    rintro e w' ⟨rfl, rfl⟩
    exact ⟨rfl, set_kept w b 2 11 hb x _ _, set_box h hb 2 hj x _ _⟩
  · refine (set21_3 b x f w hb h).mono ?_
    rintro e w' ⟨rfl, rfl⟩
    exact ⟨rfl, set_kept w b 3 11 hb x _ _, set_box h hb 3 hj x _ _⟩

set_option maxRecDepth 20000 in
theorem is24_0 (b : Nat) (k s i : Int) (g : Bool) (f : Nat → Sd) (w : World) (h : Box w b f) (hi : f 0 = ⟨k, s, i, g⟩) :
    Calls Try.prog 24 #[.pointer (some ⟨b, 0, none⟩), .int .i64 0, .int .u8 k, .int .u8 s, .int .u32 i, .bool g] w fun e w' => e = .returned (.bool true) ∧ w' = w := by
  have q5 : w.cell? ⟨b, 6, none⟩ = some (.int .u8 k) := by have := h.1 0 5 (by omega) (by omega); rw [hi] at this; exact this
  have q8 : w.cell? ⟨b, 9, none⟩ = some (.int .u8 s) := by have := h.1 0 8 (by omega) (by omega); rw [hi] at this; exact this
  have q9 : w.cell? ⟨b, 10, none⟩ = some (.int .u32 i) := by have := h.1 0 9 (by omega) (by omega); rw [hi] at this; exact this
  have q10 : w.cell? ⟨b, 11, none⟩ = some (.bool g) := by have := h.1 0 10 (by omega) (by omega); rw [hi] at this; exact this
  clear h hi
  go_enter Try.func24, Try.ntmps24
  go_wp2
  go_ret
  exact ⟨rfl, rfl⟩

set_option maxRecDepth 20000 in
theorem is24_1 (b : Nat) (k s i : Int) (g : Bool) (f : Nat → Sd) (w : World) (h : Box w b f) (hi : f 1 = ⟨k, s, i, g⟩) :
    Calls Try.prog 24 #[.pointer (some ⟨b, 0, none⟩), .int .i64 1, .int .u8 k, .int .u8 s, .int .u32 i, .bool g] w fun e w' => e = .returned (.bool true) ∧ w' = w := by
  have q5 : w.cell? ⟨b, 17, none⟩ = some (.int .u8 k) := by have := h.1 1 5 (by omega) (by omega); rw [hi] at this; exact this
  have q8 : w.cell? ⟨b, 20, none⟩ = some (.int .u8 s) := by have := h.1 1 8 (by omega) (by omega); rw [hi] at this; exact this
  have q9 : w.cell? ⟨b, 21, none⟩ = some (.int .u32 i) := by have := h.1 1 9 (by omega) (by omega); rw [hi] at this; exact this
  have q10 : w.cell? ⟨b, 22, none⟩ = some (.bool g) := by have := h.1 1 10 (by omega) (by omega); rw [hi] at this; exact this
  clear h hi
  go_enter Try.func24, Try.ntmps24
  go_wp2
  go_ret
  exact ⟨rfl, rfl⟩

set_option maxRecDepth 20000 in
theorem is24_2 (b : Nat) (k s i : Int) (g : Bool) (f : Nat → Sd) (w : World) (h : Box w b f) (hi : f 2 = ⟨k, s, i, g⟩) :
    Calls Try.prog 24 #[.pointer (some ⟨b, 0, none⟩), .int .i64 2, .int .u8 k, .int .u8 s, .int .u32 i, .bool g] w fun e w' => e = .returned (.bool true) ∧ w' = w := by
  have q5 : w.cell? ⟨b, 28, none⟩ = some (.int .u8 k) := by have := h.1 2 5 (by omega) (by omega); rw [hi] at this; exact this
  have q8 : w.cell? ⟨b, 31, none⟩ = some (.int .u8 s) := by have := h.1 2 8 (by omega) (by omega); rw [hi] at this; exact this
  have q9 : w.cell? ⟨b, 32, none⟩ = some (.int .u32 i) := by have := h.1 2 9 (by omega) (by omega); rw [hi] at this; exact this
  have q10 : w.cell? ⟨b, 33, none⟩ = some (.bool g) := by have := h.1 2 10 (by omega) (by omega); rw [hi] at this; exact this
  clear h hi
  go_enter Try.func24, Try.ntmps24
  go_wp2
  go_ret
  exact ⟨rfl, rfl⟩

set_option maxRecDepth 20000 in
theorem is24_3 (b : Nat) (k s i : Int) (g : Bool) (f : Nat → Sd) (w : World) (h : Box w b f) (hi : f 3 = ⟨k, s, i, g⟩) :
    Calls Try.prog 24 #[.pointer (some ⟨b, 0, none⟩), .int .i64 3, .int .u8 k, .int .u8 s, .int .u32 i, .bool g] w fun e w' => e = .returned (.bool true) ∧ w' = w := by
  have q5 : w.cell? ⟨b, 39, none⟩ = some (.int .u8 k) := by have := h.1 3 5 (by omega) (by omega); rw [hi] at this; exact this
  have q8 : w.cell? ⟨b, 42, none⟩ = some (.int .u8 s) := by have := h.1 3 8 (by omega) (by omega); rw [hi] at this; exact this
  have q9 : w.cell? ⟨b, 43, none⟩ = some (.int .u32 i) := by have := h.1 3 9 (by omega) (by omega); rw [hi] at this; exact this
  have q10 : w.cell? ⟨b, 44, none⟩ = some (.bool g) := by have := h.1 3 10 (by omega) (by omega); rw [hi] at this; exact this
  clear h hi
  go_enter Try.func24, Try.ntmps24
  go_wp2
  go_ret
  exact ⟨rfl, rfl⟩

theorem is24 (b j : Nat) (hj : j < 4) (k s i : Int) (g : Bool) (f : Nat → Sd) (w : World) (h : Box w b f) (hi : f j = ⟨k, s, i, g⟩) :
    Calls Try.prog 24 #[.pointer (some ⟨b, 0, none⟩), .int .i64 j, .int .u8 k, .int .u8 s, .int .u32 i, .bool g] w fun e w' => e = .returned (.bool true) ∧ w' = w := by
  have e : j = 0 ∨ j = 1 ∨ j = 2 ∨ j = 3 := by omega
  rcases e with rfl | rfl | rfl | rfl
  · exact is24_0 b k s i g f w h hi
  · exact is24_1 b k s i g f w h hi
  · exact is24_2 b k s i g f w h hi
  · exact is24_3 b k s i g f w h hi

theorem bel_box {w w' : World} {b : Nat} {f : Nat → Sd} (h : Box w b f) (hb : b < w.heap.size) (k : Below w.heap.size w w') : Box w' b f :=
  ⟨fun j o hj ho => by rw [k.cell (p := ⟨b, 1 + j * 11 + o, none⟩) hb]; exact h.1 j o hj ho, fun o => by rw [k.frozen (p := ⟨b, o, none⟩) hb]; exact h.2 o⟩
theorem bel_rls {w w' : World} {r n : Nat} {g : Nat → Int} (h : Rls w r n g) (hb : r < w.heap.size) (k : Below w.heap.size w w') : Rls w' r n g :=
  ⟨fun i hi => by rw [k.cell (p := ⟨r, i * 2, none⟩) hb]; exact h.d i hi, fun i hi => by rw [k.cell (p := ⟨r, i * 2 + 1, none⟩) hb]; exact h.l i hi, fun o => by rw [k.frozen (p := ⟨r, o, none⟩) hb]; exact h.z o⟩
theorem puts_rls {w : World} {r n : Nat} {g : Nat → Int} (h : Rls w r n g) (b base : Nat) (x : Sd) (k : Nat) (hb : b ≠ r) : Rls (puts b base x k w) r n g :=
  ⟨fun i hi => by rw [puts_block _ _ _ _ _ _ _ hb]; exact h.d i hi, fun i hi => by rw [puts_block _ _ _ _ _ _ _ hb]; exact h.l i hi, fun o => by rw [puts_frozen]; exact h.z o⟩

theorem rz_size (d : Bool) (r m : Nat) (w : World) : (rz d r m w).heap.size = w.heap.size := by
  cases d
  · rfl
  · simp [rz, go_sem]
theorem rz_below (d : Bool) (r m : Nat) (w w0 : World) (k : Nat) (hk : k ≤ r) (h : Below k w0 w) : Below k w0 (rz d r m w) := by
  cases d
  · exact h
  · exact (h.setCell hk _).setCell hk _
theorem rz_box {w : World} {b : Nat} {f : Nat → Sd} (h : Box w b f) (d : Bool) (r m : Nat) (hrb : r ≠ b) : Box (rz d r m w) b f := by
  cases d
  · exact h
  · refine ⟨fun j o hj ho => ?_, fun o => ?_⟩
    · rw [← h.1 j o hj ho]; simp [rz, go_sem]
    · rw [← h.2 o]; simp [rz, go_sem]
theorem rz_rls {w : World} {r n : Nat} {g : Nat → Int} (h : Rls w r n g) (d : Bool) (m : Nat) (hm : m < n) : Rls (rz d r m w) r n (fun i => if d = true ∧ i = m then 0 else g i) := by
  cases d
  · exact h.congr (fun i hi => by simp)
  · have h1 : Rls (w.setCell ⟨r, m * 2, none⟩ .nilIface) r n g := by
      refine ⟨fun i hi => ?_, fun i hi => ?_, fun o => ?_⟩
      · by_cases e : i = m
        · subst e
          have := h.d i hi
          simp [go_sem, this]
        · have : m * 2 ≠ i * 2 := by omega
          rw [← h.d i hi]; simp [go_sem]
      · have : m * 2 ≠ i * 2 + 1 := by omega
        rw [← h.l i hi]; simp [go_sem]
      · have := h.z o
        simpa [go_sem] using this
    exact (h1.put m hm 0).congr (fun i hi => by simp)

/-- what ZZUpdateSide leaves -/
structure Upd (w w' : World) (b r n : Nat) (f : Nat → Sd) (g : Nat → Int) : Prop where
  size : w.heap.size ≤ w'.heap.size
  box : Box w' b f
  rls : Rls w' r n g
  below : ∀ k w0, k ≤ b → k ≤ r → Below k w0 w → Below k w0 w'

theorem upd_of {w : World} {b r n m : Nat} {f : Nat → Sd} {g : Nat → Int} (h : Box w b f) (hR : Rls w r n g) (hb : b < w.heap.size) (hr : r < w.heap.size) (hm : m < n) (hrb : r ≠ b) (j : Nat) (hj : j < 4) (x : Sd) (d : Bool) (o0 o1 o2 : Obj) :
    Upd w (((puts b (1 + j * 11) x 11 (rz d r m (w.alloc o0))).alloc o1).alloc o2).drew b r n (upd f j x) (fun i => if d = true ∧ i = m then 0 else g i) := by
  have k0 : Below w.heap.size w (w.alloc o0) := (Below.refl _ _).alloc (Nat.le_refl _) _
  have s0 : (w.alloc o0).heap.size = w.heap.size + 1 := by simp [go_sem]
  have b0 := bel_box h hb k0
  have r0 := bel_rls hR hr k0
  have e0 : ∀ k w0, k ≤ b → k ≤ r → Below k w0 w → Below k w0 (w.alloc o0) := fun k w0 _ _ h => h.alloc (by omega) _
  generalize w.alloc o0 = V0 at *
  have b1 := rz_box b0 d r m hrb
  have r1 := rz_rls r0 d m hm
  have s1 := rz_size d r m V0
  have e1 : ∀ k w0, k ≤ b → k ≤ r → Below k w0 w → Below k w0 (rz d r m V0) := fun k w0 h1 h2 h => rz_below d r m V0 w0 k h2 (e0 k w0 h1 h2 h)
  generalize rz d r m V0 = V1 at *
  have b2 := b1.put j hj x
  have r2 := puts_rls r1 b (1 + j * 11) x 11 (fun e => hrb e.symm)
  have s2 := puts_size b (1 + j * 11) x 11 V1
  have e2 : ∀ k w0, k ≤ b → k ≤ r → Below k w0 w → Below k w0 (puts b (1 + j * 11) x 11 V1) := fun k w0 h1 h2 h => puts_below b _ x 11 V1 w0 k h1 (e1 k w0 h1 h2 h)
  generalize puts b (1 + j * 11) x 11 V1 = V2 at *
  have k2 : Below V2.heap.size V2 ((V2.alloc o1).alloc o2).drew := (((Below.refl _ _).alloc (Nat.le_refl _) _).alloc (by simp [go_sem]) _).drew
  refine ⟨?_, bel_box b2 (by omega) k2, bel_rls r2 (by omega) k2, fun k w0 h1 h2 h => ?_⟩
  · have := k2.size
    omega
  · exact (((e2 k w0 h1 h2 h).alloc (by omega) _).alloc (by simp [go_sem]; omega) _).drew

theorem up22 (b r n m j : Nat) (xk xs xi yk ys : Int) (xg yg : Bool) (f : Nat → Sd) (g : Nat → Int) (w : World) (hj : j < 4) (hb : b < w.heap.size) (hr : r < w.heap.size) (hn : n ≤ 4096) (hm : m < n) (hrb : r ≠ b) (h : Box w b f) (hR : Rls w r n g)
    (hi : f j = ⟨yk, ys, (m : Int), yg⟩) :
    Calls Try.prog 22 #[.pointer (some ⟨b, 0, none⟩), .slice (some ⟨r, 0, none⟩) n n, .int .i64 j, .agg (Sd.mk xk xs xi xg).cells] w fun e w' => e = .returned (.tuple #[]) ∧
      Upd w w' b r n (upd f j ⟨xk, xs, xi, xg⟩) (fun i => if dropB ⟨yk, ys, (m : Int), yg⟩ ⟨xk, xs, xi, xg⟩ = true ∧ i = m then 0 else g i) := by
  have HU := Lib.hid (upd_of h hR hb hr hm hrb j hj ⟨xk, xs, xi, xg⟩ (dropB ⟨yk, ys, (m : Int), yg⟩ ⟨xk, xs, xi, xg⟩))
  have k0 : ∀ o, Below w.heap.size w (w.alloc o) := fun o => (Below.refl _ _).alloc (Nat.le_refl _) _
  have s0 : ∀ o, (w.alloc o).heap.size = w.heap.size + 1 := fun o => by simp [go_sem]
  have HB := Lib.hid (fun o => bel_box h hb (k0 o))
  have HR := Lib.hid (fun o => bel_rls hR hr (k0 o))
  have HS := Lib.hid s0
  have HI := Lib.hid hi
  clear h hR s0 k0 hi
  unfold Sd.cells
  dsimp only
  go_enter Try.func22, Try.ntmps22
  go_wp2_with fail
  have e : j = 0 ∨ j = 1 ∨ j = 2 ∨ j = 3 := by omega
  have R0 := HR.out
  rcases e with rfl | rfl | rfl | rfl
  · refine (up29_0 b r n m xk xs xi yk ys xg yg f _ (by rw [HS.out]; omega) (by rw [HS.out]; omega) hn hm hrb (HB.out _) HI.out ⟨_, (R0 _).d m hm⟩ ⟨_, (R0 _).l m hm⟩ ((R0 _).z _) ((R0 _).z _)).mono ?_
    rintro e w' ⟨rfl, o1, o2, rfl⟩
    clear R0
    go_wp2_with fail
    go_end0
    exact ⟨rfl, HU.out _ o1 o2⟩
  · refine (up29_1 b r n m xk xs xi yk ys xg yg f _ (by rw [HS.out]; omega) (by rw [HS.out]; omega) hn hm hrb (HB.out _) HI.out ⟨_, (R0 _).d m hm⟩ ⟨_, (R0 _).l m hm⟩ ((R0 _).z _) ((R0 _).z _)).mono ?_
    rintro e w' ⟨rfl, o1, o2, rfl⟩
    clear R0
    go_wp2_with fail
    go_end0
    exact ⟨rfl, HU.out _ o1 o2⟩
  · refine (up29_2 b r n m xk xs xi yk ys xg yg f _ (by rw [HS.out]; omega) (by rw [HS.out]; omega) hn hm hrb (HB.out _) HI.out ⟨_, (R0 _).d m hm⟩ ⟨_, (R0 _).l m hm⟩ ((R0 _).z _) ((R0 _).z _)).mono ?_
    rintro e w' ⟨rfl, o1, o2, rfl⟩
    clear R0
    go_wp2_with fail
    go_end0
    exact ⟨rfl, HU.out _ o1 o2⟩
  · refine (up29_3 b r n m xk xs xi yk ys xg yg f _ (by rw [HS.out]; omega) (by rw [HS.out]; omega) hn hm hrb (HB.out _) HI.out ⟨_, (R0 _).d m hm⟩ ⟨_, (R0 _).l m hm⟩ ((R0 _).z _) ((R0 _).z _)).mono ?_
    rintro e w' ⟨rfl, o1, o2, rfl⟩
    clear R0
    go_wp2_with fail
    go_end0
    exact ⟨rfl, HU.out _ o1 o2⟩
end Go.Proofs.Ytgkphknholechaa
