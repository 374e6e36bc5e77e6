/-
  One subclass selector built. Conditions: each theorem's own.
-/
import Derived.Test.YtphimfimnakclaaQc
namespace Go.Proofs.Ytphimfimnakclaa
open Go.RowKit Go.Lib
def tri (w : World) (b : Nat) (x y z : Value) : World := ((w.setCell ⟨b, 0, none⟩ x).setCell ⟨b, 1, none⟩ y).setCell ⟨b, 2, none⟩ z
theorem tri_heap {w : World} {b : Nat} {u0 u1 u2 : Value} {e : TypeId} (h : w.heap[b]? = some (.cells #[u0, u1, u2] e (0, 0))) (x y z : Value) : (tri w b x y z).heap[b]? = some (.cells #[x, y, z] e (0, 0)) := by
  have := hset (hset (hset h 0 x) 1 y) 2 z
  simpa [tri] using this
theorem tri_other (w : World) {b g : Nat} (h : g ≠ b) (x y z : Value) : (tri w b x y z).heap[g]? = w.heap[g]? := by
  unfold tri
  rw [hother _ _ _ h, hother _ _ _ h, hother _ _ _ h]
theorem tri_below {w0 w : World} {b : Nat} (h : Below w0.heap.size w0 w) (hb : w0.heap.size ≤ b) (x y z : Value) : Below w0.heap.size w0 (tri w b x y z) :=
  ((h.setCell hb _).setCell hb _).setCell hb _
theorem tri_size (w : World) (b : Nat) (x y z : Value) : (tri w b x y z).heap.size = w.heap.size := by simp [tri, World.setCell]
theorem sub_plain {w w3 : World} {b : Nat} (hb : w.heap.size < b) (hh : w3.heap[b]? = some (.cells hov 110 (0, 0))) (hB : Below w.heap.size w w3) : SubT.E (tri w3 w.heap.size (.iface 107 (.pointer (some ⟨b, 0, none⟩))) (.int .i32 0) (.int .i32 0)) (New w (tri w3 w.heap.size (.iface 107 (.pointer (some ⟨b, 0, none⟩))) (.int .i32 0) (.int .i32 0))) (fun t => [Value.iface 107 (.pointer (some ⟨b, 0, none⟩)), Value.int .i32 0, .int .i32 0][t]?) 0 ∧ Below w.heap.size w (tri w3 w.heap.size (.iface 107 (.pointer (some ⟨b, 0, none⟩))) (.int .i32 0) (.int .i32 0)) := by
  have h2 := (tri_other w3 (show b ≠ w.heap.size by omega) (.iface 107 (.pointer (some ⟨b, 0, none⟩))) (.int .i32 0) (.int .i32 0)).trans hh
  exact ⟨Or.inl ⟨rfl, b, rfl, rfl, rfl, ⟨by omega, nt_of h2 (by decide)⟩, heap_lt h2, h2⟩, tri_below hB (Nat.le_refl _) _ _ _⟩
theorem sub_list {w w3 : World} {b k key : Nat} {s : Value} {im : Rl} (hk : k ≤ 255) (hm : (key = 256 + k ∧ im = []) ∨ (key = 512 + k ∧ im = [[[0]]])) (hb : w.heap.size < b) (hh : w3.heap[b]? = some (.cells #[s, .string ⟨#[]⟩, .string ⟨#[]⟩, .int .u8 (k : Nat)] 104 (0, 0))) (hB : Below w.heap.size w w3) (hr : RowL (CxT SubT0) w3 (fun g => w.heap.size < g ∧ NT w3 g) s im) : SubT.E (tri w3 w.heap.size (.iface 98 (.pointer (some ⟨b, 0, none⟩))) (.int .i32 0) (.int .i32 0)) (New w (tri w3 w.heap.size (.iface 98 (.pointer (some ⟨b, 0, none⟩))) (.int .i32 0) (.int .i32 0))) (fun t => [Value.iface 98 (.pointer (some ⟨b, 0, none⟩)), Value.int .i32 0, .int .i32 0][t]?) key ∧ Below w.heap.size w (tri w3 w.heap.size (.iface 98 (.pointer (some ⟨b, 0, none⟩))) (.int .i32 0) (.int .i32 0)) := by
  have o : ∀ g, g ≠ w.heap.size → (tri w3 w.heap.size (.iface 98 (.pointer (some ⟨b, 0, none⟩))) (.int .i32 0) (.int .i32 0)).heap[g]? = w3.heap[g]? := fun g hg => tri_other w3 hg _ _ _
  have h2 := (o b (by omega)).trans hh
  refine ⟨Or.inr ⟨rfl, rfl, b, k, s, im, rfl, ⟨by omega, nt_of h2 (by decide)⟩, heap_lt h2, h2, hk, hm, hr.keep ⟨by rw [tri_size]; exact Nat.le_refl _, fun g hg _ => o g (by omega), fun g hg _ => ⟨by omega, hg.2.of (o g (by omega))⟩⟩⟩, tri_below hB (Nat.le_refl _) _ _ _⟩
/-- the inner list of one plain pseudo-class -/
theorem inner_row {w w2 : World} {b : Nat} (hb : w.heap.size < b) (hh : w2.heap[b]? = some (.cells hov 110 (0, 0))) (hlt : w.heap.size < w2.heap.size) :
    RowL (CxT SubT0) (((w2.alloc (.cells #[.iface 107 (.pointer (some ⟨b, 0, none⟩)), .int .i32 0, .int .i32 0] 96)).alloc (.cells #[.pointer none, .slice (some ⟨w2.heap.size, 0, none⟩) 1 1, .slice none 0 0, .int .i32 0, .int .u8 0, .bool false] 85)).alloc (.cells #[.slice (some ⟨w2.heap.size + 1, 0, none⟩) 1 1] 56)) (fun g => w.heap.size < g ∧ NT (((w2.alloc (.cells #[.iface 107 (.pointer (some ⟨b, 0, none⟩)), .int .i32 0, .int .i32 0] 96)).alloc (.cells #[.pointer none, .slice (some ⟨w2.heap.size, 0, none⟩) 1 1, .slice none 0 0, .int .i32 0, .int .u8 0, .bool false] 85)).alloc (.cells #[.slice (some ⟨w2.heap.size + 1, 0, none⟩) 1 1] 56)) g) (.slice (some ⟨w2.heap.size + 1 + 1, 0, none⟩) 1 1) [[[0]]] := by
  obtain ⟨o1, ho1⟩ : ∃ o1, o1 = (.cells #[.iface 107 (.pointer (some ⟨b, 0, none⟩)), .int .i32 0, .int .i32 0] 96 : Obj) := ⟨_, rfl⟩
  obtain ⟨o2, ho2⟩ : ∃ o2, o2 = (.cells #[.pointer none, .slice (some ⟨w2.heap.size, 0, none⟩) 1 1, .slice none 0 0, .int .i32 0, .int .u8 0, .bool false] 85 : Obj) := ⟨_, rfl⟩
  obtain ⟨o3, ho3⟩ : ∃ o3, o3 = (.cells #[.slice (some ⟨w2.heap.size + 1, 0, none⟩) 1 1] 56 : Obj) := ⟨_, rfl⟩
  rw [← ho1, ← ho2, ← ho3]
  have s1 : (w2.alloc o1).heap.size = w2.heap.size + 1 := by simp
  have s2 : ((w2.alloc o1).alloc o2).heap.size = w2.heap.size + 2 := by simp
  have s3 : (((w2.alloc o1).alloc o2).alloc o3).heap.size = w2.heap.size + 3 := by simp
  have hbl := heap_lt hh
  have h0 : (((w2.alloc o1).alloc o2).alloc o3).heap[b]? = some (.cells hov 110 (0, 0)) := by
    rw [Below.heap_alloc _ _ _ (by omega), Below.heap_alloc _ _ _ (by omega), Below.heap_alloc _ _ _ hbl]; exact hh
  have h1 : (((w2.alloc o1).alloc o2).alloc o3).heap[w2.heap.size]? = some o1 := by
    rw [Below.heap_alloc _ _ _ (by omega), Below.heap_alloc _ _ _ (by omega)]; exact heap_alloc_new w2 o1
  have h2 : (((w2.alloc o1).alloc o2).alloc o3).heap[w2.heap.size + 1]? = some o2 := by
    rw [Below.heap_alloc _ _ _ (by omega)]
    have := heap_alloc_new (w2.alloc o1) o2
    rw [s1] at this; exact this
  have h3 : (((w2.alloc o1).alloc o2).alloc o3).heap[w2.heap.size + 1 + 1]? = some o3 := by
    have := heap_alloc_new ((w2.alloc o1).alloc o2) o3
    rw [s2] at this; exact this
  generalize ((w2.alloc o1).alloc o2).alloc o3 = X at *
  subst ho1 ho2 ho3
  have k1 : ∀ (o : Nat) (v : Value), (#[Value.iface 107 (.pointer (some ⟨b, 0, none⟩)), .int .i32 0, .int .i32 0] : Array Value)[o]? = some v → X.cell? ⟨w2.heap.size, o, none⟩ = some v := fun o v q => (hcell h1 o v q).1
  have k2 : ∀ (o : Nat) (v : Value), (#[Value.pointer none, .slice (some ⟨w2.heap.size, 0, none⟩) 1 1, .slice none 0 0, .int .i32 0, .int .u8 0, .bool false] : Array Value)[o]? = some v → X.cell? ⟨w2.heap.size + 1, o, none⟩ = some v := fun o v q => (hcell h2 o v q).1
  have rS : RowL SubT0 X (fun g => w.heap.size < g ∧ NT X g) (.slice (some ⟨w2.heap.size, 0, none⟩) 1 1) [0] := by
    refine ⟨_, _, rfl, fun i hi => ⟨w2.heap.size, rfl, ⟨hlt, nt_of h1 (by decide)⟩, heap_lt h1, ?_⟩⟩
    have : i = 0 := by simp at hi; omega
    subst this
    exact ⟨rfl, b, k1 0 _ rfl, k1 1 _ rfl, k1 2 _ rfl, ⟨hb, nt_of h0 (by decide)⟩, heap_lt h0, h0⟩
  have rC : RowL (CpT SubT0) X (fun g => w.heap.size < g ∧ NT X g) (.slice (some ⟨w2.heap.size + 1, 0, none⟩) 1 1) [[0]] := by
    refine ⟨_, _, rfl, fun i hi => ⟨w2.heap.size + 1, rfl, ⟨by omega, nt_of h2 (by decide)⟩, heap_lt h2, ?_⟩⟩
    have : i = 0 := by simp at hi; omega
    subst this
    exact ⟨k2 0 _ rfl, ⟨_, k2 1 _ rfl, rS⟩, k2 2 _ rfl, k2 3 _ rfl, k2 4 _ rfl, k2 5 _ rfl⟩
  refine ⟨_, _, rfl, fun i hi => ⟨w2.heap.size + 1 + 1, rfl, ⟨by omega, nt_of h3 (by decide)⟩, heap_lt h3, ?_⟩⟩
  have : i = 0 := by simp at hi; omega
  subst this
  exact ⟨_, (hcell h3 0 _ rfl).1, rC⟩
set_option maxHeartbeats 4000000 in
set_option maxRecDepth 100000 in
theorem sub23 (a1 a2 : Option Addr) (n1 n2 c1 c2 : Nat) (z1 z2 : List Int) (j : Nat) (w : World) (h1 : n1 ≤ 65536) (h2 : n2 ≤ 65536) (hj : j ≤ 1000000) (r1 : Row .u8 w a1 n1 z1) (r2 : Row .u8 w a2 n2 z2) :
    Calls Try.prog 23 #[.slice a1 n1 c1, .slice a2 n2 c2, .int .i64 j] w fun e w' => SubR (keyZ z1 z2 n1 n2 j) w e w' := by
  have b1 := atZ_le r1 j
  have b2 := atZ_le r2 j
  obtain ⟨W, hW⟩ : ∃ W, W = w.alloc (.cells #[.nilIface, .int .i32 0, .int .i32 0] 96) := ⟨_, rfl⟩
  have hWb : Below w.heap.size w W := by rw [hW]; exact (Below.refl _ _).alloc (Nat.le_refl _) _
  have hWs : W.heap.size = w.heap.size + 1 := by rw [hW]; simp
  have hWr : W.heap[w.heap.size]? = some (.cells #[.nilIface, .int .i32 0, .int .i32 0] 96 (0, 0)) := by rw [hW]; exact heap_alloc_new _ _
  have C1 := hid (at18 a1 n1 c1 z1 j W h1 hj (r1.below (Nat.le_refl _) hWb))
  have C2 := hid (at18 a2 n2 c2 z2 j W h2 hj (r2.below (Nat.le_refl _) hWb))
  have HK := hid (show keyZ z1 z2 n1 n2 j = if atZ z1 n1 j % 3 = 0 then 0 else (atZ z1 n1 j % 3) * 256 + atZ z2 n2 j from rfl)
  have HB := hid hWb
  have HR := hid hWr
  clear r1 r2 hWb hWr
  generalize keyZ z1 z2 n1 n2 j = K at *
  generalize atZ z1 n1 j = x at *
  generalize atZ z2 n2 j = y at *
  have e5 : IntKind.u8.wrap (y : Int) = (y : Int) := by
    unfold IntKind.wrap
    simp [IntKind.bits, IntKind.signed]
    omega
  go_enter Try.func23, Try.ntmps23
  go_wp2_with fail
  rw [← hW]
  clear hW
  refine C1.out.mono ?_
  rintro e w1 ⟨rfl, hw⟩
  obtain rfl := hw.symm
  go_wp2_with fail
  refine C2.out.mono ?_
  rintro e w1 ⟨rfl, hw⟩
  obtain rfl := hw.symm
  clear C1 C2
  have HWS := hid hWs
  by_cases g : x % 3 = 0
  · have g3 : (x : Int) % 3 = 0 := by omega
    have g2 : (((x : Int) % 3) == 0) = true := by first | (simp; omega) | (simp; done)
    have e : K = 0 := by have := HK.out; rw [if_pos g] at this; exact this
    subst e
    clear g HK hWs
    go_wp2_with fail
    refine (hov24 _).mono ?_
    rintro e w3 hR3
    obtain ⟨b, rfl, hb, hh, hb3⟩ := hR3.ex
    have hs3 := hb3.size
    have hres := (hb3.block w.heap.size (by rw [HWS.out]; omega)).trans HR.out
    obtain ⟨u0, f0⟩ : w3.cell? ⟨w.heap.size, 0, none⟩ = some .nilIface ∧ w3.frozen? ⟨w.heap.size, 0, none⟩ = false := hcell hres 0 _ rfl
    obtain ⟨u1, f1⟩ : w3.cell? ⟨w.heap.size, 1, none⟩ = some (.int .i32 0) ∧ w3.frozen? ⟨w.heap.size, 1, none⟩ = false := hcell hres 1 _ rfl
    obtain ⟨u2, f2⟩ : w3.cell? ⟨w.heap.size, 2, none⟩ = some (.int .i32 0) ∧ w3.frozen? ⟨w.heap.size, 2, none⟩ = false := hcell hres 2 _ rfl
    have hl := heap_lt hres
    obtain ⟨q1, q2⟩ := sub_plain (by have := HWS.out; omega) hh (HB.out.trans (hb3.mono HB.out.size))
    have y := tri_heap hres (.iface 107 (.pointer (some ⟨b, 0, none⟩))) (.int .i32 0) (.int .i32 0)
    have y0 := (hcell y 0 _ rfl).1
    have y1 := (hcell y 1 _ rfl).1
    have y2 := (hcell y 2 _ rfl).1
    have HQ := hid (And.intro q1 q2)
    simp only [tri] at y0 y1 y2
    have Y0 := hid y0
    have Y1 := hid y1
    have Y2 := hid y2
    clear y y0 y1 y2 q1 q2 hh hb3 hres hR3
    go_wp2_with fail
    exact bodyPost_ret (v := .agg #[.iface 107 (.pointer (some ⟨b, 0, none⟩)), .int .i32 0, .int .i32 0]) (by simp [results, Try.results23, go_sem, Y0.out, Y1.out, Y2.out]) rfl ⟨_, rfl, rfl, HQ.out.1, HQ.out.2⟩
  · have g3 : ¬ (x : Int) % 3 = 0 := by omega
    have g2 : (((x : Int) % 3) == 0) = false := by first | (simp; omega) | (simp; done)
    have e : K = (x % 3) * 256 + y := by have := HK.out; rw [if_neg g] at this; exact this
    by_cases g' : x % 3 = 1
    · have g4 : (x : Int) % 3 = 1 := by omega
      have g6 : (((x : Int) % 3) == 1) = true := by first | (simp; omega) | (simp; done)
      have e' : K = 256 + y := by rw [e, g']
      have HE := hid e'
      clear g g' HK hWs e e' g2 g3
      have g2 : ((1 : Int) == 0) = false := rfl
      go_wp2_with fail
      refine (list25 y none 0 0 _).mono ?_
      rintro e w3 hR3
      obtain ⟨b, rfl, hb, hh, hb3⟩ := hR3.ex
      have hs3 := hb3.size
      have hres := (hb3.block w.heap.size (by rw [HWS.out]; omega)).trans HR.out
      obtain ⟨u0, f0⟩ : w3.cell? ⟨w.heap.size, 0, none⟩ = some .nilIface ∧ w3.frozen? ⟨w.heap.size, 0, none⟩ = false := hcell hres 0 _ rfl
      obtain ⟨u1, f1⟩ : w3.cell? ⟨w.heap.size, 1, none⟩ = some (.int .i32 0) ∧ w3.frozen? ⟨w.heap.size, 1, none⟩ = false := hcell hres 1 _ rfl
      obtain ⟨u2, f2⟩ : w3.cell? ⟨w.heap.size, 2, none⟩ = some (.int .i32 0) ∧ w3.frozen? ⟨w.heap.size, 2, none⟩ = false := hcell hres 2 _ rfl
      have hl := heap_lt hres
      obtain ⟨q1, q2⟩ := sub_list (key := K) b2 (Or.inl ⟨HE.out, rfl⟩) (by have := HWS.out; omega) hh (HB.out.trans (hb3.mono HB.out.size)) (RowL.nil _ _ _ 0)
      have yy := tri_heap hres (.iface 98 (.pointer (some ⟨b, 0, none⟩))) (.int .i32 0) (.int .i32 0)
      have y0 := (hcell yy 0 _ rfl).1
      have y1 := (hcell yy 1 _ rfl).1
      have y2 := (hcell yy 2 _ rfl).1
      have HQ := hid (And.intro q1 q2)
      simp only [tri] at y0 y1 y2
      have Y0 := hid y0
      have Y1 := hid y1
      have Y2 := hid y2
      clear yy y0 y1 y2 q1 q2 hh hb3 hres hR3
      go_wp2_with fail
      exact bodyPost_ret (v := .agg #[.iface 98 (.pointer (some ⟨b, 0, none⟩)), .int .i32 0, .int .i32 0]) (by simp [results, Try.results23, go_sem, Y0.out, Y1.out, Y2.out]) rfl ⟨_, rfl, rfl, HQ.out.1, HQ.out.2⟩
    · have g4 : (x : Int) % 3 = 2 := by omega
      have e' : K = 512 + y := by rw [e, show x % 3 = 2 by omega]
      have HE := hid e'
      clear g g' HK hWs e e' g2 g3
      have g2 : ((2 : Int) == 0) = false := rfl
      have g6 : ((2 : Int) == 1) = false := rfl
      go_wp2_with fail
      refine (hov24 _).mono ?_
      rintro e w2 hR2
      obtain ⟨b, rfl, hb, hh, hb2⟩ := hR2.ex
      have hs2 := hb2.size
      have hin := inner_row (w := w) (by have := HWS.out; omega) hh (by have := HWS.out; omega)
      have hresW := (hb2.block w.heap.size (by rw [HWS.out]; omega)).trans HR.out
      have HIN := hid hin
      have HB2 := hid (HB.out.trans (hb2.mono HB.out.size))
      have HRW := hid hresW
      have HLT := hid (show w.heap.size < w2.heap.size by have := HWS.out; omega)
      clear hin hresW hb2 hh hR2 hs2
      go_wp2_with fail
      generalize hX : (((w2.alloc (.cells #[.iface 107 (.pointer (some ⟨b, 0, none⟩)), .int .i32 0, .int .i32 0] 96)).alloc (.cells #[.pointer none, .slice (some ⟨w2.heap.size, 0, none⟩) 1 1, .slice none 0 0, .int .i32 0, .int .u8 0, .bool false] 85)).alloc (.cells #[.slice (some ⟨w2.heap.size + 1, 0, none⟩) 1 1] 56)) = X at *
      have hXb : Below w2.heap.size w2 X := by rw [← hX]; exact (((Below.refl _ _).alloc (Nat.le_refl _) _).alloc (by simp) _).alloc (by simp; omega) _
      clear hX
      refine (list25 y _ 1 1 _).mono ?_
      rintro e w3 hR3
      obtain ⟨b', rfl, hb', hh, hb3⟩ := hR3.ex
      have hs3 := hb3.size
      have hXs := hXb.size
      have hl0 := HLT.out
      have hres := (hb3.block w.heap.size (by omega)).trans ((hXb.block w.heap.size hl0).trans HRW.out)
      obtain ⟨u0, f0⟩ : w3.cell? ⟨w.heap.size, 0, none⟩ = some .nilIface ∧ w3.frozen? ⟨w.heap.size, 0, none⟩ = false := hcell hres 0 _ rfl
      obtain ⟨u1, f1⟩ : w3.cell? ⟨w.heap.size, 1, none⟩ = some (.int .i32 0) ∧ w3.frozen? ⟨w.heap.size, 1, none⟩ = false := hcell hres 1 _ rfl
      obtain ⟨u2, f2⟩ : w3.cell? ⟨w.heap.size, 2, none⟩ = some (.int .i32 0) ∧ w3.frozen? ⟨w.heap.size, 2, none⟩ = false := hcell hres 2 _ rfl
      have hl := heap_lt hres
      have hBX := HB2.out.trans (hXb.mono HB2.out.size)
      obtain ⟨q1, q2⟩ := sub_list (key := K) b2 (Or.inr ⟨HE.out, rfl⟩) (by omega) hh (hBX.trans (hb3.mono hBX.size)) (HIN.out.keep ⟨hs3, fun g _ hg => hb3.block g hg, fun g hp hg => ⟨hp.1, hp.2.of (hb3.block g hg)⟩⟩)
      have yy := tri_heap hres (.iface 98 (.pointer (some ⟨b', 0, none⟩))) (.int .i32 0) (.int .i32 0)
      have y0 := (hcell yy 0 _ rfl).1
      have y1 := (hcell yy 1 _ rfl).1
      have y2 := (hcell yy 2 _ rfl).1
      have HQ := hid (And.intro q1 q2)
      simp only [tri] at y0 y1 y2
      have Y0 := hid y0
      have Y1 := hid y1
      have Y2 := hid y2
      clear yy y0 y1 y2 q1 q2 hh hb3 hres hR3 hXb hXs hl0 hBX
      go_wp2_with fail
      exact bodyPost_ret (v := .agg #[.iface 98 (.pointer (some ⟨b', 0, none⟩)), .int .i32 0, .int .i32 0]) (by simp [results, Try.results23, go_sem, Y0.out, Y1.out, Y2.out]) rfl ⟨_, rfl, rfl, HQ.out.1, HQ.out.2⟩
end Go.Proofs.Ytphimfimnakclaa
