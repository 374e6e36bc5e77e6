/-
  The contract of containsDeadSelectors. Conditions: the list's cells.
-/
import Derived.Test.YtlhcgnlbhncfkaaRd
namespace Go.Proofs.Ytlhcgnlbhncfkaa
open Go.ChangeShapes Go.WideShapes Go.ChangeAt Go.RowKit

theorem as_135 (a : Addr) (w : World) : (Instr.typeAssert (.iface 135 (.pointer (some a))) 68 139 true).run Try.prog w = .ok (.tuple #[.pointer none, .bool false]) w := by kernel_rfl
theorem as_139 (a : Addr) (w : World) : (Instr.typeAssert (.iface 139 (.pointer (some a))) 68 139 true).run Try.prog w = .ok (.tuple #[.pointer (some a), .bool true]) w := by kernel_rfl

/-- a list of compound selectors as a slice shows it -/
def CompRow (w : World) (a : Option Addr) (n : Nat) (D : Nat → Bool) : Prop :=
  0 < n → ∃ B off, a = some ⟨B, off, none⟩ ∧ B < w.heap.size ∧ ∀ i, i < n → ∃ g m h, w.cell? ⟨B, off + i * 6, none⟩ = some (.pointer none) ∧ w.cell? ⟨B, off + i * 6 + 1, none⟩ = some (.slice (some ⟨g, 0, none⟩) m m) ∧ w.cell? ⟨B, off + i * 6 + 2, none⟩ = some (.slice none 0 0) ∧ w.cell? ⟨B, off + i * 6 + 3, none⟩ = some (.int .i32 0)
    ∧ w.cell? ⟨B, off + i * 6 + 4, none⟩ = some (.int .u8 0) ∧ w.cell? ⟨B, off + i * 6 + 5, none⟩ = some (.bool false) ∧ m ≤ 3 ∧ Comp w g m h ∧ (D i = true ↔ ∃ q, q < m ∧ h q = true)
structure Lo (w0 : World) (n : Nat) (D : Nat → Bool) (vi : Value) (w : World) : Prop where
  ex : ∃ i : Nat, i ≤ n ∧ vi = .int .i64 (i : Int) ∧ ∀ j, j < i → D j = false
  below : Below w0.heap.size w0 w
structure DeadRes (w0 : World) (n : Nat) (D : Nat → Bool) (e : Ending) (w : World) : Prop where
  ex : ∃ b, e = .returned (.bool b) ∧ (b = true ↔ ∃ i, i < n ∧ D i = true)
  below : Below w0.heap.size w0 w
attribute [local go_sem] as_135 as_139
set_option maxRecDepth 20000 in
set_option maxHeartbeats 4000000 in
theorem dead33 (a : Option Addr) (n c : Nat) (D : Nat → Bool) (w : World) (hn : n ≤ 65536) (hr : CompRow w a n D) :
    Calls Try.prog 33 #[.slice a n c] w fun e w' => DeadRes w n D e w' := by
  have HR := Lib.hid hr
  clear hr
  have HL := Lib.hid (show Lo w n D (.int .i64 0) w from ⟨⟨0, by omega, rfl, fun j h => by omega⟩, Below.refl _ _⟩)
  go_enter Try.func33, Try.ntmps33
  go_wp2_with fail
  go_loopw [11] (fun vi wr => Lo w n D vi wr) (fun vi _ => n - (intOf vi).toNat)
  case atStart => exact HL.out
  case round =>
    obtain ⟨i, hi, rfl, hD⟩ := hrel.ex
    have HB := Lib.hid hrel.below
    have HD := Lib.hid hD
    clear hrel HL hD
    by_cases hlt : i < n
    · obtain ⟨B, off, rfl, hB, hcs⟩ := HR.out (by omega)
      obtain ⟨g, m, h, a0, a1, a2, a3, a4, a5, hm, hC, hd⟩ := hcs i hlt
      have hsz := HB.out.size
      have cell : ∀ o, wr.cell? ⟨B, o, none⟩ = w.cell? ⟨B, o, none⟩ := fun o => HB.out.cell (p := ⟨B, o, none⟩) hB
      rw [← cell] at a0 a1 a2 a3 a4 a5
      have HC := Lib.hid hC
      have HDD := Lib.hid hd
      clear hC hd hcs cell
      go_wp2_with fail
      go_loopw [18] (fun vq wq => Lo w m h vq wq) (fun vq _ => m - (intOf vq).toNat)
      case atStart =>
        exact ⟨⟨0, by omega, rfl, fun j h => by omega⟩, HB.out.alloc hsz _⟩
      case round =>
        obtain ⟨q, hq, rfl, hH⟩ := hrel.ex
        have HB2 := Lib.hid hrel.below
        have HH := Lib.hid hH
        clear hrel hH
        by_cases hlq : q < m
        · obtain ⟨cur, hg, hs, hsub⟩ := HC.out
          obtain ⟨T, b, e0, e1, e2, hv⟩ := hsub q hlq
          have hgl : g < w.heap.size := (Array.getElem?_eq_some_iff.1 hg).1
          have hsz2 := HB2.out.size
          have rd : ∀ (t : Nat) (v : Value), cur.toList[q * 3 + t]? = some v → wr.cell? ⟨g, q * 3 + t, none⟩ = some v := by
            intro t v hv
            rw [HB2.out.cell (p := ⟨g, q * 3 + t, none⟩) hgl]
            simp only [Array.getElem?_toList] at hv
            simp [World.cell?, hg, hv]
          have d0 := rd 0 _ e0
          have d1 := rd 1 _ e1
          have d2 := rd 2 _ e2
          simp only [Nat.add_zero] at d0
          clear rd e0 e1 e2 hsub hs hg
          have nx : h q = false → ∀ j, j < q + 1 → h j = false := by
            intro hf j hj
            by_cases e : j = q
            · rw [e]; exact hf
            · exact HH.out j (by omega)
          have NX := Lib.hid nx
          clear nx
          rcases hv with ⟨rfl, hf, cs, hcs⟩ | ⟨rfl, s, l, c', s1, s2, k, hcs, hf⟩
          · clear hcs
            go_wp2_with fail
            go_roundw
            case rel => exact ⟨⟨q + 1, by omega, by go_num, NX.out hf⟩, HB2.out.alloc hsz2 _⟩
            case measure => simp [intOf]; omega
          · have hbl : b < w.heap.size := (Array.getElem?_eq_some_iff.1 hcs).1
            have hbl2 : b < wr.heap.size := by omega
            have f0 : wr.cell? ⟨b, 0, none⟩ = some (.slice s l c') := by rw [HB2.out.cell (p := ⟨b, 0, none⟩) hbl]; simp [World.cell?, hcs]
            have f3 : wr.cell? ⟨b, 3, none⟩ = some (.int .u8 k) := by rw [HB2.out.cell (p := ⟨b, 3, none⟩) hbl]; simp [World.cell?, hcs]
            clear hcs
            by_cases hl : l = 0
            · subst hl
              by_cases hk2 : k = 2
              · subst hk2
                have hf : h q = true := by rw [hf]; rfl
                go_wp2_with fail
                go_ret
                exact ⟨⟨true, rfl, by constructor <;> intro _; exact ⟨i, hlt, HDD.out.2 ⟨q, hlq, hf⟩⟩; rfl⟩, HB2.out.alloc hsz2 _⟩
              · by_cases hk9 : k = 9
                · subst hk9
                  have hf : h q = true := by rw [hf]; rfl
                  go_wp2_with fail
                  go_ret
                  exact ⟨⟨true, rfl, by constructor <;> intro _; exact ⟨i, hlt, HDD.out.2 ⟨q, hlq, hf⟩⟩; rfl⟩, HB2.out.alloc hsz2 _⟩
                · have hf : h q = false := by rw [hf]; simp [hk2, hk9]
                  have t2 : (k == 2) = false := by simp [hk2]
                  have t9 : (k == 9) = false := by simp [hk9]
                  have HF := Lib.hid hf
                  clear hf
                  go_wp2_with fail
                  go_roundw
                  case rel => exact ⟨⟨q + 1, by omega, by go_num, NX.out HF.out⟩, HB2.out.alloc hsz2 _⟩
                  case measure => simp [intOf]; omega
            · have hf : h q = false := by rw [hf]; simp [hl]
              have hl1 : ((l : Int) == 0) = false := by simp; omega
              have hl2 : ¬ (l : Int) = 0 := by omega
              have HF := Lib.hid hf
              clear hf
              go_wp2_with fail
              go_roundw
              case rel => exact ⟨⟨q + 1, by omega, by go_num, NX.out HF.out⟩, HB2.out.alloc hsz2 _⟩
              case measure => simp [intOf]; omega
        · have e : q = m := by omega
          subst e
          have hDi : D i = false := by
            cases hd : D i with
            | false => rfl
            | true =>
              obtain ⟨q', h1, h2⟩ := HDD.out.1 hd
              rw [HH.out q' h1] at h2
              cases h2
          have HI := Lib.hid hDi
          clear hDi
          go_wp2_with fail
          go_roundw
          case rel =>
            refine ⟨⟨i + 1, by omega, by go_num, fun j hj => ?_⟩, HB2.out⟩
            by_cases e : j = i
            · rw [e]; exact HI.out
            · exact HD.out j (by omega)
          case measure => simp [intOf]; omega
    · have e : i = n := by omega
      subst e
      go_wp2_with fail
      go_ret
      exact ⟨⟨false, rfl, by constructor; (intro h; cases h); (rintro ⟨j, hj, hd⟩; rw [HD.out j hj] at hd; cases hd)⟩, HB.out⟩
end Go.Proofs.Ytlhcgnlbhncfkaa
