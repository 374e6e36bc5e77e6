/-
  The walk of the law, first part. Conditions: the shapes of the lists; the library's tables as they are laid.
-/
import Derived.Test.YtlpjejnfniiilaaDoorBd
import Derived.Deep.DeepCutAuto
import Derived.BigRegion
namespace Go.Proofs.YtlpjejnfniiilaaDoor
open Go.ChangeShapes Go.WideShapes Go.ChangeAt Go.RowKit Go.Lib

/-- the class of the i-th token -/
def clA (z0 : List Int) (z1 : List ByteArray) (z2 : List Int) (i : Nat) : Cls := clsOf (kd (z0.getD i 0)) (z1.getD i ByteArray.empty) (z2.getD i 0).toNat
/-- folded so far -/
def fwd (c : Nat → Cls) (t : Trk) (k : Nat) : Trk := t.fold ((List.range k).map c)
theorem fwd_zero (c : Nat → Cls) (t : Trk) : fwd c t 0 = t := rfl
theorem fwd_succ (c : Nat → Cls) (t : Trk) (k : Nat) : fwd c t (k + 1) = (fwd c t k).inc (c k) := by
  simp [fwd, Trk.fold, List.range_succ]
theorem fwd_le (c : Nat → Cls) (t : Trk) (h : t.s ≤ 2) (k : Nat) : (fwd c t k).s ≤ 2 := by
  induction k with
  | zero => exact h
  | succ k ih => rw [fwd_succ]; exact inc_le ih
def OffOk (k : Nat) (z1 : List ByteArray) (z2 : List Int) : Prop := ∀ i, i < k → z2.getD i 0 ≤ ((z1.getD i ByteArray.empty).size : Int)
theorem OffOk.next {k : Nat} {z1 : List ByteArray} {z2 : List Int} (h : OffOk k z1 z2) (hk : z2.getD k 0 ≤ ((z1.getD k ByteArray.empty).size : Int)) : OffOk (k + 1) z1 z2 := by
  intro i hi
  by_cases e : i = k
  · subst e; exact hk
  · exact h i (by omega)

theorem wf_u16 {x : Int} (h : (Lit.int .u16 x).wf = true) : 0 ≤ x ∧ x ≤ 65535 := by
  simp [Lit.wf, IntKind.min, IntKind.max, IntKind.signed, IntKind.bits] at h
  omega
theorem wf_u8 {x : Int} (h : (Lit.int .u8 x).wf = true) : 0 ≤ x ∧ x ≤ 255 := by
  simp [Lit.wf, IntKind.min, IntKind.max, IntKind.signed, IntKind.bits] at h
  omega

/-- the copies -/
structure Rws (a0 a1 a2 : Option Addr) (l0 l1 l2 : Nat) (z0 : List Int) (z1 : List ByteArray) (z2 : List Int) (w : World) : Prop where
  r0 : Row .u8 w a0 l0 z0
  r1 : RowT w a1 l1 z1
  r2 : Row .u16 w a2 l2 z2
  t : Tabs w
theorem Rws.below {a0 a1 a2 : Option Addr} {l0 l1 l2 : Nat} {z0 : List Int} {z1 : List ByteArray} {z2 : List Int} {w w' : World} (h : Rws a0 a1 a2 l0 l1 l2 z0 z1 z2 w) (hb : Below w.heap.size w w') : Rws a0 a1 a2 l0 l1 l2 z0 z1 z2 w' :=
  ⟨h.r0.below (Nat.le_refl _) hb, h.r1.below (Nat.le_refl _) hb, h.r2.below (Nat.le_refl _) hb, h.t.below hb⟩

structure L2 (c : Nat → Cls) (x : Trk) (m : Nat) (w1 : World) (i u s : Value) (wr : World) : Prop where
  ex : ∃ k, k ≤ m ∧ i = .int .i64 k ∧ u = .string (fwd c x k).u ∧ s = .int .u8 (fwd c x k).s ∧ Below w1.heap.size w1 wr

structure L3 (c : Nat → Cls) (x : Trk) (m : Nat) (w1 : World) (i u s : Value) (wr : World) : Prop where
  ex : ∃ k : Nat, k ≤ m ∧ i = .int .i64 ((m : Int) - 1 - k) ∧ u = .string (fwd c x k).u ∧ s = .int .u8 (fwd c x k).s ∧ Below w1.heap.size w1 wr

theorem law7 (c : Nat → Cls) (m : Nat) : (fwd c ⟨⟨#[]⟩, 0⟩ m).s = (fwd (fun t => c (m - 1 - t)) ⟨⟨#[]⟩, 0⟩ m).s ∧ ((fwd c ⟨⟨#[]⟩, 0⟩ m).s = 1 → (fwd c ⟨⟨#[]⟩, 0⟩ m).u = (fwd (fun t => c (m - 1 - t)) ⟨⟨#[]⟩, 0⟩ m).u) ∧ fwd c (fwd c ⟨⟨#[]⟩, 0⟩ m) m = fwd c ⟨⟨#[]⟩, 0⟩ m := by
  refine Trk.law ⟨#[]⟩ ((List.range m).map c) ((List.range m).map (fun t => c (m - 1 - t))) (fun d => ?_)
  simp only [List.mem_map, List.mem_range]
  constructor
  · rintro ⟨a, ha, rfl⟩
    exact ⟨m - 1 - a, by omega, rfl⟩
  · rintro ⟨a, ha, rfl⟩
    exact ⟨m - 1 - a, by omega, by rw [show m - 1 - (m - 1 - a) = a by omega]⟩

set_option maxRecDepth 20000 in
set_option maxHeartbeats 4000000 in
theorem walk3 (a0 : Option Addr) (l0 c0 : Nat) (z0 : List Int) (a1 : Option Addr) (l1 c1 : Nat) (z1 : List ByteArray) (a2 : Option Addr) (l2 c2 : Nat) (z2 : List Int) (w : World)
    (w0 : IsRow .u8 w a0 l0 c0 z0) (w1 : IsStrs w a1 l1 c1 z1) (w2 : IsRow .u16 w a2 l2 c2 z2) (hT : Tabs w) :
    Calls Tryd.prog 3 #[.slice a0 l0 c0, .slice a1 l1 c1, .slice a2 l2 c2] w fun e w' => e = .returned (.bool true) ∧ Below w.heap.size w w' := by
  obtain ⟨r0, m0⟩ := w0.row
  obtain ⟨r1, m1⟩ := w1.row
  obtain ⟨r2, m2⟩ := w2.row
  have HR := Go.Lib.hid (Rws.mk r0 r1 r2 hT)
  have h5 := bytes5 a0 a1 a2 l0 l1 l2 c0 c1 c2 z1 w m0 m1 m2 r1
  have h6 := fun h hs => texts6 a1 l1 c1 z1 w h r1 hs
  have H6 := Go.Lib.hid h6
  clear w0 w1 w2 r0 r1 r2 hT h6
  simp only [maxLen] at m0 m1 m2
  go_enter Tryd.func3, Tryd.ntmps3
  go_wp2_with fail
  refine h5.mono ?_
  rintro e wx ⟨b, rfl, hw, hsh⟩
  obtain rfl := hw.symm
  clear hw h5
  cases b with
  | false =>
    go_wp2_with fail
    go_ret
    exact ⟨rfl, Below.refl _ _⟩
  | true =>
    have hsh := hsh rfl
    by_cases g0 : l0 ≤ 65536
    case neg =>
      clear HR H6 hsh
      go_wp2_with fail
      go_ret
      exact ⟨rfl, Below.refl _ _⟩
    by_cases g1 : l1 ≤ 65536
    case neg =>
      clear HR H6 hsh
      go_wp2_with fail
      go_ret
      exact ⟨rfl, Below.refl _ _⟩
    by_cases g2 : l2 ≤ 65536
    case neg =>
      clear HR H6 hsh
      go_wp2_with fail
      go_ret
      exact ⟨rfl, Below.refl _ _⟩
    have h6 := H6.out g1 hsh
    have HS := Go.Lib.hid hsh
    clear H6 hsh
    go_wp2_with fail
    refine h6.mono ?_
    rintro e wx ⟨t, rfl, hw, ht⟩
    obtain rfl := hw.symm
    clear hw h6
    by_cases g3 : l0 + 2 * l2 + t ≤ 1048576
    case neg =>
      clear HR HS
      go_wp2_with fail
      go_ret
      exact ⟨rfl, Below.refl _ _⟩
    go_upto_if 54 with fail
    go_cut [7] (fun v wx => wx = w ∧ ∃ m : Nat, m ≤ l0 ∧ m ≤ l1 ∧ v = .int .i64 m)
    case first =>
      by_cases h : l1 < l0
      · go_wp2_with fail
        go_meet
        exact ⟨rfl, l1, by omega, by omega, rfl⟩
      · go_wp2_with fail
        go_meet
        exact ⟨rfl, l0, by omega, by omega, rfl⟩
    case rest =>
    obtain ⟨hwc, m', hm0', hm1', rfl⟩ := ‹_ ∧ ∃ m : Nat, _›
    obtain rfl := hwc.symm
    clear hwc
    go_upto_if 60 with fail
    go_cut [7] (fun v wx => wx = w ∧ ∃ m : Nat, m ≤ l0 ∧ m ≤ l1 ∧ m ≤ l2 ∧ v = .int .i64 m)
    case first =>
      by_cases h : l2 < m'
      · go_wp2_with fail
        go_meet
        exact ⟨rfl, l2, by omega, by omega, by omega, rfl⟩
      · go_wp2_with fail
        go_meet
        exact ⟨rfl, m', by omega, by omega, by omega, rfl⟩
    case rest =>
    obtain ⟨hwc, m, hm0, hm1, hm2, rfl⟩ := ‹_ ∧ ∃ m : Nat, _›
    obtain rfl := hwc.symm
    clear hwc
    go_wp2_with fail
    go_loopw [8] (fun i wr => ∃ k q : Nat, k ≤ m ∧ i = .int .i64 k ∧ wr = w.drewN q ∧ OffOk k z1 z2) (fun i _ => m - (intOf i).toNat)
    case atStart => exact ⟨0, 0, by omega, rfl, rfl, fun i hi => by omega⟩
    case round =>
      obtain ⟨k, q, hk, rfl, rfl, hu⟩ := hrel
      by_cases hlt : k < m
      · obtain ⟨b1, o1, rfl, hb1, hc1⟩ := HR.out.r1.cell (by omega)
        obtain ⟨b2, o2, rfl, hb2, hc2⟩ := HR.out.r2.cell (by omega)
        have q1 := hc1 k (by omega)
        have q2 := hc2 k (by omega)
        obtain ⟨x2, y2⟩ := wf_u16 (HR.out.r2.wf k (by omega))
        have ws := HS.out k (by omega)
        unfold tz at ws
        have HN := Go.Lib.hid (fun a => hu.next (z1 := z1) (z2 := z2) (k := k) a)
        clear hc1 hc2 hu hsh
        generalize z2.getD k 0 = X2 at *
        generalize z1.getD k ByteArray.empty = X1 at *
        by_cases p2 : X2 ≤ (X1.size : Int)
        · go_wp2_with fail
          go_quiet (fail)
          go_wp2_with fail
          go_roundw
          case rel => exact ⟨k + 1, _, by omega, by go_num, by first | rfl | rw [World.drewN_drewN], HN.out p2⟩
          case measure => simp [intOf]; omega
        · go_wp2_with fail
          go_quiet (fail)
          go_wp2_with fail
          go_ret
          refine ⟨rfl, ?_⟩
          first | exact below_drewN (Below.refl _ _) _ | exact below_drewN (below_drewN (Below.refl _ _) _) _
      · obtain rfl : m = k := by omega
        have HO := Go.Lib.hid hu
        have hB := below_drewN (Below.refl w.heap.size w) q
        have hR := HR.out.below hB
        clear hu hsh HR
        generalize w.drewN q = W at *
        have c7 := copy7 a0 l0 c0 z0 W (by omega) hR.r0
        have HR := Go.Lib.hid hR
        clear hR
        go_wp2_with fail
        refine c7.mono ?_
        rintro e W1 ⟨a0', rfl, r0, hb1⟩
        have hsz := hB.size
        have hR1 := HR.out.below hb1
        have hB1 := hB.trans (hb1.mono hsz)
        have c8 := copy8 a1 l1 c1 z1 W1 (by omega) hR1.r1
        have HR1 := Go.Lib.hid (Rws.mk r0 hR1.r1 hR1.r2 hR1.t)
        clear hR1 HR c7 r0
        go_wp2_with fail
        refine c8.mono ?_
        rintro e W2 ⟨a1', rfl, r1, hb2⟩
        have hsz1 := hB1.size
        have hR2 := HR1.out.below hb2
        have hB2 := hB1.trans (hb2.mono hsz1)
        have c9 := copy9 a2 l2 c2 z2 W2 (by omega) hR2.r2
        have HR2 := Go.Lib.hid (Rws.mk hR2.r0 r1 hR2.r2 hR2.t)
        clear hR2 HR1 c8 r1
        go_wp2_with fail
        refine c9.mono ?_
        rintro e W3 ⟨a2', rfl, r2, hb3⟩
        have hsz2 := hB2.size
        have hR3 := HR2.out.below hb3
        have hB3 := hB2.trans (hb3.mono hsz2)
        have HR3 := Go.Lib.hid (Rws.mk hR3.r0 hR3.r1 r2 hR3.t)
        have HB3 := Go.Lib.hid hB3
        clear hR3 HR2 c9 r2 hb1 hb2 hb3 hB hB1 hB2 hB3 hsz hsz1 hsz2
        have hm : OffOk m z1 z2 := HO.out
        have hpack : ∀ i, i < m → ∀ wr, Below W3.heap.size W3 wr → ∃ b0 o0 b1 o1 b2 o2 X0 X1 X2, a0' = some ⟨b0, o0, none⟩ ∧ a1' = some ⟨b1, o1, none⟩ ∧ a2' = some ⟨b2, o2, none⟩ ∧ b0 < wr.heap.size ∧ b1 < wr.heap.size ∧ b2 < wr.heap.size ∧
            wr.cell? ⟨b0, o0 + i, none⟩ = some (.int .u8 X0) ∧ wr.cell? ⟨b1, o1 + i, none⟩ = some (.string X1) ∧ wr.cell? ⟨b2, o2 + i, none⟩ = some (.int .u16 (X2 : Nat)) ∧
            0 ≤ X0 ∧ X0 ≤ 255 ∧ X1.size ≤ 1048576 ∧ X2 ≤ X1.size ∧ clA z0 z1 z2 i = clsOf (kd X0) X1 X2 := by
          intro i hi wr hb
          have hR := HR3.out.below hb
          obtain ⟨b0, o0, e0, y0, d0⟩ := hR.r0.cell (by omega)
          obtain ⟨b1, o1, e1, y1, d1⟩ := hR.r1.cell (by omega)
          obtain ⟨b2, o2, e2, y2, d2⟩ := hR.r2.cell (by omega)
          have x0 := wf_u8 (hR.r0.wf i (by omega))
          have x2 := wf_u16 (hR.r2.wf i (by omega))
          have ws := HS.out i (by omega)
          have hoff := hm i hi
          unfold tz at ws
          refine ⟨b0, o0, b1, o1, b2, o2, z0.getD i 0, z1.getD i ByteArray.empty, (z2.getD i 0).toNat, e0, e1, e2, y0, y1, y2, d0 i (by omega), d1 i (by omega), ?_, x0.1, x0.2, ws, by omega, rfl⟩
          rw [show (((z2.getD i 0).toNat : Nat) : Int) = z2.getD i 0 by omega]
          exact d2 i (by omega)
        have HP := Go.Lib.hid hpack
        have HTs := Go.Lib.hid HR3.out.t
        clear hpack hm HR3 HO HS
        go_wp2_with fail
        go_loopw [11, 10, 9] (fun i u s wr => L2 (clA z0 z1 z2) ⟨⟨#[]⟩, 0⟩ m W3 i u s wr) (fun i _ _ _ => m - (intOf i).toNat)
        case atStart => exact ⟨0, by omega, rfl, rfl, rfl, Below.refl _ _⟩
        case round =>
          obtain ⟨k, hk, rfl, rfl, rfl, hbw⟩ := hrel.ex
          clear hrel
          by_cases hlt : k < m
          · clear HB3
            obtain ⟨b0, o0, b1, o1, b2, o2, X0, X1, X2, rfl, rfl, rfl, y0, y1, y2, d0, d1, d2, x0, x0', x1, x2, hc⟩ := HP.out k hlt wr hbw
            have HW := Go.Lib.hid hbw
            have hk10 := fun w => kind10 X0 w x0 x0'
            have hx := fwd_le (clA z0 z1 z2) ⟨⟨#[]⟩, 0⟩ (by simp) k
            have hsucc := fwd_succ (clA z0 z1 z2) ⟨⟨#[]⟩, 0⟩ k
            rw [hc] at hsucc
            have hTw := fun v => (HTs.out.below hbw).below (((Below.refl _ _).alloc (Nat.le_refl wr.heap.size) (.cells v 39)).drew)
            clear x0 x0' hc
            generalize kd X0 = K0 at *
            have hz := zinc11 K0 X1 X2 (fwd (clA z0 z1 z2) ⟨⟨#[]⟩, 0⟩ k) (wr.alloc (.cells (cells7 K0 X1 X2) 39)).drew x2 x1 (hTw _) hx
            have hBn : Below W3.heap.size W3 (wr.alloc (.cells (cells7 K0 X1 X2) 39)).drew := hbw.trans (((((Below.refl _ _).alloc (Nat.le_refl wr.heap.size) (.cells (cells7 K0 X1 X2) 39)).drew)).mono hbw.size)
            unfold tok cells7 at hz
            unfold cells7 at hBn
            have HZ := Go.Lib.hid hz
            have HBn := Go.Lib.hid hBn
            clear hbw HP HTs hTw hz hBn hx
            go_upto_region 24 with fail
            go_cut [12] (fun v wx => v = .pointer (some ⟨wr.heap.size, 0, none⟩) ∧ wx = (wr.alloc (.cells #[.pointer none, .string X1, .int .i32 0, .int .u32 0, .int .u16 (X2 : Nat), .int .u8 K0, .int .u8 0] 39)).drew)
            case first =>
              rename_i J KK hJ hKK
              have hS : (fun w' => w'.cell? ⟨b0, o0 + k, none⟩ = some (.int .u8 X0) ∧ w'.cell? ⟨b1, o1 + k, none⟩ = some (.string X1) ∧ w'.cell? ⟨b2, o2 + k, none⟩ = some (.int .u16 (X2 : Nat)) ∧ b0 < w'.heap.size ∧ b1 < w'.heap.size ∧ b2 < w'.heap.size ∧ Below W3.heap.size W3 w') wr.drew := ⟨by simpa [go_sem] using d0, by simpa [go_sem] using d1, by simpa [go_sem] using d2, by simpa [go_sem] using y0, by simpa [go_sem] using y1, by simpa [go_sem] using y2, HW.out.drew⟩
              have hN : ∀ v, (fun w' => w'.cell? ⟨b0, o0 + k, none⟩ = some (.int .u8 X0) ∧ w'.cell? ⟨b1, o1 + k, none⟩ = some (.string X1) ∧ w'.cell? ⟨b2, o2 + k, none⟩ = some (.int .u16 (X2 : Nat)) ∧ b0 < w'.heap.size ∧ b1 < w'.heap.size ∧ b2 < w'.heap.size ∧ Below W3.heap.size W3 w') (wr.alloc (.cells v 39)).drew := fun v => by
                have hb : Below wr.heap.size wr (wr.alloc (.cells v 39)).drew := ((Below.refl _ _).alloc (Nat.le_refl _) _).drew
                have hz := hb.size
                exact ⟨by rw [hb.cell (p := ⟨b0, o0 + k, none⟩) y0]; exact d0, by rw [hb.cell (p := ⟨b1, o1 + k, none⟩) y1]; exact d1, by rw [hb.cell (p := ⟨b2, o2 + k, none⟩) y2]; exact d2, by omega, by omega, by omega, HW.out.trans (hb.mono HW.out.size)⟩
              have HSS := Go.Lib.hid hS
              have HN := Go.Lib.hid hN
              have i0 : (k : Int) < (l0 : Int) := by omega
              have i1 : (k : Int) < (l1 : Int) := by omega
              have i2 : (k : Int) < (l2 : Int) := by omega
              have i3 : (0 : Int) ≤ (k : Int) := by omega
              clear hS hN HW d0 d1 d2 y0 y1 y2
              go_region_held3 (fun w' => w'.cell? ⟨b0, o0 + k, none⟩ = some (.int .u8 X0) ∧ w'.cell? ⟨b1, o1 + k, none⟩ = some (.string X1) ∧ w'.cell? ⟨b2, o2 + k, none⟩ = some (.int .u16 (X2 : Nat)) ∧ b0 < w'.heap.size ∧ b1 < w'.heap.size ∧ b2 < w'.heap.size ∧ Below W3.heap.size W3 w')
                (first | exact HSS.out | exact HN.out _)
                (first | (go_at_call 10; refine (hk10 _).mono ?_; rintro e wx ⟨rfl, hwx⟩; obtain rfl := hwx.symm))
              all_goals
                first | refine hKK _ _ (Met.intro (hJ _ _ ?_)) | refine Met.intro (hJ _ _ ?_)
                repeat apply Exists.intro
                refine ⟨⟨rfl, rfl⟩, rfl⟩
            case rest =>
              obtain ⟨rfl, rfl⟩ := ‹_ = Value.pointer _ ∧ _›
              go_wp2_with fail
              generalize (fwd (clA z0 z1 z2) ⟨⟨#[]⟩, 0⟩ k).inc (clsOf K0 X1 X2) = y at *
              refine HZ.out.mono ?_
              rintro e wz ⟨rfl, hbz⟩
              have HF := Go.Lib.hid (HBn.out.trans (hbz.mono HBn.out.size))
              clear hbz HZ HBn
              go_wp2_with fail
              go_roundw
              case rel => exact ⟨k + 1, by omega, by go_num, by rw [hsucc], by rw [hsucc], HF.out⟩
              case measure => simp [intOf] <;> omega
          · obtain rfl : m = k := by omega
            have HT1 := Go.Lib.hid (fwd_le (clA z0 z1 z2) ⟨⟨#[]⟩, 0⟩ (by simp) m)
            obtain ⟨T1, hT1⟩ : ∃ T, T = fwd (clA z0 z1 z2) ⟨⟨#[]⟩, 0⟩ m := ⟨_, rfl⟩
            rw [← hT1] at HT1
            have HQ1 := Go.Lib.hid hT1
            simp only [← hT1]
            clear hT1
            have HW2 := Go.Lib.hid hbw
            clear hbw
            go_wp2_with fail
            go_loopw [15, 14, 13] (fun i u s wr => L3 (fun t => clA z0 z1 z2 (m - 1 - t)) ⟨⟨#[]⟩, 0⟩ m W3 i u s wr) (fun i _ _ _ => (intOf i + 1).toNat)
            case atStart => exact ⟨0, by omega, by first | rfl | (congr 1; omega), rfl, rfl, HW2.out⟩
            case round =>
              clear HW2
              obtain ⟨k, hk, rfl, rfl, rfl, hbw⟩ := hrel.ex
              clear hrel
              by_cases hlt : k < m
              · obtain ⟨j, hj⟩ : ∃ j : Nat, (j : Int) = (m : Int) - 1 - k := ⟨m - 1 - k, by omega⟩
                have hjm : j < m := by omega
                rw [← hj]
                clear HB3 HQ1
                obtain ⟨b0, o0, b1, o1, b2, o2, X0, X1, X2, rfl, rfl, rfl, y0, y1, y2, d0, d1, d2, x0, x0', x1, x2, hc⟩ := HP.out j hjm wr hbw
                have HW := Go.Lib.hid hbw
                have hk10 := fun w => kind10 X0 w x0 x0'
                have hx := fwd_le (fun t => clA z0 z1 z2 (m - 1 - t)) ⟨⟨#[]⟩, 0⟩ (by simp) k
                have hsucc := fwd_succ (fun t => clA z0 z1 z2 (m - 1 - t)) ⟨⟨#[]⟩, 0⟩ k
                rw [show clA z0 z1 z2 (m - 1 - k) = clA z0 z1 z2 j by rw [show m - 1 - k = j by omega]] at hsucc
                rw [hc] at hsucc
                have hTw := fun v => (HTs.out.below hbw).below (((Below.refl _ _).alloc (Nat.le_refl wr.heap.size) (.cells v 39)).drew)
                clear x0 x0' hc
                generalize kd X0 = K0 at *
                have hz := zinc11 K0 X1 X2 (fwd (fun t => clA z0 z1 z2 (m - 1 - t)) ⟨⟨#[]⟩, 0⟩ k) (wr.alloc (.cells (cells7 K0 X1 X2) 39)).drew x2 x1 (hTw _) hx
                have hBn : Below W3.heap.size W3 (wr.alloc (.cells (cells7 K0 X1 X2) 39)).drew := hbw.trans (((((Below.refl _ _).alloc (Nat.le_refl wr.heap.size) (.cells (cells7 K0 X1 X2) 39)).drew)).mono hbw.size)
                unfold tok cells7 at hz
                unfold cells7 at hBn
                have HZ := Go.Lib.hid hz
                have HBn := Go.Lib.hid hBn
                clear hbw HP HTs hTw hz hBn hx
                have HJ := Go.Lib.hid hj
                clear hj
                go_upto_region 30 with fail
                go_cut [16] (fun v wx => v = .pointer (some ⟨wr.heap.size, 0, none⟩) ∧ wx = (wr.alloc (.cells #[.pointer none, .string X1, .int .i32 0, .int .u32 0, .int .u16 (X2 : Nat), .int .u8 K0, .int .u8 0] 39)).drew)
                case first =>
                  rename_i J KK hJ hKK
                  have hS : (fun w' => w'.cell? ⟨b0, o0 + j, none⟩ = some (.int .u8 X0) ∧ w'.cell? ⟨b1, o1 + j, none⟩ = some (.string X1) ∧ w'.cell? ⟨b2, o2 + j, none⟩ = some (.int .u16 (X2 : Nat)) ∧ b0 < w'.heap.size ∧ b1 < w'.heap.size ∧ b2 < w'.heap.size ∧ Below W3.heap.size W3 w') wr.drew := ⟨by simpa [go_sem] using d0, by simpa [go_sem] using d1, by simpa [go_sem] using d2, by simpa [go_sem] using y0, by simpa [go_sem] using y1, by simpa [go_sem] using y2, HW.out.drew⟩
                  have hN : ∀ v, (fun w' => w'.cell? ⟨b0, o0 + j, none⟩ = some (.int .u8 X0) ∧ w'.cell? ⟨b1, o1 + j, none⟩ = some (.string X1) ∧ w'.cell? ⟨b2, o2 + j, none⟩ = some (.int .u16 (X2 : Nat)) ∧ b0 < w'.heap.size ∧ b1 < w'.heap.size ∧ b2 < w'.heap.size ∧ Below W3.heap.size W3 w') (wr.alloc (.cells v 39)).drew := fun v => by
                    have hb : Below wr.heap.size wr (wr.alloc (.cells v 39)).drew := ((Below.refl _ _).alloc (Nat.le_refl _) _).drew
                    have hz := hb.size
                    exact ⟨by rw [hb.cell (p := ⟨b0, o0 + j, none⟩) y0]; exact d0, by rw [hb.cell (p := ⟨b1, o1 + j, none⟩) y1]; exact d1, by rw [hb.cell (p := ⟨b2, o2 + j, none⟩) y2]; exact d2, by omega, by omega, by omega, HW.out.trans (hb.mono HW.out.size)⟩
                  have HSS := Go.Lib.hid hS
                  have HN := Go.Lib.hid hN
                  have i0 : (j : Int) < (l0 : Int) := by omega
                  have i1 : (j : Int) < (l1 : Int) := by omega
                  have i2 : (j : Int) < (l2 : Int) := by omega
                  have i3 : (0 : Int) ≤ (j : Int) := by omega
                  clear hS hN HW d0 d1 d2 y0 y1 y2
                  go_region_held3 (fun w' => w'.cell? ⟨b0, o0 + j, none⟩ = some (.int .u8 X0) ∧ w'.cell? ⟨b1, o1 + j, none⟩ = some (.string X1) ∧ w'.cell? ⟨b2, o2 + j, none⟩ = some (.int .u16 (X2 : Nat)) ∧ b0 < w'.heap.size ∧ b1 < w'.heap.size ∧ b2 < w'.heap.size ∧ Below W3.heap.size W3 w')
                    (first | exact HSS.out | exact HN.out _)
                    (first | (go_at_call 10; refine (hk10 _).mono ?_; rintro e wx ⟨rfl, hwx⟩; obtain rfl := hwx.symm))
                  all_goals
                    first | refine hKK _ _ (Met.intro (hJ _ _ ?_)) | refine Met.intro (hJ _ _ ?_)
                    repeat apply Exists.intro
                    refine ⟨⟨rfl, rfl⟩, rfl⟩
                case rest =>
                  obtain ⟨rfl, rfl⟩ := ‹_ = Value.pointer _ ∧ _›
                  go_wp2_with fail
                  generalize (fwd (fun t => clA z0 z1 z2 (m - 1 - t)) ⟨⟨#[]⟩, 0⟩ k).inc (clsOf K0 X1 X2) = y at *
                  refine HZ.out.mono ?_
                  rintro e wz ⟨rfl, hbz⟩
                  have HF := Go.Lib.hid (HBn.out.trans (hbz.mono HBn.out.size))
                  clear hbz HZ HBn
                  go_wp2_with fail
                  go_roundw
                  case rel => exact ⟨k + 1, by omega, congrArg (Value.int .i64) (by have hj := HJ.out; first | omega | (simp; omega)), by rw [hsucc], by rw [hsucc], HF.out⟩
                  case measure => have hj := HJ.out; simp [intOf] <;> omega
              · obtain rfl : m = k := by omega
                obtain ⟨T2, hT2⟩ : ∃ T, T = fwd (fun t => clA z0 z1 z2 (m - 1 - t)) ⟨⟨#[]⟩, 0⟩ m := ⟨_, rfl⟩
                have HQ2 := Go.Lib.hid hT2
                simp only [← hT2]
                clear hT2
                have HW2 := Go.Lib.hid hbw
                clear hbw
                have hm1 : ((m : Int) - 1 - m) = -1 := by omega
                rw [hm1]
                go_wp2_with fail
                go_loopw [19, 18, 17] (fun i u s wr => L2 (clA z0 z1 z2) T1 m W3 i u s wr) (fun i _ _ _ => m - (intOf i).toNat)
                case atStart => exact ⟨0, by omega, rfl, rfl, rfl, HW2.out⟩
                case round =>
                  clear HW2
                  obtain ⟨k, hk, rfl, rfl, rfl, hbw⟩ := hrel.ex
                  clear hrel
                  by_cases hlt : k < m
                  · clear HB3 HQ1 HQ2
                    obtain ⟨b0, o0, b1, o1, b2, o2, X0, X1, X2, rfl, rfl, rfl, y0, y1, y2, d0, d1, d2, x0, x0', x1, x2, hc⟩ := HP.out k hlt wr hbw
                    have HW := Go.Lib.hid hbw
                    have hk10 := fun w => kind10 X0 w x0 x0'
                    have hx := fwd_le (clA z0 z1 z2) T1 HT1.out k
                    have hsucc := fwd_succ (clA z0 z1 z2) T1 k
                    rw [hc] at hsucc
                    have hTw := fun v => (HTs.out.below hbw).below (((Below.refl _ _).alloc (Nat.le_refl wr.heap.size) (.cells v 39)).drew)
                    clear x0 x0' hc
                    generalize kd X0 = K0 at *
                    have hz := zinc11 K0 X1 X2 (fwd (clA z0 z1 z2) T1 k) (wr.alloc (.cells (cells7 K0 X1 X2) 39)).drew x2 x1 (hTw _) hx
                    have hBn : Below W3.heap.size W3 (wr.alloc (.cells (cells7 K0 X1 X2) 39)).drew := hbw.trans (((((Below.refl _ _).alloc (Nat.le_refl wr.heap.size) (.cells (cells7 K0 X1 X2) 39)).drew)).mono hbw.size)
                    unfold tok cells7 at hz
                    unfold cells7 at hBn
                    have HZ := Go.Lib.hid hz
                    have HBn := Go.Lib.hid hBn
                    clear hbw HP HTs hTw hz hBn hx
                    go_upto_region 36 with fail
                    go_cut [20] (fun v wx => v = .pointer (some ⟨wr.heap.size, 0, none⟩) ∧ wx = (wr.alloc (.cells #[.pointer none, .string X1, .int .i32 0, .int .u32 0, .int .u16 (X2 : Nat), .int .u8 K0, .int .u8 0] 39)).drew)
                    case first =>
                      rename_i J KK hJ hKK
                      have hS : (fun w' => w'.cell? ⟨b0, o0 + k, none⟩ = some (.int .u8 X0) ∧ w'.cell? ⟨b1, o1 + k, none⟩ = some (.string X1) ∧ w'.cell? ⟨b2, o2 + k, none⟩ = some (.int .u16 (X2 : Nat)) ∧ b0 < w'.heap.size ∧ b1 < w'.heap.size ∧ b2 < w'.heap.size ∧ Below W3.heap.size W3 w') wr.drew := ⟨by simpa [go_sem] using d0, by simpa [go_sem] using d1, by simpa [go_sem] using d2, by simpa [go_sem] using y0, by simpa [go_sem] using y1, by simpa [go_sem] using y2, HW.out.drew⟩
                      have hN : ∀ v, (fun w' => w'.cell? ⟨b0, o0 + k, none⟩ = some (.int .u8 X0) ∧ w'.cell? ⟨b1, o1 + k, none⟩ = some (.string X1) ∧ w'.cell? ⟨b2, o2 + k, none⟩ = some (.int .u16 (X2 : Nat)) ∧ b0 < w'.heap.size ∧ b1 < w'.heap.size ∧ b2 < w'.heap.size ∧ Below W3.heap.size W3 w') (wr.alloc (.cells v 39)).drew := fun v => by
                        have hb : Below wr.heap.size wr (wr.alloc (.cells v 39)).drew := ((Below.refl _ _).alloc (Nat.le_refl _) _).drew
                        have hz := hb.size
                        exact ⟨by rw [hb.cell (p := ⟨b0, o0 + k, none⟩) y0]; exact d0, by rw [hb.cell (p := ⟨b1, o1 + k, none⟩) y1]; exact d1, by rw [hb.cell (p := ⟨b2, o2 + k, none⟩) y2]; exact d2, by omega, by omega, by omega, HW.out.trans (hb.mono HW.out.size)⟩
                      have HSS := Go.Lib.hid hS
                      have HN := Go.Lib.hid hN
                      have i0 : (k : Int) < (l0 : Int) := by omega
                      have i1 : (k : Int) < (l1 : Int) := by omega
                      have i2 : (k : Int) < (l2 : Int) := by omega
                      have i3 : (0 : Int) ≤ (k : Int) := by omega
                      clear hS hN HW d0 d1 d2 y0 y1 y2
                      go_region_held3 (fun w' => w'.cell? ⟨b0, o0 + k, none⟩ = some (.int .u8 X0) ∧ w'.cell? ⟨b1, o1 + k, none⟩ = some (.string X1) ∧ w'.cell? ⟨b2, o2 + k, none⟩ = some (.int .u16 (X2 : Nat)) ∧ b0 < w'.heap.size ∧ b1 < w'.heap.size ∧ b2 < w'.heap.size ∧ Below W3.heap.size W3 w')
                        (first | exact HSS.out | exact HN.out _)
                        (first | (go_at_call 10; refine (hk10 _).mono ?_; rintro e wx ⟨rfl, hwx⟩; obtain rfl := hwx.symm))
                      all_goals
                        first | refine hKK _ _ (Met.intro (hJ _ _ ?_)) | refine Met.intro (hJ _ _ ?_)
                        repeat apply Exists.intro
                        refine ⟨⟨rfl, rfl⟩, rfl⟩
                    case rest =>
                      obtain ⟨rfl, rfl⟩ := ‹_ = Value.pointer _ ∧ _›
                      go_wp2_with fail
                      generalize (fwd (clA z0 z1 z2) T1 k).inc (clsOf K0 X1 X2) = y at *
                      refine HZ.out.mono ?_
                      rintro e wz ⟨rfl, hbz⟩
                      have HF := Go.Lib.hid (HBn.out.trans (hbz.mono HBn.out.size))
                      clear hbz HZ HBn
                      go_wp2_with fail
                      go_roundw
                      case rel => exact ⟨k + 1, by omega, by go_num, by rw [hsucc], by rw [hsucc], HF.out⟩
                      case measure => simp [intOf] <;> omega
                  · obtain rfl : m = k := by omega
                    have HE := Go.Lib.hid (HB3.out.trans (hbw.mono HB3.out.size))
                    have hlaw := law7 (clA z0 z1 z2) m
                    rw [← HQ1.out, ← HQ2.out] at hlaw
                    obtain ⟨e1, e2, e3⟩ := hlaw
                    simp only [e3]
                    clear e3 HQ1 HQ2 hbw HB3 HP HTs HT1
                    obtain ⟨u1, s1⟩ := T1
                    obtain ⟨u2, s2⟩ := T2
                    simp only at e1 e2
                    subst e1
                    by_cases h1 : s1 = 1
                    · subst h1
                      obtain rfl := e2 rfl
                      go_wp2_with fail
                      go_ret
                      exact ⟨by simp, HE.out⟩
                    · clear e2
                      go_wp2_with fail
                      go_ret
                      exact ⟨by simp, HE.out⟩
end Go.Proofs.YtlpjejnfniiilaaDoor
