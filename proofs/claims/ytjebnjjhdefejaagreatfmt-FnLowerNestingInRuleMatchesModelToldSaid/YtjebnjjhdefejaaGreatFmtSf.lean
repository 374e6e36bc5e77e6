/-
  A style rule lowered, with what it leaves. Conditions: each theorem's own.
-/
import Derived.Test.YtjebnjjhdefejaaGreatFmtSe
namespace Go.Proofs.YtjebnjjhdefejaaGreatFmt
open Go.RowKit Go.Lib Go.ChangeMaps
set_option maxHeartbeats 16000000 in
set_option maxRecDepth 100000 in
theorem low34S (d : Nat) (H : PRemS d) : PLowS d := by
  rintro kids w lo hi b sb sc m x rs u S lw n pb loc out P hH hOS hPO
  have HO := hid (And.intro hOS hPO)
  clear hOS hPO
  have HH := hid hH
  obtain ⟨a0, n0, c0, rfl, hu⟩ : ∃ a0 n0 c0, u = .slice a0 n0 c0 ∧ RowL CpH w S u (us m) := by
    obtain ⟨a, c, e, _⟩ := hH.hu
    exact ⟨a, _, c, e, hH.hu⟩
  obtain ⟨rfl, _⟩ := hu.at'
  obtain ⟨M, hM⟩ : ∃ M, M = (us m).length := ⟨_, rfl⟩
  have hMm : M = m := by rw [hM]; simp
  subst hMm
  rw [← hM] at hH
  have hm1 := hH.m1
  have hmd := hH.md
  have hb0 := hH.hb
  have hs0 := hH.hs
  obtain ⟨W1, hW1⟩ : ∃ X, X = w.alloc (.cells #[.iface 110 (.pointer (some ⟨b, 0, none⟩)), .int .i32 loc] 39) := ⟨_, rfl⟩
  have hw1 : Below w.heap.size w W1 := by rw [hW1]; exact (Below.refl _ _).alloc (Nat.le_refl _) _
  have hbox1 : W1.heap[w.heap.size]? = some (.cells #[.iface 110 (.pointer (some ⟨b, 0, none⟩)), .int .i32 loc] 39 (0, 0)) := by rw [hW1]; exact heap_alloc_new _ _
  have p0 := (hcell hbox1 0 _ rfl).1
  rw [hW1] at p0
  have kb1 := (hw1.block _ (heap_lt hb0)).trans hb0
  have k0 := (hcell kb1 0 _ rfl).1
  obtain ⟨W2, hW2⟩ : ∃ X, X = W1.alloc (mkO (.agg #[.slice none 0 0]) 1 120) := ⟨_, rfl⟩
  have hw2 : Below W1.heap.size W1 W2 := by rw [hW2]; exact (Below.refl _ _).alloc (Nat.le_refl _) _
  have mk1 : (Instr.makeSlice 111 (.int .i64 0) (.int .i64 1)).run Tryz.prog W1 = .ok (.slice (some ⟨W1.heap.size, 0, none⟩) 0 1) W2 := by rw [hW2]; exact mkS0 111 120 _ 1 24 Tryz.underlying111 info_CX (by decide) 1 (by decide) W1
  have ho9 : W2.ownsRow 0 120 1 (.slice (some ⟨W1.heap.size, 0, none⟩) 0 1) 0 [] := by rw [hW2]; exact own_made W1 _ 1 120 1 1 rfl (by decide)
  have kb2 := (hw2.block _ (heap_lt kb1)).trans kb1
  have k02 := (hcell kb2 0 _ rfl).1
  obtain ⟨W3, hW3⟩ : ∃ X, X = W2.alloc (mkO (.agg #[.slice none 0 0]) 1 120) := ⟨_, rfl⟩
  have hw3 : Below W2.heap.size W2 W3 := by rw [hW3]; exact (Below.refl _ _).alloc (Nat.le_refl _) _
  have mk2 : (Instr.makeSlice 111 (.int .i64 0) (.int .i64 1)).run Tryz.prog W2 = .ok (.slice (some ⟨W2.heap.size, 0, none⟩) 0 1) W3 := by rw [hW3]; exact mkS0 111 120 _ 1 24 Tryz.underlying111 info_CX (by decide) 1 (by decide) W2
  have ho10 : W3.ownsRow 0 120 1 (.slice (some ⟨W2.heap.size, 0, none⟩) 0 1) 0 [] := by rw [hW3]; exact own_made W2 _ 1 120 1 1 rfl (by decide)
  have ho9' := own_below ho9 hw3
  have kb3 := (hw3.block _ (heap_lt kb2)).trans kb2
  have k03 := (hcell kb3 0 _ rfl).1
  have s1 : W1.heap.size = w.heap.size + 1 := by rw [hW1]; simp
  have s2 : W2.heap.size = W1.heap.size + 1 := by rw [hW2]; simp
  have s3 : W3.heap.size = W2.heap.size + 1 := by rw [hW3]; simp
  have hw13 : Below w.heap.size w W3 := hw1.trans ((hw2.mono (by omega)).trans (hw3.mono (by omega)))
  have ks3 := (hw13.block _ (heap_lt hs0)).trans hs0
  have ks0 := (hcell ks3 0 _ rfl).1
  obtain ⟨W4, hW4⟩ : ∃ X, X = W3.alloc (.cells #[.slice a0 M c0] 120) := ⟨_, rfl⟩
  have hw4 : Below W3.heap.size W3 W4 := by rw [hW4]; exact (Below.refl _ _).alloc (Nat.le_refl _) _
  have hbox12 : W4.heap[W3.heap.size]? = some (.cells #[.slice a0 M c0] 120 (0, 0)) := by rw [hW4]; exact heap_alloc_new _ _
  have q0 := (hcell hbox12 0 _ rfl).1
  obtain ⟨W5, hW5⟩ : ∃ X, X = W4.alloc (mkO (.agg #[.pointer none, .slice none 0 0, .slice none 0 0, .int .i32 0, .int .u8 0, .bool false]) (M * 6) 134) := ⟨_, rfl⟩
  have hw5 : Below W4.heap.size W4 W5 := by rw [hW5]; exact (Below.refl _ _).alloc (Nat.le_refl _) _
  have mk3 : (Instr.makeSlice 118 (.int .i64 0) (.int .i64 (M : Int))).run Tryz.prog W4 = .ok (.slice (some ⟨W4.heap.size, 0, none⟩) 0 M) W5 := by rw [hW5]; exact mkS0 118 134 _ 6 72 Tryz.underlying118 info_CP (by decide) M (by omega) W4
  have ho13 : W5.ownsRow 0 134 6 (.slice (some ⟨W4.heap.size, 0, none⟩) 0 M) 0 [] := by rw [hW5]; exact own_made W4 _ (M * 6) 134 6 M rfl (by unfold maxLen; omega)
  have s4 : W4.heap.size = W3.heap.size + 1 := by rw [hW4]; simp
  have s5 : W5.heap.size = W4.heap.size + 1 := by rw [hW5]; simp
  have hbox12' := (hw5.block _ (heap_lt hbox12)).trans hbox12
  have q0' := (hcell hbox12' 0 _ rfl).1
  have hw15 : Below w.heap.size w W5 := hw13.trans ((hw4.mono (by omega)).trans (hw5.mono (by omega)))
  have HLI := hid (show LwI S W4.heap.size M W5 M (.slice (some ⟨W4.heap.size, 0, none⟩) 0 M) (.int .i64 0) W5 from ⟨0, [], by omega, rfl, ho13, (fun j hj => by omega), (fun q hq => Nat.le_of_eq (Option.some.inj hq)), Below.refl _ _⟩)
  have ta := asR_S
  have HWS := hid (And.intro hW1 (And.intro hW2 (And.intro hW3 (And.intro hW4 hW5))))
  have HSZ := hid (And.intro s1 (And.intro s2 (And.intro s3 (And.intro s4 s5))))
  have hbox13 := (hw3.block _ (heap_lt ((hw2.block _ (heap_lt hbox1)).trans hbox1))).trans ((hw2.block _ (heap_lt hbox1)).trans hbox1)
  have HBX := hid (And.intro hbox13 (And.intro hw13 (And.intro hw15 (And.intro ho9' (And.intro ho10 (And.intro ks3 (And.intro hbox12' (And.intro hw4 hw5))))))))
  have HQ := hid (And.intro ks0 (And.intro q0 q0'))
  have HMM := hid hM
  have HU := hid hu
  clear hH hu hM hb0 hs0 hw1 hbox1 hbox13 kb1 kb2 kb3 hw2 hw3 ho9 ho10 ho9' s1 s2 s3 s4 s5 hw13 ks3 hbox12 hbox12' hw4 hw5 hw15 hW2 hW3 hW4 hW5 ho13 q0 q0'
  clear ks0
  go_enter Tryz.func19, Tryz.ntmps19
  go_upto_region 5 with fail
  rw [← hW1]
  clear p0 hW1
  clear ta
  go_upto_region 6 with fail
  clear mk1 k0
  go_upto_region 7 with fail
  clear mk2 k02
  go_upto_region 8 with fail
  clear k03
  go_loopg [9, 10, 52] 1 (fun g v9 v10 v52 wx => LoS w W3 S M b sb loc (.slice (some ⟨W1.heap.size, 0, none⟩) 0 1) (.slice (some ⟨W2.heap.size, 0, none⟩) 0 1) g v9 v10 v52 wx)
  case atStart => exact ⟨Or.inl ⟨rfl, rfl, rfl, rfl, rfl⟩⟩
  case round =>
    rcases hrel.ex with ⟨hg, rfl, rfl, rfl, rfl⟩ | ⟨hg, rfl, hD⟩
    · obtain rfl := hg
      clear hrel
      have ks0 := HQ.out.1
      have hW4 := HWS.out.2.2.2.1
      go_upto_region 10 with fail
      rw [← hW4]
      clear hW4 ks0
      have q0 := HQ.out.2.1
      go_upto_region 11 with fail
      clear mk3 q0
      have q0' := HQ.out.2.2
      go_upto_region 12 with fail
      clear q0'
      go_loopg [13, 64] M (fun g v13 v64 wx => LwI S W4.heap.size M W5 g v13 v64 wx)
      case atStart => exact HLI.out
      case round =>
        cases gk with
        | zero =>
          obtain ⟨q, cq, rfl, hqc, hBq, hqw, hrq, hb⟩ := hrel.done hm1
          have h64 : u64 = .int .i64 (M : Int) := by
            obtain ⟨i, _, hi, e, _⟩ := hrel.ex
            rw [e, show i = M by omega]
          obtain rfl := h64
          clear hrel HLI
          have hpP := HH.out.oS
          have hSZ := HSZ.out
          obtain ⟨hbox1, hw13, hw15, ho9, ho10, ks3, hbox12', hw4, hw5⟩ := HBX.out
          have hbr : Below w.heap.size w wr := hw15.trans (hb.mono (by omega))
          have hsz5 := hb.size
          have hbb := HH.out.hb
          have hss := HH.out.hs
          have hbr0 := (hbr.block _ (heap_lt hbb)).trans hbb
          have hsr0 := (hbr.block _ (heap_lt hss)).trans hss
          have hsbl := heap_lt hss
          have hbbl := heap_lt hbb
          have hbsb : b ≠ sb := by
            rintro rfl
            rw [hbb] at hss
            injection hss with hss
            injection hss with _ hss _
            exact absurd hss (by decide)
          have b0 := (hcell hbr0 0 _ rfl).1
          obtain ⟨g0, g0f⟩ := hcell hsr0 0 _ rfl
          obtain ⟨W7, hW7⟩ : ∃ X, X = wr.setCell ⟨sb, 0, none⟩ (.slice (some ⟨q, 0, none⟩) M cq) := ⟨_, rfl⟩
          have h7 : ∀ g, g ≠ sb → W7.heap[g]? = wr.heap[g]? := fun g hg => by rw [hW7]; exact hother _ _ _ hg
          have hz7 : W7.heap.size = wr.heap.size := by rw [hW7]; simp [World.setCell]
          have ho7 : W7.os = wr.os ∧ W7.tape = wr.tape ∧ W7.output = wr.output := by rw [hW7]; exact ⟨rfl, rfl, rfl⟩
          have hbox7 : W7.heap[W3.heap.size]? = some (.cells #[.slice a0 M c0] 120 (0, 0)) := (h7 _ (by omega)).trans ((hb.block _ (by omega)).trans hbox12')
          have j0 := (hcell hbox7 0 _ rfl).1
          have hu7 : RowL CpH W7 S (.slice a0 M c0) (us M) := by
            have h := HU.out
            rw [← HMM.out] at h
            exact h.keep ⟨by have := hbr.size; omega, fun g hg hl => (h7 g (hpP g hg).2.2.1).trans (hbr.block g hl), fun g hg _ => hg⟩
          have CU := hid (up45 a0 M c0 M S W7 (by omega) hu7)
          have hr7 : RowL CpH W7 (fun g => S g ∨ g = q) (.slice (some ⟨q, 0, none⟩) M cq) (us M) := hrq.keep ⟨by omega, fun g hg hl => h7 g (by
            rcases hg with hg | rfl
            · exact (hpP g hg).2.2.1
            · omega), fun g hg _ => hg⟩
          have ho9' : W7.ownsRow 0 120 1 (.slice (some ⟨W1.heap.size, 0, none⟩) 0 1) 0 [] := own_keep ho9 (fun g hg => by
            have e := Option.some.inj hg
            simp at e
            subst e
            exact (h7 _ (by omega)).trans ((hb.block _ (by omega)).trans ((hw5.block _ (by omega)).trans (hw4.block _ (by omega)))))
          have ho10' : W7.ownsRow 0 120 1 (.slice (some ⟨W2.heap.size, 0, none⟩) 0 1) 0 [] := own_keep ho10 (fun g hg => by
            have e := Option.some.inj hg
            simp at e
            subst e
            exact (h7 _ (by omega)).trans ((hb.block _ (by omega)).trans ((hw5.block _ (by omega)).trans (hw4.block _ (by omega)))))
          have hF7 : FrM (fun g => g = sb) w W7 := (FrM.of hbr).trans (M' := fun g => g = sb) ⟨ho7.1, ho7.2.1, ho7.2.2, by omega, fun g _ hg => h7 g hg⟩ (fun _ _ h => h)
          have hbox1' : W7.heap[w.heap.size]? = some (.cells #[.iface 110 (.pointer (some ⟨b, 0, none⟩)), .int .i32 loc] 39 (0, 0)) := (h7 _ (by omega)).trans ((hb.block _ (by omega)).trans ((hw5.block _ (by omega)).trans ((hw4.block _ (by omega)).trans hbox1)))
          have HZ := hid (And.intro hW7 (And.intro ho9' (And.intro ho10' (And.intro hF7 (And.intro hbox1' (And.intro hr7 (And.intro hz7 (And.intro hBq (And.intro hqw (And.intro hqc (And.intro hSZ (And.intro hpP (And.intro hsz5 (And.intro (And.intro hsbl hbbl) hw15))))))))))))))
          clear hb hbox1 hw13 hw15 ho9 ho10 ks3 hbox12' hw4 hw5 hbr hsz5 hbb hss hbr0 hsr0 hsbl hbbl hbsb h7 hz7 ho7 hbox7 hu7 hr7 ho9' ho10' hF7 hbox1' hW7 hpP hSZ hBq hqw hqc hrq
          go_upto_region 17 with fail
          rw [← HZ.out.1]
          clear b0 g0 g0f
          go_wp2_with fail
          refine CU.out.mono ?_
          rintro e W8 hR
          obtain ⟨rfl, hb8⟩ := hR.ex
          obtain ⟨-, ho9', ho10', hF7, hbox1', hr7, hz7, hBq, hqw, hqc, hSZ, hpP, hsz5, ⟨hsbl, hbbl⟩, hw15⟩ := HZ.out
          clear hR CU j0
          have hs8 := hb8.size
          have hs15 := hw15.size
          obtain ⟨v10, w10, hap10, hown10, hgr10, hat10⟩ := own_app1 111 120 _ 1 24 Tryz.underlying111 info_CX rfl (by decide) (by decide) W8 (.slice (some ⟨W2.heap.size, 0, none⟩) 0 1) 0 [] (own_below ho10' hb8) [.slice (some ⟨q, 0, none⟩) M cq] rfl (by simp [Value.oneCell']) (by omega)
          have k10 : ∀ g, g < W8.heap.size → g ≠ W2.heap.size → w10.heap[g]? = W8.heap[g]? := fun g h1 h2 => hgr10.block g h1 (fun e => h2 (Option.some.inj e))
          have hs10 := hgr10.size
          have ho9a : w10.ownsRow 0 120 1 (.slice (some ⟨W1.heap.size, 0, none⟩) 0 1) 0 [] := own_keep (own_below ho9' hb8) (fun g hg => by
            have e := Option.some.inj hg
            simp at e
            subst e
            exact k10 _ (by omega) (by omega))
          obtain ⟨v9, w9, hap9, hown9, hgr9, hat9⟩ := own_app1 111 120 _ 1 24 Tryz.underlying111 info_CX rfl (by decide) (by decide) w10 (.slice (some ⟨W1.heap.size, 0, none⟩) 0 1) 0 [] ho9a [.slice (some ⟨q, 0, none⟩) M cq] rfl (by simp [Value.oneCell']) (by omega)
          have k9 : ∀ g, g < w10.heap.size → g ≠ W1.heap.size → w9.heap[g]? = w10.heap[g]? := fun g h1 h2 => hgr9.block g h1 (fun e => h2 (Option.some.inj e))
          have hs9 := hgr9.size
          have h10ge : ∀ g, v10.ownBlock = some g → g = W2.heap.size ∨ W8.heap.size ≤ g := fun g hg => by
            rcases hat10 with h | ⟨g', h, hg'⟩
            · rw [h] at hg; exact Or.inl (Option.some.inj hg).symm
            · rw [h] at hg; exact Or.inr ((Option.some.inj hg) ▸ hg')
          have h9ge : ∀ g, v9.ownBlock = some g → g = W1.heap.size ∨ w10.heap.size ≤ g := fun g hg => by
            rcases hat9 with h | ⟨g', h, hg'⟩
            · rw [h] at hg; exact Or.inl (Option.some.inj hg).symm
            · rw [h] at hg; exact Or.inr ((Option.some.inj hg) ▸ hg')
          have kall : ∀ g, g < W7.heap.size → g ≠ W1.heap.size → g ≠ W2.heap.size → w9.heap[g]? = W7.heap[g]? := fun g h1 h2 h3 => (k9 g (by omega) h2).trans ((k10 g (by omega) h3).trans (hb8.block g h1))
          have hlt9 : ∀ g, v9.ownBlock = some g → g < w9.heap.size := fun g hg => (hown9.lt g hg).2
          have hlt10 : ∀ g, v10.ownBlock = some g → g < w10.heap.size := fun g hg => (hown10.lt g hg).2
          have hX9 : RowL CpH w9 (fun g => S g ∨ (w.heap.size < g ∧ g < w9.heap.size)) (.slice (some ⟨q, 0, none⟩) M cq) (us M) := hr7.keep ⟨by omega, fun g hg hl => kall g hl (by
            rcases hg with hg | rfl
            · have := (hpP g hg).1; omega
            · omega) (by
            rcases hg with hg | rfl
            · have := (hpP g hg).1; omega
            · omega), fun g hg _ => by
            rcases hg with hg | rfl
            · exact Or.inl hg
            · exact Or.inr ⟨by omega, by omega⟩⟩
          have hD : LoD w S M b sb loc v9 v10 w9 := by
            refine ⟨⟨hgr9.os.trans (hgr10.os.trans (hb8.os.trans hF7.os)), hgr9.tape.trans (hgr10.tape.trans (hb8.tape.trans hF7.tape)), hgr9.output.trans (hgr10.output.trans (hb8.output.trans hF7.output)), by omega, fun g h1 h2 => (kall g (by omega) (by omega) (by omega)).trans (hF7.block g h1 h2)⟩, ?_, ?_, ?_⟩
            · exact row_CX hown9 hqc hX9 (fun g hg => Or.inr ⟨by have := h9ge g hg; omega, hlt9 g hg⟩)
            · exact row_CX (own_keep hown10 (fun g hg => k9 g (hlt10 g hg) (by have := h10ge g hg; omega))) hqc hX9 (fun g hg => Or.inr ⟨by have := h10ge g hg; omega, by have := hlt10 g hg; omega⟩)
            · exact (kall _ (by omega) (by omega) (by omega)).trans hbox1'
          have HAP10 := hid hap10
          have HAP9 := hid hap9
          have HEND := hid (show LoS w W3 S M b sb loc (.slice (some ⟨W1.heap.size, 0, none⟩) 0 1) (.slice (some ⟨W2.heap.size, 0, none⟩) 0 1) 0 v9 v10 (.int .i64 1) w9 from ⟨Or.inr ⟨rfl, rfl, hD⟩⟩)
          clear hap10 hap9 hown10 hgr10 hat10 hown9 hgr9 hat9 k10 k9 hs10 hs9 h10ge h9ge kall hlt9 hlt10 hX9 hD ho9a hb8 ho9' ho10' hF7 hbox1' hr7 hz7 hBq hqw hqc hSZ hpP hsz5 hsbl hbbl hw15 hs8 hs15 HZ
          go_upto_region 18 with fail
          go_upto_region 19 with (at_builtin; go_loud (refine list_run rfl _ _ 111 rfl (.slice (some ⟨W2.heap.size, 0, none⟩) 0 1) (.slice (some ⟨W8.heap.size, 0, none⟩) 1 1) _ w10 rfl rfl HAP10.out ?_))
          go_upto_region 20 with (at_builtin; go_loud (refine list_run rfl _ _ 111 rfl (.slice (some ⟨W1.heap.size, 0, none⟩) 0 1) (.slice (some ⟨w10.heap.size, 0, none⟩) 1 1) _ w9 rfl rfl HAP9.out ?_))
          go_wp2_with fail
          go_roundg 0
          case measure => omega
          case rel => exact HEND.out
        | succ g =>
          obtain ⟨i, xs, hig, rfl, ho, hE, hB, hb⟩ := hrel.ex
          clear hrel HLI
          have hiM : i < M := by omega
          have hcd : (i : Int) < (M : Int) := by omega
          have e1 : IntKind.i64.wrap ((i : Int) + 1) = ((i + 1 : Nat) : Int) := by rw [IntKind.wrap_i64]; omega
          have hszz : w.heap.size ≤ wr.heap.size ∧ W4.heap.size ≤ wr.heap.size ∧ w.heap.size < W4.heap.size := by
            have := hb.size; have := HSZ.out; omega
          have hbw : Below w.heap.size w wr := HBX.out.2.2.1.trans (hb.mono (by omega))
          have hur : RowL CpH wr S (.slice a0 M c0) (us M) := by
            have h := HU.out
            rw [← HMM.out] at h
            exact h.keep ⟨hbw.size, fun q _ hl => hbw.block q hl, fun q hq _ => hq⟩
          obtain ⟨q, ub, bb, sc', rfl, hF⟩ := cp_at hur hiM
          have hs : RowL HovT wr S (.slice (some ⟨ub, 0, none⟩) 1 sc') [()] := by
            obtain ⟨g', ha, _, _, _, ⟨s, e1, hs⟩, _⟩ := hur.at'.2 i (by simpa using hiM)
            injection ha with ha
            injection ha with ha _ _
            subst ha
            have e2 := e1.symm.trans hF.c1
            injection e2 with e2
            exact e2 ▸ hs
          have c0' := hF.c0
          have c1' := hF.c1
          have c2' := hF.c2
          have c3' := hF.c3
          have c4' := hF.c4
          have c5' := hF.c5
          obtain ⟨W6, hW6⟩ : ∃ X, X = wr.alloc (.cells #[.pointer none, .slice (some ⟨ub, 0, none⟩) 1 sc', .slice none 0 0, .int .i32 0, .int .u8 0, .bool false] 134) := ⟨_, rfl⟩
          have hb6 : Below wr.heap.size wr W6 := by rw [hW6]; exact (Below.refl _ _).alloc (Nat.le_refl _) _
          have hN6 : W6.heap[wr.heap.size]? = some (.cells #[.pointer none, .slice (some ⟨ub, 0, none⟩) 1 sc', .slice none 0 0, .int .i32 0, .int .u8 0, .bool false] 134 (0, 0)) := by rw [hW6]; exact heap_alloc_new _ _
          have hs6 : RowL HovT W6 S (.slice (some ⟨ub, 0, none⟩) 1 sc') [()] := hs.keep ⟨hb6.size, fun q _ hl => hb6.block q hl, fun q hq _ => hq⟩
          have hPlt : ∀ q, S q → q < W4.heap.size := fun q hq => by have := (HH.out.oS q hq).1; omega
          have CL := hid (sb31 (.pointer (some ⟨pb, 0, none⟩)) (.func (.func 24) #[] #[]) 0 (.slice (some ⟨ub, 0, none⟩) 1 sc') u13 i xs S W6 (by omega) hs6 (own_below ho hb6))
          have HN := hid (fun v' w' => LwI.next (P := S) (B := W4.heap.size) (m := M) (W := W5) (wx := W6) (w' := w') (i := i) (g := g) (v' := v') (by omega) (own_below ho hb6) (fun j hj => CpH.keep ⟨hb6.size, fun q _ hl => hb6.block q hl, fun q hq _ => hq⟩ (hE j hj)) hB (hb.trans (hb6.mono hszz.2.1)) (by have := hb6.size; omega) hPlt hs6)
          have f0 := (hcell hN6 0 _ rfl).1
          have f1 := (hcell hN6 1 _ rfl).1
          have f2 := (hcell hN6 2 _ rfl).1
          have f3 := (hcell hN6 3 _ rfl).1
          have f4 := (hcell hN6 4 _ rfl).1
          have f5 := (hcell hN6 5 _ rfl).1
          clear ho hE hB hb hszz hbw hur hF hs hb6 hN6 hs6 hPlt hig
          go_upto_region 14 with fail
          rw [← hW6]
          clear hW6 c0' c1' c2' c3' c4' c5'
          go_wp2_with fail
          refine CL.out.mono ?_
          rintro e w7 hR
          obtain ⟨v', rfl, h1, h2, h3⟩ := hR.ex
          have hEND := hid (HN.out v' w7 h1 h2 h3)
          clear hR h1 h2 h3 CL HN f0 f1 f2 f3 f4 f5
          go_wp2_with fail
          go_roundg g
          case measure => omega
          case rel => exact hEND.out
    · obtain rfl := hg
      clear hrel HLI HBX HQ HU
      have hSZ := HSZ.out
      have hfr := hD.fr
      obtain ⟨xs, hown, hone, hEx⟩ := HO.out.1.own
      have holen := HO.out.1.len
      rw [holen] at hown
      obtain ⟨la, lc, rfl, hlc⟩ := own_shape hown
      have hss := HH.out.hs
      have hbb := HH.out.hb
      have hbsb : b ≠ sb := by
        rintro rfl
        rw [hbb] at hss
        injection hss with hss
        injection hss with _ hss _
        exact absurd hss (by decide)
      have hpsb : pb ≠ sb := by
        rintro rfl
        obtain ⟨arr, h1, _⟩ := HH.out.par.ex
        rw [h1] at hss
        injection hss with hss
        injection hss with _ hss _
        exact absurd hss (by decide)
      have hlsb : ∀ g, (Value.slice la n lc).ownBlock = some g → g ≠ sb ∧ g ≠ b ∧ g ≠ pb ∧ g < w.heap.size := fun g hg => by
        obtain ⟨cur, h1⟩ := own_type hown hg
        refine ⟨?_, ?_, ?_, heap_lt h1⟩
        · rintro rfl
          rw [h1] at hss
          injection hss with hss
          injection hss with _ hss _
          exact absurd hss (by decide)
        · rintro rfl
          rw [h1] at hbb
          injection hbb with hbb
          injection hbb with _ hbb _
          exact absurd hbb (by decide)
        · rintro rfl
          obtain ⟨arr, h2, _⟩ := HH.out.par.ex
          rw [h1] at h2
          injection h2 with h2
          injection h2 with _ h2 _
          exact absurd h2 (by decide)
      have hown1 : wr.ownsRow 0 39 2 (.slice la n lc) n xs := own_keep hown (fun g hg => hfr.block g (hlsb g hg).2.2.2 (hlsb g hg).1)
      obtain ⟨a9, c9, rfl⟩ : ∃ a c, u9 = .slice a 1 c := by
        obtain ⟨a, c, e, _⟩ := hD.r9
        exact ⟨a, c, e⟩
      obtain ⟨a10, c10, rfl⟩ : ∃ a c, u10 = .slice a 1 c := by
        obtain ⟨a, c, e, _⟩ := hD.r10
        exact ⟨a, c, e⟩
      have hnn := HH.out.nn
      obtain ⟨v2, w2, hap2, hown2, hgr2, hat2⟩ := own_app1 43 39 _ 2 24 Tryz.underlying43 info_RULE rfl (by decide) (by decide) wr (.slice la n lc) n xs hown1 [.iface 110 (.pointer (some ⟨b, 0, none⟩)), .int .i32 loc] rfl (by simp [Value.oneCell']) (by omega)
      obtain ⟨a2, c2, rfl, hc2⟩ := own_shape hown2
      have hs2 := hgr2.size
      have hws := hfr.size
      have k2 : ∀ g, g < wr.heap.size → some g ≠ (Value.slice la n lc).ownBlock → w2.heap[g]? = wr.heap[g]? := fun g h1 h2 => hgr2.block g h1 h2
      have hPw : ∀ g, P g → g < wr.heap.size ∧ some g ≠ (Value.slice la n lc).ownBlock := fun g hg => ⟨by have := (HO.out.1.sP g hg).1; omega, (HO.out.1.sP g hg).2⟩
      have hS2x : OutS w2 (.slice a2 (n + 1) c2) (n + 1) (out ++ [.mk loc (b + 3) []]) P := OutS.snocx holen (fun i hi => RuX.keep ⟨by omega, fun g hg hl => hfr.block g hl (HO.out.2 g hg).2.2, fun g hg _ => hg⟩ (hEx i hi)) (by have := hown.1; omega) hown2 (fun u hu => by
        rcases List.mem_append.1 hu with hu | hu
        · exact hone u hu
        · simp at hu
          rcases hu with rfl | rfl <;> rfl) hgr2 hPw hat2 (Or.inl ⟨Nat.le_add_left _ _, rfl, rfl⟩)
      obtain ⟨Wc, hWc⟩ : ∃ X, X = w2.alloc (.cells #[.slice a9 1 c9, .slice a10 1 c10, .slice a2 (n + 1) c2] 139) := ⟨_, rfl⟩
      have hwc : Below w2.heap.size w2 Wc := by rw [hWc]; exact (Below.refl _ _).alloc (Nat.le_refl _) _
      have hcx : Wc.heap[w2.heap.size]? = some (.cells #[.slice a9 1 c9, .slice a10 1 c10, .slice a2 (n + 1) c2] 139 (0, 0)) := by rw [hWc]; exact heap_alloc_new _ _
      have hsc := hwc.size
      have hsbl := heap_lt hss
      have hbbl := heap_lt hbb
      have hppl := HH.out.par.lt
      have kc : ∀ g, g < w.heap.size → g ≠ sb → some g ≠ (Value.slice la n lc).ownBlock → Wc.heap[g]? = w.heap[g]? := fun g h1 h2 h3 => (hwc.block g (by omega)).trans ((k2 g (by omega) h3).trans (hfr.block g h1 h2))
      have hbc : Wc.heap[b]? = some (.cells #[.slice (some ⟨sb, 0, none⟩) 1 sc, rs, x] 114 (0, 0)) := (kc b hbbl hbsb (fun e => (hlsb b e.symm).2.1 rfl)).trans hbb
      have h2own : ∀ g, (Value.slice a2 (n + 1) c2).ownBlock = some g → (Value.slice la n lc).ownBlock = some g ∨ wr.heap.size ≤ g := fun g hg => by
        rcases hat2 with h | ⟨g', h, hg'⟩
        · exact Or.inl (h ▸ hg)
        · rw [h] at hg; exact Or.inr ((Option.some.inj hg) ▸ hg')
      have hpS := HH.out.oS
      have hS2 : ∀ g, (S g ∨ (w.heap.size < g ∧ g < wr.heap.size)) → g < wr.heap.size ∧ some g ≠ (Value.slice la n lc).ownBlock := fun g hg => by
        rcases hg with hg | hg
        · exact ⟨by have := (hpS g hg).1; omega, (hpS g hg).2.2.2.1⟩
        · exact ⟨hg.2, fun e => by have := (hlsb g e.symm).2.2.2; omega⟩
      have hkS : Keep wr Wc (fun g => S g ∨ (w.heap.size < g ∧ g < wr.heap.size)) (fun g => S g ∨ (w.heap.size < g ∧ g < wr.heap.size)) := ⟨by omega, fun g hg hl => (hwc.block g (by omega)).trans (k2 g hl (hS2 g hg).2), fun g hg _ => hg⟩
      have hCtx : CtxOK Wc w2.heap.size (.slice a9 1 c9) (.slice a10 1 c10) (.slice a2 (n + 1) c2) (n + 1) (fun g => S g ∨ (w.heap.size < g ∧ g < wr.heap.size)) M pb := by
        refine ⟨hcx, ⟨_, own_below hown2 hwc, fun u hu => ?_⟩, hD.r9.keep hkS, hD.r10.keep hkS, hm1, fun g hg => ⟨by have := hS2 g hg; omega, by have := hS2 g hg; omega, fun e => ?_⟩, ?_⟩
        · rcases List.mem_append.1 hu with hu | hu
          · exact hone u hu
          · rcases List.mem_cons.1 hu with rfl | hu
            · rfl
            · rcases List.mem_cons.1 hu with rfl | hu
              · rfl
              · cases hu
        · rcases h2own g e.symm with h | h
          · exact (hS2 g hg).2 h.symm
          · have := (hS2 g hg).1; omega
        · obtain ⟨arr, h1, h2⟩ := HH.out.par.ex
          exact ⟨arr, (kc pb hppl hpsb (fun e => (hlsb pb e.symm).2.2.1 rfl)).trans h1, h2⟩
      have hhil := HH.out.hi_le
      have hOff : Off lo hi w2.heap.size pb (.slice a2 (n + 1) c2) (fun g => S g ∨ (w.heap.size < g ∧ g < wr.heap.size)) := by
        refine ⟨Or.inr (by omega), HH.out.opb, fun g hg => ?_, fun g hg => ?_⟩
        · rcases h2own g hg with h | h
          · exact HH.out.olw g h
          · exact Or.inr (by omega)
        · rcases hg with hg | hg
          · exact (hpS g hg).2.2.2.2
          · exact Or.inr (by omega)
      obtain ⟨rb, cap, arr, rfl, hkc, hlr, hrh, hrow, hsz, hK⟩ := HH.out.hkids
      have kin : ∀ g, lo ≤ g → g < hi → Wc.heap[g]? = w.heap[g]? := fun g h1 h2 => kc g (by omega) (by have := HH.out.osb; omega) (fun e => by have := HH.out.olw g e.symm; omega)
      have CL := hid (H kids Wc lo hi rb cap arr w2.heap.size (.slice a9 1 c9) (.slice a10 1 c10) (.slice a2 (n + 1) c2) (n + 1) (fun g => S g ∨ (w.heap.size < g ∧ g < wr.heap.size)) M pb (out ++ [.mk loc (b + 3) []]) P hlr hrh (by omega) ((kin rb hlr hrh).trans hrow) hsz hkc HH.out.klen (hK.keep kids (rb + 1) hi 0 lo hi (by omega) (Nat.le_refl _) (fun lo2 hi2 v t q1 q2 q3 => InT.keep d lo2 hi2 v t (by omega) (fun g g1 g2 => kin g (by omega) (by omega)) q3)) hCtx hOff hmd hnn (hS2x.below hwc) (fun g hg => ⟨(HO.out.2 g hg).1, by have := (hPw g hg).1; omega⟩))
      have x0 := (hcell hD.box 0 _ rfl).1
      have x1 := (hcell hD.box 1 _ rfl).1
      have y1 := (hcell hbc 1 _ rfl).1
      have HWCL := hid (heap_lt hcx)
      have HAP2 := hid hap2
      have HWC := hid hWc
      have HZ := hid (And.intro hfr (And.intro hlsb (And.intro hs2 (And.intro k2 (And.intro hwc (And.intro hsc (And.intro kc (And.intro hbc (And.intro h2own (And.intro hhil (And.intro hrh (And.intro hlr (And.intro hws (And.intro hgr2 (And.intro hat2 (And.intro hbbl hbsb))))))))))))))))
      have HC2 := hid (And.intro hlc hc2)
      have hkc' := hkc
      clear holen hEx hPw hS2x hD hfr hown hlsb hown1 hap2 hown2 hgr2 hat2 hone hs2 k2 hwc hcx hsc kc hbc h2own hS2 hkS hCtx hOff kin hrow hsz hK hpS hWc hSZ hss hbb hws hsbl hbbl hppl hlc hc2 hhil hbsb hpsb hnn hlr hrh hkc hkc'
      go_upto_region 22 with fail
      go_upto_region 23 with (at_builtin; go_loud (refine list_run rfl _ _ 43 rfl (.slice la n lc) (.slice (some ⟨wr.heap.size, 0, none⟩) 1 1) _ w2 rfl rfl HAP2.out ?_))
      clear x0 x1
      go_upto_region 24 with fail
      rw [← HWC.out]
      go_wp2_with fail
      refine CL.out.mono ?_
      rintro e w4 hR
      obtain ⟨lw3, n3, arr', P3, rfl, h31, h32, h3c, h3F, h3O, h3r, h3s, h3k, h3S, h3P⟩ := hR.ex
      clear hR CL y1
      obtain ⟨hfr, hlsb, hs2, k2, hwc, hsc, kc, hbc, h2own, hhil, hrh, hlr, hws, hgr2, hat2, hbbl, hbsb⟩ := HZ.out
      obtain ⟨K, hK⟩ : ∃ K, (keptM kids).length = K := ⟨_, rfl⟩
      have hKL : K ≤ 1000000 := by have := keptM_len kids; have := HH.out.klen; omega
      rw [hK]
      have hnb : ¬ Mod lo hi w2.heap.size (.slice a2 (n + 1) c2) b := by
        rintro (q | q | q)
        · have := HH.out.ob; omega
        · omega
        · rcases h2own b q with h | h
          · exact (hlsb b h).2.1 rfl
          · omega
      have hs3 := h3F.size
      have hb4 : w4.heap[b]? = some (.cells #[.slice (some ⟨sb, 0, none⟩) 1 sc, .slice (some ⟨rb, 0, none⟩) kids.length cap, x] 114 (0, 0)) := (h3F.block b (by omega) hnb).trans hbc
      obtain ⟨y1, y1f⟩ := hcell hb4 1 _ rfl
      obtain ⟨a3, c3, rfl, hc3⟩ : ∃ a c, lw3 = .slice a n3 c ∧ n3 ≤ c := by
        obtain ⟨ys, ho, _⟩ := h3c.own
        exact own_shape ho
      obtain ⟨W5, hW5⟩ : ∃ X, X = w4.setCell ⟨b, 1, none⟩ (.slice (some ⟨rb, 0, none⟩) K cap) := ⟨_, rfl⟩
      have hb5 : W5.heap[b]? = some (.cells #[.slice (some ⟨sb, 0, none⟩) 1 sc, .slice (some ⟨rb, 0, none⟩) K cap, x] 114 (0, 0)) := by rw [hW5]; exact hset hb4 1 _
      have h5 : ∀ g, g ≠ b → W5.heap[g]? = w4.heap[g]? := fun g hg => by rw [hW5]; exact hother _ _ _ hg
      have hcx5 : W5.heap[w2.heap.size]? = some (.cells #[.slice a9 1 c9, .slice a10 1 c10, .slice a3 n3 c3] 139 (0, 0)) := (h5 _ (by omega)).trans h3c.cx
      have hz5 : W5.heap.size = w4.heap.size := by rw [hW5]; simp [World.setCell]
      have ho5 : W5.os = w4.os ∧ W5.tape = w4.tape ∧ W5.output = w4.output := by rw [hW5]; exact ⟨rfl, rfl, rfl⟩
      have hF5 : FrM (fun g => (lo ≤ g ∧ g < hi) ∨ g = b ∨ g = sb ∨ (Value.slice la n lc).ownBlock = some g) w W5 := by
        refine ⟨ho5.1.trans (h3F.os.trans (hwc.os.trans (hgr2.os.trans hfr.os))), ho5.2.1.trans (h3F.tape.trans (hwc.tape.trans (hgr2.tape.trans hfr.tape))), ho5.2.2.trans (h3F.output.trans (hwc.output.trans (hgr2.output.trans hfr.output))), by omega, fun g h1 h2 => ?_⟩
        refine (h5 g (fun e => h2 (Or.inr (Or.inl e)))).trans ((h3F.block g (by omega) ?_).trans (kc g h1 (fun e => h2 (Or.inr (Or.inr (Or.inl e)))) (fun e => h2 (Or.inr (Or.inr (Or.inr e.symm))))))
        rintro (q | q | q)
        · exact h2 (Or.inl q)
        · omega
        · rcases h2own g q with h | h
          · exact h2 (Or.inr (Or.inr (Or.inr h)))
          · omega
      have hown5 : OwnRu W5 (.slice a3 n3 c3) n3 := by
        obtain ⟨ys, ho, hy⟩ := h3c.own
        refine ⟨ys, own_keep ho (fun g hg => h5 g ?_), hy⟩
        rintro rfl
        rcases h3O with h | ⟨g', h, hg'⟩
        · exact hnb (Or.inr (Or.inr (h ▸ hg)))
        · rw [h] at hg
          have := Option.some.inj hg
          omega
      have hOw : OwnG w (.slice la n lc) (.slice a3 n3 c3) := by
        rcases h3O with h | ⟨g', h, hg'⟩
        · rcases hat2 with q | ⟨g', q, hg'⟩
          · exact Or.inl (h.trans q)
          · exact Or.inr ⟨g', h.trans q, by omega⟩
        · exact Or.inr ⟨g', h, by omega⟩
      have hbP3 : ∀ g, P3 g → g ≠ b := fun g hg e => by
        rcases h3P g hg with h | h | h
        · exact (HO.out.2 g h).2.1 e
        · have := HH.out.ob; omega
        · omega
      have h5S : OutS W5 (.slice a3 n3 c3) n3 (out ++ .mk loc (b + 3) [] :: kids.flatMap (lowM d true)) P3 := by
        have e : out ++ .mk loc (b + 3) [] :: kids.flatMap (lowM d true) = (out ++ [.mk loc (b + 3) []]) ++ kids.flatMap (lowM d true) := by simp
        rw [e]
        refine h3S.keep (by omega) (fun g hg => h5 g ?_)
        rcases hg with hg | hg
        · exact hbP3 g hg
        · rintro rfl
          rcases h3O with h | ⟨g', h, hg'⟩
          · exact hnb (Or.inr (Or.inr (h ▸ hg)))
          · rw [h] at hg
            have := Option.some.inj hg
            omega
      have hwcl : w2.heap.size < Wc.heap.size := HWCL.out
      have h5P : ∀ g, P3 g → P g ∨ (rb + 1 ≤ g ∧ g < hi) ∨ w2.heap.size < g := fun g hg => by
        rcases h3P g hg with h | h | h
        · exact Or.inl h
        · exact Or.inr (Or.inl h)
        · exact Or.inr (Or.inr (by omega))
      have hrb5 : W5.heap[rb]? = some (.cells arr' 39 (0, 0)) := (h5 rb (by have := HH.out.ob; omega)).trans h3r
      have HS5 := hid (And.intro h5S (And.intro h5P (And.intro hrb5 (And.intro h3k (And.intro hlr hrh)))))
      have z1 := (hcell hb5 1 _ rfl).1
      obtain ⟨z2, z2f⟩ := hcell hcx5 2 _ rfl
      have HEND := hid (And.intro hF5 (And.intro hown5 (And.intro hOw (And.intro hcx5 (And.intro hb5 (And.intro h31 (And.intro h32 (And.intro hc3 (And.intro hhil (And.intro hws (And.intro hz5 (And.intro hs3 (And.intro hsc hs2)))))))))))))
      have HW5 := hid hW5
      clear hfr hlsb hs2 k2 hwc hsc kc hbc h2own hhil hrh hlr hws hgr2 hat2 hbbl hbsb hnb hs3 hb4 hb5 h5 hcx5 hz5 ho5 hF5 hown5 hOw h31 h32 h3c h3F h3O h3r h3s h3k hW5 HZ HC2 hc3 h3S h3P hbP3 h5S hwcl h5P hrb5
      have HKK := hid hK
      clear hK
      have Z := hid (And.intro z1 (And.intro z2 z2f))
      clear z1 z2 z2f
      go_upto_region 25 with fail
      rw [← HW5.out]
      clear y1 y1f
      obtain ⟨z1, z2, z2f⟩ := Z.out
      by_cases hk0 : K = 0
      · subst hk0
        obtain ⟨hF5, hown5, hOw, hcx5, hb5, h31, h32, hc3, hhil, hws, hz5, hs3, hsc, hs2⟩ := HEND.out
        have hnn := HH.out.nn
        have hOw' : OwnG w (.slice la n lc) (.slice a3 (n3 - 1) c3) := by
          have hq : (Value.slice a3 (n3 - 1) c3).ownBlock = (Value.slice a3 n3 c3).ownBlock := by cases a3 <;> rfl
          rcases hOw with h | ⟨g, h, hg⟩
          · exact Or.inl (hq.trans h)
          · exact Or.inr ⟨g, hq.trans h, hg⟩
        obtain ⟨h5S, h5P, hrb5, h3k, hlr, hrh⟩ := HS5.out
        obtain ⟨g3, k, Wk, ha3, hcp, hSk, hszk, hblk, hosk⟩ := copy_dropS a3 n n3 c3 W5.drew 3 out (kids.flatMap (lowM d true)) (.mk loc (b + 3) []) P3 (h5S.keep (Nat.le_refl _) (fun _ _ => rfl)) HO.out.1.len
        have hownk := hSk.ru
        have hg3 : g3 ≠ w2.heap.size := by
          rintro rfl
          obtain ⟨ys, ho, _⟩ := hown5
          obtain ⟨cur, hq⟩ := own_type ho (g := w2.heap.size) (by rw [ha3]; rfl)
          rw [hcx5] at hq
          injection hq with hq
          injection hq with _ hq _
          exact absurd hq (by decide)
        obtain ⟨vD, hvD⟩ : ∃ v, v = Value.slice (if c3 = n then a3 else a3.map (·.add (n * 2))) (n3 - n) (c3 - n) := ⟨_, rfl⟩
        obtain ⟨vS, hvS⟩ : ∃ v, v = Value.slice (if c3 = n + 1 then a3 else a3.map (·.add ((n + 1) * 2))) (n3 - (n + 1)) (c3 - (n + 1)) := ⟨_, rfl⟩
        rw [← hvD, ← hvS] at hcp
        have HVD := hid (fun X => hvD ▸ slice_from a3 n n3 c3 (by omega) X)
        have HVS := hid (fun X => hvS ▸ slice_from a3 (n + 1) n3 c3 (by omega) X)
        have HCP := hid hcp
        have e1 : IntKind.i64.wrap ((n : Int) + 1) = ((n + 1 : Nat) : Int) := by rw [IntKind.wrap_i64]; omega
        have hcxk : Wk.heap[w2.heap.size]? = some (.cells #[.slice a9 1 c9, .slice a10 1 c10, .slice a3 n3 c3] 139 (0, 0)) := (hblk _ (fun e => hg3 e.symm)).trans hcx5
        obtain ⟨r2, r2f⟩ := hcell hcxk 2 _ rfl
        have e2 : IntKind.i64.wrap ((n3 : Int) - 1) = ((n3 - 1 : Nat) : Int) := by rw [IntKind.wrap_i64]; omega
        have hr1 : ((n3 - 1 : Nat) : Int) ≤ (c3 : Int) := by omega
        obtain ⟨W9, hW9⟩ : ∃ X, X = Wk.setCell ⟨w2.heap.size, 2, none⟩ (.slice a3 (n3 - 1) c3) := ⟨_, rfl⟩
        have hcx9 : W9.heap[w2.heap.size]? = some (.cells #[.slice a9 1 c9, .slice a10 1 c10, .slice a3 (n3 - 1) c3] 139 (0, 0)) := by rw [hW9]; exact hset hcxk 2 _
        have h9 : ∀ g, g ≠ w2.heap.size → W9.heap[g]? = Wk.heap[g]? := fun g hg => by rw [hW9]; exact hother _ _ _ hg
        have hz9 : W9.heap.size = Wk.heap.size := by rw [hW9]; simp [World.setCell]
        have hos9 : W9.os = Wk.os ∧ W9.tape = Wk.tape ∧ W9.output = Wk.output := by rw [hW9]; exact ⟨rfl, rfl, rfl⟩
        have s2 := (hcell hcx9 2 _ rfl).1
        have hke : keptM kids = [] := List.length_eq_zero_iff.1 HKK.out
        have hfin : LowRS d kids lo hi b sb (.slice la n lc) n loc out P w (.returned (.slice a3 (n3 - 1) c3)) W9 := by
          refine ⟨_, n3 - 1, P3, rfl, by omega, by omega, ?_, hOw', ?_, fun g hg => ?_⟩
          · refine ⟨hos9.1.trans (hosk.1.trans hF5.os), hos9.2.1.trans (hosk.2.1.trans hF5.tape), hos9.2.2.trans (hosk.2.2.trans hF5.output), by have := hF5.size; simp at hszk; omega, fun g h1 h2 => ?_⟩
            refine (h9 g (by omega)).trans ((hblk g ?_).trans (hF5.block g h1 h2))
            rintro rfl
            rcases hOw with h | ⟨g', h, hg'⟩
            · rw [ha3] at h
              exact h2 (Or.inr (Or.inr (Or.inr h.symm)))
            · rw [ha3] at h
              have e : g = g' := Option.some.inj h
              omega
          · rw [lowM_style, if_pos hke]
            refine hSk.keep (by omega) (fun g hg => h9 g ?_)
            rcases hg with hg | hg
            · rintro rfl
              rcases h5P _ hg with h | h | h
              · have := (HO.out.1.sP _ h).1; omega
              · have := HH.out.hi_le; omega
              · omega
            · rintro rfl
              rw [ha3] at hg
              exact hg3 (Option.some.inj hg)
          · rcases h5P g hg with h | h | h
            · exact Or.inl h
            · exact Or.inr (Or.inl ⟨by omega, h.2⟩)
            · exact Or.inr (Or.inr (Or.inr (by omega)))
        have HFIN := hid hfin
        have HN3 := hid (show 1 ≤ n3 by omega)
        have HW9 := hid hW9
        have S2 := hid s2
        clear hnn hOw' hF5 hown5 hOw hcx5 hb5 h31 h32 hc3 hhil hws hz5 hs3 hsc hs2 ha3 hcp hownk hszk hblk hosk hg3 hvD hvS hcxk hW9 hcx9 h9 hz9 hos9 s2 hfin h5S h5P hrb5 h3k hlr hrh hSk hke
        go_upto_region 26 with fail
        refine wp_region_dl [(some 121, .pointer (some ⟨w2.heap.size, 2, none⟩)), (some 122, .slice a3 n3 c3), (some 123, .int .i64 (n : Nat)), (some 124, vD), (some 125, .pointer (some ⟨w2.heap.size, 2, none⟩)), (some 126, .slice a3 n3 c3), (some 127, .int .i64 (n : Nat)), (some 128, .int .i64 ((n + 1 : Nat) : Int)), (some 129, vS), (some 130, goInt k)] [9] (fun j => ([W5.drew, Wk] : List World).getD j W5.drew) (fun i => [0, 0, 0, 0, 0, 0, 0, 0, 0, 0].getD i 0) (fun i => [0, 0, 0, 0, 0, 0, 0, 0, 0, 0].getD i 0) 208 (by kernel_rfl) (by kernel_rfl) (by kernel_rfl) (by kernel_rfl) (by decide) (by kernel_rfl) rfl (by kernel_rfl) ?hop26 ?hend26
        case hop26 =>
          intro i o j a ho h1 h2 hd hf K hK
          have hin : i = 0 ∨ i = 1 ∨ i = 2 ∨ i = 3 ∨ i = 4 ∨ i = 5 ∨ i = 6 ∨ i = 7 ∨ i = 8 ∨ i = 9 := by
            rcases Nat.lt_or_ge i 10 with h | h
            · omega
            · rw [Array.getElem?_eq_none h] at ho
              cases ho
          rcases hin with rfl | rfl | rfl | rfl | rfl | rfl | rfl | rfl | rfl | rfl
          · simp only [List.getElem?_toArray, List.getElem?_cons_zero, Option.some.injEq] at ho
            subst ho
            have v0 : a.eval (.tmp 17) = .pointer (some ⟨w2.heap.size, 0, none⟩) := (hf 17 (by kernel_rfl)).trans (by kernel_rfl)
            have u0 : a.tmps[17]?.getD undef = .pointer (some ⟨w2.heap.size, 0, none⟩) := by rw [← Array.getD_eq_getD_getElem?]; exact v0
            clear v0
            have hj : j = 0 := by simp at h1 h2; omega
            clear h1 h2 hd hf
            rcases hj with rfl
            · replace hK : K (a.put (some 121) (.pointer (some ⟨w2.heap.size, 2, none⟩))) (W5.drew) := hK
              have HK := Lib.hid hK
              clear hK
              show if Region.wanted _ (yielded _ a.tmps) = true then Oper.wp _ _ a (W5.drew) K _ else _
              go_simp
              exact HK.out
          · simp only [List.getElem?_toArray, List.getElem?_cons_zero, List.getElem?_cons_succ, Option.some.injEq] at ho
            subst ho
            have v0 : a.eval (.tmp 121) = .pointer (some ⟨w2.heap.size, 2, none⟩) := hd 0 121 (by kernel_rfl) (by kernel_rfl)
            have u0 : a.tmps[121]?.getD undef = .pointer (some ⟨w2.heap.size, 2, none⟩) := by rw [← Array.getD_eq_getD_getElem?]; exact v0
            clear v0
            have hj : j = 0 := by simp at h1 h2; omega
            clear h1 h2 hd hf
            rcases hj with rfl
            · replace hK : K (a.put (some 122) (.slice a3 n3 c3)) (W5.drew) := hK
              have HK := Lib.hid hK
              clear hK
              show if Region.wanted _ (yielded _ a.tmps) = true then Oper.wp _ _ a (W5.drew) K _ else _
              go_simp
              exact HK.out
          · simp only [List.getElem?_toArray, List.getElem?_cons_zero, List.getElem?_cons_succ, Option.some.injEq] at ho
            subst ho
            have v0 : a.eval (.tmp 16) = .int .i64 (n : Nat) := (hf 16 (by kernel_rfl)).trans (by kernel_rfl)
            have u0 : a.tmps[16]?.getD undef = .int .i64 (n : Nat) := by rw [← Array.getD_eq_getD_getElem?]; exact v0
            clear v0
            have hj : j = 0 := by simp at h1 h2; omega
            clear h1 h2 hd hf
            rcases hj with rfl
            · replace hK : K (a.put (some 123) (.int .i64 (n : Nat))) (W5.drew) := hK
              have HK := Lib.hid hK
              clear hK
              show if Region.wanted _ (yielded _ a.tmps) = true then Oper.wp _ _ a (W5.drew) K _ else _
              go_simp
              exact HK.out
          · simp only [List.getElem?_toArray, List.getElem?_cons_zero, List.getElem?_cons_succ, Option.some.injEq] at ho
            subst ho
            have u0 : a.eval (.tmp 122) = .slice a3 n3 c3 := hd 1 122 (by kernel_rfl) (by kernel_rfl)
            have u1 : a.eval (.tmp 123) = .int .i64 (n : Nat) := hd 2 123 (by kernel_rfl) (by kernel_rfl)
            have hj : j = 0 := by simp at h1 h2; omega
            clear h1 h2 hd hf
            rcases hj with rfl
            · replace hK : K (a.put (some 124) (vD)) (W5.drew) := hK
              have HK := Lib.hid hK
              clear hK
              show if Region.wanted _ (yielded _ a.tmps) = true then Oper.wp _ _ a (W5.drew) K _ else _
              exact step_slice rfl (.tmp 122) (.tmp 123) 43 rfl (.slice a3 n3 c3) (.int .i64 (n : Nat)) vD u0 u1 (HVD.out _) HK.out
          · simp only [List.getElem?_toArray, List.getElem?_cons_zero, List.getElem?_cons_succ, Option.some.injEq] at ho
            subst ho
            have v0 : a.eval (.tmp 17) = .pointer (some ⟨w2.heap.size, 0, none⟩) := (hf 17 (by kernel_rfl)).trans (by kernel_rfl)
            have u0 : a.tmps[17]?.getD undef = .pointer (some ⟨w2.heap.size, 0, none⟩) := by rw [← Array.getD_eq_getD_getElem?]; exact v0
            clear v0
            have hj : j = 0 := by simp at h1 h2; omega
            clear h1 h2 hd hf
            rcases hj with rfl
            · replace hK : K (a.put (some 125) (.pointer (some ⟨w2.heap.size, 2, none⟩))) (W5.drew) := hK
              have HK := Lib.hid hK
              clear hK
              show if Region.wanted _ (yielded _ a.tmps) = true then Oper.wp _ _ a (W5.drew) K _ else _
              go_simp
              exact HK.out
          · simp only [List.getElem?_toArray, List.getElem?_cons_zero, List.getElem?_cons_succ, Option.some.injEq] at ho
            subst ho
            have v0 : a.eval (.tmp 125) = .pointer (some ⟨w2.heap.size, 2, none⟩) := hd 4 125 (by kernel_rfl) (by kernel_rfl)
            have u0 : a.tmps[125]?.getD undef = .pointer (some ⟨w2.heap.size, 2, none⟩) := by rw [← Array.getD_eq_getD_getElem?]; exact v0
            clear v0
            have hj : j = 0 := by simp at h1 h2; omega
            clear h1 h2 hd hf
            rcases hj with rfl
            · replace hK : K (a.put (some 126) (.slice a3 n3 c3)) (W5.drew) := hK
              have HK := Lib.hid hK
              clear hK
              show if Region.wanted _ (yielded _ a.tmps) = true then Oper.wp _ _ a (W5.drew) K _ else _
              go_simp
              exact HK.out
          · simp only [List.getElem?_toArray, List.getElem?_cons_zero, List.getElem?_cons_succ, Option.some.injEq] at ho
            subst ho
            have v0 : a.eval (.tmp 16) = .int .i64 (n : Nat) := (hf 16 (by kernel_rfl)).trans (by kernel_rfl)
            have u0 : a.tmps[16]?.getD undef = .int .i64 (n : Nat) := by rw [← Array.getD_eq_getD_getElem?]; exact v0
            clear v0
            have hj : j = 0 := by simp at h1 h2; omega
            clear h1 h2 hd hf
            rcases hj with rfl
            · replace hK : K (a.put (some 127) (.int .i64 (n : Nat))) (W5.drew) := hK
              have HK := Lib.hid hK
              clear hK
              show if Region.wanted _ (yielded _ a.tmps) = true then Oper.wp _ _ a (W5.drew) K _ else _
              go_simp
              exact HK.out
          · simp only [List.getElem?_toArray, List.getElem?_cons_zero, List.getElem?_cons_succ, Option.some.injEq] at ho
            subst ho
            have v0 : a.eval (.tmp 127) = .int .i64 (n : Nat) := hd 6 127 (by kernel_rfl) (by kernel_rfl)
            have u0 : a.tmps[127]?.getD undef = .int .i64 (n : Nat) := by rw [← Array.getD_eq_getD_getElem?]; exact v0
            clear v0
            have hj : j = 0 := by simp at h1 h2; omega
            clear h1 h2 hd hf
            rcases hj with rfl
            · replace hK : K (a.put (some 128) (.int .i64 ((n + 1 : Nat) : Int))) (W5.drew) := hK
              have HK := Lib.hid hK
              clear hK
              show if Region.wanted _ (yielded _ a.tmps) = true then Oper.wp _ _ a (W5.drew) K _ else _
              go_simp
              exact HK.out
          · simp only [List.getElem?_toArray, List.getElem?_cons_zero, List.getElem?_cons_succ, Option.some.injEq] at ho
            subst ho
            have u0 : a.eval (.tmp 126) = .slice a3 n3 c3 := hd 5 126 (by kernel_rfl) (by kernel_rfl)
            have u1 : a.eval (.tmp 128) = .int .i64 ((n + 1 : Nat) : Int) := hd 7 128 (by kernel_rfl) (by kernel_rfl)
            have hj : j = 0 := by simp at h1 h2; omega
            clear h1 h2 hd hf
            rcases hj with rfl
            · replace hK : K (a.put (some 129) (vS)) (W5.drew) := hK
              have HK := Lib.hid hK
              clear hK
              show if Region.wanted _ (yielded _ a.tmps) = true then Oper.wp _ _ a (W5.drew) K _ else _
              exact step_slice rfl (.tmp 126) (.tmp 128) 43 rfl (.slice a3 n3 c3) (.int .i64 ((n + 1 : Nat) : Int)) vS u0 u1 (HVS.out _) HK.out
          · simp only [List.getElem?_toArray, List.getElem?_cons_zero, List.getElem?_cons_succ, Option.some.injEq] at ho
            subst ho
            have u0 : a.eval (.tmp 124) = vD := hd 3 124 (by kernel_rfl) (by kernel_rfl)
            have u1 : a.eval (.tmp 129) = vS := hd 8 129 (by kernel_rfl) (by kernel_rfl)
            have hj : j = 0 := by simp at h1 h2; omega
            clear h1 h2 hd hf
            rcases hj with rfl
            · replace hK : K (a.put (some 130) (goInt k)) (Wk) := hK
              have HK := Lib.hid hK
              clear hK
              show if Region.wanted _ (yielded _ a.tmps) = true then Oper.wp _ _ a (W5.drew) K _ else _
              exact step_copy rfl (.tmp 124) (.tmp 129) 43 43 rfl vD vS _ _ u0 u1 HCP.out HK.out
        simp only [List.foldl_cons, List.foldl_nil, List.length_cons, List.length_nil, List.getD_cons_succ, List.getD_cons_zero, Nat.zero_add]
        simp only [Act.put, List.setIfInBounds_toArray, List.set_cons_zero, List.set_cons_succ]
        clear z1 z2 z2f e1
        go_upto_region 28 with fail
        rw [← HW9.out]
        clear r2 r2f e2 hr1
        have s2 := S2.out
        go_wp2_with fail
        exact bodyPost_ret (v := .slice a3 (n3 - 1) c3) (by simp [results, Tryz.results19, go_sem]) rfl HFIN.out
      · have hcd : ((K : Int) == 0) = false := by simp; omega
        have HK0 := hid hk0
        clear hk0
        go_wp2_with fail
        refine bodyPost_ret (v := .slice a3 n3 c3) (by simp [results, Tryz.results19, go_sem]) rfl ?_
        obtain ⟨hF5, hown5, hOw, hcx5, hb5, h31, h32, hc3, hhil, hws, hz5, hs3, hsc, hs2⟩ := HEND.out
        obtain ⟨h5S, h5P, hrb5, h3k, hlr, hrh⟩ := HS5.out
        have hKK := HKK.out
        have hke : keptM kids ≠ [] := fun e => by rw [e] at hKK; simp at hKK; exact HK0.out hKK.symm
        have hwl := HH.out.hi_le
        have hbl := heap_lt hb5
        have hownb : ∀ g, (Value.slice a3 n3 c3).ownBlock = some g → g ≠ b ∧ g ≠ rb := fun g hg => by
          refine ⟨?_, ?_⟩
          · rintro rfl
            obtain ⟨cur, h⟩ := own_type hown5.choose_spec.1 hg
            rw [hb5] at h
            injection h with h
            injection h with _ h _
            exact absurd h (by decide)
          · rintro rfl
            rcases hOw with h | ⟨g', h, hg'⟩
            · have := HH.out.olw g (h ▸ hg); omega
            · rw [h] at hg; have := Option.some.inj hg; omega
        have hfin := h5S.replace (t' := .mk loc 1 (keptM kids)) (P' := fun g => P3 g ∨ g = b ∨ g = rb) (fun g hg => Or.inl hg) (fun g hg => by
          rcases hg with hg | rfl | rfl
          · exact h5S.sP g hg
          · exact ⟨hbl, fun e => (hownb _ e.symm).1 rfl⟩
          · exact ⟨heap_lt hrb5, fun e => (hownb _ e.symm).2 rfl⟩) (fun c hc => by
          rcases hc with ⟨_, c0, c1⟩ | ⟨h3, _⟩
          · refine Or.inr ⟨show 1 ≤ 2 by omega, 2, c1, Or.inr (Or.inl ⟨rfl, b, _, _, _, ?_, Or.inr (Or.inl rfl), hbl, hb5, ?_⟩)⟩
            · exact c0
            · have h := kept_row (P := fun g => P3 g ∨ g = b ∨ g = rb) (cap := cap) hrb5 h3k (Or.inr (Or.inr rfl))
              rw [hKK] at h
              exact h
          · exact absurd h3 (by show ¬ b + 3 ≤ 2; omega))
        refine ⟨_, n3, fun g => P3 g ∨ g = b ∨ g = rb, rfl, by omega, by omega, hF5, hOw, ?_, fun g hg => ?_⟩
        · rw [lowM_style, if_neg hke]
          exact hfin
        · rcases hg with hg | rfl | rfl
          · rcases h5P g hg with h | h | h
            · exact Or.inl h
            · exact Or.inr (Or.inl ⟨by omega, h.2⟩)
            · exact Or.inr (Or.inr (Or.inr (by omega)))
          · exact Or.inr (Or.inr (Or.inl rfl))
          · exact Or.inr (Or.inl ⟨hlr, hrh⟩)
end Go.Proofs.YtjebnjjhdefejaaGreatFmt
