/-
  The rules ahead; the exported lowering. Conditions: each theorem's own.
-/
import Derived.Test.YtjebnjjhdefejaaGreatFmtSl
import Derived.Test.YtjebnjjhdefejaaGreatFmtNd
namespace Go.Proofs.YtjebnjjhdefejaaGreatFmt
open Go.RowKit Go.Lib Go.ChangeMaps
theorem bytes4z (a0 a1 : Option Addr) (n0 n1 k0 k1 : Nat) (m : Int) (w : World) :
    Calls Tryz.prog 4 #[.slice a0 n0 k0, .slice a1 n1 k1, .int .i64 m] w fun e w' => (∃ b, e = .returned (.bool b)) ∧ w' = w := by
  go_enter Tryz.func4, Tryz.ntmps4
  go_wp2_with fail
  all_goals (go_ret; exact ⟨⟨_, rfl⟩, rfl⟩)
/-- the rules ahead: declarations at places below zero -/
def prefM (m : Nat) : List Tr := (List.range m).map fun (j : Nat) => Tr.mk (-1 - (j : Int)) 0 []
theorem prefM_succ (m : Nat) : prefM (m + 1) = prefM m ++ [.mk (-1 - (m : Int)) 0 []] := by
  unfold prefM
  rw [List.range_succ, List.map_append]
  rfl
theorem prefM_len (m : Nat) : (prefM m).length = m := by simp [prefM]
theorem prefM_kind (m : Nat) : ∀ t ∈ prefM m, t.kind = 0 := fun t ht => by
  obtain ⟨j, _, rfl⟩ := List.mem_map.1 ht
  rfl
structure MprI (w : World) (m g : Nat) (v vi : Value) (wx : World) : Prop where
  ex : ∃ j, j + g = m ∧ vi = .int .i64 (j : Nat) ∧ OutD wx v j (prefM j) (fun _ => False) ∧ Below w.heap.size w wx ∧ ∀ g, v.ownBlock = some g → w.heap.size ≤ g
structure MprR (m : Nat) (w : World) (e : Ending) (w' : World) : Prop where
  ex : ∃ v, e = .returned v ∧ OutD w' v m (prefM m) (fun _ => False) ∧ Below w.heap.size w w' ∧ ∀ g, v.ownBlock = some g → w.heap.size ≤ g
set_option maxHeartbeats 4000000 in
set_option maxRecDepth 100000 in
theorem mpref (m : Nat) (hm : m ≤ 4096) (w : World) : Calls Tryz.prog 14 #[.int .i64 (m : Int)] w fun e w' => MprR m w e w' := by
  obtain ⟨W2, hW2⟩ : ∃ X, X = w.alloc (mkO (.agg #[.int .i32 0, .int .i64 0, .slice none 0 0]) (m * 3) 97) := ⟨_, rfl⟩
  have mk2 := mkS0 46 97 _ 3 40 Tryz.underlying46 info_MRULE (by decide) m (by omega) w
  rw [← hW2] at mk2
  have H0 := hid (show MprI w m m (.slice (some ⟨w.heap.size, 0, none⟩) 0 m) (.int .i64 0) W2 from ⟨0, by omega, rfl, ⟨rfl, ⟨[], by rw [hW2]; exact own_made w _ _ 97 3 _ rfl (by unfold maxLen; omega), fun u hu => (by cases hu), fun i hi => by cases hi⟩, fun g hg => hg.elim⟩, by rw [hW2]; exact (Below.refl _ _).alloc (Nat.le_refl _) _, fun g hg => Nat.le_of_eq (Option.some.inj hg)⟩)
  have HM := hid hm
  clear hW2 hm
  go_enter Tryz.func14, Tryz.ntmps14
  go_upto_region 3 with fail
  clear mk2
  go_loopg [3, 4] m (fun g v3 v4 wx => MprI w m g v3 v4 wx)
  case atStart => exact H0.out
  case round =>
    obtain ⟨j, hjg, rfl, q1, q2, q3⟩ := hrel.ex
    obtain ⟨a, c, rfl, _⟩ := q1.shape
    have hm := HM.out
    cases gk with
    | zero =>
      obtain rfl : j = m := by omega
      have hcd : ¬ (j : Int) < (j : Int) := by omega
      have HR := hid (show MprR j w (.returned (.slice a j c)) wr from ⟨_, rfl, q1, q2, q3⟩)
      clear hrel H0 q1 q2 q3
      go_wp2_with fail
      exact bodyPost_ret (v := .slice a j c) (by simp [results, Tryz.results14, go_sem]) rfl HR.out
    | succ g =>
      have hc : (j : Int) < (m : Int) := by omega
      have e1 : IntKind.i64.wrap ((j : Int) + 1) = ((j + 1 : Nat) : Int) := by rw [IntKind.wrap_i64]; omega
      obtain ⟨v', w', p1, p2, p3, p4⟩ := app_oneD (kids := []) (P2 := fun _ => False) q1 (-1 - (j : Int)) 0 (kv := .slice none 0 0) rfl (RowL.nil _ _ _ _) (by simp) (fun g h => h.elim) (by omega)
      have hP : (fun g : Nat => False ∨ False) = fun _ => False := by funext g; simp
      have HN := hid (show MprI w m g v' (.int .i64 ((j + 1 : Nat) : Int)) w' from ⟨j + 1, by omega, rfl, by rw [prefM_succ, ← hP]; exact p2, below_grow q2 q2.size p3 q3, fun g hg => by
        have := q2.size
        rcases p4 with h | ⟨g', h, hq⟩
        · exact q3 g (h ▸ hg)
        · rw [h] at hg; have := Option.some.inj hg; omega⟩)
      have HA := hid p1
      obtain ⟨z, hz⟩ : ∃ z, z = -1 - (j : Int) := ⟨_, rfl⟩
      have e2 : IntKind.i64.wrap (-1 - (j : Int)) = z := by rw [IntKind.wrap_i64]; omega
      have e3 : IntKind.i32.wrap z = z := by rw [IntKind.wrap_i32]; omega
      rw [← hz] at HA
      clear hrel H0 q1 q2 q3 p1 p2 p3 p4 hz hm
      go_wp2_with (at_builtin; go_loud (refine list_run rfl _ _ 46 rfl (.slice a j c) (.slice (some ⟨wr.heap.size, 0, none⟩) 1 1) _ w' rfl rfl HA.out ?_))
      go_roundg g
      case measure => omega
      case rel => exact HN.out
theorem snoc_decl {w : World} {v : Value} {n b : Nat} {out : List Tr} {P : Nat → Prop} {l : Int} (hOS : OutS w v n out P) (hn : n + 1 ≤ 1000000) : ∃ v' w', (Builtin.append_ #[43, 43] 43 #[v, .slice (some ⟨w.heap.size, 0, none⟩) 1 1]).run Tryz.prog (w.alloc (.cells #[.iface 103 (.pointer (some ⟨b, 0, none⟩)), .int .i32 l] 39)) = .ok v' w' ∧ OutS w' v' (n + 1) (out ++ [.mk l 0 []]) P ∧ w.grownBy w' v.ownBlock ∧ OwnG w v v' := by
  obtain ⟨la, lc, rfl, hlc⟩ : ∃ a c, v = .slice a n c ∧ n ≤ c := by
    obtain ⟨xs, ho, _⟩ := hOS.ru
    exact own_shape ho
  have hb2 : Below w.heap.size w (w.alloc (.cells #[.iface 103 (.pointer (some ⟨b, 0, none⟩)), .int .i32 l] 39)) := (Below.refl _ _).alloc (Nat.le_refl _) _
  have hnew := heap_alloc_new w (.cells #[.iface 103 (.pointer (some ⟨b, 0, none⟩)), .int .i32 l] 39)
  obtain ⟨v2, w2, ha, hS2, hg2, hat⟩ := app_twoS (w := w.alloc (.cells #[.iface 103 (.pointer (some ⟨b, 0, none⟩)), .int .i32 l] 39)) (k := 1) (c := 1) (out2 := [.mk l 0 []]) (hOS.below hb2) (one_ownS hnew rfl rfl (Or.inr ⟨Nat.zero_le _, 1, rfl, Or.inl ⟨rfl, rfl, b, rfl⟩⟩)) rfl (by omega)
  have hgW : w.grownBy w2 (Value.slice la n lc).ownBlock := grown_below hb2 hg2
  have hOG : OwnG w (.slice la n lc) v2 := hat.imp id fun ⟨g, e, hq⟩ => ⟨g, e, by have := hb2.size; omega⟩
  exact ⟨v2, w2, ha, ⟨by have := hOS.len; simp; omega, hS2, fun g hg => ⟨by have := (hOS.sP g hg).1; have := hgW.size; omega, fun e => by
    rcases hOG with h | ⟨g', h, hq⟩
    · exact (hOS.sP g hg).2 (e.trans h)
    · rw [h] at e
      have := Option.some.inj e
      have := (hOS.sP g hg).1
      omega⟩⟩, hgW, hOG⟩
structure PrI (w : World) (m g : Nat) (v vi : Value) (wx : World) : Prop where
  ex : ∃ j, j + g = m ∧ vi = .int .i64 (j : Nat) ∧ OutS wx v j (prefM j) (fun _ => False) ∧ Below w.heap.size w wx ∧ ∀ g, v.ownBlock = some g → w.heap.size ≤ g
structure PrR (m : Nat) (w : World) (e : Ending) (w' : World) : Prop where
  ex : ∃ v, e = .returned v ∧ OutS w' v m (prefM m) (fun _ => False) ∧ Below w.heap.size w w' ∧ ∀ g, v.ownBlock = some g → w.heap.size ≤ g
set_option maxHeartbeats 4000000 in
set_option maxRecDepth 100000 in
theorem pref (m : Nat) (hm : m ≤ 4096) (w : World) : Calls Tryz.prog 12 #[.int .i64 (m : Int)] w fun e w' => PrR m w e w' := by
  obtain ⟨W2, hW2⟩ : ∃ X, X = w.alloc (mkO (.agg #[.nilIface, .int .i32 0]) (m * 2) 39) := ⟨_, rfl⟩
  have mk2 := mkS0 43 39 _ 2 24 Tryz.underlying43 info_RULE (by decide) m (by omega) w
  rw [← hW2] at mk2
  have H0 := hid (show PrI w m m (.slice (some ⟨w.heap.size, 0, none⟩) 0 m) (.int .i64 0) W2 from ⟨0, by omega, rfl, ⟨rfl, ⟨[], by rw [hW2]; exact own_made w _ _ 39 2 _ rfl (by unfold maxLen; omega), fun u hu => (by cases hu), fun i hi => by cases hi⟩, fun g hg => hg.elim⟩, by rw [hW2]; exact (Below.refl _ _).alloc (Nat.le_refl _) _, fun g hg => Nat.le_of_eq (Option.some.inj hg)⟩)
  have HM := hid hm
  clear hW2 hm
  go_enter Tryz.func12, Tryz.ntmps12
  go_upto_region 3 with fail
  clear mk2
  go_loopg [3, 4] m (fun g v3 v4 wx => PrI w m g v3 v4 wx)
  case atStart => exact H0.out
  case round =>
    obtain ⟨j, hjg, rfl, q1, q2, q3⟩ := hrel.ex
    obtain ⟨a, c, rfl, _⟩ : ∃ a c, u3 = .slice a j c ∧ j ≤ c := by
      obtain ⟨xs, ho, _⟩ := q1.ru
      exact own_shape ho
    have hm := HM.out
    cases gk with
    | zero =>
      obtain rfl : j = m := by omega
      have hcd : ¬ (j : Int) < (j : Int) := by omega
      have HR := hid (show PrR j w (.returned (.slice a j c)) wr from ⟨_, rfl, q1, q2, q3⟩)
      clear hrel H0 q1 q2 q3
      go_wp2_with fail
      exact bodyPost_ret (v := .slice a j c) (by simp [results, Tryz.results12, go_sem]) rfl HR.out
    | succ g =>
      have hc : (j : Int) < (m : Int) := by omega
      have e1 : IntKind.i64.wrap ((j : Int) + 1) = ((j + 1 : Nat) : Int) := by rw [IntKind.wrap_i64]; omega
      obtain ⟨z, hz⟩ : ∃ z, z = -1 - (j : Int) := ⟨_, rfl⟩
      have e2 : IntKind.i64.wrap (-1 - (j : Int)) = z := by rw [IntKind.wrap_i64]; omega
      have e3 : IntKind.i32.wrap z = z := by rw [IntKind.wrap_i32]; omega
      have HQ := hid (And.intro q1 (And.intro q2 (And.intro q3 (And.intro hz (And.intro hm hjg)))))
      clear hrel H0 q1 q2 q3 hz hm hjg
      go_wp2_with fail
      refine (de23 z wr).mono ?_
      rintro e w1 hR
      obtain ⟨b, rfl, hb1⟩ := hR.ex
      obtain ⟨q1, q2, q3, hz, hm, hjg⟩ := HQ.out
      obtain ⟨v', w', p1, p2, p3, p4⟩ := snoc_decl (b := b) (l := z) (q1.below hb1) (by omega)
      have hs1 := hb1.size
      have hs2 := q2.size
      have HN := hid (show PrI w m g v' (.int .i64 ((j + 1 : Nat) : Int)) w' from ⟨j + 1, by omega, rfl, by rw [prefM_succ, ← hz]; exact p2, below_grow (q2.trans (hb1.mono hs2)) (by omega) p3 q3, fun g hg => by
        rcases p4 with h | ⟨g', h, hq⟩
        · exact q3 g (h ▸ hg)
        · rw [h] at hg; have := Option.some.inj hg; omega⟩)
      have HA := hid p1
      clear hR q1 q2 q3 hz hm hjg p1 p2 p3 p4 hb1 hs1 hs2
      go_wp2_with (at_builtin; go_loud (refine list_run rfl _ _ 43 rfl (.slice a j c) (.slice (some ⟨w1.heap.size, 0, none⟩) 1 1) _ w' rfl rfl HA.out ?_))
      go_roundg g
      case measure => have := HQ.out.2.2.2.2.2; omega
      case rel => exact HN.out
structure ZlR (d : Nat) (t : Tr) (lo hi : Nat) (out : List Tr) (w : World) (e : Ending) (w' : World) : Prop where
  ex : ∃ v n' P', e = .returned v ∧ OutS w' v n' (out ++ lowM d false t) P' ∧ n' ≤ 1000000 ∧ Below lo w w'
set_option maxRecDepth 100000 in
/-- the exported name of the lowering -/
theorem zlow (d : Nat) (t : Tr) (w : World) (lo hi T b : Nat) (lw : Value) (n pb : Nat) (out : List Tr) (hT : InT d w lo hi (.iface T (.pointer (some ⟨b, 0, none⟩))) t) (hhi : hi ≤ w.heap.size) (hOS : OutS w lw n out (fun _ => False)) (hp : Par w pb) (hpb : pb < lo ∨ hi ≤ pb) (hlo : lo ≤ hi) (hlw : ∀ g, lw.ownBlock = some g → hi ≤ g) (hd : 1 + d ≤ 10000) (hn : n + cntT d t ≤ 1000000) :
    Calls Tryz.prog 11 #[.pointer (some ⟨pb, 0, none⟩), .agg #[.iface T (.pointer (some ⟨b, 0, none⟩)), .int .i32 t.loc], lw] w fun e w' => ZlR d t lo hi out w e w' := by
  obtain ⟨la, lc, rfl, _⟩ : ∃ a c, lw = .slice a n c ∧ n ≤ c := by
    obtain ⟨xs, ho, _⟩ := hOS.ru
    exact own_shape ho
  obtain ⟨W1, hW1⟩ : ∃ X, X = w.alloc (.cells #[.iface T (.pointer (some ⟨b, 0, none⟩)), .int .i32 t.loc] 39) := ⟨_, rfl⟩
  have hb1 : Below w.heap.size w W1 := by rw [hW1]; exact (Below.refl _ _).alloc (Nat.le_refl _) _
  have h1 : W1.heap[w.heap.size]? = some (.cells #[.iface T (.pointer (some ⟨b, 0, none⟩)), .int .i32 t.loc] 39 (0, 0)) := by rw [hW1]; exact heap_alloc_new _ _
  have hs1 := hb1.size
  have hp1 : Par W1 pb := by
    obtain ⟨arr, q1, q2⟩ := hp.ex
    exact ⟨arr, (hb1.block _ (heap_lt q1)).trans q1, q2⟩
  have CL := hid (ptop d t W1 lo hi _ (.slice la n lc) n pb out _ (InT.keep d lo hi _ t hs1 (fun g _ hg => hb1.block g (by omega)) hT) (by omega) (hOS.below hb1) hp1 hpb (fun g hg => Or.inr (hlw g hg)) (fun g hg => hg.elim) hd hn)
  have HB := hid (And.intro hb1 (And.intro hW1 (And.intro hn (And.intro (And.intro hlo hhi) hlw))))
  have a0 := (hcell h1 0 _ rfl).1
  have a1 := (hcell h1 1 _ rfl).1
  have al := heap_lt h1
  clear hT hhi hOS hp hpb hlo hlw hd hn hW1 hb1 h1 hs1 hp1
  go_enter Tryz.func11, Tryz.ntmps11
  go_upto_region 1 with fail
  rw [← HB.out.2.1]
  go_wp2_with fail
  refine CL.out.mono ?_
  rintro e w3 hR
  obtain ⟨lw3, n3, P3, rfl, q1, q2, q3, q4, q5, q6⟩ := hR.ex
  obtain ⟨hb1, hW1, hn, ⟨hlo, hhi⟩, hlw⟩ := HB.out
  have HF := hid (show ZlR d t lo hi out w (.returned lw3) w3 from ⟨lw3, n3, P3, rfl, q5, by omega, ⟨q3.os.trans hb1.os, q3.tape.trans hb1.tape, q3.output.trans hb1.output, by have := hb1.size; have := q3.size; omega, fun g hg => (q3.block g (by have := hb1.size; omega) (fun h => by
    rcases h with h | h
    · omega
    · have := hlw g h; omega)).trans (hb1.block g (by omega))⟩⟩)
  obtain ⟨a3, c3, rfl, _⟩ : ∃ a c, lw3 = .slice a n3 c ∧ n3 ≤ c := by
    obtain ⟨xs, ho, _⟩ := q5.ru
    exact own_shape ho
  clear hR CL q1 q2 q3 q4 q5 q6 hb1 hW1 hn hlo hhi hlw
  go_wp2_with fail
  exact bodyPost_ret (v := .slice a3 n3 c3) (by simp [results, Tryz.results11, go_sem]) rfl HF.out
end Go.Proofs.YtjebnjjhdefejaaGreatFmt
