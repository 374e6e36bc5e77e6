/-
  The remover's state: a call more, an entry more. Conditions: each theorem's own.
-/
import Derived.Test.YtphimfimnakclaaRa
namespace Go.Proofs.Ytphimfimnakclaa
open Go.RowKit Go.Lib Go.ChangeMaps
open Go.Maps (Keyed IsMap)
section
variable {D : Nat → Prop} {B rb : Nat} {E : List Rl} {G : Gh} {w w' : World}
set_option maxRecDepth 100000 in
/-- a call more -/
theorem Rem.call (h : Rem D B rb E G w) (si : Int) (hn : G.cs.length ≤ 1000000) : ∃ (g c : Nat) (w2 : World),
    (Builtin.append_ #[30, 30] 30 #[G.vc, .slice (some ⟨w.heap.size, 0, none⟩) 1 1]).run Try.prog (w.alloc (.cells #[.slice none 0 0, .int .u32 si] 62)) = .ok (.slice (some ⟨g, 0, none⟩) (G.cs.length + 1) c) w2 ∧
    w2.cell? ⟨rb, 1, none⟩ = some G.vc ∧ w2.frozen? ⟨rb, 1, none⟩ = false ∧
    Rem D B rb E { G with vc := .slice (some ⟨g, 0, none⟩) (G.cs.length + 1) c, cs := G.cs ++ [si] } (w2.setCell ⟨rb, 1, none⟩ (.slice (some ⟨g, 0, none⟩) (G.cs.length + 1) c)) ∧
    Below B w (w2.setCell ⟨rb, 1, none⟩ (.slice (some ⟨g, 0, none⟩) (G.cs.length + 1) c)) := by
  obtain ⟨g, c, w2, p1, q1, r1, t1⟩ := h.co.app 30 62 _ 32 (cev si) (cev si) Try.underlying30 info62 rfl (by decide) (by decide) rfl (by intro u hu; simp at hu; rcases hu with rfl | rfl <;> rfl) (fun t ht => rfl) (by rw [List.length_map]; omega)
  rw [List.length_map] at p1 q1 t1
  obtain ⟨ia, ib, sym, sa, sb, hrb⟩ := h.hb
  have z1 : (w.alloc (.cells (cev si).toArray 62)).heap.size = w.heap.size + 1 := by simp
  have s1 := r1.size
  have ge := h.co.ge
  have hBl := h.Ble
  have hrge := h.rge
  have k1 : ∀ q, q < w.heap.size → (∀ cur, w.heap[q]? ≠ some (.cells cur 62 (0, 0))) → w2.heap[q]? = w.heap[q]? := fun q h1 h2 => (r1.block q (by omega) (fun e => by
    obtain ⟨cur, hc⟩ := h.co.typ q e.symm
    exact h2 cur hc)).trans (Below.heap_alloc _ _ _ h1)
  have hrb2 : w2.heap[rb]? = _ := (k1 rb h.rlt (fun cur e => by rw [hrb] at e; injection e with e; injection e with _ e; exact absurd e (by decide))).trans hrb
  have k3 : ∀ q v, q ≠ rb → (w2.setCell ⟨rb, 1, none⟩ v).heap[q]? = w2.heap[q]? := fun q v hq => hother _ _ _ hq
  have kD : ∀ q v, D q → q < w.heap.size → (w2.setCell ⟨rb, 1, none⟩ v).heap[q]? = w.heap[q]? := fun q v hq hl => (k3 q v (by have := h.dlt q hq; omega)).trans ((r1.block q (by omega) (fun e => by
    have := (ge q e.symm).1
    have := h.dlt q hq
    omega)).trans (Below.heap_alloc _ _ _ hl))
  have hsz : ∀ v, (w2.setCell ⟨rb, 1, none⟩ v).heap.size = w2.heap.size := fun v => by simp [World.setCell]
  refine ⟨g, c, w2, p1, (hcell hrb2 1 _ rfl).1, (hcell hrb2 1 _ rfl).2, ?_, ?_⟩
  · exact {
      hb := ⟨ia, ib, sym, sa, sb, by have := hset hrb2 1 (.slice (some ⟨g, 0, none⟩) (G.cs.length + 1) c); exact this⟩
      rge := h.rge
      mge := h.mge
      mp := map_heap h.mp ((k3 _ _ (Ne.symm (map_ne h.mp hrb))).trans (k1 _ h.mp.lt (fun cur e => map_ne h.mp e rfl)))
      im := h.im
      nle := h.nle
      at' := h.at'
      bo := fun x hx => (h.bo x hx).keepP (by rw [hsz]; omega) fun q hq => by
        obtain ⟨cur, hc⟩ := (h.bo x hx).typ q hq
        refine (k3 q _ (fun e => ?_)).trans (k1 q ((h.bo x hx).ge q hq).2 (fun cur2 e => ?_))
        · rw [e, hrb] at hc; injection hc with hc; injection hc with _ hc; exact absurd hc (by decide)
        · rw [hc] at e; injection e with e; injection e with _ e; exact absurd e (by decide)
      ne := h.ne
      dat := fun x hx y hy => by
        obtain ⟨d1, d2, d3⟩ := h.dat x hx y hy
        exact ⟨by simp; omega, d2.keep (by rw [hsz]; omega) (fun q => kD q _), d3⟩
      mod := h.mod
      len := h.len
      co := by
        have := q1.keepP (w' := w2.setCell ⟨rb, 1, none⟩ (.slice (some ⟨g, 0, none⟩) (G.cs.length + 1) c)) (by rw [hsz]; exact Nat.le_refl _) (fun q hq => k3 q _ (fun e => by
          obtain ⟨cur, hc⟩ := q1.typ q hq
          rw [e, hrb2] at hc; injection hc with hc; injection hc with _ hc; exact absurd hc (by decide)))
        show BO (PT 2) 62 B _ ((G.cs ++ [si]).map cev) _
        rw [List.map_append]
        exact this
      dlt := h.dlt }
  · exact ⟨(os_set _ _ _).1.trans r1.os, (os_set _ _ _).2.1.trans r1.tape, (os_set _ _ _).2.2.trans r1.output, by rw [hsz]; omega, fun q hq => (k3 q _ (by omega)).trans ((r1.block q (by omega) (fun e => by have := (ge q e.symm).1; omega)).trans (Below.heap_alloc _ _ _ (by omega)))⟩
/-- the parts with an entry more -/
def Gh.put (G : Gh) (x : Int) (v : Value) (y : Ent) : Gh := { G with Bk := fun z => if z = x then v else G.Bk z, ms := fun z => if z = x then G.ms x ++ [y] else G.ms z, Dm := G.Dm.put (.int .u32 x) (.held (.agg #[v])), n := G.n + 1 }
set_option maxRecDepth 100000 in
/-- an entry more -/
theorem Rem.put (h : Rem D B rb E G w) {r : Rl} {b cc tb : Nat} (hcc : cc < G.cs.length) (hd : Dat D w b r) (hg : Good r) (hE : E.length ≤ 1000000) (htb : w.heap[tb]? = some (.cells #[G.Bk (hRule r)] 72 (0, 0))) (hB : B ≤ tb) : ∃ (g c : Nat) (w2 : World),
    (Builtin.append_ #[70, 70] 70 #[G.Bk (hRule r), .slice (some ⟨w.heap.size, 0, none⟩) 1 1]).run Try.prog (w.alloc (.cells #[ifc 63 b, .int .u32 (cc : Nat)] 74)) = .ok (.slice (some ⟨g, 0, none⟩) ((G.ms (hRule r)).length + 1) c) w2 ∧
    w2.heap[tb]? = w.heap[tb]? ∧ w2.heap[rb]? = w.heap[rb]? ∧
    ∃ w4, (Instr.mapUpdate 29 (.map (some G.mb)) (.int .u32 (hRule r)) (.agg #[.slice (some ⟨g, 0, none⟩) ((G.ms (hRule r)).length + 1) c])).run Try.prog (w2.setCell ⟨tb, 0, none⟩ (.slice (some ⟨g, 0, none⟩) ((G.ms (hRule r)).length + 1) c)).drew = .ok () w4 ∧
    Rem D B rb (r :: E) (G.put (hRule r) (.slice (some ⟨g, 0, none⟩) ((G.ms (hRule r)).length + 1) c) (b, cc, r)) w4 ∧ Below B w w4 ∧
    ∀ q arr e fz, w.heap[q]? = some (.cells arr e fz) → e ≠ 74 → q ≠ tb → w4.heap[q]? = w.heap[q]? := by
  have hx := hRule_range r
  obtain ⟨g, c, w2, p1, q1, r1, t1⟩ := (h.bo _ hx).app 70 74 _ 24 (env (b, cc, r)) (env (b, cc, r)) Try.underlying70 info74 rfl (by decide) (by decide) rfl (by intro u hu; simp at hu; rcases hu with rfl | rfl <;> rfl) (fun t ht => rfl) (by rw [List.length_map]; have := h.len _ hx; omega)
  rw [List.length_map] at p1 q1 t1
  obtain ⟨ia, ib, sym, sa, sb, hrb⟩ := h.hb
  have z1 : (w.alloc (.cells (env (b, cc, r)).toArray 74)).heap.size = w.heap.size + 1 := by simp
  have s1 := r1.size
  have ge := (h.bo _ hx).ge
  have hBl := h.Ble
  have hrge := h.rge
  have hmge := h.mge
  obtain ⟨nv, hnv⟩ : ∃ v, v = Value.slice (some ⟨g, 0, none⟩) ((G.ms (hRule r)).length + 1) c := ⟨_, rfl⟩
  refine ⟨g, c, w2, ?_⟩
  rw [← hnv] at p1 q1 t1 ⊢
  -- what the append keeps
  have k1 : ∀ q, q < w.heap.size → some q ≠ (G.Bk (hRule r)).ownBlock → w2.heap[q]? = w.heap[q]? := fun q h1 h2 => (r1.block q (by omega) h2).trans (Below.heap_alloc _ _ _ h1)
  have n74 : ∀ q arr e fz, w.heap[q]? = some (.cells arr e fz) → e ≠ 74 → some q ≠ (G.Bk (hRule r)).ownBlock := fun q arr e fz hq he e2 => by
    obtain ⟨cur, hc⟩ := (h.bo _ hx).typ q e2.symm
    rw [hq] at hc
    injection hc with hc
    injection hc with _ hc
    exact he hc
  have htb2 := (k1 tb (heap_lt htb) (n74 _ _ _ _ htb (by decide))).trans htb
  have hrb2 := (k1 rb h.rlt (n74 _ _ _ _ hrb (by decide))).trans hrb
  have hm2 : w2.heap[G.mb]? = w.heap[G.mb]? := k1 _ h.mp.lt (fun e => by
    obtain ⟨cur, hc⟩ := (h.bo _ hx).typ _ e.symm
    exact map_ne h.mp hc rfl)
  -- the store
  have o3 : ∀ q, q ≠ tb → (w2.setCell ⟨tb, 0, none⟩ nv).heap[q]? = w2.heap[q]? := fun q hq => hother _ _ _ hq
  have s3 : (w2.setCell ⟨tb, 0, none⟩ nv).heap.size = w2.heap.size := by simp [World.setCell]
  have hos3 := os_set w2 ⟨tb, 0, none⟩ nv
  obtain ⟨w3, hw3⟩ : ∃ X, X = w2.setCell ⟨tb, 0, none⟩ nv := ⟨_, rfl⟩
  rw [← hw3] at o3 s3 hos3 ⊢
  have hm3 : w3.heap[G.mb]? = w.heap[G.mb]? := (o3 _ (Ne.symm (map_ne h.mp htb))).trans hm2
  obtain ⟨w4, u1, u2, u3⟩ := (map_heap h.mp hm3).drew.update keyed35 Try.underlying29 (by have := h.nle; unfold maxLen; omega) (key35 hx) (val := .agg #[nv]) (d := .held (.agg #[nv])) (ps := []) rfl
  have s4 : w3.heap.size ≤ w4.heap.size := u3.size
  have o4 : ∀ q, q < w3.heap.size → q ≠ G.mb → w4.heap[q]? = w3.heap[q]? := fun q h1 h2 => u3.block q h1 (fun e => h2 (by injection e))
  have keep : ∀ q, q < w.heap.size → some q ≠ (G.Bk (hRule r)).ownBlock → q ≠ tb → q ≠ G.mb → w4.heap[q]? = w.heap[q]? := fun q h1 h2 h3 h4 => (o4 q (by omega) h4).trans ((o3 q h3).trans (k1 q h1 h2))
  have keepB : ∀ q, q < B → w4.heap[q]? = w.heap[q]? := fun q hq => keep q (by omega) (fun e => by have := (ge q e.symm).1; omega) (by omega) (by omega)
  have nb : ∀ q cur, w2.heap[q]? = some (.cells cur 74 (0, 0)) → q ≠ tb ∧ q ≠ G.mb := fun q cur hc => ⟨fun e => by
    rw [e, htb2] at hc; injection hc with hc; injection hc with _ hc; exact absurd hc (by decide), fun e => map_ne (map_heap h.mp hm2) hc e⟩
  refine ⟨p1, htb2.trans htb.symm, hrb2.trans hrb.symm, w4, u1, ?_, ?_, ?_⟩
  · exact {
      hb := ⟨ia, ib, sym, sa, sb, (keep rb h.rlt (n74 _ _ _ _ hrb (by decide)) (fun e => by
        rw [e, htb] at hrb; injection hrb with hrb; injection hrb with _ hrb; exact absurd hrb (by decide)) (map_ne h.mp hrb)).trans hrb⟩
      rge := h.rge
      mge := h.mge
      mp := u2
      im := h.im.put _ _
      nle := by have := h.nle; show G.n + 1 ≤ (r :: E).length; simp; omega
      at' := fun y hy => by
        show (G.Dm.put _ _).atKey _ _ = .held (.agg #[if y = hRule r then nv else G.Bk y])
        by_cases e : y = hRule r
        · subst e
          rw [if_pos rfl]
          exact Maps.atKey_put_same h.im (show WideAt.IsKeyLit (.int _ _) from trivial) _ _
        · rw [if_neg e, Maps.atKey_put_other (by intro q; injection q with _ q; exact e q)]
          exact h.at' y hy
      bo := fun y hy => by
        show BO (PT 2) 74 B (if y = hRule r then nv else G.Bk y) ((if y = hRule r then G.ms (hRule r) ++ [(b, cc, r)] else G.ms y).map env) w4
        by_cases e : y = hRule r
        · rw [if_pos e, if_pos e, List.map_append]
          refine q1.keepP (by omega) (fun q hq => ?_)
          obtain ⟨cur, hc⟩ := q1.typ q hq
          have := (q1.ge q hq).2
          exact (o4 q (by omega) (nb q cur hc).2).trans (o3 q (nb q cur hc).1)
        · rw [if_neg e, if_neg e]
          refine (h.bo y hy).keepP (by omega) (fun q hq => ?_)
          obtain ⟨cur, hc⟩ := (h.bo y hy).typ q hq
          have hne : some q ≠ (G.Bk (hRule r)).ownBlock := fun e2 => h.ne y _ hy hx e q hq e2.symm
          have hc2 := (k1 q ((h.bo y hy).ge q hq).2 hne).trans hc
          exact keep q ((h.bo y hy).ge q hq).2 hne (nb q cur hc2).1 (nb q cur hc2).2
      ne := fun y z hy hz hyz q hq e2 => by
        have hq' : (if y = hRule r then nv else G.Bk y).ownBlock = some q := hq
        have e2' : (if z = hRule r then nv else G.Bk z).ownBlock = some q := e2
        have cross : ∀ y, u32r y → y ≠ hRule r → (G.Bk y).ownBlock = some q → nv.ownBlock = some q → False := fun y hy hne a1 a2 => by
          rcases t1 with t | t
          · rw [t] at a2
            exact h.ne y _ hy hx hne q a1 a2
          · rw [t] at a2
            injection a2 with a2
            have := ((h.bo y hy).ge q a1).2
            omega
        by_cases e : y = hRule r
        · rw [if_pos e] at hq'
          rw [if_neg (fun e3 => hyz (e.trans e3.symm))] at e2'
          exact cross z hz (fun e3 => hyz (e.trans e3.symm)) e2' hq'
        · rw [if_neg e] at hq'
          by_cases e3 : z = hRule r
          · rw [if_pos e3] at e2'
            exact cross y hy e hq' e2'
          · rw [if_neg e3] at e2'
            exact h.ne y z hy hz hyz q hq' e2'
      dat := fun y hy x hx2 => by
        have hx2' : x ∈ if y = hRule r then G.ms (hRule r) ++ [(b, cc, r)] else G.ms y := hx2
        have kd : ∀ {b' r'}, Dat D w b' r' → Dat D w4 b' r' := fun hd => hd.keep (by omega) (fun q hq _ => keepB q (h.dlt q hq))
        by_cases e : y = hRule r
        · rw [if_pos e, List.mem_append, List.mem_singleton] at hx2'
          rcases hx2' with m | rfl
          · obtain ⟨d1, d2, d3⟩ := h.dat _ hx x m
            exact ⟨d1, kd d2, d3⟩
          · exact ⟨hcc, kd hd, hg⟩
        · rw [if_neg e] at hx2'
          obtain ⟨d1, d2, d3⟩ := h.dat y hy x hx2'
          exact ⟨d1, kd d2, d3⟩
      mod := fun y hy r' => by
        show (∃ x ∈ (if y = hRule r then G.ms (hRule r) ++ [(b, cc, r)] else G.ms y), x.2.2 = r') ↔ _
        by_cases e : y = hRule r
        · rw [if_pos e]
          have := h.mod _ hx r'
          constructor
          · rintro ⟨x, hm, rfl⟩
            rw [List.mem_append, List.mem_singleton] at hm
            rcases hm with hm | rfl
            · obtain ⟨a1, a2⟩ := this.1 ⟨x, hm, rfl⟩
              exact ⟨List.mem_cons_of_mem _ a1, a2.trans e.symm⟩
            · exact ⟨List.mem_cons_self, e.symm⟩
          · rintro ⟨hm, he⟩
            rcases List.mem_cons.1 hm with rfl | hm
            · exact ⟨(b, cc, r'), by simp, rfl⟩
            · obtain ⟨x, a1, a2⟩ := this.2 ⟨hm, he.trans e⟩
              exact ⟨x, List.mem_append_left _ a1, a2⟩
        · rw [if_neg e, h.mod y hy r']
          constructor
          · rintro ⟨a1, a2⟩
            exact ⟨List.mem_cons_of_mem _ a1, a2⟩
          · rintro ⟨a1, a2⟩
            rcases List.mem_cons.1 a1 with rfl | a1
            · exact absurd a2.symm e
            · exact ⟨a1, a2⟩
      len := fun y hy => by
        show (if y = hRule r then G.ms (hRule r) ++ [(b, cc, r)] else G.ms y).length ≤ (r :: E).length
        by_cases e : y = hRule r
        · rw [if_pos e]
          have := h.len _ hx
          simp
          omega
        · rw [if_neg e]
          have := h.len y hy
          simp
          omega
      co := h.co.keepP (by omega) (fun q hq => by
        obtain ⟨cur, hc⟩ := h.co.typ q hq
        exact keep q (h.co.ge q hq).2 (n74 _ _ _ _ hc (by decide)) (fun e => by
          rw [e, htb] at hc; injection hc with hc; injection hc with _ hc; exact absurd hc (by decide)) (map_ne h.mp hc))
      dlt := h.dlt }
  · exact ⟨u3.os.trans (hos3.1.trans r1.os), u3.tape.trans (hos3.2.1.trans r1.tape), u3.output.trans (hos3.2.2.trans r1.output), by omega, keepB⟩
  · exact fun q arr e fz hq he htb' => keep q (heap_lt hq) (n74 _ _ _ _ hq he) htb' (map_ne h.mp hq)
end
end Go.Proofs.Ytphimfimnakclaa
