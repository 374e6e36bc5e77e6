/-
  The contracts of a lowering, with what it leaves. Conditions: each theorem's own.
-/
import Derived.Test.YtjebnjjhdefejaaGreatFmtSb
namespace Go.Proofs.YtjebnjjhdefejaaGreatFmt
open Go.RowKit Go.Lib Go.ChangeMaps
structure CtxRS (d : Nat) (t : Tr) (lo hi : Nat) (v : Value) (cb : Nat) (pw pn lw : Value) (n : Nat) (S : Nat → Prop) (m pb : Nat) (out : List Tr) (P : Nat → Prop) (w : World) (e : Ending) (w' : World) : Prop where
  ex : ∃ lw' n' P', e = .returned (retV t v) ∧ n ≤ n' ∧ n' ≤ n + cntT d t ∧ CtxOK w' cb pw pn lw' n' S m pb ∧ FrM (Mod lo hi cb lw) w w' ∧ OwnG w lw lw' ∧ OutS w' lw' n' (out ++ lowM d true t) P' ∧ ∀ g, P' g → P g ∨ (lo ≤ g ∧ g < hi) ∨ w.heap.size ≤ g
structure RemRS (d rb cap : Nat) (arr : Array Value) (ts : List Tr) (lo hi : Nat) (cb : Nat) (pw pn lw : Value) (n : Nat) (S : Nat → Prop) (m pb : Nat) (out : List Tr) (P : Nat → Prop) (w : World) (e : Ending) (w' : World) : Prop where
  ex : ∃ lw' n' arr' P', e = .returned (.slice (some ⟨rb, 0, none⟩) (keptM ts).length cap) ∧ n ≤ n' ∧ n' ≤ n + cntTL d ts ∧ CtxOK w' cb pw pn lw' n' S m pb ∧ FrM (Mod lo hi cb lw) w w' ∧ OwnG w lw lw' ∧
    w'.heap[rb]? = some (.cells arr' 39 (0, 0)) ∧ arr'.size = arr.size ∧ Kept arr' ts ∧ OutS w' lw' n' (out ++ ts.flatMap (lowM d true)) P' ∧ ∀ g, P' g → P g ∨ (rb + 1 ≤ g ∧ g < hi) ∨ w.heap.size ≤ g
/-- .. with what they leave -/
def PCtxS (d : Nat) : Prop := ∀ (t : Tr) (w : World) (lo hi : Nat) (v : Value) (cb : Nat) (pw pn lw : Value) (n : Nat) (S : Nat → Prop) (m pb : Nat) (out : List Tr) (P : Nat → Prop), InT d w lo hi v t → hi ≤ w.heap.size → CtxOK w cb pw pn lw n S m pb → Off lo hi cb pb lw S → m + d ≤ 10000 → n + cntT d t ≤ 1000000 → OutS w lw n out P → (∀ g, P g → (g < lo ∨ hi ≤ g) ∧ g ≠ cb) →
  Calls Tryz.prog 35 #[.pointer (some ⟨pb, 0, none⟩), .agg #[v, .int .i32 t.loc], .pointer (some ⟨cb, 0, none⟩)] w fun e w' => CtxRS d t lo hi v cb pw pn lw n S m pb out P w e w'
def PRemS (d : Nat) : Prop := ∀ (ts : List Tr) (w : World) (lo hi : Nat) (rb cap : Nat) (arr : Array Value) (cb : Nat) (pw pn lw : Value) (n : Nat) (S : Nat → Prop) (m pb : Nat) (out : List Tr) (P : Nat → Prop), lo ≤ rb → rb < hi → hi ≤ w.heap.size → w.heap[rb]? = some (.cells arr 39 (0, 0)) → ts.length * 2 ≤ arr.size → ts.length ≤ cap → ts.length ≤ 1000000 → KidsAt (fun lo hi => InT d w lo hi) arr (rb + 1) hi 0 ts →
  CtxOK w cb pw pn lw n S m pb → Off lo hi cb pb lw S → m + d ≤ 10000 → n + cntTL d ts ≤ 1000000 → OutS w lw n out P → (∀ g, P g → (g < lo ∨ hi ≤ g) ∧ g ≠ cb) →
  Calls Tryz.prog 27 #[.pointer (some ⟨pb, 0, none⟩), .slice (some ⟨rb, 0, none⟩) ts.length cap, .pointer (some ⟨cb, 0, none⟩)] w fun e w' => RemRS d rb cap arr ts lo hi cb pw pn lw n S m pb out P w e w'
/-- a round of the removal -/
structure ReJ (d rb : Nat) (arr : Array Value) (ts : List Tr) (lo hi cb : Nat) (pw pn lw : Value) (n : Nat) (S : Nat → Prop) (m pb : Nat) (out : List Tr) (P : Nat → Prop) (w : World) (g : Nat) (v7 v12 : Value) (wr : World) : Prop where
  ex : ∃ pre rest i kk mid lw' n' arr', ts = pre ++ rest ∧ rest.length = g ∧ pre.length = i ∧ v7 = .int .i64 (kk : Nat) ∧ v12 = .int .i64 (i : Nat) ∧ (keptM pre).length = kk ∧ n ≤ n' ∧ n' + cntTL d rest ≤ n + cntTL d ts ∧
    CtxOK wr cb pw pn lw' n' S m pb ∧ FrM (Mod lo hi cb lw) w wr ∧ OwnG w lw lw' ∧ wr.heap[rb]? = some (.cells arr' 39 (0, 0)) ∧ arr'.size = arr.size ∧ Kept arr' pre ∧ rb + 1 ≤ mid ∧ KidsAt (fun lo hi => InT d wr lo hi) arr' mid hi i rest ∧ ∃ Pi, OutS wr lw' n' (out ++ pre.flatMap (lowM d true)) Pi ∧ ∀ g, Pi g → P g ∨ (rb + 1 ≤ g ∧ g < mid) ∨ w.heap.size ≤ g
/-- the world behind a call, the box turned -/
theorem ReJ.next {out : List Tr} {P P3 Pi : Nat → Prop} {d rb : Nat} {arr : Array Value} {ts : List Tr} {lo hi cb : Nat} {pw pn lw : Value} {n : Nat} {S : Nat → Prop} {m pb : Nat} {w : World} {wr W3 W5 : World} {pre rest : List Tr} {t : Tr} {i kk' mid mid2 n' n3 : Nat} {lw' lw3 : Value} {arr' arr5 : Array Value}
    (hlo : lo ≤ rb) (hrb : rb < hi) (hhi : hi ≤ w.heap.size) (hoff : Off lo hi cb pb lw S)
    (hts : ts = pre ++ t :: rest) (hi' : pre.length = i) (hn : n ≤ n') (hn2 : n' + cntTL d (t :: rest) ≤ n + cntTL d ts) (hF : FrM (Mod lo hi cb lw) w wr) (hO : OwnG w lw lw') (hsz : arr'.size = arr.size) (hrm : rb + 1 ≤ mid) (hmm : mid ≤ mid2) (hK : KidsAt (fun lo hi => InT d wr lo hi) arr' mid2 hi (i + 1) rest) (hrbw : wr.heap[rb]? = some (.cells arr' 39 (0, 0)))
    (h3n : n' ≤ n3) (h3n2 : n3 ≤ n' + cntT d t) (h3c : CtxOK W3 cb pw pn lw3 n3 S m pb) (h3F : FrM (fun g => wr.heap.size ≤ g ∨ Mod mid mid2 cb lw' g) wr W3) (h3O : OwnG wr lw' lw3)
    (h5F : FrM (fun g => g = wr.heap.size ∨ g = rb) W3 W5) (h5r : W5.heap[rb]? = some (.cells arr5 39 (0, 0))) (h5s : arr5.size = arr'.size) (h5j : ∀ j, (i + 1) * 2 ≤ j → arr5[j]? = arr'[j]?) (hkk : (keptM (pre ++ [t])).length = kk') (hkp : Kept arr5 (pre ++ [t])) (hcw : CtxOK wr cb pw pn lw' n' S m pb) (hlt : mid2 ≤ hi) (hS : ∀ g, S g → g < w.heap.size) (hpb : pb < w.heap.size) (hcb : cb < w.heap.size) (h3o : lw3.ownBlock ≠ some wr.heap.size)
    (hPS : ∀ g, P g → (g < lo ∨ hi ≤ g) ∧ g ≠ cb) (hPi : ∀ g, Pi g → (P g ∨ (rb + 1 ≤ g ∧ g < mid) ∨ w.heap.size ≤ g) ∧ g < wr.heap.size) (h3S : OutS W3 lw3 n3 ((out ++ pre.flatMap (lowM d true)) ++ lowM d true t) P3) (h3P : ∀ g, P3 g → Pi g ∨ (mid ≤ g ∧ g < mid2) ∨ wr.heap.size + 1 ≤ g) :
    ReJ d rb arr ts lo hi cb pw pn lw n S m pb out P w rest.length (.int .i64 (kk' : Nat)) (.int .i64 ((i + 1 : Nat) : Int)) W5 := by
  have hO3 := own_trans hO h3O hF.size
  have hwr := hF.size
  have hoff3 : Off lo hi cb pb lw3 S := hoff.sub (Nat.le_refl _) (Nat.le_refl _) (hO3.imp id fun ⟨g, e, hg⟩ => ⟨g, e, by omega⟩)
  have hc5 : CtxOK W5 cb pw pn lw3 n3 S m pb := h3c.frame h5F (fun g hg q => by
    rcases q with rfl | rfl
    · rcases hg with hg | hg | hg | hg
      · have := hS _ hg; omega
      · omega
      · omega
      · exact h3o hg
    · have := hoff3.out hg; omega)
  have h35 : FrM (fun g => wr.heap.size ≤ g ∨ g = rb ∨ Mod mid mid2 cb lw' g) wr W5 := by
    refine FrM.trans (M := fun g => wr.heap.size ≤ g ∨ g = rb ∨ Mod mid mid2 cb lw' g) ⟨h3F.os, h3F.tape, h3F.output, h3F.size, fun g hg hx => h3F.block g hg (fun q => hx (q.imp id Or.inr))⟩ h5F (fun g _ q => ?_)
    rcases q with rfl | rfl
    · exact Or.inl (Nat.le_refl _)
    · exact Or.inr (Or.inl rfl)
  refine ⟨pre ++ [t], rest, i + 1, kk', mid2, lw3, n3, arr5, by rw [hts]; simp, rfl, by simp [hi'], rfl, rfl, hkk, by omega, ?_, hc5, hF.trans h35 (fun g hg q => ?_), hO3, h5r, by omega, hkp, by omega, ?_, P3, ?_, ?_⟩
  · rw [cntTL_cons] at hn2; omega
  · rcases q with q | rfl | q | rfl | q
    · omega
    · exact Or.inl ⟨hlo, hrb⟩
    · exact Or.inl ⟨by omega, by omega⟩
    · exact Or.inr (Or.inl rfl)
    · rcases hO with e | ⟨g', e, hg'⟩
      · exact Or.inr (Or.inr (e ▸ q))
      · rw [e] at q; injection q with q; omega
  · refine KidsAt.arr rest mid2 hi (i + 1) h5j (hK.keep rest mid2 hi (i + 1) mid2 hi (Nat.le_refl _) (Nat.le_refl _) (fun lo2 hi2 v u a1 a2 a3 => InT.keep d lo2 hi2 v u (Nat.le_trans h3F.size h5F.size) (fun g g1 g2 => h35.block g (by omega) ?_) a3))
    rintro (q | rfl | q | rfl | q)
    · omega
    · omega
    · omega
    · have := hoff.1; omega
    · rcases hO with e | ⟨g', e, hg'⟩
      · have := hoff.2.2.1 g (e ▸ q); omega
      · rw [e] at q; injection q with q; omega
  · have e : out ++ (pre ++ [t]).flatMap (lowM d true) = (out ++ pre.flatMap (lowM d true)) ++ lowM d true t := by simp
    rw [e]
    refine h3S.frame h5F (fun g hg q => ?_)
    rcases hg with hg | hg
    · rcases h3P g hg with h | h | h
      · have h1 := (hPi g h).1
        have h2 := (hPi g h).2
        rcases q with rfl | rfl
        · omega
        · rcases h1 with h1 | h1 | h1
          · have := (hPS _ h1).1; omega
          · omega
          · omega
      · rcases q with rfl | rfl <;> omega
      · rcases q with rfl | rfl <;> omega
    · rcases q with rfl | rfl
      · exact h3o hg
      · have := hoff3.2.2.1 _ hg; omega
  · intro g hg
    rcases h3P g hg with h | h | h
    · rcases (hPi g h).1 with h1 | h1 | h1
      · exact Or.inl h1
      · exact Or.inr (Or.inl ⟨h1.1, by omega⟩)
      · exact Or.inr (Or.inr h1)
    · exact Or.inr (Or.inl ⟨by omega, h.2⟩)
    · exact Or.inr (Or.inr (by omega))
end Go.Proofs.YtjebnjjhdefejaaGreatFmt
