/-
  The script of an attribute selector: what zzAttrScript lays. Conditions: texts at most 65536 bytes.
-/
import Derived.Test.YtggfffdbohmpnaaFmtKd
import Derived.Test.YtggfffdbohmpnaaFmtKe
import Derived.Laws.BytesString
namespace Go.Proofs.YtggfffdbohmpnaaFmt
set_option linter.unusedVariables false
open Go.ChangeShapes Go.WideShapes Go.ChangeAt Go.RowKit Go.Lib

abbrev TL := List (Int × ByteArray)
def cat : TL → ByteArray := fun T => T.foldl (fun s x => s ++ x.2) (B [])
def offs : Nat → TL → List Nat
  | _, [] => []
  | a, (k, t) :: L => a :: offs (a + t.size) L
def kindsV (T : TL) : List Value := T.map fun x => .int .u8 x.1
def startsV (T : TL) : List Value := (offs 0 T).map fun a => .int .i32 (a : Nat)
def lensV (T : TL) : List Value := T.map fun x => .int .i32 (x.2.size : Nat)
theorem cat_add (T : TL) (x : Int × ByteArray) : cat (T ++ [x]) = cat T ++ x.2 := by simp [cat]
theorem size_foldl : ∀ (T : TL) (s : ByteArray), (T.foldl (fun s x => s ++ x.2) s).size = s.size + (T.map fun x => x.2.size).sum
  | [], s => by simp
  | x :: T, s => by
    rw [List.foldl_cons, size_foldl T, ByteArray.size_append]
    simp only [List.map_cons, List.sum_cons]
    omega
theorem size_cat (T : TL) : (cat T).size = (T.map fun x => x.2.size).sum := by
  rw [cat, size_foldl]
  have : (B []).size = 0 := rfl
  omega
theorem offs_add : ∀ (T : TL) (a : Nat) (x : Int × ByteArray), offs a (T ++ [x]) = offs a T ++ [a + (T.map fun x => x.2.size).sum]
  | [], a, (k, t) => by simp [offs]
  | (k, t) :: T, a, x => by
    rw [List.cons_append, offs, offs_add T, offs]
    simp only [List.map_cons, List.sum_cons, List.cons_append, Nat.add_assoc]
theorem offs_len : ∀ (T : TL) (a : Nat), (offs a T).length = T.length
  | [], _ => rfl
  | (k, t) :: T, a => by rw [offs, List.length_cons, offs_len T, List.length_cons]

structure Sk (w0 : World) (N : Nat) (T : TL) (m : Nat) (w : World) : Prop where
  rx : Rx w0 N (cat T) (kindsV T) (startsV T) (lensV T) w
  len : T.length ≤ m
  size : (cat T).size ≤ m * 70000
set_option maxRecDepth 100000 in
theorem Sk.mono {w0 w : World} {N m m' : Nat} {T : TL} (h : Sk w0 N T m w) (hm : m ≤ m') : Sk w0 N T m' w := by
  obtain ⟨a, b, c⟩ := h
  exact ⟨a, Nat.le_trans b hm, Nat.le_trans c (Nat.mul_le_mul hm (Nat.le_refl _))⟩
set_option maxRecDepth 100000 in
theorem Sk.call {w0 w w' : World} {N m : Nat} {T : TL} (h : Sk w0 N T m w) (o : Obj) (e : w' = w.alloc o) : Sk w0 N T m w' := by
  subst e
  obtain ⟨v1, v2, v3, hR⟩ := h.rx.ex
  exact ⟨⟨v1, v2, v3, hR.alloc o⟩, h.len, h.size⟩
set_option maxRecDepth 100000 in
theorem Sk.add {w0 w : World} {N m : Nat} {T : TL} (h : Sk w0 N T m w) (k : Int) (t : ByteArray) (ht : t.size ≤ 70000) (hm : m ≤ 13) :
    Calls Tryf.prog 15 #[.pointer (some ⟨N, 0, none⟩), .int .u8 k, .string t] w fun e w' => e = .returned (.tuple #[]) ∧ Sk w0 N (T ++ [(k, t)]) (m + 1) w' := by
  have hl := h.len
  have hs := h.size
  refine (add15 w0 N (cat T) t (kindsV T) (startsV T) (lensV T) k w h.rx (by simp [kindsV]; omega) (by simp [startsV, offs_len]; omega) (by simp [lensV]; omega) (by omega)).mono ?_
  rintro e w' ⟨rfl, hx⟩
  refine ⟨rfl, ?_, by simp; omega, by rw [cat_add, ByteArray.size_append]; show (cat T).size + t.size ≤ _; omega⟩
  rw [cat_add]
  have e1 : kindsV (T ++ [(k, t)]) = kindsV T ++ [.int .u8 k] := by simp [kindsV]
  have e2 : startsV (T ++ [(k, t)]) = startsV T ++ [.int .i32 ((cat T).size : Nat)] := by
    rw [startsV, offs_add, size_cat]
    simp [startsV]
  have e3 : lensV (T ++ [(k, t)]) = lensV T ++ [.int .i32 (t.size : Nat)] := by simp [lensV]
  rw [e1, e2, e3]
  exact hx

abbrev zc27 : Obj := .cells #[.string ⟨#[]⟩, .slice none 0 0, .slice none 0 0, .slice none 0 0] 27
def wR (w : World) : World := w.alloc zc27
set_option maxRecDepth 100000 in
theorem Sk.start (w : World) : Sk (wR w) (w.heap.size + 1) [] 0 ((wR w).alloc zc27) := by
  have hz : (wR w).heap.size = w.heap.size + 1 := by simp [wR, go_sem]
  refine ⟨⟨.slice none 0 0, .slice none 0 0, .slice none 0 0, (Below.refl _ _).alloc (Nat.le_refl _) _, by omega, by simp [go_sem]; omega, fun o => ?_, ?_, ?_, ?_, ?_, World.ownsRow_nil _ _ _ _, World.ownsRow_nil _ _ _ _, World.ownsRow_nil _ _ _ _, by simp [Value.ownBlock], by simp [Value.ownBlock], by simp [Value.ownBlock], .inl rfl, .inl rfl, .inl rfl⟩, Nat.le_refl _, Nat.le_refl _⟩
  all_goals
    rw [← hz]
    simp [go_sem]
  rfl

/-- a row of n cells l behind a slice value -/
structure Rw (w : World) (B : Nat) (v : Value) (l : List Value) : Prop where
  ex : ∃ g c, v = .slice (some ⟨g, 0, none⟩) l.length c ∧ B ≤ g ∧ g < w.heap.size ∧ ∀ (j : Nat) (u : Value), l[j]? = some u → w.cell? ⟨g, j, none⟩ = some u
theorem Rw.of {w : World} {B : Nat} {e : TypeId} {v : Value} {l : List Value} (h : w.ownsRow B e 1 v l.length l) (hl : 0 < l.length) : Rw w B v l := by
  rcases h.2 with ⟨_, e0⟩ | ⟨g, c, cur, rfl, hB, hg, _⟩
  · omega
  · have hlt := (h.lt g rfl).2
    refine ⟨g, c, rfl, hB, hlt, fun j u hu => ?_⟩
    have := h.cells (g := g) rfl j u hu
    have e2 : (⟨g, 0, none⟩ : Addr).add j = ⟨g, j, none⟩ := by cases j <;> simp [Addr.add]
    rwa [e2] at this
theorem Rw.call {w w' : World} {B C : Nat} {v : Value} {l : List Value} (h : Rw w B v l) (hb : Below C w w') (hC : w.heap.size ≤ C) : Rw w' B v l := by
  obtain ⟨g, c, e, hB, hg, hc⟩ := h.ex
  refine ⟨g, c, e, hB, by have := hb.size; omega, fun j u hu => ?_⟩
  rw [hb.cell (p := ⟨g, j, none⟩) (by show g < C; omega)]
  exact hc j u hu

/-- the script as it comes back -/
structure SR (w : World) (T : TL) (e : Ending) (w' : World) : Prop where
  ex : ∃ v1 v2 v3, e = .returned (.agg #[.string (cat T), v1, v2, v3]) ∧ Below w.heap.size w w' ∧ Rw w' w.heap.size v1 (kindsV T) ∧ Rw w' w.heap.size v2 (startsV T) ∧ Rw w' w.heap.size v3 (lensV T) ∧ (cat T).size ≤ 1048576 ∧ T.length ≤ 1000

theorem conv1 (w : World) (m : UInt8) : (convert 24 9 (.slice (some ⟨w.heap.size, 0, none⟩) 1 1)).run Tryf.prog (w.alloc (.cells #[.int .u8 (m.toNat : Int)] 5)) = .ok (.string (B [m])) (w.alloc (.cells #[.int .u8 (m.toNat : Int)] 5)) := by
  have hf : ∀ j, j < 1 → (w.alloc (.cells #[.int .u8 (m.toNat : Int)] 5)).cell? ((⟨w.heap.size, 0, none⟩ : Addr).add j) = some (.int .u8 (m.toNat : Int)) := by
    intro j hj
    obtain rfl : j = 0 := by omega
    exact fresh_cells w #[.int .u8 (m.toNat : Int)] 5 _ rfl 0 _ rfl
  have hl := run_loadCells (P := Tryf.prog) (w.alloc (.cells #[.int .u8 (m.toNat : Int)] 5)) ⟨w.heap.size, 0, none⟩ 1 (fun j => .int .u8 (m.toNat : Int)) hf
  have hb := run_bytesToString (P := Tryf.prog) (w.alloc (.cells #[.int .u8 (m.toNat : Int)] 5)) ⟨w.heap.size, 0, none⟩ 1 1 [(m.toNat : Int)] hl
  refine (run_convert_bytes_string _ 24 9 5 _ 1 1 Tryf.underlying24 Tryf.underlying5 Tryf.underlying9).trans (hb.trans ?_)
  have e : [(m.toNat : Int)].foldl (fun r n => r.push (UInt8.ofNat n.toNat)) ByteArray.empty = B [m] := by
    show ByteArray.empty.push (UInt8.ofNat (m.toNat : Int).toNat) = B [m]
    rw [Int.toNat_natCast, UInt8.ofNat_toNat]
    rfl
  rw [e]

theorem kind16 (op : Nat) (w : World) (h : 2 ≤ op) (h6 : op ≤ 6) : Calls Tryf.prog 16 #[.int .u8 op] w fun e w' => e = .returned (.int .u8 (opK op)) ∧ w' = w := by
  have e : op = 2 ∨ op = 3 ∨ op = 4 ∨ op = 5 ∨ op = 6 := by omega
  rcases e with rfl | rfl | rfl | rfl | rfl
  all_goals
    go_enter Tryf.func16, Tryf.ntmps16
    go_wp2_with fail
    go_ret
    exact ⟨rfl, rfl⟩
theorem first17 (op : Nat) (w : World) (h : 2 ≤ op) (h6 : op ≤ 6) : Calls Tryf.prog 17 #[.int .u8 op] w fun e w' => e = .returned (.string (opF op)) ∧ w' = w := by
  have e : op = 2 ∨ op = 3 ∨ op = 4 ∨ op = 5 ∨ op = 6 := by omega
  rcases e with rfl | rfl | rfl | rfl | rfl
  all_goals
    go_enter Tryf.func17, Tryf.ntmps17
    go_wp2_with fail
    go_ret
    exact ⟨rfl, rfl⟩
theorem text12 (op : Nat) (w : World) (h6 : op ≤ 6) : Calls Tryf.prog 12 #[.int .u8 op] w fun e w' => e = .returned (.string (opT op)) ∧ w' = w := by
  have e : op = 0 ∨ op = 1 ∨ op = 2 ∨ op = 3 ∨ op = 4 ∨ op = 5 ∨ op = 6 := by omega
  rcases e with rfl | rfl | rfl | rfl | rfl | rfl | rfl
  all_goals
    go_enter Tryf.func12, Tryf.ntmps12
    go_wp2_with fail
    go_ret
    exact ⟨rfl, rfl⟩

def preS (ns : Nat) (pf : ByteArray) : TL := (32, B [91]) :: preL ns pf
def A1 (op : Nat) : TL := if op = 1 then [] else [(opK op, opF op)]
def modL (md : UInt8) : TL := if md = 0 then [] else [(29, B [md])]
def midL (op : Nat) (ws q : Bool) (v : ByteArray) (md : UInt8) : TL := if op = 0 then [] else A1 op ++ ([(18, B [61])] ++ (wsL ws ++ ([(valK q, valT q v)] ++ (wsL ws ++ modL md))))
theorem mid_eq {op : Nat} {ws q : Bool} {v : ByteArray} {md : UInt8} (h : op ≠ 0) : midL op ws q v md = A1 op ++ ([(18, B [61])] ++ (wsL ws ++ ([(valK q, valT q v)] ++ (wsL ws ++ modL md)))) := if_neg h
theorem Rw.mono {w : World} {B C : Nat} {v : Value} {l : List Value} (h : Rw w B v l) (hC : C ≤ B) : Rw w C v l := by
  obtain ⟨g, c, e, hB, hg, hc⟩ := h.ex
  exact ⟨g, c, e, by omega, hg, hc⟩
theorem R4.out {w0 : World} {N : Nat} {s : ByteArray} {v1 v2 v3 : Value} {l1 l2 l3 : List Value} {w : World} (h : R4 w0 N s v1 v2 v3 l1 l2 l3 w) (R : Nat) (hR : R < w0.heap.size) (a b c d : Value) :
    ((((w.setCell ⟨R, 0, none⟩ a).setCell ⟨R, 1, none⟩ b).setCell ⟨R, 2, none⟩ c).setCell ⟨R, 3, none⟩ d).ownsRow w0.heap.size 5 1 v1 l1.length l1 ∧ ((((w.setCell ⟨R, 0, none⟩ a).setCell ⟨R, 1, none⟩ b).setCell ⟨R, 2, none⟩ c).setCell ⟨R, 3, none⟩ d).ownsRow w0.heap.size 21 1 v2 l2.length l2 ∧ ((((w.setCell ⟨R, 0, none⟩ a).setCell ⟨R, 1, none⟩ b).setCell ⟨R, 2, none⟩ c).setCell ⟨R, 3, none⟩ d).ownsRow w0.heap.size 21 1 v3 l3.length l3 := by
  have n1 : v1.ownBlock ≠ some R := fun e => by have := (h.o1.lt R e).1; omega
  have n2 : v2.ownBlock ≠ some R := fun e => by have := (h.o2.lt R e).1; omega
  have n3 : v3.ownBlock ≠ some R := fun e => by have := (h.o3.lt R e).1; omega
  exact ⟨(((h.o1.kept (grown_setCell _ _ _) (.inr n1)).kept (grown_setCell _ _ _) (.inr n1)).kept (grown_setCell _ _ _) (.inr n1)).kept (grown_setCell _ _ _) (.inr n1),
    (((h.o2.kept (grown_setCell _ _ _) (.inr n2)).kept (grown_setCell _ _ _) (.inr n2)).kept (grown_setCell _ _ _) (.inr n2)).kept (grown_setCell _ _ _) (.inr n2),
    (((h.o3.kept (grown_setCell _ _ _) (.inr n3)).kept (grown_setCell _ _ _) (.inr n3)).kept (grown_setCell _ _ _) (.inr n3)).kept (grown_setCell _ _ _) (.inr n3)⟩
theorem opF_size (op : Nat) : (opF op).size = 1 := by
  unfold opF
  repeat' split
  all_goals rfl
theorem all_eq (ns : Nat) (pf nm : ByteArray) (op : Nat) (ws q : Bool) (v : ByteArray) (md : UInt8) : preS ns pf ++ [(29, nm)] ++ wsL ws ++ midL op ws q v md ++ [(7, B [93])] = allL ns pf nm op ws q v md := by
  by_cases h : op = 0
  · simp [preS, allL, midL, L0, L1, L6, h]
  · simp [preS, allL, midL, L0, L1, L2, L3, L4, L5, L6, h, A1, modL]

set_option maxRecDepth 100000 in
set_option maxHeartbeats 8000000 in
theorem script7 (ns : Nat) (pf nm : ByteArray) (op : Nat) (v : ByteArray) (q : Bool) (md : UInt8) (ws : Bool) (w : World) (hns : ns ≤ 3) (hop : op ≤ 6) (h1 : pf.size ≤ 65536) (h2 : nm.size ≤ 65536) (h3 : v.size ≤ 65536) :
    Calls Tryf.prog 7 #[.int .u8 ns, .string pf, .string nm, .int .u8 op, .string v, .bool q, .int .u8 (md.toNat : Int), .bool ws] w fun e w' => SR w (allL ns pf nm op ws q v md) e w' := by
  have H0 := hid (Sk.start w)
  go_enter Tryf.func7, Tryf.ntmps7
  go_wp2_with fail
  refine (H0.out.add 32 (B [91]) (by decide) (by omega)).mono ?_
  rintro e w1 ⟨rfl, hS⟩
  have H1 := hid hS
  clear hS H0
  go_upto_if 20 with fail
  go_cut [20] (fun v20 wx => Sk (wR w) (w.heap.size + 1) (preS ns pf) 4 wx)
  case first =>
    rename_i J KK hJ hKK
    have e4 : ns = 0 ∨ ns = 1 ∨ ns = 2 ∨ ns = 3 := by omega
    rcases e4 with rfl | rfl | rfl | rfl
    · as_aux_lemma =>
        have HX : Hid (Sk (wR w) (w.heap.size + 1) (preS 0 pf) 4 w1) := hid (H1.out.mono (by omega))
        go_wp2_with fail
        refine Met.intro (hJ _ _ ?_)
        repeat apply Exists.intro
        exact ⟨HX.out, rfl⟩
    · as_aux_lemma =>
        go_wp2_with fail
        refine (H1.out.add 14 (B [124]) (by decide) (by omega)).mono ?_
        rintro e w2 ⟨rfl, hS⟩
        have H2 := hid hS
        clear hS H1
        go_wp2_with fail
        have HX : Hid (Sk (wR w) (w.heap.size + 1) (preS 1 pf) 4 w2) := hid (H2.out.mono (by omega))
        refine Met.intro (hJ _ _ ?_)
        repeat apply Exists.intro
        exact ⟨HX.out, rfl⟩
    · as_aux_lemma =>
        go_wp2_with fail
        refine (H1.out.add 13 (B [42]) (by decide) (by omega)).mono ?_
        rintro e w2 ⟨rfl, hS⟩
        have H2 := hid hS
        clear hS H1
        go_wp2_with fail
        refine (H2.out.add 14 (B [124]) (by decide) (by omega)).mono ?_
        rintro e w3 ⟨rfl, hS⟩
        have H3 := hid hS
        clear hS H2
        go_wp2_with fail
        have HX : Hid (Sk (wR w) (w.heap.size + 1) (preS 2 pf) 4 w3) := hid (H3.out.mono (by omega))
        refine Met.intro (hJ _ _ ?_)
        repeat apply Exists.intro
        exact ⟨HX.out, rfl⟩
    · as_aux_lemma =>
        go_wp2_with fail
        refine (H1.out.add 29 pf (by omega) (by omega)).mono ?_
        rintro e w2 ⟨rfl, hS⟩
        have H2 := hid hS
        clear hS H1
        go_wp2_with fail
        refine (H2.out.add 14 (B [124]) (by decide) (by omega)).mono ?_
        rintro e w3 ⟨rfl, hS⟩
        have H3 := hid hS
        clear hS H2
        go_wp2_with fail
        have HX : Hid (Sk (wR w) (w.heap.size + 1) (preS 3 pf) 4 w3) := hid (H3.out.mono (by omega))
        refine Met.intro (hJ _ _ ?_)
        repeat apply Exists.intro
        exact ⟨HX.out, rfl⟩
  case rest =>
    have HH := hid (‹Sk (wR w) (w.heap.size + 1) (preS ns pf) 4 _›)
    clear hcut H1
    go_wp2_with fail
    refine (HH.out.add 29 nm (by omega) (by omega)).mono ?_
    rintro e w2 ⟨rfl, hS⟩
    have H2 := hid hS
    clear hS HH
    go_upto_if 33 with fail
    go_cut [33] (fun v33 wx => Sk (wR w) (w.heap.size + 1) (preS ns pf ++ [(29, nm)] ++ wsL ws) 6 wx)
    case first =>
      rename_i J KK hJ hKK
      cases ws with
      | true =>
        go_wp2_with fail
        refine (H2.out.add 38 (B [32]) (by decide) (by omega)).mono ?_
        rintro e w9 ⟨rfl, hS⟩
        have H9 := hid hS
        clear hS H2
        go_wp2_with fail
        refine Met.intro (hJ _ _ ?_)
        repeat apply Exists.intro
        exact ⟨H9.out.mono (by omega), rfl⟩
      | false =>
        have HX := hid (H2.out.mono (show _ ≤ 6 by omega))
        clear H2
        go_wp2_with fail
        refine Met.intro (hJ _ _ ?_)
        repeat apply Exists.intro
        refine ⟨?_, rfl⟩
        have h := HX.out
        simpa [wsL] using h
    case rest =>
      have HH := hid (‹Sk (wR w) (w.heap.size + 1) (preS ns pf ++ [(29, nm)] ++ wsL ws) 6 _›)
      clear hcut H2
      have H3 := HH
      clear HH
      go_upto_if 36 with fail
      go_cut [36] (fun v36 wx => Sk (wR w) (w.heap.size + 1) (preS ns pf ++ [(29, nm)] ++ wsL ws ++ midL op ws q v md) 12 wx)
      case first =>
        rename_i J0 KK0 hJ0 hKK0
        by_cases ho0 : op = 0
        · subst ho0
          have HX := hid (H3.out.mono (show 6 ≤ 12 by omega))
          clear H3
          go_wp2_with fail
          refine Met.intro (hJ0 _ _ ?_)
          repeat apply Exists.intro
          refine ⟨?_, rfl⟩
          have h := HX.out
          simpa [midL] using h
        · have b0 : ((op : Int) != 0) = true := by simp; omega
          go_upto_if 38 with fail
          go_cut [38] (fun v38 wx => Sk (wR w) (w.heap.size + 1) (preS ns pf ++ [(29, nm)] ++ wsL ws ++ A1 op) 7 wx)
          case first =>
            rename_i J KK hJ hKK
            by_cases ho1 : op = 1
            · subst ho1
              have HX := hid (H3.out.mono (show 6 ≤ 7 by omega))
              clear H3
              go_wp2_with fail
              refine Met.intro (hJ _ _ ?_)
              repeat apply Exists.intro
              refine ⟨?_, rfl⟩
              have h := HX.out
              simpa [A1] using h
            · have b1 : ((op : Int) != 1) = true := by simp; omega
              go_wp2_with fail
              refine (kind16 op _ (by omega) hop).mono ?_
              rintro e w5 ⟨rfl, hw⟩
              obtain rfl := hw.symm
              go_wp2_with fail
              refine (first17 op _ (by omega) hop).mono ?_
              rintro e w5 ⟨rfl, hw⟩
              obtain rfl := hw.symm
              go_wp2_with fail
              refine (H3.out.add (opK op) (opF op) (by rw [opF_size]; omega) (by omega)).mono ?_
              rintro e w6 ⟨rfl, hS⟩
              have HX := hid hS
              clear hS H3
              go_wp2_with fail
              refine Met.intro (hJ _ _ ?_)
              repeat apply Exists.intro
              refine ⟨?_, rfl⟩
              have h := HX.out
              rw [show A1 op = [(opK op, opF op)] from if_neg ho1]
              exact h
          case rest =>
            have H4a := hid (‹Sk (wR w) (w.heap.size + 1) (preS ns pf ++ [(29, nm)] ++ wsL ws ++ A1 op) 7 _›)
            clear hcut H3
            go_wp2_with fail
            refine (H4a.out.add 18 (B [61]) (by decide) (by omega)).mono ?_
            rintro e w4 ⟨rfl, hS⟩
            have H4 := hid hS
            clear hS H4a
            go_upto_if 45 with fail
            go_cut [45] (fun v45 wx => Sk (wR w) (w.heap.size + 1) (preS ns pf ++ [(29, nm)] ++ wsL ws ++ A1 op ++ [(18, B [61])] ++ wsL ws) 9 wx)
            case first =>
              rename_i J KK hJ hKK
              cases ws with
              | true =>
                go_wp2_with fail
                refine (H4.out.add 38 (B [32]) (by decide) (by omega)).mono ?_
                rintro e w9 ⟨rfl, hS⟩
                have H9 := hid hS
                clear hS H4
                go_wp2_with fail
                refine Met.intro (hJ _ _ ?_)
                repeat apply Exists.intro
                exact ⟨H9.out.mono (by omega), rfl⟩
              | false =>
                have HX := hid (H4.out.mono (show _ ≤ 9 by omega))
                clear H4
                go_wp2_with fail
                refine Met.intro (hJ _ _ ?_)
                repeat apply Exists.intro
                refine ⟨?_, rfl⟩
                have h := HX.out
                simpa [wsL] using h
            case rest =>
              have HH := hid (‹Sk (wR w) (w.heap.size + 1) (preS ns pf ++ [(29, nm)] ++ wsL ws ++ A1 op ++ [(18, B [61])] ++ wsL ws) 9 _›)
              clear hcut H4
              have H5 := HH
              clear HH
              go_upto_if 47 with fail
              go_cut [47] (fun v47 wx => Sk (wR w) (w.heap.size + 1) (preS ns pf ++ [(29, nm)] ++ wsL ws ++ A1 op ++ [(18, B [61])] ++ wsL ws ++ [(valK q, valT q v)]) 10 wx)
              case first =>
                rename_i J KK hJ hKK
                cases q with
                | true =>
                  go_wp2_with fail
                  refine (H5.out.add 36 (B [34] ++ v ++ B [34]) (by rw [quote_size]; omega) (by omega)).mono ?_
                  rintro e w6 ⟨rfl, hS⟩
                  have HX := hid hS
                  clear hS H5
                  go_wp2_with fail
                  refine Met.intro (hJ _ _ ?_)
                  repeat apply Exists.intro
                  exact ⟨HX.out, rfl⟩
                | false =>
                  go_wp2_with fail
                  refine (H5.out.add 29 v (by omega) (by omega)).mono ?_
                  rintro e w6 ⟨rfl, hS⟩
                  have HX := hid hS
                  clear hS H5
                  go_wp2_with fail
                  refine Met.intro (hJ _ _ ?_)
                  repeat apply Exists.intro
                  exact ⟨HX.out, rfl⟩
              case rest =>
                have HH := hid (‹Sk (wR w) (w.heap.size + 1) (preS ns pf ++ [(29, nm)] ++ wsL ws ++ A1 op ++ [(18, B [61])] ++ wsL ws ++ [(valK q, valT q v)]) 10 _›)
                clear hcut H5
                have H6 := HH
                clear HH
                go_upto_if 54 with fail
                go_cut [54] (fun v54 wx => Sk (wR w) (w.heap.size + 1) (preS ns pf ++ [(29, nm)] ++ wsL ws ++ A1 op ++ [(18, B [61])] ++ wsL ws ++ [(valK q, valT q v)] ++ wsL ws) 11 wx)
                case first =>
                  rename_i J KK hJ hKK
                  cases ws with
                  | true =>
                    go_wp2_with fail
                    refine (H6.out.add 38 (B [32]) (by decide) (by omega)).mono ?_
                    rintro e w9 ⟨rfl, hS⟩
                    have H9 := hid hS
                    clear hS H6
                    go_wp2_with fail
                    refine Met.intro (hJ _ _ ?_)
                    repeat apply Exists.intro
                    exact ⟨H9.out.mono (by omega), rfl⟩
                  | false =>
                    have HX := hid (H6.out.mono (show _ ≤ 11 by omega))
                    clear H6
                    go_wp2_with fail
                    refine Met.intro (hJ _ _ ?_)
                    repeat apply Exists.intro
                    refine ⟨?_, rfl⟩
                    have h := HX.out
                    simpa [wsL] using h
                case rest =>
                  have HH := hid (‹Sk (wR w) (w.heap.size + 1) (preS ns pf ++ [(29, nm)] ++ wsL ws ++ A1 op ++ [(18, B [61])] ++ wsL ws ++ [(valK q, valT q v)] ++ wsL ws) 11 _›)
                  clear hcut H6
                  have H7 := HH
                  clear HH
                  go_upto_if 57 with fail
                  go_cut [57] (fun v57 wx => Sk (wR w) (w.heap.size + 1) (preS ns pf ++ [(29, nm)] ++ wsL ws ++ A1 op ++ [(18, B [61])] ++ wsL ws ++ [(valK q, valT q v)] ++ wsL ws ++ modL md) 12 wx)
                  case first =>
                    rename_i J KK hJ hKK
                    by_cases hm0 : md = 0
                    · subst hm0
                      have HX := hid (H7.out.mono (show 11 ≤ 12 by omega))
                      clear H7
                      go_wp2_with fail
                      refine Met.intro (hJ _ _ ?_)
                      repeat apply Exists.intro
                      refine ⟨?_, rfl⟩
                      have h := HX.out
                      simpa [modL] using h
                    · have hmn : md.toNat ≠ 0 := fun e => hm0 (UInt8.toNat_inj.1 (by simpa using e))
                      have b1 : ((md.toNat : Int) != 0) = true := by simp; omega
                      have kC := fun wx : World => conv1 wx md
                      have HC := hid (H7.out.call (.cells #[.int .u8 (md.toNat : Int)] 5) rfl)
                      go_wp2_with fail
                      refine (HC.out.add 29 (B [md]) (by show 1 ≤ _; omega) (by omega)).mono ?_
                      rintro e w6 ⟨rfl, hS⟩
                      have HX := hid hS
                      clear hS H7 HC kC
                      go_wp2_with fail
                      refine Met.intro (hJ _ _ ?_)
                      repeat apply Exists.intro
                      refine ⟨?_, rfl⟩
                      have h := HX.out
                      rw [show modL md = [(29, B [md])] from if_neg hm0]
                      exact h
                  case rest =>
                    have HH := hid (‹Sk (wR w) (w.heap.size + 1) (preS ns pf ++ [(29, nm)] ++ wsL ws ++ A1 op ++ [(18, B [61])] ++ wsL ws ++ [(valK q, valT q v)] ++ wsL ws ++ modL md) 12 _›)
                    clear hcut H7
                    go_wp2_with fail
                    refine Met.intro (hJ0 _ _ ?_)
                    repeat apply Exists.intro
                    refine ⟨?_, rfl⟩
                    have h := HH.out
                    rw [mid_eq ho0]
                    simpa using h
      case rest =>
        have H8 := hid (‹Sk (wR w) (w.heap.size + 1) (preS ns pf ++ [(29, nm)] ++ wsL ws ++ midL op ws q v md) 12 _›)
        clear hcut H3
        go_wp2_with fail
        refine (H8.out.add 7 (B [93]) (by decide) (by omega)).mono ?_
        rintro e w9 ⟨rfl, hS⟩
        have H9 := hid hS
        clear hS H8
        have hR9 := H9.out.rx
        have hsz9 := H9.out.size
        have hln9 := H9.out.len
        rw [all_eq] at hR9 hsz9 hln9
        obtain ⟨v1, v2, v3, hR⟩ := hR9.ex
        have hpos : 0 < (allL ns pf nm op ws q v md).length := by simp [allL]
        obtain ⟨g1, k1, rfl, _⟩ := (Rw.of hR.o1 (by simpa [kindsV] using hpos)).ex
        obtain ⟨g2, k2, rfl, _⟩ := (Rw.of hR.o2 (by simpa [startsV, offs_len] using hpos)).ex
        obtain ⟨g3, k3, rfl, _⟩ := (Rw.of hR.o3 (by simpa [lensV] using hpos)).ex
        have hzR : w.heap.size < (wR w).heap.size := by simp [wR, go_sem]
        have c0 := hR.c0
        have c1 := hR.c1
        have c2 := hR.c2
        have c3 := hR.c3
        have y0 : w9.cell? ⟨w.heap.size, 0, none⟩ = some (.string ⟨#[]⟩) := by rw [hR.bl.cell (p := ⟨w.heap.size, 0, none⟩) hzR]; simp [wR, go_sem]
        have y1 : w9.cell? ⟨w.heap.size, 1, none⟩ = some (.slice none 0 0) := by rw [hR.bl.cell (p := ⟨w.heap.size, 1, none⟩) hzR]; simp [wR, go_sem]
        have y2 : w9.cell? ⟨w.heap.size, 2, none⟩ = some (.slice none 0 0) := by rw [hR.bl.cell (p := ⟨w.heap.size, 2, none⟩) hzR]; simp [wR, go_sem]
        have y3 : w9.cell? ⟨w.heap.size, 3, none⟩ = some (.slice none 0 0) := by rw [hR.bl.cell (p := ⟨w.heap.size, 3, none⟩) hzR]; simp [wR, go_sem]
        have yz : ∀ o, w9.frozen? ⟨w.heap.size, o, none⟩ = false := fun o => by rw [hR.bl.frozen (p := ⟨w.heap.size, o, none⟩) hzR]; simp [wR, go_sem]
        have HR := hid hR
        clear hR hR9 H9
        go_wp2_with fail
        have HO := hid (HR.out.out w.heap.size hzR (.string (cat (allL ns pf nm op ws q v md))) (.slice (some ⟨g1, 0, none⟩) (kindsV (allL ns pf nm op ws q v md)).length k1) (.slice (some ⟨g2, 0, none⟩) (startsV (allL ns pf nm op ws q v md)).length k2) (.slice (some ⟨g3, 0, none⟩) (lensV (allL ns pf nm op ws q v md)).length k3))
        have hb : Below w.heap.size w w9 := ((Below.refl w.heap.size w).alloc (Nat.le_refl _) zc27).trans (HR.out.bl.mono (by show w.heap.size ≤ (wR w).heap.size; omega))
        have hbf := hid ((((hb.setCell (p := ⟨w.heap.size, 0, none⟩) (Nat.le_refl _) (.string (cat (allL ns pf nm op ws q v md)))).setCell (p := ⟨w.heap.size, 1, none⟩) (Nat.le_refl _) (.slice (some ⟨g1, 0, none⟩) (kindsV (allL ns pf nm op ws q v md)).length k1)).setCell (p := ⟨w.heap.size, 2, none⟩) (Nat.le_refl _) (.slice (some ⟨g2, 0, none⟩) (startsV (allL ns pf nm op ws q v md)).length k2)).setCell (p := ⟨w.heap.size, 3, none⟩) (Nat.le_refl _) (.slice (some ⟨g3, 0, none⟩) (lensV (allL ns pf nm op ws q v md)).length k3))
        refine bodyPost_ret (v := .agg #[.string (cat (allL ns pf nm op ws q v md)), .slice (some ⟨g1, 0, none⟩) (kindsV (allL ns pf nm op ws q v md)).length k1, .slice (some ⟨g2, 0, none⟩) (startsV (allL ns pf nm op ws q v md)).length k2, .slice (some ⟨g3, 0, none⟩) (lensV (allL ns pf nm op ws q v md)).length k3]) (by simp [results, Tryf.results7, go_sem, y0, y1, y2, y3]) rfl ⟨_, _, _, rfl, hbf.out, ?_, ?_, ?_, by omega, by omega⟩
        · exact (Rw.of HO.out.1 (by simpa [kindsV] using hpos)).mono (by omega)
        · exact (Rw.of HO.out.2.1 (by simpa [startsV, offs_len] using hpos)).mono (by omega)
        · exact (Rw.of HO.out.2.2 (by simpa [lensV] using hpos)).mono (by omega)
end Go.Proofs.YtggfffdbohmpnaaFmt
