import PyProof.Rows.All
import Wide.All
import OpenK.AllK
import Wide.FinOn
import PySem.Challenge.RW_wn0095_01
open PySem PySem.W PyProof.Rows
set_option Elab.async false
set_option maxRecDepth 100000
set_option maxHeartbeats 16000000
namespace Mine
open_top hd for PySem.Challenge.rw_wn0095_01

/-- what a call from a def promises -/
def Con (vs : List Value) (f : Addr) (pre : List (Addr × Obj) → Prop) (Ret : Heap → Addr → (Str → Option Value) → List (Addr × Obj) → Shared → (Value → Shared → Prop) → Prop) : Prop :=
  ∀ (w : World) (mean : ExcName → Option Value) (mg mb : Str → Option Value) (dp un : Nat) (gd : Option (List Code)) (cn : Str) (cs : Scope) (a : Addr) (ccd : Value) (cl : List (Str × Addr)) (outer : List Env) (A₀ : Around) (base h₀ : Heap) (L : Addr) (m : Str → Option Value) (news : List (Addr × Obj)) (s : Shared) (Q E : Value → Shared → Prop),
    Below A₀ base outer h₀ → Fr h₀ L s.heap m → (hd.heap_39 w.params).In h₀ → News h₀ L s.heap news → Top hd.view_39 (looseW hd.view_39 [Str.ofString "Whitespace"]) mean mg mb h₀ → cs.kind = .function →
    pre news → dp + 6 < recursionLimit → un + 60 < cLine → Ret h₀ L m news s Q →
    wpAny (model PySem.Challenge.rw_wn0095_01.row.prog w) (ktrTop dp un gd cn cs L a ccd cl outer) (call (.ref f) vs) Q E s
/-- it hands back a tuple of two ints -/
def RetPair (x y : Int) (h₀ : Heap) (L : Addr) (m : Str → Option Value) (news : List (Addr × Obj)) (s : Shared) (Q : Value → Shared → Prop) : Prop :=
  ∀ (D : Addr) (t1 t2 : Tok) (c : Nat) (h : Heap) (tk : Nat), Fr h₀ L h m → News h₀ L h ((D, ({ cls := .type "tuple", data := .seq #[.int x t1, .int y t2] c } : Obj)) :: news) → AllLt D news → Q (.ref D) { s with heap := h, toks := tk }
/-- an int -/
def RetInt (x : Int) (h₀ : Heap) (L : Addr) (m : Str → Option Value) (news : List (Addr × Obj)) (s : Shared) (Q : Value → Shared → Prop) : Prop :=
  ∀ (t : Tok) (h : Heap) (tk : Nat), Fr h₀ L h m → News h₀ L h news → Q (.int x t) { s with heap := h, toks := tk }
/-- a text -/
def RetStr (x : Str) (h₀ : Heap) (L : Addr) (m : Str → Option Value) (news : List (Addr × Obj)) (s : Shared) (Q : Value → Shared → Prop) : Prop :=
  ∀ (t : Tok) (h : Heap) (tk : Nat), Fr h₀ L h m → News h₀ L h news → Q (.str x t) { s with heap := h, toks := tk }
theorem pair_end {x y x' y' : Int} {h₀ h : Heap} {L D : Addr} {m : Str → Option Value} {news rest : List (Addr × Obj)} {s : Shared} {Q : Value → Shared → Prop} {t1 t2 : Tok} {c tk : Nat}
    (hret : RetPair x y h₀ L m news s Q) (F : Fr h₀ L h m) (N : News h₀ L h ((D, ({ cls := .type "tuple", data := .seq #[.int x' t1, .int y' t2] c } : Obj)) :: rest)) (hs : ∀ p ∈ news, p ∈ rest) (hl : AllLt D news) (e : x' = x ∧ y' = y) :
    Q (.ref D) { s with heap := h, toks := tk } := by
  obtain ⟨rfl, rfl⟩ := e
  refine hret D t1 t2 c h tk F (fun p hp => ?_) hl
  rcases List.mem_cons.mp hp with rfl | hp
  · exact N _ (List.mem_cons_self ..)
  · exact N p (List.mem_cons_of_mem _ (hs p hp))

end Mine
namespace Mine
/-- both terms of the fraction of a number, by so many of its figures -/
noncomputable def fr (f : Nat) : Nat → Nat → Nat × Nat
  | 0, _ => (0, f)
  | k + 1, n => if n % 2 = 1 then ((fr f k (n / 2)).1 + (fr f k (n / 2)).2, (fr f k (n / 2)).2) else ((fr f k (n / 2)).1, (fr f k (n / 2)).2 + (fr f k (n / 2)).1)
/-- upper and lower term, of ints -/
noncomputable def up (n f : Int) : Int := (fr f.toNat 8 n.toNat).1
noncomputable def lo (n f : Int) : Int := (fr f.toNat 8 n.toNat).2

theorem fr_more (f : Nat) : ∀ k n, n < 2 ^ k → fr f (k + 1) n = fr f k n
  | 0, n, h => by
    have : n = 0 := by simpa using h
    subst this
    rfl
  | k + 1, n, h => by
    have h2 : n / 2 < 2 ^ k := by
      rw [Nat.pow_succ] at h
      omega
    have ih := fr_more f k (n / 2) h2
    unfold fr
    rw [ih]
theorem up_zero (f : Int) : up 0 f = 0 := by
  unfold up
  simp [fr]
theorem lo_zero (f : Int) (h : 0 ≤ f) : lo 0 f = f := by
  unfold lo
  simp [fr]
  omega
theorem fr_step (f m : Nat) (h : m < 256) : fr f 8 m = if m % 2 = 1 then ((fr f 8 (m / 2)).1 + (fr f 8 (m / 2)).2, (fr f 8 (m / 2)).2) else ((fr f 8 (m / 2)).1, (fr f 8 (m / 2)).2 + (fr f 8 (m / 2)).1) := by
  rw [fr_more f 7 (m / 2) (by omega)]
  rfl
theorem up_odd {m f : Int} (h0 : 0 ≤ m) (h : m < 256) (hm : m % 2 = 1) : up m f = up (m / 2) f + lo (m / 2) f := by
  unfold up lo
  rw [fr_step f.toNat m.toNat (by omega), if_pos (by omega), show (m / 2).toNat = m.toNat / 2 by omega]
  simp
theorem lo_odd {m f : Int} (h0 : 0 ≤ m) (h : m < 256) (hm : m % 2 = 1) : lo m f = lo (m / 2) f := by
  unfold lo
  rw [fr_step f.toNat m.toNat (by omega), if_pos (by omega), show (m / 2).toNat = m.toNat / 2 by omega]
theorem up_even {m f : Int} (h0 : 0 ≤ m) (h : m < 256) (hm : m % 2 = 0) : up m f = up (m / 2) f := by
  unfold up
  rw [fr_step f.toNat m.toNat (by omega), if_neg (by omega), show (m / 2).toNat = m.toNat / 2 by omega]
theorem lo_even {m f : Int} (h0 : 0 ≤ m) (h : m < 256) (hm : m % 2 = 0) : lo m f = lo (m / 2) f + up (m / 2) f := by
  unfold up lo
  rw [fr_step f.toNat m.toNat (by omega), if_neg (by omega), show (m / 2).toNat = m.toNat / 2 by omega]
  simp

def Pow (p : Int) : Prop := p = 1 ∨ p = 2 ∨ p = 4 ∨ p = 8 ∨ p = 16 ∨ p = 32 ∨ p = 64 ∨ p = 128


theorem half_is {p : Int} (h : Pow p) (h1 : 1 < p) : p.fdiv 2 = p / 2 := Int.fdiv_eq_ediv_of_nonneg _ (by decide)
theorem half_ne {p : Int} (h : Pow p) (h1 : 1 < p) : p.fdiv 2 ≠ 0 := by
  rw [half_is h h1]
  unfold Pow at h
  omega
theorem half_small {p : Int} (h : Pow p) (h1 : 1 < p) : (p.fdiv 2).natAbs < 1073741824 := by
  rw [half_is h h1]
  unfold Pow at h
  omega
theorem pow_dbl {p n : Int} (h : Pow p) (h1 : p ≤ n) (h2 : n ≤ 70) : Pow (p * 2) := by
  unfold Pow at *
  omega
theorem pow_fall {p n : Int} (h : Pow p) (h1 : p ≤ n) : (n + 1 - p * 2).toNat < (n + 1 - p).toNat := by
  unfold Pow at *
  omega
theorem frac_start {p n f : Int} (h : Pow p) (h0 : 0 ≤ n) (h1 : ¬ p ≤ n) (hf : 1 ≤ f) : Pow p ∧ 0 = up (n / p) f ∧ f = lo (n / p) f := by
  have e : n / p = 0 := Int.ediv_eq_zero_of_lt h0 (by omega)
  rw [e, up_zero, lo_zero f (by omega)]
  exact ⟨h, rfl, rfl⟩

theorem pow_one : Pow 1 := Or.inl rfl
theorem frac_turn {p n f u l : Int} (h : Pow p) (hu : u = up (n / p) f) (hl : l = lo (n / p) f) (h0 : 0 ≤ n) (h2 : n ≤ 70) (h1 : 1 < p) :
    Pow (p.fdiv 2) ∧ (n.fdiv (p.fdiv 2)) = n / (p / 2) ∧ n / p = (n / (p / 2)) / 2 ∧ 0 ≤ n / (p / 2) ∧ n / (p / 2) < 256 := by
  have hh := half_is h h1
  have hp : 0 < p / 2 := by omega
  have e2 : p = p / 2 * 2 := by
    unfold Pow at h
    omega
  refine ⟨?_, ?_, ?_, Int.ediv_nonneg h0 (by omega), ?_⟩
  · rw [hh]
    unfold Pow at *
    omega
  · rw [hh]
    exact Int.fdiv_eq_ediv_of_nonneg _ (by omega)
  · rw [Int.ediv_ediv_of_nonneg (by omega), ← e2]
  · exact Int.lt_of_le_of_lt (Int.ediv_le_self _ h0) (by omega)
theorem frac_odd {p n f u l : Int} (h : Pow p) (hu : u = up (n / p) f) (hl : l = lo (n / p) f) (h0 : 0 ≤ n) (h2 : n ≤ 70) (h1 : 1 < p) (ho : (n.fdiv (p.fdiv 2)).fmod 2 = 1) :
    Pow (p.fdiv 2) ∧ u + l = up (n / p.fdiv 2) f ∧ l = lo (n / p.fdiv 2) f := by
  obtain ⟨a, b, c, d, e⟩ := frac_turn h hu hl h0 h2 h1
  rw [b, Int.fmod_eq_emod_of_nonneg _ (by decide)] at ho
  refine ⟨a, ?_, ?_⟩
  · rw [half_is h h1, up_odd d e ho, ← c, hu, hl]
  · rw [half_is h h1, lo_odd d e ho, ← c, hl]
theorem frac_even {p n f u l : Int} (h : Pow p) (hu : u = up (n / p) f) (hl : l = lo (n / p) f) (h0 : 0 ≤ n) (h2 : n ≤ 70) (h1 : 1 < p) (ho : (n.fdiv (p.fdiv 2)).fmod 2 ≠ 1) :
    Pow (p.fdiv 2) ∧ u = up (n / p.fdiv 2) f ∧ l + u = lo (n / p.fdiv 2) f := by
  obtain ⟨a, b, c, d, e⟩ := frac_turn h hu hl h0 h2 h1
  rw [b, Int.fmod_eq_emod_of_nonneg _ (by decide)] at ho
  have ho' : n / (p / 2) % 2 = 0 := by omega
  refine ⟨a, ?_, ?_⟩
  · rw [half_is h h1, up_even d e ho', ← c, hu]
  · rw [half_is h h1, lo_even d e ho', ← c, hu, hl]
theorem half_fall {p : Int} (h : Pow p) (h1 : 1 < p) : (p.fdiv 2).toNat < p.toNat := by
  rw [half_is h h1]
  omega
theorem frac_last {p n f u l : Int} (h : Pow p) (hu : u = up (n / p) f) (hl : l = lo (n / p) f) (h1 : ¬ 1 < p) : u = up n f ∧ l = lo n f := by
  have e : p = 1 := by
    unfold Pow at h
    omega
  subst e
  rw [Int.ediv_one] at hu hl
  exact ⟨hu, hl⟩

set_option maxHeartbeats 8000000 in
theorem frac_c (number factor : Int) (t1 t2 : Tok) : Con [.int number t1, .int factor t2] 147 (fun _ => 0 ≤ number ∧ number ≤ 70 ∧ 1 ≤ factor ∧ factor ≤ 4) (RetPair (up number factor) (lo number factor)) := by
  k_with_none
  unfold Con
  k_fill
  intro w mean mg mb dp un gd cn cs a ccd cl outer A₀ base h₀ L m news s Q E B F X N T hk hpre hdp hun hret
  obtain ⟨n0, n1, f0, f1⟩ := hpre
  k_with "exec While Compare cons nil" => k_while_given ["number"] (fun _ _ (p : Int) => Pow p) (fun (n : Int) _ (p : Int) => (n + 1 - p).toNat) "place"
  k_with "exec While Compare cons nil" => k_while_given ["number", "factor"] (fun n f _ (p : Int) (u : Int) (l : Int) => Pow p ∧ u = up (n / p) f ∧ l = lo (n / p) f) (fun _ _ _ (p : Int) _ _ => p.toNat) "place" "upper" "lower"
  k_with "state" => first | exact pow_one | exact pow_dbl (by assumption) (by assumption) (by assumption) | exact frac_start (by assumption) (by assumption) (by assumption) (by assumption) | exact frac_odd (by assumption) (by assumption) (by assumption) (by assumption) (by assumption) (by assumption) (by assumption) | exact frac_even (by assumption) (by assumption) (by assumption) (by assumption) (by assumption) (by assumption) (by assumption)
  k_with "measure" => first | exact pow_fall (by assumption) (by assumption) | exact half_fall (by assumption) (by assumption)
  k_with "binaryOp FloorDiv int int" => ((with_reducible refine floordiv_int ?kbe ?_ (Or.inl (PyProof.noPylong_small ?kbp))); (case kbe => exact half_ne (by assumption) (by assumption)); (case kbp => exact half_small (by assumption) (by assumption)))
  refine wpAny_call ?_
  k_dflt cell_enter
  k_steps
  rename _ < _ ∧ AllLt _ _ => hlt
  exact pair_end hret (by assumption) (by assumption) (fun p hp => List.mem_cons_of_mem _ hp) hlt.2 (frac_last (by assumption) (by assumption) (by assumption) (by assumption))
end Mine
namespace Mine
theorem tx_ext {a b : Str} (h : a.cps.toList = b.cps.toList) : a = b := Str.ext' (Array.toList_inj.mp h)
theorem tx_cat (a b : Str) : (a ++ b).cps.toList = a.cps.toList ++ b.cps.toList := by rw [Str.cps_append, Array.toList_append]
theorem tx_len (a : Str) : a.length = a.cps.toList.length := by simp [Str.length]
theorem blank_is : Str.ofString " " = ⟨#[32]⟩ := by decide +kernel
theorem stroke_is : Str.ofString "/" = ⟨#[47]⟩ := by decide +kernel
theorem quote_is : Str.ofString "\"" = ⟨#[34]⟩ := by decide +kernel
theorem blanks_list (n : Int) : (Txt.mul (Str.ofString " ") n).cps.toList = List.replicate n.toNat 32 := by rw [blank_is, mul_one_list]
theorem quotes_list (n : Int) : (Txt.mul (Str.ofString "\"") n).cps.toList = List.replicate n.toNat 34 := by rw [quote_is, mul_one_list]
/-- a row of blanks, a stroke, blanks -/
def rowT (u l : Int) : Str := Txt.mul (Str.ofString " ") u ++ Str.ofString "/" ++ Txt.mul (Str.ofString " ") l
theorem row_list (u l : Int) : (rowT u l).cps.toList = List.replicate u.toNat 32 ++ 47 :: List.replicate l.toNat 32 := by
  unfold rowT
  rw [tx_cat, tx_cat, blanks_list, blanks_list, stroke_is]
  simp
theorem row_len {u l : Int} (hu : 0 ≤ u) (hl : 0 ≤ l) : ((rowT u l).length : Int) = u + l + 1 := by
  rw [tx_len, row_list, List.length_append, List.length_cons, List.length_replicate, List.length_replicate]
  omega
theorem item_at {x : Str} {i : Int} {c : Nat} (h0 : 0 ≤ i) (h : x.cps.toList[i.toNat]? = some c) : Txt.item x i = ⟨#[c]⟩ := by
  have hlt : i.toNat < x.cps.toList.length := (List.getElem?_eq_some_iff.mp h).1
  have hc : Txt.charAt x i = some c := by
    unfold Txt.charAt seqIndex?
    rw [tx_len]
    have e : (if i < 0 then i + (x.cps.toList.length : Int) else i) = i := if_neg (by omega)
    simp only [e]
    have e2 : (decide (0 ≤ i) && decide (i < (x.cps.toList.length : Int))) = true := by
      simp only [Bool.and_eq_true, decide_eq_true_eq]
      omega
    rw [if_pos e2]
    simpa using h
  unfold Txt.item
  rw [hc]
  rfl
theorem row_stroke {u l : Int} (hu : 0 ≤ u) : Txt.item (rowT u l) u = ⟨#[47]⟩ := by
  refine item_at hu ?_
  rw [row_list, List.getElem?_append_right (by simp)]
  simp
theorem row_front {u l i : Int} (h0 : 0 ≤ i) (h : i < u) : Txt.item (rowT u l) i = ⟨#[32]⟩ := by
  refine item_at h0 ?_
  rw [row_list, List.getElem?_append_left (by simp; omega), List.getElem?_replicate]
  rw [if_pos (by omega)]
theorem row_back {u l i : Int} (hu : 0 ≤ u) (h0 : u < i) (h : i ≤ u + l) : Txt.item (rowT u l) i = ⟨#[32]⟩ := by
  refine item_at (by omega) ?_
  rw [row_list, List.getElem?_append_right (by simp; omega)]
  obtain ⟨k, hk⟩ : ∃ k, i.toNat - (List.replicate u.toNat 32).length = k + 1 := ⟨i.toNat - (List.replicate u.toNat 32).length - 1, by simp; omega⟩
  rw [hk, List.getElem?_cons_succ, List.getElem?_replicate]
  simp only [List.length_replicate] at hk
  rw [if_pos (by omega)]
/-- what the stripping leaves -/
theorem row_slice {u l p b j : Int} (hp : 0 ≤ p) (hpu : p ≤ u) (hb : 0 ≤ b) (hbl : b ≤ l) (hj : j = u + l + 1 - b) : Txt.slice (rowT u l) (some p) (some j) = rowT (u - p) (l - b) := by
  have hlen := row_len (u := u) (l := l) (by omega) (by omega)
  have h := eq_of_beq (slice_closesL (x := rowT u l) (i := p) (j := j) hp (by omega) (by omega))
  rw [h]
  refine tx_ext ?_
  rw [row_list, row_list]
  show List.take (j - p).toNat (List.drop p.toNat (List.replicate u.toNat 32 ++ 47 :: List.replicate l.toNat 32)) = _
  rw [List.drop_append_of_le_length (by simp; omega), List.drop_replicate, List.take_append]
  simp only [List.length_replicate]
  have e1 : (j - p).toNat - (u.toNat - p.toNat) = (l - b).toNat + 1 := by omega
  rw [e1, List.take_succ_cons, List.take_replicate, List.take_replicate]
  congr 2
  · omega
  · congr 1
    omega
end Mine
namespace Mine
theorem row_c (D : Addr) (u l : Int) (t1 t2 : Tok) (c : Nat) : Con [.ref D] 168 (fun news => (D, ({ cls := .type "tuple", data := .seq #[.int u t1, .int l t2] c } : Obj)) ∈ news ∧ 0 ≤ u ∧ u ≤ 200 ∧ 0 ≤ l ∧ l ≤ 200) (RetStr (rowT u l)) := by
  k_with_none
  unfold Con
  k_fill
  intro w mean mg mb dp un gd cn cs a ccd cl outer A₀ base h₀ L m news s Q E B F X N T hk hpre hdp hun hret
  obtain ⟨hm, u0, u1, l0, l1⟩ := hpre
  refine wpAny_call ?_
  k_dflt cell_enter
  k_steps
  exact hret _ _ _ (by assumption) (by assumption)
end Mine
namespace Mine
theorem strip_i {x : Str} {u l p : Int} (hx : x = rowT u l) (h0 : 0 ≤ p) (h1 : p ≤ u) (hi : (Txt.item x p == Str.ofString " ") = true) : p < u := by
  subst hx
  rcases Int.lt_or_eq_of_le h1 with h | h
  · exact h
  · subst h
    rw [row_stroke h0] at hi
    exact absurd hi (by decide +kernel)
theorem strip_i2 {x : Str} {u l p : Int} (hx : x = rowT u l) (h0 : 0 ≤ p) (h1 : p ≤ u) (hi : (Txt.item x p == Str.ofString " ") = false) : p = u := by
  subst hx
  rcases Int.lt_or_eq_of_le h1 with h | h
  · rw [row_front h0 h] at hi
    exact absurd hi (by decide +kernel)
  · exact h
theorem strip_j {x : Str} {u l p : Int} (hx : x = rowT u l) (hu : 0 ≤ u) (h0 : u ≤ p) (h1 : p ≤ u + l) (hi : (Txt.item x p == Str.ofString " ") = true) : u < p := by
  subst hx
  rcases Int.lt_or_eq_of_le h0 with h | h
  · exact h
  · subst h
    rw [row_stroke hu] at hi
    exact absurd hi (by decide +kernel)
theorem strip_j2 {x : Str} {u l p : Int} (hx : x = rowT u l) (hu : 0 ≤ u) (h0 : u ≤ p) (h1 : p ≤ u + l) (hi : (Txt.item x p == Str.ofString " ") = false) : p = u := by
  subst hx
  rcases Int.lt_or_eq_of_le h0 with h | h
  · rw [row_back hu h h1] at hi
    exact absurd hi (by decide +kernel)
  · exact h.symm

theorem strip_end {x : Str} {u l n p r a : Int} {t : Tok} {h₀ h : Heap} {L : Addr} {m : Str → Option Value} {news : List (Addr × Obj)} {s : Shared} {Q : Value → Shared → Prop} {tk : Nat} (hret : RetStr (rowT (u - min n u) (l - (n - min n u))) h₀ L m news s Q)
    (F : Fr h₀ L h m) (N : News h₀ L h news) (hx : x = rowT u l) (u0 : 0 ≤ u) (l0 : 0 ≤ l) (n0 : 0 ≤ n) (n1 : n ≤ u + l) (hr : r = u + l - (n - p) + a) (hp : p = min n u) (ha0 : 0 ≤ a) (ha1 : a ≤ n - p) (hz : a = 0 ∨ (Txt.item x r == Str.ofString " ") = false) :
    Q (.str (Txt.slice x (some p) (some (r + 1))) t) { s with heap := h, toks := tk } := by
  have ha : a = 0 := by
    rcases hz with h | h
    · exact h
    · have h9 := strip_j2 hx u0 (by omega) (by omega) h
      omega
  have e : Txt.slice x (some p) (some (r + 1)) = rowT (u - min n u) (l - (n - min n u)) := by
    rw [hx, row_slice (u := u) (l := l) (p := p) (b := n - p) (by omega) (by omega) (by omega) (by omega) (by omega), ← hp]
  rw [e]
  exact hret _ _ _ F N

theorem strip_c (x : Str) (u l n : Int) (t1 t2 : Tok) : Con [.str x t1, .int n t2] 42 (fun _ => x = rowT u l ∧ 0 ≤ u ∧ u ≤ 200 ∧ 0 ≤ l ∧ l ≤ 200 ∧ 0 ≤ n ∧ n ≤ u + l) (RetStr (rowT (u - min n u) (l - (n - min n u)))) := by
  k_with_none
  unfold Con
  k_fill
  intro w mean mg mb dp un gd cn cs a ccd cl outer A₀ base h₀ L m news s Q E B F X N T hk hpre hdp hun hret
  obtain ⟨hx, u0, u1, l0, l1, n0, n1⟩ := hpre
  have hlen : (x.length : Int) = u + l + 1 := hx ▸ row_len u0 l0
  k_with "exec While BoolOp cons nil" => k_while (fun _ (p : Int) (a : Int) => 0 ≤ p ∧ p ≤ u ∧ a = n - p ∧ 0 ≤ a) (fun _ (p : Int) (a : Int) => a.toNat) "lpos" "amount"
  k_with "exec While BoolOp cons nil" => k_while_given ["lpos"] (fun (p : Int) _ (r : Int) (a : Int) => p = min n u ∧ 0 ≤ p ∧ 0 ≤ a ∧ a ≤ n - p ∧ r = u + l - (n - p) + a) (fun _ _ (r : Int) (a : Int) => a.toNat) "rpos" "amount"
  k_with "state" => first | omega | ((rename (Txt.item x _ == Str.ofString " ") = true => h8); (have h9 := strip_i hx (by omega) (by omega) h8); omega) | ((rename (Txt.item x _ == Str.ofString " ") = false => h8); (have h9 := strip_i2 hx (by omega) (by omega) h8); omega) | (fail "left")
  k_with "measure" => first | omega | (fail "left")
  k_with "call builtin:len" => refine SBL.len (by omega) ?_
  refine wpAny_call ?_
  k_dflt cell_enter
  k_steps
  all_goals first
    | exact strip_end hret (by assumption) (by assumption) hx u0 l0 n0 n1 (by assumption) (by assumption) (by assumption) (by assumption) (Or.inl (by assumption))
    | exact strip_end hret (by assumption) (by assumption) hx u0 l0 n0 n1 (by assumption) (by assumption) (by assumption) (by assumption) (Or.inr (by assumption))
    | (fail "left")
end Mine
namespace Mine
/-- the reply that is asked -/
def respT (n : Int) : Str := Str.ofString "257 \"" ++ Txt.mul (Str.ofString "\"") n ++ Str.ofString "x"
/-- half as many quotes -/
def halfT (n : Int) : Str := Txt.mul (Str.ofString "\"") (n / 2)
/-- what it is told to be -/
def toldT (n : Int) : Str := if n % 2 = 0 then halfT n ++ Str.ofString "x" else halfT n
theorem resp_list (n : Int) : (respT n).cps.toList = [50, 53, 55, 32, 34] ++ (List.replicate n.toNat 34 ++ [120]) := by
  unfold respT
  rw [tx_cat, tx_cat, quotes_list, show (Str.ofString "257 \"").cps.toList = [50, 53, 55, 32, 34] by decide +kernel, show (Str.ofString "x").cps.toList = [120] by decide +kernel, List.append_assoc]
theorem resp_len {n : Int} (h : 0 ≤ n) : ((respT n).length : Int) = n + 6 := by
  rw [tx_len, resp_list]
  simp
  omega
theorem resp_head {n : Int} (h : 0 ≤ n) : Txt.slice (respT n) none (some 3) = Str.ofString "257" := by
  have hl := resp_len h
  rw [eq_of_beq (slice_closes_toL (x := respT n) (j := 3) (by omega) (by omega))]
  rw [resp_list]
  refine tx_ext ?_
  rw [show (Str.ofString "257").cps.toList = [50, 53, 55] by decide +kernel]
  rfl
theorem resp_mark {n : Int} (h : 0 ≤ n) : Txt.slice (respT n) (some 3) (some 5) = Str.ofString " \"" := by
  have hl := resp_len h
  rw [eq_of_beq (slice_closesL (x := respT n) (i := 3) (j := 5) (by omega) (by omega) (by omega))]
  rw [resp_list]
  refine tx_ext ?_
  rw [show (Str.ofString " \"").cps.toList = [32, 34] by decide +kernel]
  rfl
theorem resp_quote {n i : Int} (h0 : 5 ≤ i) (h : i < n + 5) : Txt.item (respT n) i = ⟨#[34]⟩ := by
  refine item_at (by omega) ?_
  rw [resp_list, List.getElem?_append_right (by simp; omega), List.getElem?_append_left (by simp; omega), List.getElem?_replicate, if_pos (by simp; omega)]
theorem resp_x {n : Int} (h0 : 0 ≤ n) : Txt.item (respT n) (n + 5) = ⟨#[120]⟩ := by
  refine item_at (by omega) ?_
  rw [resp_list, List.getElem?_append_right (by simp; omega), List.getElem?_append_right (by simp; omega)]
  have e : (n + 5).toNat - [50, 53, 55, 32, 34].length - (List.replicate n.toNat 34).length = 0 := by simp; omega
  rw [e]
  rfl
/-- what stands between the turns -/
def PInv (n i : Int) (d : Str) : Prop := (i ≤ n + 5 ∧ (i - 5) % 2 = 0 ∧ d = Txt.mul (Str.ofString "\"") ((i - 5) / 2)) ∨ (i = n + 6 ∧ n % 2 = 0 ∧ d = halfT n ++ Str.ofString "x")

theorem parse_q {x : Str} {n i : Int} (hx : x = respT n) (n0 : 0 ≤ n) (h0 : 5 ≤ i) (h1 : i ≤ n + 5) (h : (Txt.item x i == Str.ofString "\"") = true) : i < n + 5 := by
  subst hx
  rcases Int.lt_or_eq_of_le h1 with g | g
  · exact g
  · rw [g, resp_x n0] at h
    exact absurd h (by decide +kernel)
theorem parse_x {x : Str} {n i : Int} (hx : x = respT n) (h0 : 5 ≤ i) (h1 : i ≤ n + 5) (h : (Txt.item x i == Str.ofString "\"") = false) : i = n + 5 := by
  subst hx
  rcases Int.lt_or_eq_of_le h1 with g | g
  · rw [resp_quote h0 g] at h
    exact absurd h (by decide +kernel)
  · exact g
theorem ne_false {a b : Str} (h : (a != b) = false) : (a == b) = true := by simpa using h
theorem ne_true {a b : Str} (h : (a != b) = true) : (a == b) = false := by simpa using h
theorem parse_s0 {n : Int} (n0 : 0 ≤ n) : (5 : Int) ≤ 5 ∧ (Str.ofString "").length ≤ 200 ∧ PInv n 5 (Str.ofString "") := by
  refine ⟨by omega, by decide +kernel, Or.inl ⟨by omega, by decide, ?_⟩⟩
  exact (by decide +kernel : Str.ofString "" = Txt.mul (Str.ofString "\"") ((5 - 5) / 2))
theorem quotes_more {k j : Int} (h0 : 0 ≤ k) (h : j = k + 1) : Txt.mul (Str.ofString "\"") k ++ ⟨#[34]⟩ = Txt.mul (Str.ofString "\"") j := by
  refine tx_ext ?_
  rw [tx_cat, quotes_list, quotes_list, show j.toNat = k.toNat + 1 by omega, List.replicate_succ']
theorem parse_t1 {x d : Str} {n i : Int} (hx : x = respT n) (n0 : 0 ≤ n) (n1 : n ≤ 100) (hl : (x.length : Int) = n + 6) (h5 : 5 ≤ i) (hp : PInv n i d) (hi : i < (x.length : Int)) (hq : (Txt.item x i == Str.ofString "\"") = true) (hn : ¬ (x.length : Int) ≤ i + 1) (hq1 : (Txt.item x (i + 1) != Str.ofString "\"") = false) :
    5 ≤ i + 1 + 1 ∧ (d ++ Txt.item x i).length ≤ 200 ∧ PInv n (i + 1 + 1) (d ++ Txt.item x i) := by
  have a1 := parse_q hx n0 h5 (by omega) hq
  have a2 := parse_q hx n0 (by omega) (by omega) (ne_false hq1)
  have a3 : Txt.item x i = ⟨#[34]⟩ := by
    rw [hx]
    exact resp_quote h5 a1
  rcases hp with ⟨b1, b2, b3⟩ | ⟨b1, _⟩
  · have e : d ++ Txt.item x i = Txt.mul (Str.ofString "\"") ((i + 1 + 1 - 5) / 2) := by
      rw [a3, b3]
      exact quotes_more (by omega) (by omega)
    rw [e]
    refine ⟨by omega, ?_, Or.inl ⟨by omega, by omega, rfl⟩⟩
    rw [tx_len, quotes_list, List.length_replicate]
    omega
  · omega
theorem parse_t2 {x d : Str} {n i : Int} (hx : x = respT n) (n0 : 0 ≤ n) (n1 : n ≤ 100) (hl : (x.length : Int) = n + 6) (h5 : 5 ≤ i) (hp : PInv n i d) (hi : i < (x.length : Int)) (hq : (Txt.item x i == Str.ofString "\"") = false) :
    5 ≤ i + 1 ∧ (d ++ Txt.item x i).length ≤ 200 ∧ PInv n (i + 1) (d ++ Txt.item x i) := by
  have a1 := parse_x hx h5 (by omega) hq
  have a3 : Txt.item x i = Str.ofString "x" := by
    rw [hx, a1, resp_x n0]
    exact Eq.symm (by decide +kernel)
  rcases hp with ⟨b1, b2, b3⟩ | ⟨b1, _⟩
  · have e : (i - 5) / 2 = n / 2 := by omega
    refine ⟨by omega, ?_, Or.inr ⟨by omega, by omega, ?_⟩⟩
    · rw [a3, b3, tx_len, tx_cat, quotes_list, show (Str.ofString "x").cps.toList = [120] by decide +kernel, List.length_append, List.length_replicate]
      simp
      omega
    · rw [a3, b3, e]
      rfl
  · omega
theorem parse_brk {x d : Str} {n i : Int} (hx : x = respT n) (n0 : 0 ≤ n) (hl : (x.length : Int) = n + 6) (h5 : 5 ≤ i) (hp : PInv n i d) (hi : i < (x.length : Int)) (hq : (Txt.item x i == Str.ofString "\"") = true) (hn : ¬ (x.length : Int) ≤ i + 1) (hq1 : (Txt.item x (i + 1) != Str.ofString "\"") = true) : d = toldT n := by
  have a1 := parse_q hx n0 h5 (by omega) hq
  have a2 := parse_x hx (by omega) (by omega) (ne_true hq1)
  rcases hp with ⟨b1, b2, b3⟩ | ⟨b1, _⟩
  · unfold toldT halfT
    rw [if_neg (by omega), b3, show (i - 5) / 2 = n / 2 by omega]
  · omega
theorem parse_end {x d : Str} {n i : Int} (hl : (x.length : Int) = n + 6) (hp : PInv n i d) (hi : ¬ i < (x.length : Int)) : d = toldT n := by
  rcases hp with ⟨b1, b2, b3⟩ | ⟨b1, b2, b3⟩
  · omega
  · unfold toldT
    rw [if_pos b2, b3]
theorem parse_no {x : Str} {n i : Int} (hx : x = respT n) (n0 : 0 ≤ n) (hl : (x.length : Int) = n + 6) (h5 : 5 ≤ i) (hi : i < (x.length : Int)) (hq : (Txt.item x i == Str.ofString "\"") = true) (hn : (x.length : Int) ≤ i + 1) : False := by
  have a1 := parse_q hx n0 h5 (by omega) hq
  omega
theorem str_end {x y : Str} {t : Tok} {h₀ h : Heap} {L : Addr} {m : Str → Option Value} {news : List (Addr × Obj)} {s : Shared} {Q : Value → Shared → Prop} {tk : Nat} (hret : RetStr x h₀ L m news s Q) (F : Fr h₀ L h m) (N : News h₀ L h news) (e : y = x) : Q (.str y t) { s with heap := h, toks := tk } := by
  subst e
  exact hret _ _ _ F N
theorem ne_absurd {a b : Str} (h : (a != b) = true) (e : a = b) : False := by
  subst e
  simp at h

theorem parse_c (x : Str) (n : Int) (t1 : Tok) : Con [.str x t1] 74 (fun _ => x = respT n ∧ 0 ≤ n ∧ n ≤ 100) (RetStr (toldT n)) := by
  k_with_none
  unfold Con
  k_fill
  intro w mean mg mb dp un gd cn cs a ccd cl outer A₀ base h₀ L m news s Q E B F X N T hk hpre hdp hun hret
  obtain ⟨hx, n0, n1⟩ := hpre
  have hlen : (x.length : Int) = n + 6 := hx ▸ resp_len n0
  have hs1 : Txt.slice x none (some 3) = Str.ofString "257" := hx ▸ resp_head n0
  have hs2 : Txt.slice x (some 3) (some 5) = Str.ofString " \"" := hx ▸ resp_mark n0
  k_with "exec While Compare cons nil" => k_while (fun _ (i : Int) (d : Str) => 5 ≤ i ∧ d.length ≤ 200 ∧ PInv n i d) (fun _ (i : Int) (_ : Str) => (n + 6 - i).toNat) "i" "dirname"
  k_with "state" => first | exact parse_s0 n0 | exact parse_t1 hx n0 n1 hlen (by assumption) (by assumption) (by assumption) (by assumption) (by assumption) (by assumption) | exact parse_t2 hx n0 n1 hlen (by assumption) (by assumption) (by assumption) (by assumption)
  k_with "measure" => omega
  k_with "call builtin:len" => refine SBL.len (by omega) ?_
  refine wpAny_call ?_
  k_dflt cell_enter
  k_steps
  all_goals first
    | exact (ne_absurd (by assumption) hs1).elim
    | exact (ne_absurd (by assumption) hs2).elim
    | exact str_end hret (by assumption) (by assumption) (parse_end hlen (by assumption) (by assumption))
    | exact str_end hret (by assumption) (by assumption) (parse_brk hx n0 hlen (by assumption) (by assumption) (by assumption) (by assumption) (by assumption) (by assumption))
    | (rename (Txt.item x _ == Str.ofString "\"") = true => hq; exact (parse_no hx n0 hlen (by assumption) (by assumption) hq (by assumption)).elim)
    | (fail "left")
end Mine
namespace Mine
section
variable {prog : Program} {w : World} {A : Around} {E : Value → Shared → Prop} {s : Shared} {env : Env} {h₀ : Heap} {x : Str} {body : List Stmt} {Q : Flow → Shared → Prop}
/-- the end of a turn over blanks -/
def BlEnd (h₀ : Heap) (L : Addr) (y y' x : Str) (i : Int) (m₀ : Str → Option Value) (need : List (Addr × Obj)) (s₁ s₂ : Shared) : Prop :=
  ∃ h' tk m' news', s₂ = { s₁ with heap := h', toks := tk } ∧ Fr h₀ L h' m' ∧ News h₀ L h' news' ∧ (∀ p ∈ need, p ∈ news') ∧ (∃ t, m' y = some (.int i t)) ∧ (∃ t, m' y' = some (.int i t)) ∧ ∀ z, z ≠ x → z ≠ y → z ≠ y' → m' z = m₀ z
def BlPost (h₀ : Heap) (L : Addr) (y y' x : Str) (i : Int) (m₀ : Str → Option Value) (need : List (Addr × Obj)) (s₁ : Shared) (Q : Flow → Shared → Prop) (f : Flow) (s₂ : Shared) : Prop :=
  match f with
  | .ret v => Q (.ret v) s₂
  | .brk => Q .next s₂
  | _ => BlEnd h₀ L y y' x i m₀ need s₁ s₂
/-- the end of the turn over the tab -/
def TbEnd (h₀ : Heap) (L : Addr) (R : (Str → Option Value) → List (Addr × Obj) → Prop) (I : Addr) (oI : Obj) (s₁ s₂ : Shared) : Prop :=
  ∃ h' tk m' nx, s₂ = { s₁ with heap := h', toks := tk } ∧ Fr h₀ L h' m' ∧ News h₀ L h' ((I, oI) :: nx) ∧ (∀ p ∈ nx, p.1 ≠ I) ∧ R m' nx
def TbPost (h₀ : Heap) (L : Addr) (R : (Str → Option Value) → List (Addr × Obj) → Prop) (I : Addr) (oI : Obj) (s₁ : Shared) (Q : Flow → Shared → Prop) (f : Flow) (s₂ : Shared) : Prop :=
  match f with
  | .ret v => Q (.ret v) s₂
  | .brk => Q .next s₂
  | _ => TbEnd h₀ L R I oI s₁ s₂

theorem fp_one {h₀ h : Heap} {L I : Addr} {news own : List (Addr × Obj)} {oI : Obj} (hoI : h.get? I = some oI) (hI₀ : h₀.get? I = none) (h5 : ∀ p ∈ own, p.1 ∈ [I]) (h7 : ∀ b ∈ [I], h₀.get? b = none → ∀ o, h.get? b = some o → (b, o) ∈ own) (N₁ : News h₀ L h (own ++ news)) :
    (∀ p ∈ own, p = (I, oI)) ∧ News h₀ L h ((I, oI) :: news) := by
  have own1 : ∀ p ∈ own, p = (I, oI) := fun p hp => by
    have a := N₁ p (List.mem_append.mpr (.inl hp))
    have b : p.1 = I := List.mem_singleton.mp (h5 p hp)
    have c := a.1
    rw [b] at c
    exact Prod.ext b (Option.some.inj (c.symm.trans hoI))
  refine ⟨own1, fun p hp => ?_⟩
  rcases List.mem_cons.mp hp with rfl | hp
  · exact N₁ _ (List.mem_append.mpr (.inl (h7 I (by simp) hI₀ oI hoI)))
  · exact N₁ p (List.mem_append.mpr (.inr hp))

theorem text_tab {xt : Str} {tx : Tok} {y y' : Str} {m₀ : Str → Option Value} {news : List (Addr × Obj)} {ty ty' : Tok} (k : Nat) (tab : Bool) (R : (Str → Option Value) → List (Addr × Obj) → Prop)
    (hxt : xt.cps.toList = List.replicate k 32 ++ (if tab then [9] else []))
    (hh : A.handled = none) (F : Fr h₀ env.locals s.heap m₀) (N : News h₀ env.locals s.heap news) (hy : m₀ y = some (.int 0 ty)) (hy' : m₀ y' = some (.int 0 ty'))
    (turn1 : ∀ (i : Int) (t ta tb : Tok) (h : Heap) (tk : Nat) (I : Addr) (oI : Obj), 0 ≤ i → i < (k : Int) → Fr h₀ env.locals h (fun z => if z = x then some (.str (Str.ofString " ") t) else if z = y then some (.int i ta) else if z = y' then some (.int i tb) else m₀ z) → News h₀ env.locals h ((I, oI) :: news) → (∀ p ∈ news, p.1 < I) →
      wpAny (model prog w) A (execs body env) (BlPost h₀ env.locals y y' x (i + 1) m₀ ((I, oI) :: news) { s with heap := h, toks := tk } Q) E { s with heap := h, toks := tk })
    (turn2 : tab = true → ∀ (t ta tb : Tok) (h : Heap) (tk : Nat) (I : Addr) (oI : Obj), Fr h₀ env.locals h (fun z => if z = x then some (.str (Str.ofString "\t") t) else if z = y then some (.int (k : Int) ta) else if z = y' then some (.int (k : Int) tb) else m₀ z) → News h₀ env.locals h ((I, oI) :: news) → (∀ p ∈ news, p.1 < I) →
      wpAny (model prog w) A (execs body env) (TbPost h₀ env.locals R I oI { s with heap := h, toks := tk } Q) E { s with heap := h, toks := tk })
    (done1 : tab = false → ∀ (u : Str → Option Value) (ta tb : Tok) h tk, Fr h₀ env.locals h (fun z => if z = x then u z else if z = y then some (.int (k : Int) ta) else if z = y' then some (.int (k : Int) tb) else m₀ z) → News h₀ env.locals h news → Q .next { s with heap := h, toks := tk })
    (done2 : tab = true → ∀ (m₁ : Str → Option Value) nx h tk, R m₁ nx → Fr h₀ env.locals h m₁ → News h₀ env.locals h nx → Q .next { s with heap := h, toks := tk }) :
    wpAny (model prog w) A (pyIter (.str xt tx)) (fun it s₂ => LoopAtV prog w A h₀ env x body Q E it s₂) E s := by
  have ha : xt.cps.all (· < 128) = true := by
    rw [← Array.all_toList, hxt]
    cases tab <;> simp
  have hsz : xt.cps.size = k + (if tab then 1 else 0) := by
    rw [← Array.length_toList, hxt]
    cases tab <;> simp
  refine wpAny_pyIter_ascii ha ?_
  have W := Walks.strAscii (prog := prog) (w := w) (A := A) hh s.heap.objs.size xt tx
  have hI₀ : h₀.get? s.heap.objs.size = none := next_is_new F
  have hnw : ∀ p ∈ news, p.1 < s.heap.objs.size := fun p hp => Heap.lt_size (N p hp).1
  refine ⟨s.heap.objs.size, [s.heap.objs.size], [s.heap.objs.size], xt.cps.size, _, _, m₀, news,
    (fun i m₁ nx => (i ≤ k ∧ nx = news ∧ (∃ t, m₁ y = some (.int (i : Int) t)) ∧ (∃ t, m₁ y' = some (.int (i : Int) t)) ∧ ∀ z, z ≠ x → z ≠ y → z ≠ y' → m₁ z = m₀ z) ∨ (i = k + 1 ∧ R m₁ nx)), rfl, W, ?_, ?_, ?_, ⟨_, Heap.get?_push_size _ rfl, rfl, rfl⟩, F.push _, (fun p hp => ⟨Heap.get?_push_of_some _ (N p hp).1, (N p hp).2⟩), .inl ⟨Nat.zero_le _, rfl, ⟨ty, hy⟩, ⟨ty', hy'⟩, fun _ _ _ _ => rfl⟩, ?_, ?_⟩
  · intro hm
    exact absurd F.ns.lt ((List.mem_singleton.mp hm) ▸ Nat.lt_irrefl _)
  · intro b hb
    rw [List.mem_singleton.mp hb]
    exact hI₀
  · intro p hp hI
    exact absurd (hnw p hp) ((List.mem_singleton.mp hI) ▸ Nat.lt_irrefl _)
  · rintro i v m₁ news₁ s₁ own ⟨hh', tk', rfl⟩ hin ⟨c, u, hc, rfl⟩ hJ hoff h5 _ h7 ⟨oI, hoI, _⟩ F₁ N₁
    have hlt : i < k + (if tab then 1 else 0) := hsz ▸ hin
    rcases hJ with ⟨_, rfl, ⟨t1, e1⟩, ⟨t2, e2⟩, e3⟩ | ⟨hi, _⟩
    · rw [map_two e1 e2 e3] at F₁
      obtain ⟨own1, NI⟩ := fp_one hoI hI₀ h5 h7 N₁
      have hc' : xt.cps.toList[i]? = some c := by simpa using hc
      rw [hxt] at hc'
      by_cases hik : i < k
      · have hcc : c = 32 := by
          rw [List.getElem?_append_left (by simp; omega), List.getElem?_replicate, if_pos hik] at hc'
          exact (Option.some.inj hc').symm
        subst hcc
        rw [← blank_is] at F₁
        refine wpAny_mono (turn1 (i : Int) u t1 t2 hh' tk' _ oI (by omega) (by omega) F₁ NI hnw) (fun f s₂ p => ?_) fun _ _ e => e
        have fin : BlEnd h₀ env.locals y y' x ((i : Int) + 1) m₀ ((s.heap.objs.size, oI) :: news₁) { s with heap := hh', toks := tk' } s₂ → LoopStepU h₀ env.locals [s.heap.objs.size] own (fun m₁ nx => (i + 1 ≤ k ∧ nx = news₁ ∧ (∃ t, m₁ y = some (.int ((i + 1 : Nat) : Int) t)) ∧ (∃ t, m₁ y' = some (.int ((i + 1 : Nat) : Int) t)) ∧ ∀ z, z ≠ x → z ≠ y → z ≠ y' → m₁ z = m₀ z) ∨ (i + 1 = k + 1 ∧ R m₁ nx)) { s with heap := hh', toks := tk' } .next s₂ := by
          rintro ⟨h', tk, m', news', e, F', N', hn, g1, g2, g3⟩
          refine ⟨rfl, h', tk, m', news₁, e, F', fun p hp => ?_, hoff, .inl ⟨by omega, rfl, g1, g2, g3⟩⟩
          rcases List.mem_append.mp hp with hp | hp
          · obtain rfl := own1 p hp
            exact N' _ (hn _ List.mem_cons_self)
          · exact N' p (hn p (List.mem_cons_of_mem _ hp))
        cases f with
        | ret v => exact .ret p
        | brk => exact .brk p
        | next => exact .next (fin p)
        | cont => exact .cont (fin p)
      · have ht : tab = true := by
          cases tab with
          | true => rfl
          | false => simp at hlt; omega
        subst ht
        have hie : i = k := by simp at hlt; omega
        subst hie
        have hcc : c = 9 := by
          rw [List.getElem?_append_right (by simp)] at hc'
          simp at hc'
          exact hc'.symm
        subst hcc
        rw [show (⟨#[9]⟩ : Str) = Str.ofString "\t" by decide +kernel] at F₁
        refine wpAny_mono (turn2 rfl u t1 t2 hh' tk' _ oI F₁ NI hnw) (fun f s₂ p => ?_) fun _ _ e => e
        have fin : TbEnd h₀ env.locals R s.heap.objs.size oI { s with heap := hh', toks := tk' } s₂ → LoopStepU h₀ env.locals [s.heap.objs.size] own (fun m₁ nx => (i + 1 ≤ i ∧ nx = news₁ ∧ (∃ t, m₁ y = some (.int ((i + 1 : Nat) : Int) t)) ∧ (∃ t, m₁ y' = some (.int ((i + 1 : Nat) : Int) t)) ∧ ∀ z, z ≠ x → z ≠ y → z ≠ y' → m₁ z = m₀ z) ∨ (i + 1 = i + 1 ∧ R m₁ nx)) { s with heap := hh', toks := tk' } .next s₂ := by
          rintro ⟨h', tk, m', nx, e, F', N', hn, hR⟩
          refine ⟨rfl, h', tk, m', nx, e, F', fun p hp => ?_, fun p hp hI => hn p hp (List.mem_singleton.mp hI), .inr ⟨rfl, hR⟩⟩
          rcases List.mem_append.mp hp with hp | hp
          · obtain rfl := own1 p hp
            exact N' _ List.mem_cons_self
          · exact N' p (List.mem_cons_of_mem _ hp)
        cases f with
        | ret v => exact .ret p
        | brk => exact .brk p
        | next => exact .next (fin p)
        | cont => exact .cont (fin p)
    · exfalso
      have : (if tab = true then 1 else 0) ≤ 1 := by split <;> omega
      omega
  · rintro h' tk m' news' F' N' _ hJ
    cases tab with
    | true =>
      have hn : xt.cps.size = k + 1 := by simpa using hsz
      rcases hJ with ⟨hle, _⟩ | ⟨_, hR⟩
      · omega
      · exact done2 rfl m' news' h' tk hR F' N'
    | false =>
      have hn : xt.cps.size = k := by simpa using hsz
      rcases hJ with ⟨_, rfl, ⟨t1, e1⟩, ⟨t2, e2⟩, e3⟩ | ⟨he, _⟩
      · refine done1 rfl m' t1 t2 h' tk ?_ N'
        rw [hn] at e1 e2
        have e : (fun z => if z = x then m' z else if z = y then some (Value.int (k : Int) t1) else if z = y' then some (Value.int (k : Int) t2) else m₀ z) = m' := by
          funext z
          by_cases h1 : z = x
          · simp [h1]
          · simp only [if_neg h1]
            by_cases h2 : z = y
            · subst h2; simp [e1]
            · simp only [if_neg h2]
              by_cases h3 : z = y'
              · subst h3; simp [e2]
              · simp only [if_neg h3]
                exact (e3 z h1 h2 h3).symm
        rw [e]
        exact F'
      · omega
/-- the end of the turn over the tab, as the walk brings it -/
def TcEnd (h₀ : Heap) (L : Addr) (yc y yt y' x : Str) (i : Int) (ns : List Int) (m₀ : Str → Option Value) (need : List (Addr × Obj)) (s₁ s₂ : Shared) : Prop :=
  ∃ h' tk m' news' c us kk, s₂ = { s₁ with heap := h', toks := tk } ∧ Fr h₀ L h' m' ∧ News h₀ L h' news' ∧ (∀ p ∈ need, p ∈ news') ∧ (c, ({ cls := .type "list", data := .seq (List.toArray us) kk } : Obj)) ∈ news' ∧ AllLt c need ∧ IntsAre us ns ∧
    m' yc = some (.ref c) ∧ (∃ t, m' y = some (.int i t)) ∧ (∃ t, m' yt = some (.int 1 t)) ∧ (∃ t, m' y' = some (.int 0 t)) ∧ ∀ z, z ≠ x → z ≠ yc → z ≠ y → z ≠ yt → z ≠ y' → m' z = m₀ z
def TcPost (h₀ : Heap) (L : Addr) (yc y yt y' x : Str) (i : Int) (ns : List Int) (m₀ : Str → Option Value) (need : List (Addr × Obj)) (s₁ : Shared) (Q : Flow → Shared → Prop) (f : Flow) (s₂ : Shared) : Prop :=
  match f with
  | .ret v => Q (.ret v) s₂
  | .brk => Q .next s₂
  | _ => TcEnd h₀ L yc y yt y' x i ns m₀ need s₁ s₂
/-- what stands behind the tab -/
def TcR (yc y yt y' x : Str) (i : Int) (ns : List Int) (m₀ : Str → Option Value) (news : List (Addr × Obj)) (m₁ : Str → Option Value) (nx : List (Addr × Obj)) : Prop :=
  ∃ (u : Str → Option Value) (c : Addr) (us : List Value) (kk : Nat) (t1 t2 t3 : Tok), m₁ = (fun z => if z = x then u z else if z = yc then some (.ref c) else if z = y then some (.int i t1) else if z = yt then some (.int 1 t2) else if z = y' then some (.int 0 t3) else m₀ z) ∧
    nx = (c, ({ cls := .type "list", data := .seq (List.toArray us) kk } : Obj)) :: news ∧ IntsAre us ns ∧ AllLt c news

theorem text_tabs {xt : Str} {tx : Tok} {yc y yt y' : Str} {m₀ : Str → Option Value} {news : List (Addr × Obj)} {ty ty' : Tok} (k : Nat) (ns : List Int)
    (hxt : xt.cps.toList = List.replicate k 32 ++ [9])
    (hh : A.handled = none) (F : Fr h₀ env.locals s.heap m₀) (N : News h₀ env.locals s.heap news) (hy : m₀ y = some (.int 0 ty)) (hy' : m₀ y' = some (.int 0 ty'))
    (turn1 : ∀ (i : Int) (t ta tb : Tok) (h : Heap) (tk : Nat) (I : Addr) (oI : Obj), 0 ≤ i → i < (k : Int) → Fr h₀ env.locals h (fun z => if z = x then some (.str (Str.ofString " ") t) else if z = y then some (.int i ta) else if z = y' then some (.int i tb) else m₀ z) → News h₀ env.locals h ((I, oI) :: news) → (∀ p ∈ news, p.1 < I) →
      wpAny (model prog w) A (execs body env) (BlPost h₀ env.locals y y' x (i + 1) m₀ ((I, oI) :: news) { s with heap := h, toks := tk } Q) E { s with heap := h, toks := tk })
    (turn2 : ∀ (t ta tb : Tok) (h : Heap) (tk : Nat) (I : Addr) (oI : Obj), Fr h₀ env.locals h (fun z => if z = x then some (.str (Str.ofString "\t") t) else if z = y then some (.int (k : Int) ta) else if z = y' then some (.int (k : Int) tb) else m₀ z) → News h₀ env.locals h ((I, oI) :: news) → (∀ p ∈ news, p.1 < I) →
      wpAny (model prog w) A (execs body env) (TcPost h₀ env.locals yc y yt y' x ((k : Int) + 1) ns m₀ ((I, oI) :: news) { s with heap := h, toks := tk } Q) E { s with heap := h, toks := tk })
    (done : ∀ (u : Str → Option Value) (c : Addr) (us : List Value) (kk : Nat) (t1 t2 t3 : Tok) h tk, IntsAre us ns → AllLt c news →
      Fr h₀ env.locals h (fun z => if z = x then u z else if z = yc then some (.ref c) else if z = y then some (.int ((k : Int) + 1) t1) else if z = yt then some (.int 1 t2) else if z = y' then some (.int 0 t3) else m₀ z) →
      News h₀ env.locals h ((c, ({ cls := .type "list", data := .seq (List.toArray us) kk } : Obj)) :: news) → Q .next { s with heap := h, toks := tk }) :
    wpAny (model prog w) A (pyIter (.str xt tx)) (fun it s₂ => LoopAtV prog w A h₀ env x body Q E it s₂) E s := by
  refine text_tab k true (TcR yc y yt y' x ((k : Int) + 1) ns m₀ news) (by simpa using hxt) hh F N hy hy' turn1 (fun _ t ta tb h tk I oI F₁ N₁ l₁ => ?_) (fun e => nomatch e) ?_
  · refine wpAny_mono (turn2 t ta tb h tk I oI F₁ N₁ l₁) (fun f s₂ p => ?_) fun _ _ e => e
    have fin : TcEnd h₀ env.locals yc y yt y' x ((k : Int) + 1) ns m₀ ((I, oI) :: news) { s with heap := h, toks := tk } s₂ → TbEnd h₀ env.locals (TcR yc y yt y' x ((k : Int) + 1) ns m₀ news) I oI { s with heap := h, toks := tk } s₂ := by
      rintro ⟨h', tk', m', news', c, us, kk, e, F', N', hn, hc, hl, hi, g1, ⟨u1, g2⟩, ⟨u2, g3⟩, ⟨u3, g4⟩, g5⟩
      refine ⟨h', tk', m', (c, ({ cls := .type "list", data := .seq (List.toArray us) kk } : Obj)) :: news, e, F', fun p hp => ?_, fun p hp => ?_, m', c, us, kk, u1, u2, u3, ?_, rfl, hi, hl.2⟩
      · rcases List.mem_cons.mp hp with rfl | hp
        · exact N' _ (hn _ List.mem_cons_self)
        · rcases List.mem_cons.mp hp with rfl | hp
          · exact N' _ hc
          · exact N' p (hn p (List.mem_cons_of_mem _ hp))
      · rcases List.mem_cons.mp hp with rfl | hp
        · exact Nat.ne_of_gt hl.1
        · exact Nat.ne_of_lt (l₁ p hp)
      · funext z
        by_cases z1 : z = x
        · simp [z1]
        · simp only [if_neg z1]
          by_cases z2 : z = yc
          · subst z2; simp [g1]
          · simp only [if_neg z2]
            by_cases z3 : z = y
            · subst z3; simp [g2]
            · simp only [if_neg z3]
              by_cases z4 : z = yt
              · subst z4; simp [g3]
              · simp only [if_neg z4]
                by_cases z5 : z = y'
                · subst z5; simp [g4]
                · simp only [if_neg z5]
                  exact g5 z z1 z2 z3 z4 z5
    cases f with
    | ret v => exact p
    | brk => exact p
    | next => exact fin p
    | cont => exact fin p
  · rintro _ m₁ nx h tk ⟨u, c, us, kk, t1, t2, t3, rfl, rfl, hi, hl⟩ F' N'
    exact done u c us kk t1 t2 t3 h tk hi hl F' N'
end
end Mine
namespace Mine
local macro_rules | `(tactic| k_room) => `(tactic| ktr_room)
local macro_rules | `(tactic| k_units) => `(tactic| ktr_units)
section
local macro_rules | `(tactic| walk_at "pyIter ref") => `(tactic| k_extra "pyIter ref")
local macro_rules | `(tactic| walk_at "call builtin:len") => `(tactic| k_extra "call builtin:len")
local macro_rules | `(tactic| walk_at "call type:tuple") => `(tactic| k_extra "call type:tuple")
local macro_rules | `(tactic| walk_at "subscriptTail Name Name ref int") => `(tactic| k_extra "subscriptTail Name Name ref int")
local macro_rules | `(tactic| walk_at "binaryOp Mult int int") => `(tactic| k_extra "binaryOp Mult int int")
theorem col_text {blanks : Int} (h : 0 ≤ blanks) : (Txt.mul (Str.ofString " ") blanks ++ Str.ofString "\t").cps.toList = List.replicate blanks.toNat 32 ++ [9] := by
  rw [tx_cat, blanks_list, show (Str.ofString "\t").cps.toList = [9] by decide +kernel]

theorem tab_ns (k : Nat) : (([] ++ (List.replicate ((k : Int) - 0 + 1).toNat [(0 : Int)]).flatten).set ((k : Int)).toNat (([] ++ (List.replicate ((k : Int) - 0 + 1).toNat [(0 : Int)]).flatten).getD ((k : Int)).toNat 0 + 1)) = List.replicate k 0 ++ [1] := by
  have e1 : ((k : Int) - 0 + 1).toNat = k + 1 := by omega
  have e2 : (List.replicate (k + 1) [(0 : Int)]).flatten = List.replicate k 0 ++ [0] := by
    rw [show (List.replicate (k + 1) [(0 : Int)]).flatten = List.replicate (k + 1) 0 by simp, List.replicate_succ']
  rw [e1, e2, List.nil_append, Int.toNat_natCast]
  have e3 : (List.replicate k (0 : Int) ++ [0]).getD k 0 = 0 := by simp
  rw [e3, List.set_append_right _ _ (by simp)]
  simp
theorem tab_len {us : List Value} {k : Nat} (h : IntsAre us (List.replicate k 0 ++ [1])) : us.length = k + 1 := by
  rw [h.length]
  simp
/-- what the loop has added up -/
def ilT (size blanks : Int) (j : Nat) : Int := if size ≤ blanks ∧ blanks < size + (j : Int) then blanks / size else 0
theorem ints_as {us : List Value} {ns ns' : List Int} (h : IntsAre us ns) (e : ns = ns') : IntsAre us ns' := e ▸ h

theorem ilT_start {size blanks : Int} (s0 : 1 ≤ size) : (0 : Int) = ilT size blanks ([] : List Int).length := by
  unfold ilT
  by_cases h : size ≤ blanks ∧ blanks < size + (([] : List Int).length : Int)
  · simp at h
    omega
  · rw [if_neg h]
theorem getD_tab (k i : Nat) : (List.replicate k (0 : Int) ++ [1]).getD i 0 = if i = k then 1 else 0 := by
  rcases Nat.lt_trichotomy i k with h | h | h
  · rw [if_neg (by omega), List.getD_eq_getElem?_getD, List.getElem?_append_left (by simpa using h), List.getElem?_replicate, if_pos h]
    rfl
  · subst h
    rw [if_pos rfl, List.getD_eq_getElem?_getD, List.getElem?_append_right (by simp)]
    simp
  · rw [if_neg (by omega), List.getD_eq_getElem?_getD, List.getElem?_eq_none (by simp; omega)]
    rfl
theorem ilT_turn {size blanks k il : Int} {pre : List Int} (s0 : 1 ≤ size) (b0 : 0 ≤ blanks) (hk : k = size + (pre.length : Int)) (hlt : pre.length < (((List.replicate blanks.toNat (0 : Int) ++ [1]).length : Int) - size).toNat) (hil : il = ilT size blanks pre.length) :
    il + k.fdiv size * (List.replicate blanks.toNat (0 : Int) ++ [1]).getD k.toNat 0 = ilT size blanks (pre ++ [k]).length := by
  rw [List.length_append, List.length_replicate] at hlt
  simp only [List.length_cons, List.length_nil] at hlt
  have hkb : k ≤ blanks := by omega
  have hl : (pre ++ [k]).length = pre.length + 1 := by simp
  rw [getD_tab, hl, hil]
  have a1 : ilT size blanks pre.length = 0 := by
    unfold ilT
    rw [if_neg (by omega)]
  by_cases h : k = blanks
  · have a2 : ilT size blanks (pre.length + 1) = blanks / size := by
      unfold ilT
      rw [if_pos (by omega)]
    have a3 : (if k.toNat = blanks.toNat then (1 : Int) else 0) = 1 := if_pos (by omega)
    rw [a1, a2, a3, h, Int.fdiv_eq_ediv_of_nonneg _ (by omega)]
    simp
  · have a2 : ilT size blanks (pre.length + 1) = 0 := by
      unfold ilT
      rw [if_neg (by omega)]
    have a3 : (if k.toNat = blanks.toNat then (1 : Int) else 0) = 0 := if_neg (by omega)
    rw [a1, a2, a3]
    simp
theorem ilT_end {size blanks il : Int} (s0 : 1 ≤ size) (b0 : 0 ≤ blanks) (hil : il = ilT size blanks (rangeKs size (((List.replicate blanks.toNat (0 : Int) ++ [1]).length : Int) - size).toNat).length) : 0 + size * (il + 1) = size * (blanks / size + 1) := by
  rw [rangeKs_length, List.length_append, List.length_replicate] at hil
  simp only [List.length_cons, List.length_nil] at hil
  have e : il = blanks / size := by
    rw [hil]
    unfold ilT
    by_cases h : size ≤ blanks
    · rw [if_pos (by omega)]
    · rw [if_neg (by omega), Int.ediv_eq_zero_of_lt b0 (by omega)]
  rw [e, Int.zero_add]
theorem int_end {x y : Int} {t : Tok} {h₀ h : Heap} {L : Addr} {m : Str → Option Value} {news news' : List (Addr × Obj)} {s : Shared} {Q : Value → Shared → Prop} {tk : Nat} (hret : RetInt x h₀ L m news s Q) (F : Fr h₀ L h m) (N : News h₀ L h news') (hs : ∀ p ∈ news, p ∈ news') (e : y = x) : Q (.int y t) { s with heap := h, toks := tk } := by
  subst e
  exact hret _ _ _ F fun p hp => N p (hs p hp)
theorem tab_mul {k i : Nat} {x : Int} : IntMulOk x ((List.replicate k (0 : Int) ++ [1]).getD i 0) := by
  rw [getD_tab]
  split
  · exact IntMulOk.of_right (by decide)
  · exact IntMulOk.of_right (by decide)

theorem col_c (size blanks : Int) (t1 t2 : Tok) : Con [.int size t1, .int blanks t2] 161 (fun _ => 1 ≤ size ∧ size ≤ 200 ∧ 0 ≤ blanks ∧ blanks ≤ 200) (RetInt (size * (blanks / size + 1))) := by
  k_with_none
  unfold Con
  k_fill
  intro w mean mg mb dp un gd cn cs a ccd cl outer A₀ base h₀ L m news s Q E B F X N T hk hpre hdp hun hret
  obtain ⟨s0, s1, b0, b1⟩ := hpre
  k_with "pyIter str" => (k_here; (rename Fr _ _ _ _ => lF'); (rename News _ _ _ _ => lN'); (with_unfolding_all refine' text_tabs (yc := Str.ofString "count") (y := Str.ofString "n") (yt := Str.ofString "nt") (y' := Str.ofString "b") blanks.toNat (List.replicate blanks.toNat 0 ++ [1]) (col_text b0) ?hh lF' lN' ?hy ?hz ?ga ?gb ?gc); (case hh => exact rfl); (case hy => exact rfl); (case hz => exact rfl); (all_goals (try clear lF' lN')); (case' ga => (intro i t ta tb h tk I oI hi0 hi1 F' N' l1; (try k_lt l1); (try k_fold))); (case' gb => (intro t ta tb h tk I oI F' N' l1; (try k_lt l1); (try k_fold))); (case' gc => (intro u c us kk t1 t2 t3 h tk hus hcl F' N'; (try simp only [AllLt] at hcl); (have husl := tab_len hus); (try k_fold))))
  k_with "call builtin:len" => (k_dflt (refine' kst_len ?k1 ?k2 ?k3 ?k4 ?_; (case k1 => k_asm); (case k2 => k_mem); (case k3 => exact husl); (case k4 => omega); k_whole))
  k_with "call builtin:len" => (k_dflt (refine' PyProof.Rows.len_tuple ?k1 ?k2 ?_; (case k1 => exact News.isTup (by k_asm) (by k_mem)); (case k2 => (rw [List.size_toArray]; omega)); k_whole))
  k_with "state" => first | exact ilT_start s0 | exact ilT_turn s0 b0 (by assumption) (by assumption) (by assumption)
  k_with "subscriptTail Name Name ref int" => (k_dflt (refine' item_tuple_ints ?k1 hus ?k2 ?k3 ?k4 ?_ ?k5 ?k6; (case k5 => with_unfolding_all rfl); (case k6 => (intro _; with_unfolding_all rfl)); (case k1 => exact News.isTup (by k_asm) (by k_mem)); (case k2 => omega); (case k3 => omega); (case k4 => omega)); intro t')
  k_with "binaryOp Mult int int" => (with_reducible refine mul_int ?_ tab_mul)
  k_with "pyIter ref" => k_state_given ["tabsize"] (fun _ pre (il : Int) => il = ilT size blanks pre.length) "il"
  k_with "call type:tuple" => (k_dflt (refine' kde_tupleOf (zs := us) ?k1 ?k2 ?k3 ?k4 ?k5 ?_; (case k1 => k_asm); (case k2 => k_asm); (case k3 => exact News.isList (by k_asm) (by k_mem)); (case k4 => (rw [List.size_toArray]; omega)); (case k5 => exact rfl); k_whole); intro D' h' F' N' l1; (try k_lt l1); (try k_sweep))
  k_with "BlPost" => (dsimp only [BlPost])
  k_with "BlEnd" => (rename News _ _ _ _ => nE'; exact ⟨_, _, _, _, rfl, by assumption, nE', fun p hp => hp, ⟨_, by with_unfolding_all rfl⟩, ⟨_, by with_unfolding_all rfl⟩, by (intro z h1 h2 h3; simp [h1, h2, h3])⟩)
  k_with "TcPost" => (dsimp only [TcPost])
  k_with "TcEnd" => (rename News _ _ _ _ => nE'; rename _ < _ ∧ _ => hlE'; exact ⟨_, _, _, _, _, _, _, rfl, by assumption, nE', fun p hp => List.mem_cons_of_mem _ (List.mem_cons_of_mem _ (List.mem_cons_of_mem _ hp)), List.mem_cons_self .., hlE'.2.2, ints_as (by assumption) (tab_ns _), by with_unfolding_all rfl, ⟨_, by with_unfolding_all rfl⟩, ⟨_, by with_unfolding_all rfl⟩, ⟨_, by with_unfolding_all rfl⟩, by (intro z h1 h2 h3 h4 h5; simp [h1, h2, h3, h4, h5])⟩)
  refine wpAny_call ?_
  k_dflt cell_enter
  k_steps
  exact int_end hret (by assumption) (by assumption) (by (intro p hp; repeat (first | exact hp | refine List.mem_cons_of_mem _ ?_))) (ilT_end s0 b0 (by assumption))
end
end Mine
namespace Mine
local macro_rules | `(tactic| k_room) => `(tactic| ktr_room)
local macro_rules | `(tactic| k_units) => `(tactic| ktr_units)
local macro_rules | `(tactic| k_enter) => `(tactic| cell_enter)
/-- what the made object's dict holds -/
def wsDict (w : World) (xt : Str) (n : Int) (T : Addr) (k1 k2 k3 k4 k5 t1 t2 t3 : Tok) : Obj :=
  dictOf [⟨PyData.keyHash w.params (Str.ofString "raw"), .str (Str.ofString "raw") k1, .str xt t1⟩, ⟨PyData.keyHash w.params (Str.ofString "n"), .str (Str.ofString "n") k2, .int n t2⟩, ⟨PyData.keyHash w.params (Str.ofString "nt"), .str (Str.ofString "nt") k3, .int 0 t3⟩,
    ⟨PyData.keyHash w.params (Str.ofString "norm"), .str (Str.ofString "norm") k4, .ref T⟩, ⟨PyData.keyHash w.params (Str.ofString "is_simple"), .str (Str.ofString "is_simple") k5, .bool true⟩] 5
theorem bl_text (n : Int) : (Txt.mul (Str.ofString " ") n).cps.toList = List.replicate n.toNat 32 ++ (if false then [9] else []) := by
  rw [blanks_list]
  simp
theorem ws_c (n : Int) (t1 : Tok) (w : World) (mean : ExcName → Option Value) (mg mb : Str → Option Value) (dp un : Nat) (gd : Option (List Code)) (cn : Str) (cs : Scope) (a : Addr) (ccd : Value) (cl : List (Str × Addr)) (outer : List Env) (A₀ : Around) (base h₀ : Heap) (L : Addr) (m : Str → Option Value) (news : List (Addr × Obj)) (s : Shared) (Q E : Value → Shared → Prop) :
    Below A₀ base outer h₀ → Fr h₀ L s.heap m → (hd.heap_39 w.params).In h₀ → News h₀ L s.heap news → Top hd.view_39 (looseW hd.view_39 [Str.ofString "Whitespace"]) mean mg mb h₀ → cs.kind = .function →
    0 ≤ n → n ≤ 200 → dp + 6 < recursionLimit → un + 60 < cLine →
    (∀ (x d T : Addr) (k1 k2 k3 k4 k5 u1 u2 u3 : Tok) (h : Heap) (tk : Nat), Fr h₀ L h m → News h₀ L h ((x, instObj 136 d) :: (d, wsDict w (Txt.mul (Str.ofString " ") n) n T k1 k2 k3 k4 k5 u1 u2 u3) :: news) → x ≠ d → AllLt x news → AllLt d news → Q (.ref x) { s with heap := h, toks := tk }) →
    wpAny (model PySem.Challenge.rw_wn0095_01.row.prog w) (ktrTop dp un gd cn cs L a ccd cl outer) (call (.ref 136) [.str (Txt.mul (Str.ofString " ") n) t1]) Q E s := by
  k_with_none
  k_fill
  intro B F X N T hk n0 n1 hdp hun hret
  k_with "pyIter str" => (k_here; (rename Fr _ _ _ _ => lF'); (rename News _ _ _ _ => lN'); (with_unfolding_all refine' text_tab (y := Str.ofString "n") (y' := Str.ofString "b") n.toNat false (fun _ _ => False) (bl_text n) ?hh lF' lN' ?hy ?hz ?ga ?gb ?gc ?gd); (case hh => exact rfl); (case hy => exact rfl); (case hz => exact rfl); (case gb => exact fun e => nomatch e); (case gd => exact fun e => nomatch e); (all_goals (try clear lF' lN')); (case' ga => (intro i t ta tb h tk I oI hi0 hi1 F' N' l1; (try k_lt l1); (try k_fold))); (case' gc => (intro _ u ta tb h tk F' N'; (try k_fold))))
  k_with "BlPost" => (dsimp only [BlPost])
  k_with "BlEnd" => (rename News _ _ _ _ => nE'; exact ⟨_, _, _, _, rfl, by assumption, nE', fun p hp => hp, ⟨_, by with_unfolding_all rfl⟩, ⟨_, by with_unfolding_all rfl⟩, by (intro z h1 h2 h3; simp [h1, h2, h3])⟩)
  k_steps
  have hn : ((n.toNat : Nat) : Int) = n := by omega
  rename Fr h₀ L _ m => kF
  rename News h₀ L _ _ => kN
  rename ∀ (p : Addr × Obj), p ∈ news → p.1 < _ => l1
  rename _ < _ => l2
  rw [hn] at kN
  exact hret _ _ _ _ _ _ _ _ _ _ _ _ _ kF (fun p hp => kN p (List.mem_cons_of_mem _ (List.mem_cons_of_mem _ (List.mem_cons_of_mem _ (List.mem_cons_of_mem _ hp))))) (Nat.ne_of_gt l2) (allLt_of fun p hp => Nat.lt_trans (l1 p hp) l2) (allLt_of l1)
end Mine
namespace Mine
local macro_rules | `(tactic| k_room) => `(tactic| ktr_room)
local macro_rules | `(tactic| k_units) => `(tactic| ktr_units)
theorem rep_lt : ∀ (a b : Nat), (List.replicate a 32 < List.replicate b 32) ↔ a < b
  | 0, 0 => by simp
  | 0, b + 1 => by simp [List.replicate_succ]
  | a + 1, 0 => by simp [List.replicate_succ]
  | a + 1, b + 1 => by
    rw [List.replicate_succ, List.replicate_succ, List.cons_lt_cons_iff]
    have ih := rep_lt a b
    constructor
    · rintro (h | ⟨_, h⟩)
      · omega
      · have := ih.mp h
        omega
    · intro h
      exact Or.inr ⟨rfl, ih.mpr (by omega)⟩
theorem coll_eq {u l : Int} (u0 : 0 ≤ u) (l0 : 0 ≤ l) : (b2i (decide ((Txt.mul (Str.ofString " ") l).cps.toList < (Txt.mul (Str.ofString " ") u).cps.toList)) - b2i (decide ((Txt.mul (Str.ofString " ") u).cps.toList < (Txt.mul (Str.ofString " ") l).cps.toList))) = if l < u then 1 else if u < l then -1 else 0 := by
  rw [blanks_list, blanks_list]
  have e1 : decide (List.replicate l.toNat 32 < List.replicate u.toNat 32) = decide (l < u) := by
    rw [decide_eq_decide, rep_lt]
    omega
  have e2 : decide (List.replicate u.toNat 32 < List.replicate l.toNat 32) = decide (u < l) := by
    rw [decide_eq_decide, rep_lt]
    omega
  rw [e1, e2]
  by_cases h1 : l < u
  · rw [if_pos h1, decide_eq_true h1, decide_eq_false (by omega)]
    rfl
  · rw [if_neg h1, decide_eq_false h1]
    by_cases h2 : u < l
    · rw [if_pos h2, decide_eq_true h2]
      rfl
    · rw [if_neg h2, decide_eq_false h2]
      rfl
theorem int_end1 {x y : Int} {t : Tok} {h₀ h : Heap} {L : Addr} {m : Str → Option Value} {news : List (Addr × Obj)} {s : Shared} {Q : Value → Shared → Prop} {tk : Nat} (hret : RetInt x h₀ L m news s Q) (F : Fr h₀ L h m) (N : News h₀ L h news) (e : y = x) : Q (.int y t) { s with heap := h, toks := tk } := by
  subst e
  exact hret _ _ _ F N
theorem coll_c (u l : Int) (t1 t2 : Tok) : Con [.str (Txt.mul (Str.ofString " ") u) t1, .str (Txt.mul (Str.ofString " ") l) t2] 28 (fun _ => 0 ≤ u ∧ u ≤ 200 ∧ 0 ≤ l ∧ l ≤ 200) (RetInt (if l < u then 1 else if u < l then -1 else 0)) := by
  k_with_none
  unfold Con
  k_fill
  intro w mean mg mb dp un gd cn cs a ccd cl outer A₀ base h₀ L m news s Q E B F X N T hk hpre hdp hun hret
  obtain ⟨u0, u1, l0, l1⟩ := hpre
  refine wpAny_call ?_
  k_dflt cell_enter
  k_steps
  exact int_end1 hret (by assumption) (by assumption) (coll_eq u0 l0)
end Mine
namespace Mine
section
variable {M : Model} {A : Around} {R : GenEnd} {Y : Protocol} {n : Nat} {s₀ : Shared} {c : Code} {fs : List Frame} {s : Shared} {env : Env} {K : Flow → Sem Fin} {H : Value → Sem Fin} {gd : Bool → Bool} {lv : List Value → List Value}
/-- what follows on a block of the frame's own -/
def ownK (env : Env) (K : Flow → Sem Fin) (H : Value → Sem Fin) (gd : Bool → Bool) (lv : List Value → List Value) : Result → Sem Fin := fun r => ((match r with | .ok f => (.pure f : Sem Flow) | .error e => .raise e).onRaise fun (x : Value) => do
  if (← field x 1) == Value.none then unsupported "frame.own-activation:exception-without-traceback"
  setFlight x env.frame).wrap K H gd lv
theorem seg_fors {target iter : Expr} {body : List Stmt} {pos : Pos}
    (h : wpAny M (A.over c fs) (eval iter env) (fun x s₁ => wpAny M (A.over c fs) (pyIter x) (fun it s₂ => ∀ p, Seg M A R Y n s₀ (.forLoop target it body [] env) (M.den (.forLoop target it body [] env)) (.ret (ownK env K H gd lv) none (gd false) (lv []) c p [] :: fs) s₂)
      (fun x s' => Seg M A R Y n s₀ c (H x) fs s') s₁) (fun x s' => Seg M A R Y n s₀ c (H x) fs s') s)
    (hs : ∀ x, foldedSetIterable iter env x = pure x := by intro _; rfl) :
    Seg M A R Y n s₀ c ((exec (.For target iter body [] pos) env).wrap K H gd lv) fs s := by
  rw [exec_For]
  refine seg_bind_wrap (wpAny_standAt ?_)
  refine seg_bind_wrap (wpAny_mono h (fun x s₁ h₁ => ?_) fun _ _ e => e)
  refine seg_bind_wrap (wpAny_of_eq (hs x) ?_)
  refine seg_bind_wrap (wpAny_standAt ?_)
  refine seg_bind_wrap (wpAny_holding (wpAny_mono h₁ (fun it s₂ h₂ => ?_) fun _ _ e => e))
  exact seg_call h₂
theorem seg_ifs {test : Expr} {body orelse : List Stmt} {pos : Pos}
    (h : wpAny M (A.over c fs) (isTrue test env (eval test env)) (fun b s₂ => if b = true then Seg M A R Y n s₀ c ((execs body env).wrap K H gd lv) fs s₂ else Seg M A R Y n s₀ c ((execs orelse env).wrap K H gd lv) fs s₂) (fun x s' => Seg M A R Y n s₀ c (H x) fs s') s) :
    Seg M A R Y n s₀ c ((exec (.If test body orelse pos) env).wrap K H gd lv) fs s := by
  rw [exec_If]
  refine seg_bind_wrap (wpAny_standAt ?_)
  refine seg_bind_wrap (wpAny_mono h (fun b s₂ h₂ => ?_) fun _ _ e => e)
  cases b with
  | true => simpa using h₂
  | false => simpa using h₂
end
section
variable {prog : Program} {w : World} {A : Around} {R : GenEnd} {Y : Protocol} {n : Nat} {s₀ : Shared} {fs : List Frame} {s : Shared} {env : Env}
/-- what follows on a turn of a for -/
def forK (c : Code) : Flow → Sem Fin := fun f => match f with
  | .next | .cont => .pure (.again c)
  | .brk => .pure (.done .next)
  | .ret v => .pure (.done (.ret v))
def forH (env : Env) : Value → Sem Fin := fun e => (do noteFrame e env; theTreesLotGoes e : Sem Unit).wrap (fun _ => .raise e) .raise id id
theorem seg_forLoops {target : Expr} {it : Value} {body : List Stmt}
    (h : ∀ E, wpAny (model prog w) (A.over (.forLoop target it body [] env) fs) (pyNext it) (fun r s₁ => ∃ v, r = some v ∧ wpAny (model prog w) (A.over (.forLoop target it body [] env) fs) (assign target env v)
      (fun _ s₂ => Seg (model prog w) A R Y n s₀ (.forLoop target it body [] env) ((execs body env).wrap (forK (.forLoop target it body [] env)) (forH env) id id) fs s₂) E s₁) E s)
    (ht : ∀ v, letOwnedTupleGo target it v = pure () := by intro _; rfl) :
    Seg (model prog w) A R Y n s₀ (.forLoop target it body [] env) ((model prog w).den (.forLoop target it body [] env)) fs s := by
  show Seg _ A R Y n s₀ _ ((forTurn target it body [] env).onRaise (fun x => do noteFrame x env; theTreesLotGoes x)) fs s
  rw [Sem.onRaise_eq_wrap]
  unfold forTurn
  refine seg_bind_wrap (wpAny_standAt ?_)
  refine seg_bind_wrap (wpAny_onRaise (wpAny_mono (h _) (fun r s₁ h₁ => ?_) fun _ _ h' => wpAny_standAt h'))
  obtain ⟨v, rfl, h₁⟩ := h₁
  refine seg_bind_wrap (wpAny_of_eq (ht v) ?_)
  refine seg_bind_wrap (wpAny_mono h₁ (fun _ s₂ h₂ => ?_) fun _ _ e => e)
  rw [Sem.bind_eq_wrap', Sem.wrap_wrap]
  rw [Sem.wrap_congr (execs body env) _ _ (K' := forK (.forLoop target it body [] env)) (H' := forH env) (fun f => by cases f <;> rfl)
    (fun e => by first | exact Sem.bind_eq_wrap _ _ | (show (do noteFrame e env; theTreesLotGoes e : Sem Unit).bind (fun _ => .raise e) = _; rw [Sem.bind_eq_wrap]; rfl))]
  exact h₂
end

/-- the generator's own end is never met -/
abbrev GR : GenEnd := fun n s₀ r s₁ => r = .ok .next ∧ (fun (_ : Nat) (_ _ : Shared) => False) n s₀ s₁
/-- what stood stays, but the generator's own frame and what it makes -/
def GSince (bnd C : Addr) (s₀ s : Shared) : Prop := ∃ h tk, s = { s₀ with heap := h, toks := tk } ∧ ∀ b o, b < bnd → b ≠ C → s₀.heap.get? b = some o → h.get? b = some o
def Hop (L : Addr) (h h' : Heap) : Prop := ∀ b o, b ≠ L → h.get? b = some o → h'.get? b = some o
/-- it yields the size, as long as it is asked -/
def GP (size : Int) (bnd C L : Addr) : Protocol := fun n s₀ v s kap => (∃ t, v = .int size t) ∧ GSince bnd C s₀ s ∧ (n ≠ 0 → ∀ s'', Hop L s.heap s''.heap → kap (.send .none) s'')
theorem GSince.refl {bnd C : Addr} {s : Shared} : GSince bnd C s s := ⟨s.heap, s.toks, rfl, fun _ _ _ _ e => e⟩
theorem GSince.step {bnd C : Addr} {s₀ s : Shared} (x : GSince bnd C s₀ s) {h : Heap} {tk : Nat} (hk : ∀ b o, b < bnd → b ≠ C → s.heap.get? b = some o → h.get? b = some o) : GSince bnd C s₀ { s with heap := h, toks := tk } := by
  obtain ⟨h₁, tk₁, rfl, hk₁⟩ := x
  exact ⟨h, tk, rfl, fun b o h1 h2 e => hk b o h1 h2 (hk₁ b o h1 h2 e)⟩

section
variable {prog : Program} {w : World} {A : Around} {fs : List Frame} {env : Env} {size : Int} {bnd C L : Addr}
theorem seg_forever {test e : Expr} {ypos pos : Pos} (Inv : Shared → Prop)
    (htest : ∀ s (Q : Bool → Shared → Prop) E, Q true s → wpAny (model prog w) (A.over (.whileLoop test [.Expr (.Yield (some e) ypos) pos] [] env) fs) (isTrue test env (eval test env)) Q E s)
    (hev : ∀ s (Q : Value → Shared → Prop) E, Inv s → (∀ t, Q (.int size t) s) → wpAny (model prog w) (A.over (.whileLoop test [.Expr (.Yield (some e) ypos) pos] [] env) fs) (eval e env) Q E s)
    (hinv : ∀ s s'', Inv s → Hop L s.heap s''.heap → Inv s'') (hfs : splitAtGen fs = none) (hfg : fs.any Frame.guarded = false) (hco : env.scope.isCoroutine = false) (hi : interactive env = false) :
    ∀ n s₀ s, Inv s → GSince bnd C s₀ s → Seg (model prog w) A GR (GP size bnd C L) (n + 1) s₀ (.whileLoop test [.Expr (.Yield (some e) ypos) pos] [] env) ((model prog w).den (.whileLoop test [.Expr (.Yield (some e) ypos) pos] [] env)) fs s := by
  intro n
  induction n with
  | zero =>
    intro s₀ s hI hs
    refine seg_whileLoop (htest _ _ _ ?_)
    rw [if_pos rfl]
    refine seg_execs_cons ?_
    refine seg_Expr_Yield hfs rfl hfg (hev _ _ _ hI fun t kap hkap => ?_) hco hi
    exact ⟨⟨t, rfl⟩, hs, fun hn => absurd rfl hn⟩
  | succ n ih =>
    intro s₀ s hI hs
    refine seg_whileLoop (htest _ _ _ ?_)
    rw [if_pos rfl]
    refine seg_execs_cons ?_
    refine seg_Expr_Yield hfs rfl hfg (hev _ _ _ hI fun t kap hkap => ?_) hco hi
    refine ⟨⟨t, rfl⟩, hs, fun hn s'' hop => hkap .none s'' ?_⟩
    exact seg_again rfl (ih s'' s'' (hinv _ _ hI hop) .refl)
end
end Mine
namespace Mine
/-- the generator's body and scope, as the written part has them -/
noncomputable def gbody (P : Params) : List Stmt := match (hd.heap_39 P).lookup 35 with
  | some ⟨_, _, .func fd, _⟩ => (match fd.body with | .stmts b => b | _ => [])
  | _ => []
noncomputable def gscope (P : Params) : Scope := match (hd.heap_39 P).lookup 35 with
  | some ⟨_, _, .func fd, _⟩ => fd.scope
  | _ => { kind := .function, names := [], isGenerator := true, isCoroutine := false }

theorem fr_hop {h₀ h h' : Heap} {C L : Addr} {m : Str → Option Value} (F : Fr h₀ C h m) (hLC : C ≠ L) (hL₀ : h₀.get? L = none) (hop : Hop L h h') : Fr h₀ C h' m :=
  ⟨F.ns.at' fun o e => hop C o hLC e, fun b o e => hop b o (fun q => by subst q; rw [hL₀] at e; cases e) (F.keep b o e), F.above⟩
theorem fr_iter {h₀ h h' : Heap} {C I : Addr} {m : Str → Option Value} (F : Fr h₀ C h m) (hI : C < I) (hs : Heap.SameBut I h h') : Fr h₀ C h' m :=
  ⟨F.ns.at' fun o e => (hs.2 C (Nat.ne_of_lt hI)).trans e, fun b o e => (hs.2 b (Nat.ne_of_lt (Nat.lt_trans (Nat.lt_of_lt_of_le (Heap.lt_size e) F.above) hI))).trans (F.keep b o e), F.above⟩
theorem it_at {h h' : Heap} {I l : Addr} {i : Nat} (x : h.IsListIter I l i) (hk : ∀ o, h.get? I = some o → h'.get? I = some o) : h'.IsListIter I l i :=
  let ⟨o, ho, r⟩ := x; ⟨o, hk o ho, r⟩

theorem gen_seg {w : World} {mean : ExcName → Option Value} {mg mb : Str → Option Value} {A : Around} {h₀ : Heap} {C l L bnd : Addr} {size : Int} {t1 t2 : Tok} {nm : Str} {cd : Value} {m : Str → Option Value}
    (n : Nat) (s : Shared) (F : Fr h₀ C s.heap m) (hm : m (Str.ofString "grouping") = some (.ref l)) (X : (hd.heap_39 w.params).In h₀) (T : Top hd.view_39 (looseW hd.view_39 [Str.ofString "Whitespace"]) mean mg mb h₀)
    (hl : s.heap.IsList l #[.int size t1, .int 0 t2]) (z0 : size ≠ 0) (z1 : size ≠ 127) (hb : bnd ≤ s.heap.objs.size) (hCb : C < bnd) (hLb : L < bnd) (hLC : C ≠ L) (hlL : l ≠ L) (hlC : l ≠ C) (hL₀ : h₀.get? L = none) :
    Seg (model PySem.Challenge.rw_wn0095_01.row.prog w) A GR (GP size bnd C L) (n + 1) s (.func (gbody w.params) (envOf nm (gscope w.params) C 35 cd)) ((model PySem.Challenge.rw_wn0095_01.row.prog w).den (.func (gbody w.params) (envOf nm (gscope w.params) C 35 cd))) [] s := by
  revert X
  k_fill
  intro X
  refine seg_func ?_
  refine seg_execs_cons ?_
  have TR := topRead_of T
  have hlb : l < s.heap.objs.size := by
    obtain ⟨o, ho, _⟩ := hl
    exact Heap.lt_size ho
  refine seg_wrap (wpAny_Assign_Name (wpAny_Constant_none (wpAny_storeName_local rfl F.ns (fun h₁ hn₁ hs₁ => ?_))))
  have F₁ := F.set hn₁ hs₁
  have hl₁ : h₁.IsList l #[.int size t1, .int 0 t2] := hl.at fun o e => (hs₁.2 l hlC).trans e
  have g₁ : GSince bnd C s { s with heap := h₁, toks := s.toks + 1 } := GSince.refl.step fun b o _ hbC e => (hs₁.2 b hbC).trans e
  refine seg_execs_cons ?_
  refine seg_fors (ld F₁ ((if_neg (by decide +kernel)).trans hm) (wpAny_pyIter_list hl₁ fun p => ?_))
  have hsz : h₁.objs.size = s.heap.objs.size := hs₁.1
  have F₂ := F₁.push { cls := .type "list_iterator", data := .fields #[.ref l, .int 0 0] }
  have hit : (h₁.push { cls := .type "list_iterator", data := .fields #[.ref l, .int 0 0] }).IsListIter h₁.objs.size l 0 := ⟨_, Heap.get?_push_size _ rfl, rfl, rfl⟩
  have hl₂ : (h₁.push { cls := .type "list_iterator", data := .fields #[.ref l, .int 0 0] }).IsList l #[.int size t1, .int 0 t2] := hl₁.at fun o e => Heap.get?_push_of_some _ e
  have g₂ : GSince bnd C s { s with heap := h₁.push { cls := .type "list_iterator", data := .fields #[.ref l, .int 0 0] }, toks := s.toks + 1 } := g₁.step fun b o _ _ e => Heap.get?_push_of_some _ e
  have hbI : bnd ≤ h₁.objs.size := by rw [hsz]; exact hb
  have hCI : C < h₁.objs.size := Nat.lt_of_lt_of_le hCb hbI
  have hLI : L < h₁.objs.size := Nat.lt_of_lt_of_le hLb hbI
  have hlI : l < h₁.objs.size := by rw [hsz]; exact hlb
  refine seg_forLoops (fun E => wpAny_pyNext_list_item hit hl₂ (x := .int size t1) rfl (fun h₃ hit₃ hs₃ => ?_))
  refine ⟨_, rfl, ?_⟩
  have F₃ := fr_iter F₂ hCI hs₃
  have hl₃ : h₃.IsList l #[.int size t1, .int 0 t2] := hl₂.at fun o e => (hs₃.2 l (Nat.ne_of_lt hlI)).trans e
  refine wpAny_assign_Name (wpAny_storeName_local rfl F₃.ns (fun h₄ hn₄ hs₄ => ?_))
  have F₄ := F₃.set hn₄ hs₄
  have hl₄ : h₄.IsList l #[.int size t1, .int 0 t2] := hl₃.at fun o e => (hs₄.2 l hlC).trans e
  have hit₄ : h₄.IsListIter h₁.objs.size l 1 := it_at hit₃ fun o e => (hs₄.2 _ (Nat.ne_of_gt hCI)).trans e
  have g₄ := g₂.step (h := h₄) (tk := s.toks + 1 + 1) fun b o hbb hbC e => (hs₄.2 b hbC).trans ((hs₃.2 b (Nat.ne_of_lt (Nat.lt_of_lt_of_le hbb hbI))).trans e)
  refine seg_execs_cons ?_
  refine seg_ifs (wpAny_isTrue_Compare1 (ld F₄ (if_pos rfl) (name_K F₄ X TR (by k_is) (eq_int (wpAny_truthy_bool ?_)))))
  rw [if_neg (by simpa using z1)]
  refine seg_execs_nil ?_
  refine seg_execs_cons ?_
  refine seg_ifs (wpAny_isTrue_Compare1 (ld F₄ (if_pos rfl) (wpAny_Constant_int (eq_int (wpAny_truthy_bool ?_)))))
  rw [if_neg (by simpa using z0)]
  refine seg_execs_nil ?_
  refine seg_execs_cons ?_
  refine seg_Expr_Yield rfl rfl rfl (ld F₄ (if_pos rfl) (fun kap hkap => ?_)) rfl rfl
  refine ⟨⟨t1, rfl⟩, g₄.step (h := h₄) fun b o _ _ e => e, fun hn s'' hop => hkap .none s'' ?_⟩
  obtain ⟨k, rfl⟩ : ∃ k, n = k + 1 := ⟨n - 1, by omega⟩
  have F₅ := fr_hop F₄ hLC hL₀ hop
  have hl₅ : s''.heap.IsList l #[.int size t1, .int 0 t2] := hl₄.at fun o e => hop l o hlL e
  have hit₅ : s''.heap.IsListIter h₁.objs.size l 1 := it_at hit₄ fun o e => hop _ o (Nat.ne_of_gt hLI) e
  refine seg_execs_cons ?_
  refine seg_wrap (wpAny_Assign_Name (ld F₅ (if_pos rfl) (wpAny_storeName_local rfl F₅.ns (fun h₆ hn₆ hs₆ => ?_))))
  have F₆ := F₅.set hn₆ hs₆
  have hl₆ : h₆.IsList l #[.int size t1, .int 0 t2] := hl₅.at fun o e => (hs₆.2 l hlC).trans e
  have hit₆ : h₆.IsListIter h₁.objs.size l 1 := it_at hit₅ fun o e => (hs₆.2 _ (Nat.ne_of_gt hCI)).trans e
  refine seg_again rfl ?_
  refine seg_forLoops (fun E => wpAny_pyNext_list_item hit₆ hl₆ (x := .int 0 t2) rfl (fun h₇ hit₇ hs₇ => ?_))
  refine ⟨_, rfl, ?_⟩
  have F₇ := fr_iter F₆ hCI hs₇
  refine wpAny_assign_Name (wpAny_storeName_local rfl F₇.ns (fun h₈ hn₈ hs₈ => ?_))
  have F₈ := F₇.set hn₈ hs₈
  have g₈ : GSince bnd C s'' { s'' with heap := h₈, toks := s''.toks + 1 + 1 } := GSince.refl.step fun b o hbb hbC e => (hs₈.2 b hbC).trans ((hs₇.2 b (Nat.ne_of_lt (Nat.lt_of_lt_of_le hbb hbI))).trans ((hs₆.2 b hbC).trans e))
  refine seg_execs_cons ?_
  refine seg_ifs (wpAny_isTrue_Compare1 (ld F₈ (if_pos rfl) (name_K F₈ X TR (by k_is) (eq_int (wpAny_truthy_bool ?_)))))
  rw [if_neg (by decide)]
  refine seg_execs_nil ?_
  refine seg_execs_cons ?_
  refine seg_ifs (wpAny_isTrue_Compare1 (ld F₈ (if_pos rfl) (wpAny_Constant_int (eq_int (wpAny_truthy_bool ?_)))))
  rw [if_pos (by decide)]
  refine seg_execs_cons ?_
  refine seg_ifs (wpAny_isTrue_Compare1 (ld F₈ ((if_neg (by decide +kernel)).trans (if_pos rfl)) (wpAny_Constant_none (is_none_ne (by intro e; cases e) (wpAny_truthy_bool ?_)))))
  rw [if_neg Bool.false_ne_true]
  refine seg_execs_nil ?_
  refine seg_execs_cons ?_
  refine seg_While fun p' => ?_
  exact seg_forever (fun s => Fr h₀ C s.heap _) (fun s Q E hQ => isTrue_plain (wpAny_Constant_bool (wpAny_truthy_bool hQ))) (fun s Q E hI hq => ld hI ((if_neg (by decide +kernel)).trans (if_pos rfl)) (hq _)) (fun s s'' hI hop => fr_hop hI hLC hL₀ hop) rfl rfl rfl rfl k _ _ F₈ (g₈.step (h := h₈) fun b o _ _ e => e)
end Mine
namespace Mine
theorem Hop.refl {L : Addr} {h : Heap} : Hop L h h := fun _ _ _ e => e
theorem Hop.trans {L : Addr} {a b c : Heap} (x : Hop L a b) (y : Hop L b c) : Hop L a c := fun d o hd e => y d o hd (x d o hd e)
theorem isGen_at {h h' : Heap} {a : Addr} {g : Nat} (x : h.IsGen a g) (hk : ∀ o, h.get? a = some o → h'.get? a = some o) : h'.IsGen a g :=
  let ⟨o, nm, qn, ho, r⟩ := x; ⟨o, nm, qn, hk o ho, r⟩
theorem set_push (G : Array GenState) (x y : GenState) : (G.push x).setIfInBounds G.size y = G.push y := by
  refine Array.toList_inj.mp ?_
  rw [Array.toList_setIfInBounds, Array.toList_push, Array.toList_push, List.set_append_right _ _ (by simp)]
  simp
theorem set_two (h h₁ : Heap) (G : Array GenState) (d : Drawn) (tk tk₁ : Nat) (osv : OsState) (x y z : GenState) :
    Shared.setGen { heap := h₁, gens := (Shared.setGen { heap := h, gens := G.push x, drawn := d, toks := tk, os := osv } G.size y).gens, drawn := (Shared.setGen { heap := h, gens := G.push x, drawn := d, toks := tk, os := osv } G.size y).drawn, toks := tk₁, os := (Shared.setGen { heap := h, gens := G.push x, drawn := d, toks := tk, os := osv } G.size y).os } G.size z = { heap := h₁, gens := G.push z, drawn := d, toks := tk₁, os := osv } := by
  simp only [Shared.setGen]
  rw [set_push, set_push]

section
variable {prog : Program} {w : World} {A : Around} {E : Value → Shared → Prop} {env : Env} {h₀ : Heap} {x y : Str} {body : List Stmt} {Q : Flow → Shared → Prop}
theorem mark_for {px : Pos} {m₁ : Str → Option Value} {news : List (Addr × Obj)} {s₂ : Shared} {a C : Addr} {G : Array GenState} {gs₀ : GenState} {size blanks : Int} {tm : Tok} (q : Nat)
    (hh : A.handled = none) (hroom : A.depth < recursionLimit) (hx : env.kindOf x = some .local) (hp : (env.scope.kind == .class || (env.scope.kind == .module && env.locals != env.globals)) = false)
    (hbody : ∀ (v : Int) (t tm : Tok) (s : Shared), Fr h₀ env.locals s.heap (fun z => if z = x then some (.int size t) else if z = y then some (.int v tm) else m₁ z) → ∀ (Qf : Flow → Shared → Prop) (Ef : Value → Shared → Prop),
      (∀ h' tk' t', Hop env.locals s.heap h' → Fr h₀ env.locals h' (fun z => if z = x then some (.int size t) else if z = y then some (.int (v + size) t') else m₁ z) → Qf (if blanks < v + size then .brk else .next) { s with heap := h', toks := tk' }) →
      wpAny (model prog w) A (execs body env) Qf Ef s)
    (s0 : 1 ≤ size) (hq : size * (q : Int) ≤ blanks) (hq' : blanks < size * ((q : Int) + 1)) (hLC : env.locals < C) (hCa : C < a) (hxy : x ≠ y)
    (hgens : s₂.gens = G.push gs₀) (hb : gs₀.bare = true) (F : Fr h₀ env.locals s₂.heap m₁) (hm : m₁ y = some (.int 0 tm)) (N : News h₀ env.locals s₂.heap news) (hN : ∀ p ∈ news, p.1 < C) (hg : s₂.heap.IsGen a G.size) (hlim : h₀.NoLimit)
    (hgo : ∀ s'', Hop env.locals s₂.heap s''.heap → gs₀.Goes (model prog w) A.in1 GR (GP size (a + 1) C env.locals) (q + 1) (.send .none) s'')
    (done : ∀ h tk gs (u : Str → Option Value) tm, gs.bare = true → Fr h₀ env.locals h (fun z => if z = x then u z else if z = y then some (.int (size * ((q : Int) + 1)) tm) else m₁ z) → News h₀ env.locals h news → Q .next { s₂ with heap := h, toks := tk, gens := G.push gs }) :
    codeAny (model prog w) A (.forLoop (.Name x px) (.ref a) body [] env) (fun r s' => match r with | .ok f => Q f s' | .error e => cameBackBy (model prog w) A env E e s') s₂ := by
  have hLa : env.locals < a := Nat.lt_trans hLC hCa
  refine codeAny_forLoop (fun k s' => ∃ (j : Nat) (h : Heap) (tk : Nat) (gs : GenState) (u : Str → Option Value) (tm : Tok), j ≤ q ∧ k = q + 1 - j ∧ s' = { s₂ with heap := h, toks := tk, gens := G.push gs } ∧ gs.bare = true ∧
      Fr h₀ env.locals h (fun z => if z = x then u z else if z = y then some (.int (size * (j : Int)) tm) else m₁ z) ∧ News h₀ env.locals h news ∧ h.IsGen a G.size ∧
      (∀ s'', Hop env.locals h s''.heap → gs.Goes (model prog w) A.in1 GR (GP size (a + 1) C env.locals) (q + 1 - j) (.send .none) s'')) ?_ (q + 1)
    ⟨0, s₂.heap, s₂.toks, gs₀, m₁, tm, Nat.zero_le _, rfl, by rw [← hgens], hb, ?_, N, hg, hgo⟩
  · rintro k s' ⟨j, h, tk, gs, u, tm', hj, rfl, rfl, hb', F', N', hg', hgo'⟩
    obtain ⟨n, hn⟩ : ∃ n, q + 1 - j = n + 1 := ⟨q - j, by omega⟩
    refine wpAny_pyNext_genexpQ (n := n + 1) (P := fun _ _ _ => False) (Y := GP size (a + 1) C env.locals) hh (hlim.keeps F'.keep) hroom hg' (gs := gs) (by simp) (hn ▸ hgo' _ Hop.refl) (fun v s₁ gs' hb₁ hY => ?_) (fun s₁ hP => hP.elim)
    obtain ⟨⟨t, rfl⟩, ⟨h₁, tk₁, rfl, hk₁⟩, hkap⟩ := hY
    rw [set_two]
    have hk : ∀ b o, b < C → h.get? b = some o → h₁.get? b = some o := fun b o hbC e => hk₁ b o (Nat.lt_succ_of_lt (Nat.lt_trans hbC hCa)) (Nat.ne_of_lt hbC) e
    have F₁ : Fr h₀ env.locals h₁ (fun z => if z = x then u z else if z = y then some (.int (size * (j : Int)) tm') else m₁ z) :=
      ⟨F'.ns.at' fun o e => hk _ o hLC e, fun b o e => hk b o (Nat.lt_trans (Nat.lt_of_lt_of_le (Heap.lt_size e) F.above) hLC) (F'.keep b o e), F'.above⟩
    have N₁ : News h₀ env.locals h₁ news := fun p hp => ⟨hk _ _ (hN p hp) (N' p hp).1, (N' p hp).2⟩
    refine wpAny_assign_Name (wpAny_storeName_local hx F₁.ns (fun h₂ hn₂ hs₂ => ?_) hp)
    have F₂ := F₁.set hn₂ hs₂
    have em : (fun z => if z = x then some (Value.int size t) else (fun z => if z = x then u z else if z = y then some (.int (size * (j : Int)) tm') else m₁ z) z) = fun z => if z = x then some (.int size t) else if z = y then some (.int (size * (j : Int)) tm') else m₁ z := by
      funext z
      by_cases h1 : z = x
      · simp [h1]
      · simp [h1]
    rw [em] at F₂
    have N₂ : News h₀ env.locals h₂ news := N₁.set hs₂
    refine hbody _ t tm' _ F₂ _ _ (fun h₃ tk₃ t₃ hop₃ F₃ => ?_)
    have N₃ : News h₀ env.locals h₃ news := fun p hp => ⟨hop₃ _ _ (N₂ p hp).2.1 (N₂ p hp).1, (N₂ p hp).2⟩
    have ej : size * (j : Int) + size = size * ((j : Int) + 1) := by rw [Int.mul_add, Int.mul_one]
    by_cases hbr : blanks < size * (j : Int) + size
    · rw [if_pos hbr]
      have hjq : j = q := by
        rcases Nat.lt_or_eq_of_le hj with hlt | he
        · exfalso
          have h1 : size * ((j : Int) + 1) ≤ size * (q : Int) := Int.mul_le_mul_of_nonneg_left (by omega) (by omega)
          omega
        · exact he
      subst hjq
      rw [ej] at F₃
      exact done h₃ tk₃ gs' (fun _ => some (.int size t)) t₃ hb₁ F₃ N₃
    · rw [if_neg hbr]
      have hjq : j + 1 ≤ q := by
        rcases Nat.lt_or_eq_of_le hj with hlt | he
        · exact hlt
        · exfalso
          subst he
          omega
      refine ⟨q + 1 - (j + 1), by omega, j + 1, h₃, tk₃, gs', fun _ => some (.int size t), t₃, hjq, rfl, rfl, hb₁, ?_, N₃, ?_, fun s'' hop => ?_⟩
      · rw [ej] at F₃
        exact F₃
      · exact isGen_at hg' fun o e => hop₃ a o (Nat.ne_of_gt hLa) ((hs₂.2 a (Nat.ne_of_gt hLa)).trans (hk₁ a o (Nat.lt_succ_self a) (Nat.ne_of_gt hCa) e))
      · have e1 : q + 1 - (j + 1) = n := by omega
        rw [e1]
        refine hkap (by omega) s'' fun b o hbL e => hop b o hbL (hop₃ b o hbL ((hs₂.2 b hbL).trans e))
  · have em : (fun z => if z = x then m₁ z else if z = y then some (Value.int (size * ((0 : Nat) : Int)) tm) else m₁ z) = m₁ := by
      funext z
      by_cases h1 : z = x
      · simp [h1]
      · by_cases h2 : z = y
        · subst h2
          simp [hm]
        · simp [h1, h2]
    rw [em]
    exact F
end
end Mine
namespace Mine
local macro_rules | `(tactic| k_room) => `(tactic| ktr_room)
local macro_rules | `(tactic| k_units) => `(tactic| ktr_units)
local macro_rules | `(tactic| walk_at "exec For Name Call cons nil") => `(tactic| k_extra "exec For Name Call cons nil")
theorem fr_swap {h₀ h : Heap} {L : Addr} {x y : Str} {v1 v2 v3 : Value} {m₁ : Str → Option Value} (hxy : x ≠ y) (F : Fr h₀ L h (fun z => if z = y then some v3 else (fun z => if z = x then some v1 else if z = y then some v2 else m₁ z) z)) :
    Fr h₀ L h (fun z => if z = x then some v1 else if z = y then some v3 else m₁ z) := by
  have em : (fun z => if z = y then some v3 else (fun z => if z = x then some v1 else if z = y then some v2 else m₁ z) z) = fun z => if z = x then some v1 else if z = y then some v3 else m₁ z := by
    funext z
    by_cases h1 : z = y
    · subst h1
      simp [Ne.symm hxy]
    · simp [h1]
  rw [em] at F
  exact F
theorem mark_gen {w : World} {mean : ExcName → Option Value} {mg mb : Str → Option Value} {A : Around} {E : Value → Shared → Prop} {s : Shared} {h₀ : Heap} {L l : Addr} {m : Str → Option Value} {news : List (Addr × Obj)} {Q : Value → Shared → Prop}
    (hA : A.depth < recursionLimit) (F : Fr h₀ L s.heap m) (N : News h₀ L s.heap news) (X : (hd.heap_39 w.params).In h₀) (T : Top hd.view_39 (looseW hd.view_39 [Str.ofString "Whitespace"]) mean mg mb h₀)
    (h : ∀ (C a : Addr) (nm : Str) (cd : Value) (h' : Heap) (tk : Nat), s.heap.objs.size ≤ C → C < a → a < h'.objs.size → Fr h₀ L h' m → News h₀ L h' news → Fr h₀ C h' (fun x => [(Str.ofString "grouping", Value.ref l)].reverse.lookup x) → h'.IsGen a s.gens.size → h'.NoLimit →
      (∀ b o, s.heap.get? b = some o → h'.get? b = some o) → Q (.ref a) { s with gens := s.gens.push (.fresh (.func (gbody w.params) (envOf nm (gscope w.params) C 35 cd))), toks := tk, heap := h' }) :
    wpAny (model PySem.Challenge.rw_wn0095_01.row.prog w) A (call (.ref 35) [.ref l]) Q E s := by
  revert X
  k_fill
  intro X
  have XS := X.keeps F.keep
  refine wpAny_call ?_
  refine codeAny_call_generator hA (XS _ _ (by k_is)) rfl rfl rfl rfl (codeRec_of XS (by k_is)) ?_
  refine wpAny_of_eq (a := [(Str.ofString "grouping", Value.ref l)]) rfl ?_
  refine wpAny_newFunctionEnv (by decide) (locs rfl) (fun h₁ hns hsb => ?_) rfl
  have hk : ∀ b o, s.heap.get? b = some o → h₁.get? b = some o := fun b o e => hsb.extBut b o (Nat.ne_of_lt (Heap.lt_size e)) (Heap.get?_push_of_some _ e)
  have hl := (T.nolimit.keeps F.keep).keeps hk
  refine ⟨hl, ?_⟩
  have hsz : h₁.objs.size = s.heap.objs.size + 1 := by rw [hsb.1, Heap.size_push]
  have kp : ∀ (ob : Obj) b o, s.heap.get? b = some o → (h₁.push ob).get? b = some o := fun ob b o e => Heap.get?_push_of_some _ (hk b o e)
  exact h s.heap.objs.size h₁.objs.size (Str.ofString "_grouping_intervals") (.ref 34) _ _ (Nat.le_refl _) (by rw [hsz]; exact Nat.lt_succ_self _) (by rw [Heap.size_push]; exact Nat.lt_succ_self _) (F.keeps (kp _)) (N.grown (kp _))
    (Fr.push ⟨hns, fun b o e => hk b o (F.keep b o e), Nat.le_of_lt (Nat.lt_of_le_of_lt F.above F.ns.lt)⟩ _) ⟨_, _, _, Heap.get?_push_size _ rfl, rfl, rfl, rfl⟩ (hl.keeps fun b o e => Heap.get?_push_of_some _ e) (kp _)
/-- an int comes back, a generator lies asleep -/
def RetMark (x : Int) (h₀ : Heap) (L : Addr) (m : Str → Option Value) (news : List (Addr × Obj)) (s : Shared) (Q : Value → Shared → Prop) : Prop :=
  ∀ (t : Tok) (h : Heap) (tk : Nat) (gens : Array GenState), (AllBare s.gens → AllBare gens) → Fr h₀ L h m → News h₀ L h news → Q (.int x t) { s with heap := h, toks := tk, gens := gens }
theorem mark_end {x y : Int} {t : Tok} {h₀ h : Heap} {L : Addr} {m : Str → Option Value} {news news' : List (Addr × Obj)} {s : Shared} {Q : Value → Shared → Prop} {tk : Nat} {gs : GenState} (hret : RetMark x h₀ L m news s Q) (hb : gs.bare = true) (F : Fr h₀ L h m) (N : News h₀ L h news')
    (hs : ∀ p ∈ news, p ∈ news') (e : y = x) : Q (.int y t) { s with heap := h, toks := tk, gens := s.gens.push gs } := by
  subst e
  exact hret _ _ _ _ (fun hA => hA.push hb) F fun p hp => N p (hs p hp)
theorem none_above {h : Heap} {L : Addr} (ha : h.objs.size ≤ L) : h.get? L = none := by
  cases q : h.get? L with
  | none => rfl
  | some o => exact absurd (Heap.lt_size q) (Nat.not_lt.mpr ha)
theorem lt_of_isGen {h : Heap} {a : Addr} {g : Nat} (x : h.IsGen a g) : a < h.objs.size := by
  obtain ⟨o, _, _, ho, _⟩ := x
  exact Heap.lt_size ho
theorem mark_c (size blanks : Int) (t1 t2 : Tok) : Con [.int size t1, .int blanks t2] 154 (fun _ => 1 ≤ size ∧ size ≤ 100 ∧ 0 ≤ blanks ∧ blanks ≤ 200) (RetMark (size * (blanks / size + 1))) := by
  k_with_none
  unfold Con
  k_fill
  intro w mean mg mb dp un gd cn cs a ccd cl outer A₀ base h₀ L m news s Q E B F X N T hk hpre hdp hun hret
  obtain ⟨s0, s1, b0, b1⟩ := hpre
  k_with "exec For Name Call cons nil" => (k_dflt (refine wpAny_For ?_ ?hs; (case hs => (intro _; rfl))))
  refine wpAny_call ?_
  k_dflt cell_enter
  k_steps
  rename Fr _ _ _ _ => F1
  rename News _ _ _ _ => N1
  rename Frag.In _ _ => X1
  rename Top _ _ _ _ _ _ => T1
  have hs0 : (0 : Int) < size := by omega
  have qn : 0 ≤ blanks / size := Int.ediv_nonneg b0 (by omega)
  have qe : (((blanks / size).toNat : Nat) : Int) = blanks / size := Int.toNat_of_nonneg qn
  refine mark_gen (by ktr_room) F1 N1 X1 T1 (fun C a nm cd h₁ tk₁ hLC hCa hah FL NL FC hg hlim hkp => ?_)
  refine wpAny_pyIter_gen hg ?_
  refine mark_for (y := Str.ofString "mark") (size := size) (blanks := blanks) (blanks / size).toNat rfl (by ktr_room) rfl rfl ?hbody s0 ?hq ?hq2 (Nat.lt_of_lt_of_le F1.ns.lt hLC) hCa (by decide +kernel) rfl rfl FL rfl NL (fun p hp => Nat.lt_of_lt_of_le (Heap.lt_size (N1 p hp).1) hLC) hg T1.nolimit ?hgo ?done
  case hq =>
    rw [qe]
    exact Int.mul_ediv_self_le (by omega)
  case hq2 =>
    rw [qe, Int.mul_add, Int.mul_one]
    exact Int.lt_mul_ediv_self_add hs0
  case hbody =>
    intro v t tm s5 F5 Qf Ef hQ
    refine wpAny_execs_cons (wpAny_AugAssign_Name (ldn F5 ((if_neg (by decide +kernel)).trans (if_pos rfl)) (ld F5 (if_pos rfl) (iadd_int (wpAny_storeName_local rfl F5.ns (fun h6 hn6 hs6 => ?_))))))
    have F6 := F5.set hn6 hs6
    refine wpAny_execs_cons (wpAny_If (wpAny_isTrue_Compare1 (ld F6 (if_pos rfl) (ld F6 rfl (gt_int (wpAny_truthy_bool ?_))))))
    have F7 := fr_swap (by decide +kernel) F6
    have hp6 : Hop _ s5.heap h6 := fun b o hb e => (hs6.2 b hb).trans e
    by_cases hbr : blanks < v + size
    · have e1 : decide (blanks < v + size) = true := decide_eq_true hbr
      rw [e1, if_pos rfl]
      have hQ' := hQ h6 (s5.toks + 1 + 1) s5.toks hp6 F7
      rw [if_pos hbr] at hQ'
      exact wpAny_execs_cons (wpAny_Break hQ')
    · have e1 : decide (blanks < v + size) = false := decide_eq_false hbr
      rw [e1, if_neg Bool.false_ne_true]
      have hQ' := hQ h6 (s5.toks + 1 + 1) s5.toks hp6 F7
      rw [if_neg hbr] at hQ'
      exact wpAny_execs_nil (wpAny_execs_nil hQ')
  case hgo =>
    intro s'' hop
    have hm := NL _ (List.mem_cons_self ..)
    have hL0 := none_above F1.above
    have hLC2 := Nat.lt_of_lt_of_le F1.ns.lt hLC
    have ha := lt_of_isGen (isGen_at hg fun o e => hop a o (Nat.ne_of_gt (Nat.lt_trans hLC2 hCa)) e)
    exact ⟨rfl, gen_seg _ s'' (fr_hop FC (Nat.ne_of_gt hLC2) hL0 hop) rfl X1 T1 ⟨_, hop _ _ hm.2.1 hm.1, rfl, 0, rfl⟩ (by omega) (by omega) (Nat.succ_le_of_lt ha) (Nat.lt_succ_of_lt hCa) (Nat.lt_succ_of_lt (Nat.lt_trans hLC2 hCa)) (Nat.ne_of_gt hLC2) hm.2.1
      (Nat.ne_of_lt (Nat.lt_of_lt_of_le (Heap.lt_size (N1 _ (List.mem_cons_self ..)).1) hLC)) hL0⟩
  case done =>
    intro h tk gs u tm hb F2 N2
    k_steps
    exact mark_end hret hb (by assumption) (by assumption) (fun p hp => List.mem_cons_of_mem _ hp) (by rw [qe])
end Mine
namespace Mine
/-- the same, each half reckoned once -/
noncomputable def frp (f : Nat) : Nat → Nat → Nat × Nat
  | 0, _ => (0, f)
  | k + 1, n => match frp f k (n / 2) with
    | (a, b) => if n % 2 = 1 then (a + b, b) else (a, b + a)
theorem frp_eq (f : Nat) : ∀ k n, frp f k n = fr f k n
  | 0, _ => rfl
  | k + 1, n => by
    unfold frp fr
    rw [frp_eq f k (n / 2)]
/-- all that is asked of two neighbours -/
noncomputable def chk (f n : Nat) : Bool := match frp f 8 n, frp f 8 (n + 1), frp f 8 ((n + 1) / 2) with
  | (a, b), (c, d), (p, q) => (b == c) && decide (0 < b) && decide (a ≤ 60) && decide (b ≤ 60) && decide (0 < c) && decide (c ≤ 60) && decide (0 < d) && decide (d ≤ 60) && (2 * (b * (a / b + 1)) == d + a + b) && (2 * (c * ((d - 1) / c + 1)) == a + c + d) &&
    (if (n + 1) % 2 = 0 then decide (c < d) && (c == p) && (d == q + c) else decide (d ≤ c) && (c == p + d) && (d == q))
theorem chk_all : (List.range 66).all (fun n => chk 1 n && chk 2 n && chk 3 n && chk 4 n) = true := by decide +kernel
theorem chk_at {n f : Nat} (hn : n < 66) (h1 : 1 ≤ f) (h4 : f ≤ 4) : chk f n = true := by
  have h := List.all_eq_true.mp chk_all n (List.mem_range.mpr hn)
  simp only [Bool.and_eq_true] at h
  have hf : f = 1 ∨ f = 2 ∨ f = 3 ∨ f = 4 := by omega
  rcases hf with rfl | rfl | rfl | rfl
  · exact h.1.1.1
  · exact h.1.1.2
  · exact h.1.2
  · exact h.2
structure Facts (n f : Int) : Prop where
  a : lo n f = up (n + 1) f
  b : 2 * (lo n f * (up n f / lo n f + 1)) - up n f - lo n f = lo (n + 1) f
  c : 2 * (up (n + 1) f * ((lo (n + 1) f - 1) / up (n + 1) f + 1)) - up (n + 1) f - lo (n + 1) f = up n f
  u0 : 0 ≤ up n f
  u1 : up n f ≤ 60
  l0 : 1 ≤ lo n f
  l1 : lo n f ≤ 60
  v0 : 1 ≤ up (n + 1) f
  v1 : up (n + 1) f ≤ 60
  w0 : 1 ≤ lo (n + 1) f
  w1 : lo (n + 1) f ≤ 60
  ev : (n + 1) % 2 = 0 → up (n + 1) f < lo (n + 1) f ∧ up ((n + 1) / 2) f = up (n + 1) f ∧ lo ((n + 1) / 2) f = lo (n + 1) f - up (n + 1) f
  od : (n + 1) % 2 = 1 → lo (n + 1) f ≤ up (n + 1) f ∧ up ((n + 1) / 2) f = up (n + 1) f - lo (n + 1) f ∧ lo ((n + 1) / 2) f = lo (n + 1) f
theorem facts {n f : Int} (n0 : 0 ≤ n) (n1 : n < 66) (f0 : 1 ≤ f) (f1 : f ≤ 4) : Facts n f := by
  obtain ⟨n, rfl⟩ := Int.eq_ofNat_of_zero_le n0
  obtain ⟨f, rfl⟩ := Int.eq_ofNat_of_zero_le (show (0 : Int) ≤ f by omega)
  have h := chk_at (n := n) (f := f) (by omega) (by omega) (by omega)
  have e1 : ((n : Int) + 1).toNat = n + 1 := by omega
  have e2 : (((n : Int) + 1) / 2).toNat = (n + 1) / 2 := by omega
  unfold chk at h
  rw [frp_eq, frp_eq, frp_eq] at h
  have ua : up (n : Int) f = ((fr f 8 n).1 : Nat) := by unfold up; rw [Int.toNat_natCast, Int.toNat_natCast]
  have la : lo (n : Int) f = ((fr f 8 n).2 : Nat) := by unfold lo; rw [Int.toNat_natCast, Int.toNat_natCast]
  have ub : up ((n : Int) + 1) f = ((fr f 8 (n + 1)).1 : Nat) := by unfold up; rw [Int.toNat_natCast, e1]
  have lb : lo ((n : Int) + 1) f = ((fr f 8 (n + 1)).2 : Nat) := by unfold lo; rw [Int.toNat_natCast, e1]
  have uc : up (((n : Int) + 1) / 2) f = ((fr f 8 ((n + 1) / 2)).1 : Nat) := by unfold up; rw [Int.toNat_natCast, e2]
  have lc : lo (((n : Int) + 1) / 2) f = ((fr f 8 ((n + 1) / 2)).2 : Nat) := by unfold lo; rw [Int.toNat_natCast, e2]
  rcases hA : fr f 8 n with ⟨a, b⟩
  rcases hB : fr f 8 (n + 1) with ⟨c, d⟩
  rcases hC : fr f 8 ((n + 1) / 2) with ⟨p, q⟩
  rw [hA] at h ua la
  rw [hB] at h ub lb
  rw [hC] at h uc lc
  simp only [Bool.and_eq_true, decide_eq_true_eq, beq_iff_eq] at h
  obtain ⟨⟨⟨⟨⟨⟨⟨⟨⟨⟨h1, h2⟩, h3⟩, h4⟩, h5⟩, h6⟩, h7⟩, h8⟩, h9⟩, h10⟩, h11⟩ := h
  have k9 : (2 : Int) * ((b : Int) * ((a : Int) / (b : Int) + 1)) = d + a + b := by exact_mod_cast h9
  have hd1 : ((d : Int) - 1) = ((d - 1 : Nat) : Int) := by omega
  have k10 : (2 : Int) * ((c : Int) * (((d : Int) - 1) / (c : Int) + 1)) = a + c + d := by
    rw [hd1]
    exact_mod_cast h10
  simp only at ua la ub lb uc lc
  refine ⟨?_, ?_, ?_, ?_, ?_, ?_, ?_, ?_, ?_, ?_, ?_, ?_, ?_⟩
  · rw [la, ub, h1]
  · rw [la, ua, lb, k9]
    omega
  · rw [ub, lb, ua, k10]
    omega
  all_goals (try (first | rw [ua] | rw [la] | rw [ub] | rw [lb]) <;> omega)
  · intro he
    rw [if_pos (by omega)] at h11
    simp only [Bool.and_eq_true, decide_eq_true_eq, beq_iff_eq] at h11
    rw [ub, lb, uc, lc]
    omega
  · intro he
    rw [if_neg (by omega)] at h11
    simp only [Bool.and_eq_true, decide_eq_true_eq, beq_iff_eq] at h11
    rw [ub, lb, uc, lc]
    omega
end Mine
namespace Mine
theorem con_use {vs : List Value} {f : Addr} {pre : List (Addr × Obj) → Prop} {Ret : Heap → Addr → (Str → Option Value) → List (Addr × Obj) → Shared → (Value → Shared → Prop) → Prop} (C : Con vs f pre Ret)
    {w : World} {mean : ExcName → Option Value} {mg mb : Str → Option Value} {dp un : Nat} {gd : Option (List Code)} {cn : Str} {cs : Scope} {a : Addr} {ccd : Value} {cl : List (Str × Addr)} {outer : List Env} {A₀ : Around} {base h₀ : Heap} {L : Addr} {m : Str → Option Value} {news : List (Addr × Obj)} {s : Shared} {Q E : Value → Shared → Prop}
    (B : Below A₀ base outer h₀) (F : Fr h₀ L s.heap m) (X : (hd.heap_39 w.params).In h₀) (N : News h₀ L s.heap news) (T : Top hd.view_39 (looseW hd.view_39 [Str.ofString "Whitespace"]) mean mg mb h₀) (hk : cs.kind = .function)
    (hp : pre news) (hdp : dp + 6 < recursionLimit) (hun : un + 60 < cLine) (ret : Ret h₀ L m news s Q) :
    wpAny (model PySem.Challenge.rw_wn0095_01.row.prog w) (ktrTop dp un gd cn cs L a ccd cl outer) (call (.ref f) vs) Q E s :=
  C w mean mg mb dp un gd cn cs a ccd cl outer A₀ base h₀ L m news s Q E B F X N T hk hp hdp hun ret

section
variable {prog : Program} {w : World} {A : Around} {E : Value → Shared → Prop} {env : Env} {h₀ : Heap} {x : Str} {body : List Stmt} {Q : Flow → Shared → Prop}
/-- a turn's end: the four names, bare generators, the ledger -/
def TnEnd (h₀ : Heap) (L : Addr) (y1 y2 y3 y4 : Str) (n f u l : Int) (need : List (Addr × Obj)) (s₁ s₂ : Shared) : Prop :=
  ∃ h' tk' gens' m' news', s₂ = { s₁ with heap := h', toks := tk', gens := gens' } ∧ AllBare gens' ∧ Fr h₀ L h' m' ∧ News h₀ L h' news' ∧ (∀ p ∈ need, p ∈ news') ∧ (∃ t, m' y1 = some (.int n t)) ∧ (∃ t, m' y2 = some (.int f t)) ∧ (∃ t, m' y3 = some (.int u t)) ∧ (∃ t, m' y4 = some (.int l t))
def TnPost (h₀ : Heap) (L : Addr) (y1 y2 y3 y4 : Str) (n f u l : Int) (need : List (Addr × Obj)) (s₁ : Shared) (Q : Flow → Shared → Prop) (fl : Flow) (s₂ : Shared) : Prop :=
  match fl with
  | .ret v => Q (.ret v) s₂
  | .brk => Q .next s₂
  | _ => TnEnd h₀ L y1 y2 y3 y4 n f u l need s₁ s₂
theorem map_four {m : Str → Option Value} {x y1 y2 y3 y4 : Str} {v v1 v2 v3 v4 : Value} (h1 : m y1 = some v1) (h2 : m y2 = some v2) (h3 : m y3 = some v3) (h4 : m y4 = some v4) :
    (fun z => if z = x then some v else m z) = fun z => if z = x then some v else if z = y1 then some v1 else if z = y2 then some v2 else if z = y3 then some v3 else if z = y4 then some v4 else m z := by
  funext z
  by_cases z0 : z = x
  · simp [z0]
  · simp only [if_neg z0]
    by_cases z1 : z = y1
    · subst z1; simp [h1]
    · simp only [if_neg z1]
      by_cases z2 : z = y2
      · subst z2; simp [h2]
      · simp only [if_neg z2]
        by_cases z3 : z = y3
        · subst z3; simp [h3]
        · simp only [if_neg z3]
          by_cases z4 : z = y4
          · subst z4; simp [h4]
          · simp only [if_neg z4]
theorem turns {px : Pos} {s : Shared} {r : Addr} {b₀ : Int} {t₀ u₀ v₀ : Tok} {m₀ : Str → Option Value} {news : List (Addr × Obj)} {y1 y2 y3 y4 : Str} {N f : Int} {w1 w2 w3 w4 : Tok} (K : Nat) (U V : Int → Int)
    (hh : A.handled = none) (hx : env.kindOf x = some .local) (hp : (env.scope.kind == .class || (env.scope.kind == .module && env.locals != env.globals)) = false)
    (hr : IsRange s.heap r 0 b₀ 1 t₀ u₀ v₀) (hsmall : Builtin.Range.small 0 b₀ 1 = true) (hn : Builtin.Range.rangeSize 0 b₀ 1 = (K : Int))
    (F : Fr h₀ env.locals s.heap m₀) (Nw : News h₀ env.locals s.heap news) (hb : AllBare s.gens)
    (h1 : m₀ y1 = some (.int N w1)) (h2 : m₀ y2 = some (.int f w2)) (h3 : m₀ y3 = some (.int (U N) w3)) (h4 : m₀ y4 = some (.int (V N) w4))
    (turn : ∀ (n : Int) (v : Value) (t1 t2 t3 t4 : Tok) (u : Str → Option Value) (h : Heap) (tk : Nat) (gens : Array GenState) (I : Addr) (oI : Obj), N ≤ n → n < N + (K : Int) → AllBare gens →
      Fr h₀ env.locals h (fun z => if z = x then some v else if z = y1 then some (.int n t1) else if z = y2 then some (.int f t2) else if z = y3 then some (.int (U n) t3) else if z = y4 then some (.int (V n) t4) else u z) →
      News h₀ env.locals h ((I, oI) :: news) → (∀ p ∈ news, p.1 < I) →
      wpAny (model prog w) A (execs body env) (TnPost h₀ env.locals y1 y2 y3 y4 (n + 1) f (U (n + 1)) (V (n + 1)) ((I, oI) :: news) { s with heap := h, toks := tk, gens := gens } Q) E { s with heap := h, toks := tk, gens := gens })
    (done : ∀ (u : Str → Option Value) h tk gens, AllBare gens → Fr h₀ env.locals h u → News h₀ env.locals h news → Q .next { s with heap := h, toks := tk, gens := gens })
    (hE : PassesOwn (model prog w) A env E) :
    wpAny (model prog w) A (pyIter (.ref r)) (fun it s₂ => codeAny (model prog w) A (.forLoop (.Name x px) it body [] env) (fun r s' => match r with | .ok fl => Q fl s' | .error e => cameBackBy (model prog w) A env E e s') s₂) E s := by
  refine wpAny_pyIter_range hr hsmall ?_
  have W : Walks prog w A s.heap.objs.size [s.heap.objs.size] [s.heap.objs.size] K (fun i v => i < K ∧ ∃ t, v = .int (0 + i * 1) t)
      (fun i h => IsRangeIter h s.heap.objs.size (0 + (i : Nat) * 1) ((K : Int) - (i : Nat)) 1) := (Walks.range hh _ 0 1 K).bound
  have hI₀ : h₀.get? s.heap.objs.size = none := next_is_new F
  have hLI : env.locals < s.heap.objs.size := F.ns.lt
  refine codeAny_forLoop (fun k s' => ∃ (i : Nat) (h : Heap) (tk : Nat) (gens : Array GenState) (m : Str → Option Value), i ≤ K ∧ k = K + 1 - i ∧ s' = { s with heap := h, toks := tk, gens := gens } ∧ AllBare gens ∧ Fr h₀ env.locals h m ∧ News h₀ env.locals h news ∧
      IsRangeIter h s.heap.objs.size (0 + (i : Nat) * 1) ((K : Int) - (i : Nat)) 1 ∧ (∃ t, m y1 = some (.int (N + (i : Int)) t)) ∧ (∃ t, m y2 = some (.int f t)) ∧ (∃ t, m y3 = some (.int (U (N + (i : Int))) t)) ∧ (∃ t, m y4 = some (.int (V (N + (i : Int))) t))) ?_ (K + 1)
    ⟨0, _, s.toks, s.gens, m₀, Nat.zero_le _, rfl, rfl, hb, F.push _, (fun p hp => ⟨Heap.get?_push_of_some _ (Nw p hp).1, (Nw p hp).2⟩), (by show IsRangeIter _ _ _ _ _; rw [hn]; simpa using Heap.get?_push_size _ rfl), ⟨w1, by simpa using h1⟩, ⟨w2, h2⟩, ⟨w3, by simpa using h3⟩, ⟨w4, by simpa using h4⟩⟩
  rintro k s' ⟨i, h, tk, gens, m, hi, rfl, rfl, hb', F', N', hst, ⟨t1, e1⟩, ⟨t2, e2⟩, ⟨t3, e3⟩, ⟨t4, e4⟩⟩
  have hkp : ∀ h₁ : Heap, (∀ b o, b ∉ [s.heap.objs.size] → h.get? b = some o → h₁.get? b = some o) → Fr h₀ env.locals h₁ m ∧ News h₀ env.locals h₁ news := fun h₁ hk₁ =>
    ⟨⟨F'.ns.at' fun o e => hk₁ _ o (fun q => Nat.ne_of_lt hLI (List.mem_singleton.mp q)) e, fun b o e => hk₁ b o (fun q => by rw [List.mem_singleton.mp q, hI₀] at e; cases e) (F'.keep b o e), F'.above⟩,
      fun p hp => ⟨hk₁ _ _ (fun q => absurd (Heap.lt_size (Nw p hp).1) (by rw [List.mem_singleton.mp q]; exact Nat.lt_irrefl _)) (N' p hp).1, (N' p hp).2⟩⟩
  by_cases hlt : i < K
  · refine W.item i _ _ _ hlt hst fun v h₁ tk₁ hP hst₁ hk₁ => ?_
    obtain ⟨F₁, N₁⟩ := hkp h₁ hk₁
    refine wpAny_assign_Name (wpAny_storeName_local hx F₁.ns (fun h₂ hn₂ hs₂ => ?_) hp)
    have F₂ := F₁.set hn₂ hs₂
    rw [map_four e1 e2 e3 e4] at F₂
    have N₂ : News h₀ env.locals h₂ news := N₁.set hs₂
    have hst₂ : IsRangeIter h₂ s.heap.objs.size (0 + ((i + 1 : Nat) : Int) * 1) ((K : Int) - ((i + 1 : Nat) : Int)) 1 := (hs₂.2 _ (Nat.ne_of_gt hLI)).trans hst₁
    obtain ⟨oI, hoI, hI⟩ : ∃ o, h₂.get? s.heap.objs.size = some o ∧ ∀ h' : Heap, h'.get? s.heap.objs.size = some o → IsRangeIter h' s.heap.objs.size (0 + ((i + 1 : Nat) : Int) * 1) ((K : Int) - ((i + 1 : Nat) : Int)) 1 := ⟨_, hst₂, fun h' e => e⟩
    have N₃ : News h₀ env.locals h₂ ((s.heap.objs.size, oI) :: news) := fun p hp => by
      rcases List.mem_cons.mp hp with rfl | hp
      · exact ⟨hoI, Nat.ne_of_gt hLI, hI₀⟩
      · exact N₂ p hp
    have ek : N + ((i + 1 : Nat) : Int) = N + (i : Int) + 1 := by omega
    refine wpAny_passesOwn hE (wpAny_mono (turn (N + (i : Int)) v t1 t2 t3 t4 m h₂ _ gens _ oI (by omega) (by omega) hb' F₂ N₃ (fun p hp => Heap.lt_size (Nw p hp).1)) (fun fl s₃ q => ?_) fun _ _ e => e)
    have fin : ∀ {s₄ : Shared}, TnEnd h₀ env.locals y1 y2 y3 y4 (N + (i : Int) + 1) f (U (N + (i : Int) + 1)) (V (N + (i : Int) + 1)) ((s.heap.objs.size, oI) :: news) s₄ s₃ → ∃ h' tk' gens' m', s₃ = { s₄ with heap := h', toks := tk', gens := gens' } ∧ AllBare gens' ∧ Fr h₀ env.locals h' m' ∧ News h₀ env.locals h' news ∧
        IsRangeIter h' s.heap.objs.size (0 + ((i + 1 : Nat) : Int) * 1) ((K : Int) - ((i + 1 : Nat) : Int)) 1 ∧ (∃ t, m' y1 = some (.int (N + ((i + 1 : Nat) : Int)) t)) ∧ (∃ t, m' y2 = some (.int f t)) ∧ (∃ t, m' y3 = some (.int (U (N + ((i + 1 : Nat) : Int))) t)) ∧ (∃ t, m' y4 = some (.int (V (N + ((i + 1 : Nat) : Int))) t)) := by
      rintro s₄ ⟨h', tk', gens', m', news', rfl, hb₃, F₃, N₃', hneed, g1, g2, g3, g4⟩
      rw [ek]
      exact ⟨h', tk', gens', m', rfl, hb₃, F₃, fun p hp => N₃' p (hneed p (List.mem_cons_of_mem _ hp)), hI _ (N₃' _ (hneed _ (List.mem_cons_self ..))).1, g1, g2, g3, g4⟩
    cases fl with
    | next =>
      obtain ⟨h', tk', gens', m', rfl, b1, b2, b3, b4, b5⟩ := fin q
      exact ⟨K + 1 - (i + 1), by omega, i + 1, h', tk', gens', m', hlt, rfl, rfl, b1, b2, b3, b4, b5⟩
    | cont =>
      obtain ⟨h', tk', gens', m', rfl, b1, b2, b3, b4, b5⟩ := fin q
      exact ⟨K + 1 - (i + 1), by omega, i + 1, h', tk', gens', m', hlt, rfl, rfl, b1, b2, b3, b4, b5⟩
    | brk => exact q
    | ret v => exact q
  · have hiK : i = K := by omega
    subst hiK
    refine W.done _ _ _ hst fun h₁ tk₁ hk₁ => wpAny_execs_nil ?_
    obtain ⟨F₁, N₁⟩ := hkp h₁ hk₁
    exact done m h₁ tk₁ gens hb' F₁ N₁
/-- three turns of the law's loop -/
theorem turns3 {px : Pos} {s : Shared} {r : Addr} {t₀ u₀ v₀ : Tok} {m₀ : Str → Option Value} {news : List (Addr × Obj)} {N f : Int} {w1 w2 w3 w4 : Tok}
    (hh : A.handled = none) (hx : env.kindOf x = some .local) (hp : (env.scope.kind == .class || (env.scope.kind == .module && env.locals != env.globals)) = false)
    (hr : IsRange s.heap r 0 3 1 t₀ u₀ v₀) (hN : 0 ≤ N ∧ N ≤ 63) (hf : 1 ≤ f ∧ f ≤ 4)
    (F : Fr h₀ env.locals s.heap m₀) (Nw : News h₀ env.locals s.heap news) (hb : AllBare s.gens)
    (h1 : m₀ (Str.ofString "number") = some (.int N w1)) (h2 : m₀ (Str.ofString "factor") = some (.int f w2)) (h3 : m₀ (Str.ofString "upper") = some (.int (up N f) w3)) (h4 : m₀ (Str.ofString "lower") = some (.int (lo N f) w4))
    (turn : ∀ (g n : Int) (v : Value) (t1 t2 t3 t4 : Tok) (u : Str → Option Value) (h : Heap) (tk : Nat) (gens : Array GenState) (I : Addr) (oI : Obj), 1 ≤ g → g ≤ 4 → 0 ≤ n → n ≤ 65 → Facts n g → AllBare gens →
      Fr h₀ env.locals h (fun z => if z = x then some v else if z = Str.ofString "number" then some (.int n t1) else if z = Str.ofString "factor" then some (.int g t2) else if z = Str.ofString "upper" then some (.int (up n g) t3) else if z = Str.ofString "lower" then some (.int (lo n g) t4) else u z) →
      News h₀ env.locals h ((I, oI) :: news) → (∀ p ∈ news, p.1 < I) →
      wpAny (model prog w) A (execs body env) (TnPost h₀ env.locals (Str.ofString "number") (Str.ofString "factor") (Str.ofString "upper") (Str.ofString "lower") (n + 1) g (up (n + 1) g) (lo (n + 1) g) ((I, oI) :: news) { s with heap := h, toks := tk, gens := gens } Q) E { s with heap := h, toks := tk, gens := gens })
    (done : ∀ (u : Str → Option Value) h tk gens, AllBare gens → Fr h₀ env.locals h u → News h₀ env.locals h news → Q .next { s with heap := h, toks := tk, gens := gens })
    (hE : PassesOwn (model prog w) A env E) :
    wpAny (model prog w) A (pyIter (.ref r)) (fun it s₂ => codeAny (model prog w) A (.forLoop (.Name x px) it body [] env) (fun r s' => match r with | .ok fl => Q fl s' | .error e => cameBackBy (model prog w) A env E e s') s₂) E s :=
  turns 3 (fun n => up n f) (fun n => lo n f) hh hx hp hr (by decide) (by decide) F Nw hb h1 h2 h3 h4 (fun n v t1 t2 t3 t4 u h tk gens I oI a b => by
    obtain ⟨N0, N1⟩ := hN
    obtain ⟨f0, f1⟩ := hf
    have b' : n < N + 3 := b
    exact turn f n v t1 t2 t3 t4 u h tk gens I oI f0 f1 (by omega) (by omega) (facts (by omega) (by omega) f0 f1)) done hE
end
end Mine
namespace Mine
/-- which function is called, read off the goal and not reckoned -/
theorem at_call {M : Model} {A : Around} {f : Addr} {vs : List Value} {Q E : Value → Shared → Prop} {s : Shared} (h : wpAny M A (call (.ref f) vs) Q E s) : wpAny M A (call (.ref f) vs) Q E s := h
theorem tup_no {a b c d : Int} (h : (a == b && c == d) = false) (h1 : a = b) (h2 : c = d) : False := by
  subst h1 h2
  simp at h
theorem tx_eq {a b : Str} (h : (a == b) = true) : a = b := by simpa using h
theorem half_fd (m : Int) : m.fdiv 2 = m / 2 := Int.fdiv_eq_ediv_of_nonneg _ (by decide)
theorem told_e {m : Int} (h : m % 2 = 0) : toldT m = Txt.mul (Str.ofString "\"") (m.fdiv 2) ++ Str.ofString "x" := by
  unfold toldT halfT
  rw [if_pos h, half_fd]
theorem told_o {m : Int} (h : m % 2 ≠ 0) : toldT m = Txt.mul (Str.ofString "\"") (m.fdiv 2) := by
  unfold toldT halfT
  rw [if_neg h, half_fd]
theorem app_x (a : Str) : a ≠ a ++ Str.ofString "x" := by
  intro h
  have h2 := congrArg (fun s : Str => s.cps.toList.length) h
  simp only [tx_cat, show (Str.ofString "x").cps.toList = [120] by decide +kernel, List.length_append, List.length_cons, List.length_nil] at h2
  omega
theorem told1 {m : Int} (h : (toldT m == Txt.mul (Str.ofString "\"") (m.fdiv 2) ++ Str.ofString "x") = true) : m % 2 = 0 := by
  rcases Int.emod_two_eq m with e | e
  · exact e
  · rw [told_o (by omega)] at h
    exact absurd (tx_eq h) (app_x _)
theorem told2 {m : Int} (h : (toldT m == Txt.mul (Str.ofString "\"") (m.fdiv 2) ++ Str.ofString "x") = false) : m % 2 = 1 := by
  rcases Int.emod_two_eq m with e | e
  · rw [told_e e] at h
    simp at h
  · exact e
theorem told3 {m : Int} (h : (toldT m == Txt.mul (Str.ofString "\"") (m.fdiv 2)) = false) : m % 2 = 0 := by
  rcases Int.emod_two_eq m with e | e
  · exact e
  · rw [told_o (by omega)] at h
    simp at h
theorem mul_zero_txt : Txt.mul (Str.ofString " ") 0 = Str.ofString "" := by decide +kernel
theorem left_even {u l p q : Int} (u0 : 0 ≤ u) (hp : p = u) (hq : q = l - u) : Txt.mul (Str.ofString " ") u ++ rowT (u - min (2 * u) u) (l - (2 * u - min (2 * u) u)) = rowT p q := by
  have e : min (2 * u) u = u := by omega
  rw [e, hp, hq, show u - u = 0 by omega, show l - (2 * u - u) = l - u by omega]
  refine tx_ext ?_
  rw [tx_cat, row_list, row_list, blanks_list]
  simp
theorem left_odd {u l p q : Int} (h : l ≤ u) (hp : p = u - l) (hq : q = l) : rowT (u - min l u) (l - (l - min l u)) = rowT p q := by
  have e : min l u = l := by omega
  rw [e, hp, hq, show l - (l - l) = l by omega]
theorem ws_use {n : Int} {t1 : Tok} {w : World} {mean : ExcName → Option Value} {mg mb : Str → Option Value} {dp un : Nat} {gd : Option (List Code)} {cn : Str} {cs : Scope} {a : Addr} {ccd : Value} {cl : List (Str × Addr)} {outer : List Env} {A₀ : Around} {base h₀ : Heap} {L : Addr} {m : Str → Option Value} {news : List (Addr × Obj)} {s : Shared} {Q E : Value → Shared → Prop}
    (B : Below A₀ base outer h₀) (F : Fr h₀ L s.heap m) (X : (hd.heap_39 w.params).In h₀) (N : News h₀ L s.heap news) (T : Top hd.view_39 (looseW hd.view_39 [Str.ofString "Whitespace"]) mean mg mb h₀) (hk : cs.kind = .function)
    (hp : 0 ≤ n ∧ n ≤ 200) (hdp : dp + 6 < recursionLimit) (hun : un + 60 < cLine)
    (ret : ∀ (x d T : Addr) (k1 k2 k3 k4 k5 u1 u2 u3 : Tok) (h : Heap) (tk : Nat), Fr h₀ L h m → News h₀ L h ((x, instObj 136 d) :: (d, wsDict w (Txt.mul (Str.ofString " ") n) n T k1 k2 k3 k4 k5 u1 u2 u3) :: news) → x ≠ d → AllLt x news → AllLt d news → Q (.ref x) { s with heap := h, toks := tk }) :
    wpAny (model PySem.Challenge.rw_wn0095_01.row.prog w) (ktrTop dp un gd cn cs L a ccd cl outer) (call (.ref 136) [.str (Txt.mul (Str.ofString " ") n) t1]) Q E s :=
  ws_c n t1 w mean mg mb dp un gd cn cs a ccd cl outer A₀ base h₀ L m news s Q E B F X N T hk hp.1 hp.2 hdp hun ret
section
variable {u l p q m : Int} {A B : Prop} {x : Str}
theorem bad1 (fev : m % 2 = 0 → u < l ∧ A) (h : (toldT m == Txt.mul (Str.ofString "\"") (m.fdiv 2) ++ Str.ofString "x") = true) (hle : l ≤ u) : False := by
  have := (fev (told1 h)).1
  omega
theorem bad2 (fev : m % 2 = 0 → u < l ∧ A) (h : (toldT m == Txt.mul (Str.ofString "\"") (m.fdiv 2) ++ Str.ofString "x") = true) (ho : (if l < u then (1 : Int) else if u < l then -1 else 0) ≠ -1) : False := by
  have := (fev (told1 h)).1
  rw [if_neg (by omega), if_pos this] at ho
  exact ho rfl
theorem bad3 (fod : m % 2 = 1 → l ≤ u ∧ A) (h : (toldT m == Txt.mul (Str.ofString "\"") (m.fdiv 2) ++ Str.ofString "x") = false) (hlt : ¬ l ≤ u) : False := hlt (fod (told2 h)).1
theorem bad4 (hl : l < u) (ho : (if l < u then (1 : Int) else if u < l then -1 else 0) ≠ 1) : False := by
  rw [if_pos hl] at ho
  exact ho rfl
theorem bad5 (fod : m % 2 = 1 → l ≤ u ∧ A) (h : (toldT m == Txt.mul (Str.ofString "\"") (m.fdiv 2) ++ Str.ofString "x") = false) (hl : ¬ l < u) (ho : (if l < u then (1 : Int) else if u < l then -1 else 0) ≠ 0) : False := by
  have := (fod (told2 h)).1
  rw [if_neg hl, if_neg (by omega)] at ho
  exact ho rfl
theorem bad6 (h : (toldT m == Txt.mul (Str.ofString "\"") (m.fdiv 2) ++ Str.ofString "x") = false) (h2 : (toldT m == Txt.mul (Str.ofString "\"") (m.fdiv 2)) = false) : False := by
  have a := told2 h
  have b := told3 h2
  omega
theorem bad7 (u0 : 0 ≤ u) (fev : m % 2 = 0 → u < l ∧ p = u ∧ q = l - u) (h : (toldT m == Txt.mul (Str.ofString "\"") (m.fdiv 2) ++ Str.ofString "x") = true)
    (hn : (Txt.mul (Str.ofString " ") u ++ rowT (u - min (2 * u) u) (l - (2 * u - min (2 * u) u)) != rowT p q) = true) : False := by
  obtain ⟨a, b, c⟩ := fev (told1 h)
  exact ne_absurd hn (left_even u0 b c)
theorem bad8 (fod : m % 2 = 1 → l ≤ u ∧ p = u - l ∧ q = l) (h : (toldT m == Txt.mul (Str.ofString "\"") (m.fdiv 2) ++ Str.ofString "x") = false)
    (hn : (rowT (u - min l u) (l - (l - min l u)) != rowT p q) = true) : False := by
  obtain ⟨a, b, c⟩ := fod (told2 h)
  exact ne_absurd hn (left_odd a b c)
end
/-- the half's terms are small -/
theorem half_rng {u l p q m : Int} (v0 : 1 ≤ u) (v1 : u ≤ 60) (w0 : 1 ≤ l) (w1 : l ≤ 60) (fev : m % 2 = 0 → u < l ∧ p = u ∧ q = l - u) (fod : m % 2 = 1 → l ≤ u ∧ p = u - l ∧ q = l) : 0 ≤ p ∧ p ≤ 200 ∧ 0 ≤ q ∧ q ≤ 200 := by
  rcases Int.emod_two_eq m with e | e
  · obtain ⟨a, b, c⟩ := fev e
    omega
  · obtain ⟨a, b, c⟩ := fod e
    omega
theorem law_end {c : ClaimW} {cl : Str → Option Addr} {mean : ExcName → Option Value} {args : List WData} {s₁ s' : Shared} {res : Result} (hb : AllBare s'.gens) (h : GoodW c cl mean args s₁ res { s' with gens := #[] }) :
    GoodW c cl mean args s₁ res { s' with gens := #[] } ∧ AllBare s'.gens := ⟨h, hb⟩
theorem row_sz {n u l : Int} (hn : n ≤ 200) (hu : u ≤ 200) (hl : l ≤ 200) : (Txt.mul (Str.ofString " ") n).length + (rowT u l).length ≤ sizeLine := by
  rw [tx_len, tx_len, blanks_list, row_list, List.length_append, List.length_cons, List.length_replicate, List.length_replicate, List.length_replicate]
  have h : 1000 ≤ sizeLine := Nat.le_of_ble_eq_true rfl
  omega
theorem row_add {prog : Program} {w : World} {A : Around} {E : Value → Shared → Prop} {s : Shared} {n u l : Int} {t t2 : Tok} {Q : Value → Shared → Prop} (hn : n ≤ 200) (hu : u ≤ 200) (hl : l ≤ 200) (h : ∀ t' tk, Q (.str (Txt.mul (Str.ofString " ") n ++ rowT u l) t') { s with toks := tk }) :
    wpAny (model prog w) A (binaryOp .Add (.str (Txt.mul (Str.ofString " ") n) t) (.str (rowT u l) t2)) Q E s := PyProof.Rows.add_str h (row_sz hn hu hl)
end Mine
namespace Mine
/-- the law's end: what a plain end asks, and nothing but bare generators left -/
def LawEnd (c : ClaimW) (cl : Str → Option Addr) (mean : ExcName → Option Value) (args : List WData) (s₁ : Shared) (res : Result) (s' : Shared) : Prop :=
  GoodW c cl mean args s₁ res { s' with gens := #[] } ∧ AllBare s'.gens
theorem lawEnd_out {c : ClaimW} {cl : Str → Option Addr} {mean : ExcName → Option Value} {args : List WData} {s₁ s' : Shared} {res : Result} (h : LawEnd c cl mean args s₁ res s') : GoodWG c cl mean args s₁ res s' :=
  ⟨h.1.1, .of_keep h.1.2.1, h.1.2.2.1, h.2⟩

theorem law_true {c : ClaimW} {cl : Str → Option Addr} {mean : ExcName → Option Value} {args : List WData} {s₁ s' : Shared} {L : Addr} {m : Str → Option Value} (hb : AllBare s'.gens) (F : Fr s₁.heap L s'.heap m) (hos : s'.os = s₁.os) (hn : ∀ cls, c.raises args cls = false) (hp : c.post args (.bool true) args = true) : LawEnd c cl mean args s₁ (.ok (.ret (.bool true))) s' :=
  ⟨goodW_bool (s' := { s' with gens := #[] }) F rfl hn hp hos, hb⟩

theorem News.nil_ {h₀ h : Heap} {L : Addr} {news : List (Addr × Obj)} (_ : News h₀ L h news) : News h₀ L h [] := fun _ hp => nomatch hp
section
variable {prog : Program} {w : World} {A : Around} {E : Value → Shared → Prop} {s : Shared} {h₀ : Heap} {L l : Addr} {m : Str → Option Value} {news : List (Addr × Obj)} {value slice : PySem.Expr} {vs : List Value} {ns : List Int} {vl vu vk : Value} {lo hi st : Option Int} {ops : List Value} {Q : Value → Shared → Prop}
/-- a slice with a step, of ints: some ints -/
theorem step_ints (F : Fr h₀ L s.heap m) (N : News h₀ L s.heap news) (hl : s.heap.IsList l vs.toArray) (pl : IsPart vl lo) (pu : IsPart vu hi) (pk : IsPart vk st) (h0 : st ≠ some 0) (hi' : IntsAre vs ns)
    (h : ∀ D ws ms h', Fr h₀ L h' m → News h₀ L h' ((D, listOf (List.toArray ws) 0) :: news) → (∀ p ∈ news, p.1 < D) → IntsAre ws ms → ms.length ≤ ns.length → h'.IsList D (List.toArray ws) → Q (.ref D) { s with heap := h' })
    (hs : subscripted slice false (.ref l) (.ref s.heap.objs.size) = operate ops (getItem (.ref l) (.ref s.heap.objs.size))) (ht : ∀ r, letTemporaryGo value (.ref l) r = pure ()) (hz : vs.toArray.size ≤ sizeLine) :
    wpAny (model prog w) A (subscriptTail value slice (.ref l) (.ref s.heap.objs.size)) Q E { s with heap := s.heap.push { cls := .type "slice", data := .fields #[vl, vu, vk] } } := by
  have hm := hi'.pick lo hi st
  have hle : (pickNums ns lo hi st).length ≤ ns.length := by
    have q := slicePick_size_le vs.toArray lo hi st
    rw [← hm.length, ← hi'.length, Array.length_toList]
    simpa using q
  exact kmk_slice3_lit F N hl pl pu pk h0 rfl (fun D h' F' N' l1 => h D _ _ h' F' N' l1 hm hle (News.isList N' (List.mem_cons_self ..))) hs ht hz
end
end Mine
open Mine
local macro_rules | `(tactic| walk_at "exec For Name Call cons nil") => `(tactic| k_extra "exec For Name Call cons nil")
local macro_rules | `(tactic| walk_at "call ref") => `(tactic| k_extra "call ref")
local macro_rules | `(tactic| walk_at "subscriptTail Name Slice ref ref") => `(tactic| k_extra "subscriptTail Name Slice ref ref")
theorem PySem.Challenge.cw_wn0095_01_holds : PySem.Challenge.rw_wn0095_01.Holds :=
  hd (by
  k_fill
  intro w s₀ s₁ mg mb G Y fa o pm cd doc dV kV ho hd hcd hD hmg hg args vals as hpre hlay hrd hwl hlo
  have KX := kIn_of Y
  refine Ground.open G ?_
  intro T B D TE TW
  obtain ⟨_, _, he, B0⟩ := based_of_top T rfl hmg ho hd
  have he' : cd = _ := he
  subst he'
  clear he hmg
  wrow_args hpre hlay hrd hwl hlo
  refine enter_call ?_
  w_top on
  refine codeAny_mono ?_ (fun _ _ g => lawEnd_out g)
  have K0 := below_caller (Top.heap T)
  w_call any ho hd hcd hD T F
  clear hd
  k_drop
  (try k_fold)
  k_with_none
  k_with "subscriptTail Name Slice ref ref" => (k_dflt (refine' step_ints ?yF ?yN ?yl ?yp ?yq ?yk ?yo ?yi ?_ ?ys ?yt ?yz; (case yF => k_asm); (case yN => k_asm); (case yl => kmk_list); (case yp => kmk_part); (case yq => kmk_part); (case yk => kmk_part); (case yo => decide); (case yi => l_ints); (case ys => with_unfolding_all rfl); (case yt => kmk_pure); (case yz => kmk_size)); intro D' ws' ms' h' F' N' l1 hI' hL' hl'; (try k_lt l1); (try k_sweep))
  k_with "exec For Name Call cons nil" => (k_dflt (refine wpAny_For ?_ ?hs; (case hs => (intro _; rfl))))
  k_with "call ref" => ((with_reducible refine at_call (f := 147) ?_); k_dflt (refine' con_use (frac_c _ _ _ _) ?frB ?frF ?frX ?frN ?frT ?frk ?frp ?frd ?fru ?_; (case frB => k_asm); (case frF => k_asm); (case frX => k_asm); (case frN => k_asm); (case frT => k_asm); (case frk => exact rfl); (case frp => ((try k_fmods); omega)); (case frd => ktr_room); (case fru => ktr_units)); unfold RetPair; intro D' t1' t2' c' h' tk' F' N' l1; (try simp only [AllLt] at l1); (try k_sweep))
  k_with "call ref" => ((with_reducible refine at_call (f := 161) ?_); k_dflt (refine' con_use (col_c _ _ _ _) ?coB ?coF ?coX ?coN ?coT ?cok ?cop ?cod ?cou ?_; (case coB => k_asm); (case coF => k_asm); (case coX => k_asm); (case coN => k_asm); (case coT => k_asm); (case cok => exact rfl); (case cop => ((try k_fmods); omega)); (case cod => ktr_room); (case cou => ktr_units)); unfold RetInt; intro t' h' tk' F' N'; (try k_sweep))
  k_with "call ref" => ((with_reducible refine at_call (f := 154) ?_); k_dflt (refine' con_use (mark_c _ _ _ _) ?maB ?maF ?maX ?maN ?maT ?mak ?map ?mad ?mau ?_; (case maB => k_asm); (case maF => k_asm); (case maX => k_asm); (case maN => k_asm); (case maT => k_asm); (case mak => exact rfl); (case map => ((try k_fmods); omega)); (case mad => ktr_room); (case mau => ktr_units)); unfold RetMark; intro t' h' tk' gens' hb2' F' N'; (have hb3' := hb2' (by assumption)); clear hb2'; (try k_sweep))
  k_with "call ref" => ((with_reducible refine at_call (f := 42) ?_); k_dflt (refine' con_use (strip_c _ (up (n + 1) g) (lo (n + 1) g) _ _ _) ?stB ?stF ?stX ?stN ?stT ?stk ?stp ?std ?stu ?_; (case stB => k_asm); (case stF => k_asm); (case stX => k_asm); (case stN => k_asm); (case stT => k_asm); (case stk => exact rfl); (case stp => (refine ⟨rfl, ?_⟩; first | ((have hq9 := told1 (by assumption)); omega) | ((have hq9 := told2 (by assumption)); omega))); (case std => ktr_room); (case stu => ktr_units)); unfold RetStr; intro t' h' tk' F' N'; (try k_sweep))
  k_with "call ref" => ((with_reducible refine at_call (f := 168) ?_); k_dflt (refine' con_use (row_c _ _ _ _ _ _) ?roB ?roF ?roX ?roN ?roT ?rok ?rop ?rod ?rou ?_; (case roB => k_asm); (case roF => k_asm); (case roX => k_asm); (case roN => k_asm); (case roT => k_asm); (case rok => exact rfl); (case rop => (refine ⟨by k_mem, ?_⟩; first | (with_reducible exact half_rng v0' v1' w0' w1' fev' fod') | omega)); (case rod => ktr_room); (case rou => ktr_units)); unfold RetStr; intro t' h' tk' F' N'; (try k_sweep))
  k_with "call ref" => ((with_reducible refine at_call (f := 74) ?_); k_dflt (refine' con_use (parse_c _ (n + 1) _) ?paB ?paF ?paX ?paN ?paT ?pak ?pap ?pad ?pau ?_; (case paB => k_asm); (case paF => k_asm); (case paX => k_asm); (case paN => k_asm); (case paT => k_asm); (case pak => exact rfl); (case pap => (refine ⟨rfl, ?_⟩; omega)); (case pad => ktr_room); (case pau => ktr_units)); unfold RetStr; intro t' h' tk' F' N'; (try k_sweep))
  k_with "call ref" => ((with_reducible refine at_call (f := 28) ?_); k_dflt (refine' con_use (coll_c _ _ _ _) ?clB ?clF ?clX ?clN ?clT ?clk ?clp ?cld ?clu ?_; (case clB => k_asm); (case clF => k_asm); (case clX => k_asm); (case clN => k_asm); (case clT => k_asm); (case clk => exact rfl); (case clp => ((try k_fmods); omega)); (case cld => ktr_room); (case clu => ktr_units)); unfold RetInt; intro t' h' tk' F' N'; (try k_sweep))
  k_with "call ref" => ((with_reducible refine at_call (f := 136) ?_); k_dflt (refine' ws_use ?wsB ?wsF ?wsX ?wsN ?wsT ?wsk ?wsp ?wsd ?wsu ?_; (case wsB => k_asm); (case wsF => k_asm); (case wsX => k_asm); (case wsN => k_asm); (case wsT => k_asm); (case wsk => exact rfl); (case wsp => omega); (case wsd => ktr_room); (case wsu => ktr_units)); intro x' d' T' k1' k2' k3' k4' k5' u1' u2' u3' h' tk' F' N' hxd' lx ld; (try simp only [AllLt] at lx ld); unfold wsDict at N'; (try k_sweep))
  k_with "pyIter ref" => (k_here; (rename IsRange _ _ _ _ _ _ _ _ => hR'); (rename Fr _ _ _ _ => lF'); (rename News _ _ _ _ => lN'); (with_unfolding_all refine' turns3 ?hh ?hx ?hpp hR' ?hN ?hf lF' (News.nil_ lN') ?hb ?g1 ?g2 ?g3 ?g4 ?ga ?gb ?gE); (case hh => with_unfolding_all rfl); (case hx => with_unfolding_all rfl); (case hpp => with_unfolding_all rfl); (case g1 => with_unfolding_all rfl); (case g2 => with_unfolding_all rfl); (case g3 => with_unfolding_all rfl); (case g4 => with_unfolding_all rfl); (case hN => ((try k_fmods); omega)); (case hf => ((try k_fmods); omega)); (case hb => (show AllBare s₁.gens; rw [hg]; exact AllBare.empty)); (case gE => passes_own); (all_goals (try clear lF' lN')); (case gb => (intro u h' tk' gens' hb' F' N'; (try k_fold); k_steps; dsimp only; refine law_true hb' F' rfl (raisesW_false ?_) ?_; (· wrow_none_raised); (· wrow_post))); (case' ga => (intro g n v t1' t2' t3' t4' u h' tk' gens' I' oI' g0 g1 n0 n1 Hn hb' F' N' l1; (obtain ⟨fa', fb', fc', u0', u1', l0', l1', v0', v1', w0', w1', fev', fod'⟩ := Hn); (have hh' := half_fd (n + 1)); (rw [← hh'] at fev' fod'); (try k_lt l1); (try k_sweep); (try k_fold))))
  k_with "binaryOp Add str str" => (k_here; (with_reducible refine' row_add ?rza ?rzb ?rzc ?_); (case rza => omega); (case rzb => omega); (case rzc => omega); intro t' tk')
  k_with "TnPost" => (first | exact absurd fc' (by with_reducible assumption) | exact (tup_no (by with_reducible assumption) fa' fb').elim)
  k_steps
  all_goals first
    | exact (bad1 fev' (by with_reducible assumption) (by with_reducible assumption)).elim
    | exact (bad2 fev' (by with_reducible assumption) (by with_reducible assumption)).elim
    | exact (bad3 fod' (by with_reducible assumption) (by with_reducible assumption)).elim
    | exact (bad4 (by with_reducible assumption) (by with_reducible assumption)).elim
    | exact (bad5 fod' (by with_reducible assumption) (by with_reducible assumption) (by with_reducible assumption)).elim
    | exact (bad6 (by with_reducible assumption) (by with_reducible assumption)).elim
    | exact (bad7 (Int.le_trans (by decide) v0') fev' (by with_reducible assumption) (by with_reducible assumption)).elim
    | exact (bad8 fod' (by with_reducible assumption) (by with_reducible assumption)).elim
    | (dsimp only [TnPost]; refine ⟨_, _, _, _, _, rfl, by assumption, by assumption, by assumption, ?_, ⟨_, by with_unfolding_all rfl⟩, ⟨_, by with_unfolding_all rfl⟩, ⟨_, by with_unfolding_all rfl⟩, ⟨_, by with_unfolding_all rfl⟩⟩; intro p hp; (simp only [List.mem_cons, List.not_mem_nil, or_false] at hp); subst hp; k_mem)
    | (clear KX B D TE TW hcd; fail "left"))
