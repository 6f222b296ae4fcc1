import PyProof.Rows.All
import Wide.All
import OpenK.AllK
import Wide.FinOn
import Lean
import PySem.Challenge.RW_tl0012_01
open PySem PySem.W PyProof.Rows
set_option Elab.async false
namespace TL
set_option maxRecDepth 100000 in
set_option maxHeartbeats 8000000 in
open_top hd for PySem.Challenge.rw_tl0012_01
end TL
namespace TL
def txtL (x y : Nat) : List Nat := List.replicate x 32 ++ 9 :: List.replicate y 32
/-- x blanks, a tab, y blanks -/
def txt (x y : Nat) : Str := ⟨(txtL x y).toArray⟩
theorem txtL_len (x y : Nat) : (txtL x y).length = x + 1 + y := by
  simp [txtL]; omega
theorem txt_len (x y : Nat) : (txt x y).length = x + 1 + y := by
  simp [txt, Str.length, txtL_len]
theorem txtL_get (x y i : Nat) (h : i < x + 1 + y) : (txtL x y)[i]? = some (if i = x then 9 else 32) := by
  unfold txtL
  by_cases h1 : i < x
  · rw [List.getElem?_append_left (by simpa using h1), List.getElem?_replicate, if_pos h1, if_neg (by omega)]
  · rw [List.getElem?_append_right (by simp; omega), List.length_replicate]
    by_cases h2 : i = x
    · subst h2; simp
    · have e : i - x = (i - x - 1) + 1 := by omega
      rw [e, List.getElem?_cons_succ, List.getElem?_replicate, if_pos (by omega), if_neg h2]
theorem item_txt {x y : Nat} {l : Int} (h0 : 0 ≤ l) (h1 : l < x + 1 + y) : Txt.item (txt x y) l = ⟨#[if l = x then 9 else 32]⟩ := by
  obtain ⟨i, rfl⟩ := Int.eq_ofNat_of_zero_le h0
  have hi : i < x + 1 + y := by omega
  unfold Txt.item Txt.charAt
  have e1 : seqIndex? (i : Int) (txt x y).length = some i := by
    unfold seqIndex?
    rw [txt_len]
    simp
    omega
  have e2 : (txt x y).cps[i]? = some (if i = x then 9 else 32) := by
    show (txtL x y).toArray[i]? = _
    rw [List.getElem?_toArray, txtL_get x y i hi]
  rw [e1, Option.bind_some, e2]
  by_cases h : i = x
  · simp [h]
  · have h' : ¬ ((i : Int) = (x : Int)) := by omega
    simp [h, h']
theorem blankS : Str.ofString " " = ⟨#[32]⟩ := by decide +kernel
theorem item_blank {x y : Nat} {l : Int} (h0 : 0 ≤ l) (h1 : l < x + 1 + y) : (Txt.item (txt x y) l == Str.ofString " ") = decide (l ≠ x) := by
  rw [item_txt h0 h1, blankS]
  by_cases h : l = x
  · rw [if_pos h]; simp [h]
  · rw [if_neg h]; simp [h]
theorem slice_ss {t : Str} {i j : Int} (h : 0 ≤ i ∧ i ≤ j ∧ j ≤ t.cps.toList.length) : Txt.slice t (some i) (some j) = ⟨((t.cps.toList.drop i.toNat).take (j - i).toNat).toArray⟩ := eq_of_beq (slice_closes h)
theorem slice_front {x y k : Nat} {i j : Int} (hi : i = k) (hk : k ≤ x) (hj : j = x + 1 + y) : Txt.slice (txt x y) (some i) (some j) = txt (x - k) y := by
  have hl := txtL_len x y
  rw [slice_ss (by refine ⟨by omega, by omega, ?_⟩; show j ≤ ((txtL x y).length : Int); omega)]
  show Str.mk (((txtL x y).drop i.toNat).take (j - i).toNat).toArray = Str.mk (txtL (x - k) y).toArray
  rw [List.take_of_length_le (by rw [List.length_drop]; omega)]
  have e : i.toNat = k := by omega
  rw [e]
  unfold txtL
  rw [List.drop_append_of_le_length (by simpa using hk), List.drop_replicate]
theorem slice_both {x y c : Nat} {i j : Int} (hi : i = x) (hc : c ≤ y) (hj : j = x + 1 + y - c) : Txt.slice (txt x y) (some i) (some j) = txt 0 (y - c) := by
  have hl := txtL_len x y
  rw [slice_ss (by refine ⟨by omega, by omega, ?_⟩; show j ≤ ((txtL x y).length : Int); omega)]
  show Str.mk (((txtL x y).drop i.toNat).take (j - i).toNat).toArray = Str.mk (txtL 0 (y - c)).toArray
  have e : i.toNat = x := by omega
  have e2 : (j - i).toNat = (y - c) + 1 := by omega
  rw [e, e2]
  unfold txtL
  rw [List.drop_append_of_le_length (by simp), List.drop_replicate, Nat.sub_self]
  simp only [List.replicate_zero, List.nil_append, List.take_succ_cons, List.take_replicate]
  have e3 : min (y - c) y = y - c := by omega
  rw [e3]
theorem tabS : Str.ofString "\t" = ⟨#[9]⟩ := by decide +kernel
theorem mul_blank (n : Nat) : (Txt.mul (Str.ofString " ") (n : Int)).cps.toList = List.replicate n 32 := by
  rw [blankS, mul_one_list, Int.toNat_natCast]
theorem str_ext {u v : Str} (h : u.cps.toList = v.cps.toList) : u = v := Str.ext' (Array.toList_inj.mp h)
theorem txt_make (x y : Nat) : Txt.mul (Str.ofString " ") (x : Int) ++ Str.ofString "\t" ++ Txt.mul (Str.ofString " ") (y : Int) = txt x y := by
  refine str_ext ?_
  rw [Str.cps_append, Str.cps_append, Array.toList_append, Array.toList_append, mul_blank, mul_blank, tabS]
  simp [txt, txtL]
theorem txt_add (x y z : Nat) : Txt.mul (Str.ofString " ") (z : Int) ++ txt x y = txt (z + x) y := by
  refine str_ext ?_
  rw [Str.cps_append, Array.toList_append, mul_blank]
  simp [txt, txtL, ← List.append_assoc, List.replicate_append_replicate]
theorem txt_rev (x y : Nat) : (txtL x y).reverse = txtL y x := by
  simp [txtL, List.reverse_append]
end TL
namespace TL
/-- a def of the text called in any def's frame: what it needs of the ledger, what it lays onto it and hands back -/
def Tel (w : World) (mean : ExcName → Option Value) (mg mb : Str → Option Value) (k : Nat) (f : Addr) (vs : List Value) (need : List (Addr × Obj) → Prop) (Ret : List (Addr × Obj) → List (Addr × Obj) → Value → Prop) : Prop :=
  ∀ (dp un : Nat) (gd : Option (List Code)) (cn : Str) (cs : Scope) (a : Addr) (ccd : Value) (cl : List (Str × Addr)) (outer : List Env) (A₀ : Around) (base h₀ : Heap) (L : Addr) (m : Str → Option Value) (news : List (Addr × Obj)) (s : Shared)
    (Q E : Value → Shared → Prop),
    Below A₀ base outer h₀ → Fr h₀ L s.heap m → (TL.hd.heap_39 w.params).In h₀ → News h₀ L s.heap news → Top TL.hd.view_39 (looseW TL.hd.view_39 [Str.ofString "Whitespace"]) mean mg mb h₀ → cs.kind = .function → need news → dp + k < recursionLimit → un + 8 * k < cLine →
    (∀ r tl h' tk', Fr h₀ L h' m → News h₀ L h' (tl ++ news) → Ret news tl r → Q r { s with heap := h', toks := tk' }) →
    wpAny (model PySem.Challenge.rw_tl0012_01.row.prog w) (ktrTop dp un gd cn cs L a ccd cl outer) (call (.ref f) vs) Q E s
/-- a list of ints, freshly made -/
def IntsNew (ns : List Int) (news tl : List (Addr × Obj)) (r : Value) : Prop := ∃ l vs n, r = .ref l ∧ tl = [(l, listOf (List.toArray vs) n)] ∧ IntsAre vs ns ∧ AllLt l news
end TL
namespace TL
abbrev commonT : ToldN (Int × Int) where
  Rel := fun _ vs d => ∃ t t', vs = [.int d.1 t, .int d.2 t']
  Ok := fun d => 0 ≤ d.1 ∧ 0 ≤ d.2
  size := fun _ => 2
  Tl := fun tl => tl = []
  Out := fun _ r d => ∃ t, r = .int (Int.gcd d.1 d.2 : Nat) t
theorem gcd_step {a b x y : Int} (h : Int.gcd x y = Int.gcd a b) (hx : 0 ≤ x) (hy : 0 ≤ y) : Int.gcd y (Int.fmod x y) = Int.gcd a b := by
  rw [← h, Int.fmod_eq_emod_of_nonneg _ hy]
  obtain ⟨m, rfl⟩ := Int.eq_ofNat_of_zero_le hx
  obtain ⟨n, rfl⟩ := Int.eq_ofNat_of_zero_le hy
  rw [← Int.natCast_emod]
  show Nat.gcd n (m % n) = Nat.gcd m n
  rw [Nat.gcd_comm m n, Nat.gcd_rec n m, Nat.gcd_comm]
theorem fmod_pos {x y : Int} (hy : 0 ≤ y) (h0 : y ≠ 0) : 0 ≤ Int.fmod x y := by
  rw [Int.fmod_eq_emod_of_nonneg _ hy]; exact Int.emod_nonneg _ h0
theorem fmod_less {x y : Int} (hy : 0 ≤ y) (h0 : y ≠ 0) : (Int.fmod x y).toNat < y.toNat := by
  rw [Int.fmod_eq_emod_of_nonneg _ hy]
  have h1 := Int.emod_nonneg x h0
  have h2 := Int.emod_lt_of_pos x (show 0 < y by omega)
  omega
theorem gcd_end {x y a b : Int} (h : Int.gcd x y = Int.gcd a b) (hx : 0 ≤ x) (h0 : y = 0) : x = ((Int.gcd a b : Nat) : Int) := by
  rw [← h, h0, Int.gcd_zero_right]; omega
set_option maxRecDepth 100000 in
set_option maxHeartbeats 8000000 in
theorem common_tells (w : World) (mean : ExcName → Option Value) (mg mb : Str → Option Value) : ∀ d, TellsN PySem.Challenge.rw_tl0012_01.row.prog w (TL.hd.heap_39 w.params) TL.hd.view_39 (looseW TL.hd.view_39 [Str.ofString "Whitespace"]) mean mg mb 129 commonT d := by
  intro d
  k_with_none
  w_top off
  k_fill
  unfold TellsN
  intro dp un gd cn cs a ccd cl outer A₀ base h₀ L m news s vs Q E B F X N T hk hR hok hd hu hret
  obtain ⟨o, p⟩ := d
  obtain ⟨t, t', rfl⟩ := hR
  dsimp only [commonT] at hok hd hu hret
  obtain ⟨hok1, hok2⟩ := hok
  refine wpAny_call ?_
  k_dflt ktr_enter
  k_with "exec While Name cons nil" => k_while_given ["one!", "other!"] (fun (o₀ p₀ : Int) (_ : List Int) (x y : Int) => Int.gcd x y = Int.gcd o₀ p₀ ∧ 0 ≤ x ∧ 0 ≤ y) (fun (_ _ : Int) (_ : List Int) (_ y : Int) => y.toNat) "one" "other"
  k_with "state" => exact ⟨gcd_step (by assumption) (by assumption) (by assumption), by assumption, fmod_pos (by assumption) (by assumption)⟩
  k_with "measure" => exact fmod_less (by assumption) (by assumption)
  k_steps
  all_goals (refine hret _ [] _ _ (by assumption) (ktn_tl0 (by assumption)) ktn_ord0 rfl (ktn_int (gcd_end (by assumption) (by assumption) (by assumption))))
end TL
namespace TL
abbrev stripT : ToldN (Nat × Nat × Nat) where
  Rel := fun _ vs d => ∃ t t', vs = [.str (txt d.1 d.2.1) t, .int (d.2.2 : Int) t']
  Ok := fun d => d.2.2 ≤ d.1 + d.2.1 ∧ d.1 + d.2.1 ≤ 1000
  size := fun _ => 2
  Tl := fun tl => tl = []
  Out := fun _ r d => ∃ t, r = .str (txt (d.1 - d.2.2) (d.2.1 - (d.2.2 - d.1))) t
section
variable {x y k : Nat} {a a₀ l r : Int}
theorem strip_st1 (h1 : l + a = k) (h3 : 0 ≤ l) (h4 : l ≤ x) (h2 : 0 ≤ a) (h5 : a ≠ 0) (h6 : (Txt.item (txt x y) l == Str.ofString " ") = true) : (l + 1) + (a - 1) = (k : Int) ∧ 0 ≤ a - 1 ∧ 0 ≤ l + 1 ∧ l + 1 ≤ (x : Int) := by
  rw [item_blank h3 (by omega)] at h6
  have := of_decide_eq_true h6
  omega
theorem strip_st2a (h1 : l + a = k) (h3 : 0 ≤ l) (h4 : l ≤ x) (h2 : 0 ≤ a) (h5 : a = 0) (hr : r = x + y) : (a = 0 ∨ l = (x : Int)) ∧ 0 ≤ l ∧ l ≤ (x : Int) ∧ l + a = (k : Int) ∧ 0 ≤ a ∧ a + (x + y - r) = a ∧ r ≤ (x : Int) + y := by omega
theorem strip_st2b (h1 : l + a = k) (h3 : 0 ≤ l) (h4 : l ≤ x) (h2 : 0 ≤ a) (h6 : (Txt.item (txt x y) l == Str.ofString " ") = false) (hr : r = x + y) : (a = 0 ∨ l = (x : Int)) ∧ 0 ≤ l ∧ l ≤ (x : Int) ∧ l + a = (k : Int) ∧ 0 ≤ a ∧ a + (x + y - r) = a ∧ r ≤ (x : Int) + y := by
  rw [item_blank h3 (by omega)] at h6
  have := of_decide_eq_false h6
  omega
theorem strip_st3 (hk : k ≤ x + y) (g1 : a₀ = 0 ∨ l = x) (g2 : l + a₀ = k) (g3 : 0 ≤ l) (g4 : l ≤ x) (h2 : 0 ≤ a) (h3 : a + (x + y - r) = a₀) (h4 : r ≤ x + y) (h5 : a ≠ 0) :
    (a₀ = 0 ∨ l = (x : Int)) ∧ 0 ≤ l ∧ l ≤ (x : Int) ∧ l + a₀ = (k : Int) ∧ 0 ≤ a - 1 ∧ (a - 1) + (x + y - (r - 1)) = a₀ ∧ r - 1 ≤ (x : Int) + y := by omega
theorem strip_no (hk : k ≤ x + y) (g1 : a₀ = 0 ∨ l = x) (g2 : l + a₀ = k) (g3 : 0 ≤ l) (g4 : l ≤ x) (h2 : 0 ≤ a) (h3 : a + (x + y - r) = a₀) (h4 : r ≤ x + y) (h5 : a ≠ 0) (h6 : (Txt.item (txt x y) r == Str.ofString " ") = false) : False := by
  rw [item_blank (by omega) (by omega)] at h6
  have := of_decide_eq_false h6
  omega
theorem strip_end (hk : k ≤ x + y) (g1 : a₀ = 0 ∨ l = x) (g2 : l + a₀ = k) (g3 : 0 ≤ l) (g4 : l ≤ x) (h3 : a + (x + y - r) = a₀) (h4 : r ≤ x + y) (h5 : a = 0) :
    Txt.slice (txt x y) (some l) (some (r + 1)) = txt (x - k) (y - (k - x)) := by
  by_cases hx : k ≤ x
  · have hl : l = k := by omega
    rw [slice_front hl hx (by omega)]
    have : y - (k - x) = y := by omega
    rw [this]
  · rw [slice_both (c := k - x) (by omega) (by omega) (by omega)]
    have : x - k = 0 := by omega
    rw [this]
end
theorem str_out {u v : Str} {t : Tok} (h : u = v) : ∃ t', Value.str u t = Value.str v t' := ⟨t, h ▸ rfl⟩
set_option maxRecDepth 100000 in
set_option maxHeartbeats 8000000 in
theorem strip_tells (w : World) (mean : ExcName → Option Value) (mg mb : Str → Option Value) : ∀ d, TellsN PySem.Challenge.rw_tl0012_01.row.prog w (TL.hd.heap_39 w.params) TL.hd.view_39 (looseW TL.hd.view_39 [Str.ofString "Whitespace"]) mean mg mb 28 stripT d := by
  intro d
  k_with_none
  w_top off
  k_fill
  unfold TellsN
  intro dp un gd cn cs a ccd cl outer A₀ base h₀ L m news s vs Q E B F X N T hk hR hok hd hu hret
  obtain ⟨x, y, k⟩ := d
  obtain ⟨t, t', rfl⟩ := hR
  dsimp only [stripT] at hok hd hu hret
  obtain ⟨hok1, hok2⟩ := hok
  have htl := txt_len x y
  refine wpAny_call ?_
  k_dflt ktr_enter
  k_with "exec While BoolOp cons nil" => k_while_given ["amount!"] (fun (k₀ : Int) (_ : List Int) (a l : Int) => l + a = k₀ ∧ 0 ≤ a ∧ 0 ≤ l ∧ l ≤ x) (fun (_ : Int) (_ : List Int) (a _ : Int) => a.toNat) "amount" "lpos"
  k_with "exec While BoolOp cons nil" => k_while_given ["amount!", "lpos"] (fun (a₀ l : Int) (_ : List Int) (a r : Int) => (a₀ = 0 ∨ l = (x : Int)) ∧ 0 ≤ l ∧ l ≤ (x : Int) ∧ l + a₀ = (k : Int) ∧ 0 ≤ a ∧ a + (x + y - r) = a₀ ∧ r ≤ (x : Int) + y) (fun (_ _ : Int) (_ : List Int) (a _ : Int) => a.toNat) "amount" "rpos"
  k_with "state" => exact strip_st1 (by assumption) (by assumption) (by assumption) (by assumption) (by assumption) (by assumption)
  k_with "state" => exact strip_st3 (by assumption) (by assumption) (by assumption) (by assumption) (by assumption) (by assumption) (by assumption) (by assumption) (by assumption)
  k_with "state" => exact strip_st2b (by assumption) (by assumption) (by assumption) (by assumption) (by assumption) (by omega)
  k_with "state" => exact strip_st2a (by assumption) (by assumption) (by assumption) (by assumption) (by assumption) (by omega)
  k_steps
  all_goals first
    | (refine hret _ [] _ _ (by assumption) (ktn_tl0 (by assumption)) ktn_ord0 rfl (str_out (strip_end (by assumption) (by assumption) (by assumption) (by assumption) (by assumption) (by assumption) (by assumption) (by assumption))))
    | (exfalso; exact strip_no (by assumption) (by assumption) (by assumption) (by assumption) (by assumption) (by assumption) (by assumption) (by assumption) (by assumption) (by assumption))
end TL
namespace TL
set_option maxRecDepth 100000 in
set_option maxHeartbeats 8000000 in
theorem add_tells (w : World) (mean : ExcName → Option Value) (mg mb : Str → Option Value) (x y : Int) (tx ty : Tok) :
    Tel w mean mg mb 2 35 [.int x tx, .int y ty] (fun _ => True) (fun _ tl r => tl = [] ∧ ∃ t, r = .int (x + y) t) := by
  unfold Tel
  k_with_none
  w_top off
  k_fill
  intro dp un gd cn cs a ccd cl outer A₀ base h₀ L m news s Q E B F X N T hk hneed hd hu hret
  refine wpAny_call ?_
  k_dflt ktr_enter
  k_steps
  all_goals exact hret _ [] _ _ (by assumption) (by assumption) ⟨rfl, _, rfl⟩
set_option maxRecDepth 100000 in
set_option maxHeartbeats 8000000 in
theorem sub_tells (w : World) (mean : ExcName → Option Value) (mg mb : Str → Option Value) (x y : Int) (tx ty : Tok) :
    Tel w mean mg mb 2 56 [.int x tx, .int y ty] (fun _ => True) (fun _ tl r => tl = [] ∧ ∃ t, r = .int (x - y) t) := by
  unfold Tel
  k_with_none
  w_top off
  k_fill
  intro dp un gd cn cs a ccd cl outer A₀ base h₀ L m news s Q E B F X N T hk hneed hd hu hret
  refine wpAny_call ?_
  k_dflt ktr_enter
  k_steps
  all_goals exact hret _ [] _ _ (by assumption) (by assumption) ⟨rfl, _, rfl⟩
set_option maxRecDepth 100000 in
set_option maxHeartbeats 8000000 in
theorem mul_tells (w : World) (mean : ExcName → Option Value) (mg mb : Str → Option Value) (x y : Int) (tx ty : Tok) (hm : IntMulOk x y) :
    Tel w mean mg mb 2 49 [.int x tx, .int y ty] (fun _ => True) (fun _ tl r => tl = [] ∧ ∃ t, r = .int (x * y) t) := by
  unfold Tel
  k_with_none
  w_top off
  k_fill
  intro dp un gd cn cs a ccd cl outer A₀ base h₀ L m news s Q E B F X N T hk hneed hd hu hret
  refine wpAny_call ?_
  k_dflt ktr_enter
  k_steps
  all_goals exact hret _ [] _ _ (by assumption) (by assumption) ⟨rfl, _, rfl⟩
set_option maxRecDepth 100000 in
set_option maxHeartbeats 8000000 in
theorem fdiv_tells (w : World) (mean : ExcName → Option Value) (mg mb : Str → Option Value) (x y : Int) (tx ty : Tok) (hy : 0 < y) (hy2 : y < 100000) (hx : 0 ≤ x) (hx2 : x < 100000) :
    Tel w mean mg mb 2 42 [.int x tx, .int y ty] (fun _ => True) (fun _ tl r => tl = [] ∧ ∃ t, r = .int (Int.fdiv x y) t) := by
  unfold Tel
  k_with_none
  w_top off
  k_fill
  intro dp un gd cn cs a ccd cl outer A₀ base h₀ L m news s Q E B F X N T hk hneed hd hu hret
  refine wpAny_call ?_
  k_dflt ktr_enter
  k_steps
  all_goals exact hret _ [] _ _ (by assumption) (by assumption) ⟨rfl, _, rfl⟩
end TL
namespace TL
theorem mulOk_small {a b : Int} (h0 : 0 ≤ a) (h1 : a ≤ 100000) : IntMulOk a b := by
  have := h0; have := h1
  mul_fits
theorem mulOk_mem {qs : List Int} {a b : Int} (h : ∀ q ∈ qs, 0 ≤ q ∧ q ≤ 1000) (hm : a ∈ qs) : IntMulOk a b := mulOk_small (h _ hm).1 (by have := (h _ hm).2; omega)
def frStep (c : List Int × Int) (q : Int) : List Int × Int := (c.1 ++ [q * c.1.getLastD 0 + c.2], c.1.getLastD 0)
def frF (qs : List Int) : List Int × Int := qs.foldl frStep ([1], 0)
theorem frF_snoc (pre : List Int) (q : Int) : frF (pre ++ [q]) = frStep (frF pre) q := by
  unfold frF; rw [List.foldl_append]; rfl
theorem fr_state {pre items : List Int} {q ahead : Int} (h1 : items = (frF pre).1) (h2 : ahead = (frF pre).2) (h3 : items.length = pre.length + 1) :
    items ++ [q * items.getD (-1 + (items.length : Int)).toNat 0 + ahead] = (frF (pre ++ [q])).1 ∧ items.getD (-1 + (items.length : Int)).toNat 0 = (frF (pre ++ [q])).2 ∧ (items ++ [q * items.getD (-1 + (items.length : Int)).toNat 0 + ahead]).length = (pre ++ [q]).length + 1 := by
  have e : items.getD (-1 + (items.length : Int)).toNat 0 = items.getLastD 0 := by
    have e1 : (-1 + (items.length : Int)).toNat = items.length - 1 := by omega
    rw [e1, List.getLastD_eq_getLast?, List.getLast?_eq_getElem?, List.getD_eq_getElem?_getD]
  rw [e, frF_snoc, h2]
  subst h1
  refine ⟨rfl, rfl, ?_⟩
  simp only [List.length_append, List.length_cons, List.length_nil] at *
  omega
theorem news_pick {h₀ h : Heap} {L : Addr} {d q r : Addr × Obj} {news : List (Addr × Obj)} (N : News h₀ L h (d :: q :: r :: news)) : News h₀ L h ([q] ++ news) := fun p hp => N p (by
  rcases List.mem_append.mp hp with h | h
  · rw [List.mem_singleton.mp h]; simp
  · simp [h])
theorem ints_ret {l b : Addr} {vs : List Value} {n : Nat} {ns ns' : List Int} {news : List (Addr × Obj)} (h : b < l ∧ AllLt l news) (hi : IntsAre vs ns') (e : ns' = ns) : IntsNew ns news [(l, listOf vs.toArray n)] (.ref l) := ⟨l, vs, n, rfl, rfl, e ▸ hi, h.2⟩
local macro_rules | `(tactic| walk_at "call ref") => `(tactic| (k_here; k_dflt (refine' mul_tells _ _ _ _ _ _ _ _ ?p0 _ _ _ _ _ _ _ _ _ _ _ _ _ _ _ _ _ _ ?k1 ?k2 ?k3 ?k4 ?k5 ?kK ?kn ?kd ?ku ?_; (case k1 => k_asm); (case k2 => k_asm); (case k3 => k_asm); (case k4 => k_asm); (case k5 => k_asm); (case kK => first | exact rfl | assumption); (case kn => trivial); (case p0 => first | exact mulOk_mem (by assumption) (by assumption) | exact mulOk_small (by omega) (by omega)); (case kd => ktr_room); (case ku => ktr_units)); intro r9 tl9 h9 tk9 F9 N9 ho9; obtain ⟨e9, t9, e8⟩ := ho9; subst e9; subst e8; (try dsimp only [List.nil_append] at N9); (try k_sweep); (try dsimp only); (try k_fold)))
local macro_rules | `(tactic| walk_at "call ref") => `(tactic| (k_here; k_dflt (refine' add_tells _ _ _ _ _ _ _ _  _ _ _ _ _ _ _ _ _ _ _ _ _ _ _ _ _ _ ?k1 ?k2 ?k3 ?k4 ?k5 ?kK ?kn ?kd ?ku ?_; (case k1 => k_asm); (case k2 => k_asm); (case k3 => k_asm); (case k4 => k_asm); (case k5 => k_asm); (case kK => first | exact rfl | assumption); (case kn => trivial); (case kd => ktr_room); (case ku => ktr_units)); intro r9 tl9 h9 tk9 F9 N9 ho9; obtain ⟨e9, t9, e8⟩ := ho9; subst e9; subst e8; (try dsimp only [List.nil_append] at N9); (try k_sweep); (try dsimp only); (try k_fold)))
set_option maxRecDepth 100000 in
set_option maxHeartbeats 8000000 in
theorem fronts_tells (w : World) (mean : ExcName → Option Value) (mg mb : Str → Option Value) (l : Addr) (vs : List Value) (n : Nat) (qs : List Int) (hi : IntsAre vs qs) (hl : qs.length ≤ 1000) (hq : ∀ q ∈ qs, 0 ≤ q ∧ q ≤ 1000) :
    Tel w mean mg mb 4 143 [.ref l] (fun news => (l, listOf vs.toArray n) ∈ news) (IntsNew (frF qs).1) := by
  unfold Tel
  k_with_none
  w_top off
  k_fill
  intro dp un gd cn cs a ccd cl outer A₀ base h₀ L m news s Q E B F X N₀ T hk hneed hd hu hret
  have N : News h₀ L s.heap ((l, listOf vs.toArray n) :: news) := fun p hp => (List.mem_cons.mp hp).elim (fun e => e ▸ N₀ _ hneed) (N₀ p)
  clear N₀
  refine wpAny_call ?_
  k_dflt ktr_enter
  k_with "pyIter ref" => k_state (fun pre items ahead => items = (frF pre).1 ∧ ahead = (frF pre).2 ∧ items.length = pre.length + 1) "fronts" "ahead"
  k_with "state" => exact fr_state (by assumption) (by assumption) (by assumption)
  k_steps
  all_goals (refine hret _ _ _ _ (by assumption) (news_pick (by assumption)) (ints_ret (by assumption) (by assumption) (by assumption)))
end TL
namespace TL
abbrev T5 := Int × Int × Int × Int × Int
def D5 (t : T5) : Dat := .tuple [.int t.1, .int t.2.1, .int t.2.2.1, .int t.2.2.2.1, .int t.2.2.2.2]
abbrev Led := List (Addr × Obj)
/-- between the turns of a loop that lays tuples into the list at l: G is what the data lie in, O what stands by -/
def T5J (l : Addr) (O G : Led) (adr : List Addr) (x : Str) (stored : List Str) (m₀ : Str → Option Value) (fs : List T5) (m : Str → Option Value) (nx : Led) : Prop :=
  ∃ vs n tl, nx = (l, listOf (List.toArray vs) n) :: (O ++ (G ++ tl)) ∧ OwnOff tl adr ∧ DatAll (G ++ tl) vs (fs.map D5) ∧ ∀ z, z ≠ x → stored.contains z = false → m z = m₀ z
theorem rangeKs_succ (a : Int) (n : Nat) : rangeKs a (n + 1) = rangeKs a n ++ [a + (n : Int)] := by
  simp [rangeKs, List.range_succ]
theorem t5_off1 {l : Addr} {O G tl own : Led} (hl : ∀ p ∈ O ++ G, p.1 ≠ l) (hs : KdSep own tl (l :: (O ++ G).map (·.1))) : ∀ p ∈ O ++ (G ++ (tl ++ own)), p.1 ≠ l := by
  intro p hp
  simp only [List.mem_append] at hp
  rcases hp with h | h | h | h
  · exact hl p (by simp [h])
  · exact hl p (by simp [h])
  · exact hs.three p h l (List.mem_cons_self ..)
  · exact hs.one p h l (List.mem_cons_self ..)
theorem postG_mono {h₀ : Heap} {L : Addr} {J J' : (Str → Option Value) → Led → Prop} {own : Led} {s₁ s₂ : Shared} {Q : Flow → Shared → Prop} {f : Flow} (hj : ∀ m nx, J m nx → J' m nx) (h : InvPostG h₀ L J own s₁ Q f s₂) : InvPostG h₀ L J' own s₁ Q f s₂ := by
  have e : InvEndG h₀ L J own s₁ s₂ → InvEndG h₀ L J' own s₁ s₂ := fun ⟨h', tk, m', news', nx, e, F, N, a, b, c, d⟩ => ⟨h', tk, m', news', nx, e, F, N, a, b, c, hj _ _ d⟩
  cases f with
  | ret v => exact h
  | brk => exact h
  | next => exact e h
  | cont => exact e h
section
variable {prog : Program} {w : World} {A : Around} {E : Value → Shared → Prop} {s : Shared} {env : Env} {h₀ : Heap} {x : Str} {body : List Stmt} {Q : Flow → Shared → Prop}
theorem t5_gen {r : Addr} {a₀ b₀ : Int} {t₀ u₀ v₀ : Tok} {cnt : Nat} {m₀ : Str → Option Value} {news : Led} (O G : Led) (l : Addr) (vs : List Value) (n : Nat) (fs : List T5) (step : List T5 → Int → List T5) (stored : List Str)
    (hh : A.handled = none) (hr : IsRange s.heap r a₀ b₀ 1 t₀ u₀ v₀) (hsmall : Builtin.Range.small a₀ b₀ 1 = true) (hsz : Builtin.Range.rangeSize a₀ b₀ 1 = (cnt : Int))
    (F : Fr h₀ env.locals s.heap m₀) (N : News h₀ env.locals s.heap news) (hN : ∀ p ∈ (l, listOf vs.toArray n) :: (O ++ G), p ∈ news) (hl : ∀ p ∈ O ++ G, p.1 ≠ l) (hD : DatAll G vs (fs.map D5))
    (turn : ∀ vs n tl (pre : List Int) (k : Int) t (u : Str → Option Value) h tk own, k = a₀ + (pre.length : Int) → pre.length < cnt → pre = rangeKs a₀ pre.length → KdSep own tl (l :: (O ++ G).map (·.1)) → (∀ p ∈ O ++ (G ++ (tl ++ own)), p.1 ≠ l) → DatAll (G ++ tl) vs ((pre.foldl step fs).map D5) →
      Fr h₀ env.locals h (fun y => if y = x then some (.int k t) else if stored.contains y then u y else m₀ y) → News h₀ env.locals h ((l, listOf (List.toArray vs) n) :: (O ++ (G ++ (tl ++ own)))) →
      wpAny (model prog w) A (execs body env) (InvPostG h₀ env.locals (T5J l O G (l :: (O ++ G).map (·.1)) x stored m₀ (step (pre.foldl step fs) k)) own { s with heap := h, toks := tk } Q) E { s with heap := h, toks := tk })
    (done : ∀ vs n tl (u : Str → Option Value) h tk, OwnOff tl (l :: (O ++ G).map (·.1)) → DatAll (G ++ tl) vs (((rangeKs a₀ cnt).foldl step fs).map D5) →
      Fr h₀ env.locals h (fun y => if y = x then u y else if stored.contains y then u y else m₀ y) → News h₀ env.locals h ((l, listOf (List.toArray vs) n) :: (O ++ (G ++ tl))) → Q .next { s with heap := h, toks := tk }) :
    wpAny (model prog w) A (pyIter (.ref r)) (fun it s₂ => LoopAtV prog w A h₀ env x body Q E it s₂) E s := by
  refine kd_range (σ := List Value × Nat × List T5) (fun c => [(l, listOf (List.toArray c.1) c.2.1)]) (O ++ G) (fun _ => []) (fun led c => ∃ tl, led = (O ++ G) ++ tl ∧ DatAll (G ++ tl) c.1 (c.2.2.map D5)) stored (fun pre c => c.2.2 = pre.foldl step fs ∧ pre = rangeKs a₀ pre.length)
    (l :: (O ++ G).map (·.1)) (vs, n, fs) hh hr hsmall hsz F N (fun p hp => hN p (by simpa using hp)) (fun c => rfl) ⟨[], rfl, by rw [List.append_nil]; exact hD⟩ (fun p hp => nomatch hp) ⟨rfl, rfl⟩ ?_ ?_
  · rintro ⟨vs', n', fs'⟩ tl pre k t u h tk own hk hlt hsep _ ⟨tl', e, hD'⟩ ⟨hP, hpre⟩ F' N'
    have e' := List.append_cancel_left e
    subst e'
    dsimp only at hP hD' N'
    subst hP
    refine wpAny_mono (turn vs' n' tl pre k t u h tk own hk hlt hpre hsep (t5_off1 hl hsep) hD' F' (by simpa only [List.append_assoc, List.cons_append, List.nil_append] using N')) (fun f s₂ q => postG_mono ?_ q) fun _ _ e => e
    rintro m nx ⟨vs9, n9, tl9, rfl, ho, hd, hm⟩
    exact ⟨(vs9, n9, _), tl9, by simp only [List.append_assoc, List.cons_append, List.nil_append], ho, ⟨tl9, rfl, hd⟩, fun p hp => (nomatch hp), fun z hz _ hs => hm z hz hs, by show _ = List.foldl step fs (pre ++ [k]); rw [List.foldl_append]; rfl, by
      rw [List.length_append, List.length_singleton, rangeKs_succ, ← hpre, hk]⟩
  · rintro ⟨vs', n', fs'⟩ tl u h tk ho ⟨tl', e, hD'⟩ ⟨hP, _⟩ F' N'
    have e' := List.append_cancel_left e
    subst e'
    dsimp only at hP hD' N'
    subst hP
    exact done vs' n' tl u h tk ho hD' F' (by simpa only [List.append_assoc, List.cons_append, List.nil_append] using N')
theorem t5_outer {r : Addr} {a₀ b₀ : Int} {t₀ u₀ v₀ : Tok} {cnt : Nat} {m₀ : Str → Option Value} {news : Led} (G : Led) (l : Addr) (vs : List Value) (n : Nat) (fs : List T5) (step : List T5 → Int → List T5) (stored : List Str)
    (hh : A.handled = none) (hr : IsRange s.heap r a₀ b₀ 1 t₀ u₀ v₀) (hsmall : Builtin.Range.small a₀ b₀ 1 = true) (hsz : Builtin.Range.rangeSize a₀ b₀ 1 = (cnt : Int))
    (F : Fr h₀ env.locals s.heap m₀) (N : News h₀ env.locals s.heap news) (hN : ∀ p ∈ (l, listOf vs.toArray n) :: G, p ∈ news) (hl : ∀ p ∈ G, p.1 ≠ l) (hD : DatAll G vs (fs.map D5))
    (turn : ∀ vs n tl (pre : List Int) (k : Int) t (u : Str → Option Value) h tk own, k = a₀ + (pre.length : Int) → pre.length < cnt → pre = rangeKs a₀ pre.length → KdSep own tl (l :: G.map (·.1)) → (∀ p ∈ G ++ (tl ++ own), p.1 ≠ l) → DatAll (G ++ tl) vs ((pre.foldl step fs).map D5) →
      Fr h₀ env.locals h (fun y => if y = x then some (.int k t) else if stored.contains y then u y else m₀ y) → News h₀ env.locals h ((l, listOf (List.toArray vs) n) :: (G ++ (tl ++ own))) →
      wpAny (model prog w) A (execs body env) (InvPostG h₀ env.locals (T5J l [] G (l :: G.map (·.1)) x stored m₀ (step (pre.foldl step fs) k)) own { s with heap := h, toks := tk } Q) E { s with heap := h, toks := tk })
    (done : ∀ vs n tl (u : Str → Option Value) h tk, OwnOff tl (l :: G.map (·.1)) → DatAll (G ++ tl) vs (((rangeKs a₀ cnt).foldl step fs).map D5) →
      Fr h₀ env.locals h (fun y => if y = x then u y else if stored.contains y then u y else m₀ y) → News h₀ env.locals h ((l, listOf (List.toArray vs) n) :: (G ++ tl)) → Q .next { s with heap := h, toks := tk }) :
    wpAny (model prog w) A (pyIter (.ref r)) (fun it s₂ => LoopAtV prog w A h₀ env x body Q E it s₂) E s :=
  t5_gen [] G l vs n fs step stored hh hr hsmall hsz F N hN hl hD turn done
theorem t5_inner {r i b : Addr} {oi ob : Obj} {a₀ b₀ : Int} {t₀ u₀ v₀ : Tok} {cnt : Nat} {m₀ : Str → Option Value} {G tl own : Led} {l : Addr} {vs : List Value} {n : Nat} (fs : List T5) (step : List T5 → Int → List T5) (stored : List Str)
    (hh : A.handled = none) (hr : IsRange s.heap r a₀ b₀ 1 t₀ u₀ v₀) (hsmall : Builtin.Range.small a₀ b₀ 1 = true) (hsz : Builtin.Range.rangeSize a₀ b₀ 1 = (cnt : Int))
    (F : Fr h₀ env.locals s.heap m₀) (N : News h₀ env.locals s.heap ((i, oi) :: (b, ob) :: (l, listOf (List.toArray vs) n) :: (G ++ (tl ++ own)))) (hsep : KdSep own tl (l :: G.map (·.1)))
    (hoff : ∀ c ∈ b :: l :: (G ++ (tl ++ own)).map (·.1), c ≠ i) (hl : ∀ p ∈ G ++ (tl ++ own), p.1 ≠ l) (hb : b ≠ l) (hD : DatAll (G ++ tl) vs (fs.map D5))
    (turn : ∀ vs n tl₂ (pre : List Int) (k : Int) t (u : Str → Option Value) h tk own₂, k = a₀ + (pre.length : Int) → pre.length < cnt → pre = rangeKs a₀ pre.length → KdSep own₂ tl₂ (l :: (((i, oi) :: (b, ob) :: own) ++ (G ++ tl)).map (·.1)) → (∀ p ∈ ((i, oi) :: (b, ob) :: own) ++ ((G ++ tl) ++ (tl₂ ++ own₂)), p.1 ≠ l) → DatAll ((G ++ tl) ++ tl₂) vs ((pre.foldl step fs).map D5) →
      Fr h₀ env.locals h (fun y => if y = x then some (.int k t) else if stored.contains y then u y else m₀ y) → News h₀ env.locals h ((l, listOf (List.toArray vs) n) :: (((i, oi) :: (b, ob) :: own) ++ ((G ++ tl) ++ (tl₂ ++ own₂)))) →
      wpAny (model prog w) A (execs body env) (InvPostG h₀ env.locals (T5J l ((i, oi) :: (b, ob) :: own) (G ++ tl) (l :: (((i, oi) :: (b, ob) :: own) ++ (G ++ tl)).map (·.1)) x stored m₀ (step (pre.foldl step fs) k)) own₂ { s with heap := h, toks := tk } Q) E { s with heap := h, toks := tk })
    (done : ∀ vs n tl' (u : Str → Option Value) h tk, KdSep own tl' (l :: G.map (·.1)) → (∀ c ∈ b :: l :: (G ++ (tl' ++ own)).map (·.1), c ≠ i) → (∀ p ∈ G ++ (tl' ++ own), p.1 ≠ l) → DatAll (G ++ tl') vs (((rangeKs a₀ cnt).foldl step fs).map D5) →
      Fr h₀ env.locals h (fun y => if y = x then u y else if stored.contains y then u y else m₀ y) → News h₀ env.locals h ((i, oi) :: (b, ob) :: (l, listOf (List.toArray vs) n) :: (G ++ (tl' ++ own))) → Q .next { s with heap := h, toks := tk }) :
    wpAny (model prog w) A (pyIter (.ref r)) (fun it s₂ => LoopAtV prog w A h₀ env x body Q E it s₂) E s := by
  refine t5_gen ((i, oi) :: (b, ob) :: own) (G ++ tl) l vs n fs step stored hh hr hsmall hsz F N ?_ ?_ hD turn ?_
  · intro p hp
    simp only [List.cons_append, List.mem_cons, List.mem_append] at hp ⊢
    rcases hp with h | h | h | h | h | h <;> simp [h]
  · intro p hp
    simp only [List.cons_append, List.mem_cons, List.mem_append] at hp
    rcases hp with h | h | h | h | h
    · rw [h]; exact fun e => hoff l (by simp) e.symm
    · rw [h]; exact hb
    · exact hl p (by simp [h])
    · exact hl p (by simp [h])
    · exact hl p (by simp [h])
  · intro vs' n' tl₂ u h tk ho hd F' N'
    have ha : ∀ c ∈ l :: G.map (·.1), c ∈ l :: (((i, oi) :: (b, ob) :: own) ++ (G ++ tl)).map (·.1) := by
      intro c hc
      simp only [List.mem_cons, List.map_append, List.map_cons, List.cons_append, List.mem_append] at hc ⊢
      rcases hc with h | h <;> simp [h]
    refine done vs' n' (tl ++ tl₂) u h tk ⟨hsep.one, ?_, ?_⟩ ?_ ?_ (by rw [← List.append_assoc]; exact hd) F' ?_
    · intro p hp c hc
      rw [List.map_append, List.mem_append] at hc
      rcases hc with hc | hc
      · exact hsep.two p hp c hc
      · obtain ⟨q, hq, rfl⟩ := List.mem_map.mp hc
        refine fun e => ho q hq p.1 ?_ e.symm
        simp only [List.mem_cons, List.map_append, List.map_cons, List.cons_append, List.mem_append]
        exact .inr (.inr (.inr (.inl (List.mem_map_of_mem hp))))
    · intro p hp c hc
      rcases List.mem_append.mp hp with hp | hp
      · exact hsep.three p hp c hc
      · exact ho p hp c (ha c hc)
    · intro c hc
      by_cases h2 : c ∈ tl₂.map (·.1)
      · obtain ⟨q, hq, rfl⟩ := List.mem_map.mp h2
        exact ho q hq i (by simp)
      · refine hoff c ?_
        simp only [List.mem_cons, List.map_append, List.mem_append] at hc h2 ⊢
        rcases hc with h | h | h | (h | h) | h
        · exact .inl h
        · exact .inr (.inl h)
        · exact .inr (.inr (.inl h))
        · exact .inr (.inr (.inr (.inl h)))
        · exact absurd h h2
        · exact .inr (.inr (.inr (.inr h)))
    · intro p hp
      by_cases h2 : p ∈ tl₂
      · exact ho p h2 l (List.mem_cons_self ..)
      · refine hl p ?_
        simp only [List.mem_append] at hp ⊢
        rcases hp with h | (h | h) | h
        · exact .inl h
        · exact .inr (.inl h)
        · exact absurd h h2
        · exact .inr (.inr h)
    · intro p hp
      refine N' p ?_
      simp only [List.cons_append, List.mem_cons, List.mem_append] at hp ⊢
      rcases hp with h | h | h | h | (h | h) | h <;> simp [h]
end
section
variable {h₀ : Heap} {L : Addr} {s₁ : Shared} {h' : Heap} {tk : Nat} {m' m₀ : Str → Option Value}
theorem t5_same {l : Addr} {O G tl own news' : Led} {adr : List Addr} {x : Str} {stored : List Str} {vs : List Value} {n : Nat} {fs fs' : List T5} (hs : KdSep own tl (l :: (O ++ G).map (·.1))) (hadr : adr = l :: (O ++ G).map (·.1)) (hD : DatAll (G ++ tl) vs (fs.map D5)) (hfs : fs = fs')
    (F : Fr h₀ L h' m') (N : News h₀ L h' news') (hN : ∀ p ∈ (l, listOf (List.toArray vs) n) :: (O ++ (G ++ (tl ++ own))), p ∈ news') (hm : ∀ z, z ≠ x → stored.contains z = false → m' z = m₀ z) :
    InvEndG h₀ L (T5J l O G adr x stored m₀ fs') own s₁ { s₁ with heap := h', toks := tk } := by
  subst hadr; subst hfs
  refine InvEndG.intro F N ⟨vs, n, tl, rfl, hs.three, hD, hm⟩ ?_ ?_ ?_
  · intro p hp c hc
    simp only [List.map_cons, List.map_append, List.mem_cons, List.mem_append] at hc
    rcases hc with h | h | h | h
    · exact hs.one p hp c (by simp [h])
    · exact hs.one p hp c (by simp only [List.map_append, List.mem_cons, List.mem_append]; exact .inr (.inl h))
    · exact hs.one p hp c (by simp only [List.map_append, List.mem_cons, List.mem_append]; exact .inr (.inr h))
    · exact hs.two p hp c h
  · intro p hp
    refine hN p ?_
    simp only [List.mem_cons, List.mem_append] at hp ⊢
    rcases hp with h | h | h | h <;> simp [h]
  · intro p hp
    exact hN p (by simp [hp])
theorem t5_app {l D : Addr} {O G tl own news' : Led} {adr : List Addr} {x : Str} {stored : List Str} {vs ws : List Value} {n n' k : Nat} {fs fs' : List T5} {d : T5} (hs : KdSep own tl (l :: (O ++ G).map (·.1))) (hadr : adr = l :: (O ++ G).map (·.1)) (hD : DatAll (G ++ tl) vs (fs.map D5)) (hfs : fs ++ [d] = fs')
    (F : Fr h₀ L h' m') (N : News h₀ L h' news') (hN : ∀ p ∈ (D, ({ cls := .type "tuple", data := .seq (List.toArray ws) k } : Obj)) :: (l, listOf ((List.toArray vs).push (.ref D)) n') :: (O ++ (G ++ (tl ++ own))), p ∈ news')
    (hlt : AllLt D ((l, listOf (List.toArray vs) n) :: (O ++ (G ++ (tl ++ own))))) (hd : DatAll [] ws [.int d.1, .int d.2.1, .int d.2.2.1, .int d.2.2.2.1, .int d.2.2.2.2]) (hm : ∀ z, z ≠ x → stored.contains z = false → m' z = m₀ z) :
    InvEndG h₀ L (T5J l O G adr x stored m₀ fs') own s₁ { s₁ with heap := h', toks := tk } := by
  have lt := ktn_ltOf hlt
  let tup : Addr × Obj := (D, { cls := .type "tuple", data := .seq (List.toArray ws) k })
  refine t5_same (tl := tl ++ [tup]) (vs := vs ++ [.ref D]) (n := n') (fs := fs ++ [d]) ⟨hs.one, ?_, ?_⟩ hadr ?_ hfs F N ?_ hm
  · intro p hp c hc
    rw [List.map_append, List.mem_append] at hc
    rcases hc with hc | hc
    · exact hs.two p hp c hc
    · have hc' : c = D := by simpa [tup] using hc
      rw [hc']
      exact Nat.ne_of_lt (lt p (by simp [hp]))
  · intro p hp c hc
    rcases List.mem_append.mp hp with hp | hp
    · exact hs.three p hp c hc
    · rw [List.mem_singleton.mp hp]
      simp only [List.map_append, List.mem_cons, List.mem_append, List.mem_map] at hc
      rcases hc with h | ⟨q, hq, h⟩ | ⟨q, hq, h⟩
      · rw [h]; exact (Nat.ne_of_lt (lt _ (List.mem_cons_self ..))).symm
      · rw [← h]; exact (Nat.ne_of_lt (lt q (by simp [hq]))).symm
      · rw [← h]; exact (Nat.ne_of_lt (lt q (by simp [hq]))).symm
  · rw [List.map_append]
    refine DatAll.append (hD.mono fun p hp => ?_) (DatAll.one (DatIn.tuple (vs := ws) (n := k) ?_ (hd.mono fun p hp => (List.not_mem_nil hp).elim)))
    · simp only [List.mem_append] at hp ⊢
      rcases hp with h | h <;> simp [h]
    · simp [tup]
  · intro p hp
    refine hN p ?_
    simp only [List.mem_cons, List.mem_append, List.push_toArray] at hp ⊢
    rcases hp with h | h | h | (h | h | h) | h
    · exact .inr (.inl h)
    · simp [h]
    · simp [h]
    · simp [h]
    · simp [h, tup]
    · exact nomatch h
    · simp [h]
theorem t5_unr {i b l : Addr} {oi ob o : Obj} {G tl own : Led} {rest : (Str → Option Value) → Led → Prop} (F : Fr h₀ L h' m') (N : News h₀ L h' ((i, oi) :: (b, ob) :: (l, o) :: (G ++ (tl ++ own)))) (hoff : ∀ c ∈ b :: l :: (G ++ (tl ++ own)).map (·.1), c ≠ i)
    (r : rest m' ((b, ob) :: (l, o) :: (G ++ (tl ++ own)))) : UnrEndW h₀ L s₁ [(i, oi)] rest { s₁ with heap := h', toks := tk } := by
  refine ⟨h', tk, m', _, rfl, F, N, ?_, r⟩
  intro p hp q hq
  rw [List.mem_singleton.mp hq]
  refine hoff p.1 ?_
  have := List.mem_map_of_mem (f := (·.1)) hp
  simpa using this
theorem t5_off {i b l : Addr} {ob o : Obj} {X : Led} (h : ∀ p ∈ (b, ob) :: (l, o) :: X, p.1 < i) : ∀ c ∈ b :: l :: X.map (·.1), c ≠ i := by
  intro c hc
  have h2 : c ∈ ((b, ob) :: (l, o) :: X).map (·.1) := hc
  obtain ⟨p, hp, rfl⟩ := List.mem_map.mp h2
  exact Nat.ne_of_lt (h p hp)
end
end TL
namespace TL
def inStep (whole part x t w : Int) (f : List T5) (y : Int) : List T5 :=
  if Int.fmod (whole - y * w) x = 0 ∧ Int.fdiv (whole - y * w) x > w ∧ w > 0 ∧ Int.fmod (part * y - t * Int.fdiv (whole - y * w) x) whole = 0 then f ++ [(x, y, Int.fdiv (whole - y * w) x, w, t)] else f
def turnStep (whole part x t : Int) (f : List T5) : List T5 :=
  if x * Int.fmod (-t * part * x) whole < whole then (rangeKs 1 (x - 1).toNat).foldl (inStep whole part x t (Int.fmod (-t * part * x) whole)) f else f
def outStep (whole part : Int) (f : List T5) (x : Int) : List T5 := turnStep whole part x (-1) (turnStep whole part x 1 f)
def partedF (whole part : Int) : List T5 := (rangeKs 2 (whole - 2).toNat).foldl (outStep whole part) []
/-- a list of tuples of five ints, freshly made, its tuples with it -/
def T5New (ns : List T5) (news tl : List (Addr × Obj)) (r : Value) : Prop := ∃ l vs n tl', r = .ref l ∧ tl = (l, listOf (List.toArray vs) n) :: tl' ∧ DatAll (news ++ tl') vs (ns.map D5)
theorem t5_innerP {prog : Program} {w : World} {A : Around} {E : Value → Shared → Prop} {s : Shared} {env : Env} {h₀ : Heap} {x : Str} {body : List Stmt} {Q : Flow → Shared → Prop} {r i b : Addr} {oi ob : Obj} {a₀ b₀ : Int} {t₀ u₀ v₀ : Tok} {cnt : Nat} {m₀ : Str → Option Value} {G tl own : Led} {l : Addr} {vs : List Value} {n : Nat} {fs : List T5} (whole part X : Int) {T W : Int} {tT tW : Tok} (stored : List Str)
    (hh : A.handled = none) (hr : IsRange s.heap r a₀ b₀ 1 t₀ u₀ v₀) (hsmall : Builtin.Range.small a₀ b₀ 1 = true) (hsz : Builtin.Range.rangeSize a₀ b₀ 1 = (cnt : Int))
    (F : Fr h₀ env.locals s.heap m₀) (N : News h₀ env.locals s.heap ((i, oi) :: (b, ob) :: (l, listOf (List.toArray vs) n) :: (G ++ (tl ++ own)))) (hT : m₀ (Str.ofString "turn") = some (.int T tT)) (hW : m₀ (Str.ofString "w") = some (.int W tW)) (hsep : KdSep own tl (l :: G.map (·.1)))
    (hoff : ∀ c ∈ b :: l :: (G ++ (tl ++ own)).map (·.1), c ≠ i) (hl : ∀ p ∈ G ++ (tl ++ own), p.1 ≠ l) (hb : b ≠ l) (hD : DatAll (G ++ tl) vs (fs.map D5))
    (turn : ∀ vs n tl₂ (pre : List Int) (k : Int) t (u : Str → Option Value) h tk own₂, k = a₀ + (pre.length : Int) → pre.length < cnt → pre = rangeKs a₀ pre.length → KdSep own₂ tl₂ (l :: (((i, oi) :: (b, ob) :: own) ++ (G ++ tl)).map (·.1)) → (∀ p ∈ ((i, oi) :: (b, ob) :: own) ++ ((G ++ tl) ++ (tl₂ ++ own₂)), p.1 ≠ l) → DatAll ((G ++ tl) ++ tl₂) vs ((pre.foldl (inStep whole part X T W) fs).map D5) →
      Fr h₀ env.locals h (fun y => if y = x then some (.int k t) else if stored.contains y then u y else m₀ y) → News h₀ env.locals h ((l, listOf (List.toArray vs) n) :: (((i, oi) :: (b, ob) :: own) ++ ((G ++ tl) ++ (tl₂ ++ own₂)))) →
      wpAny (model prog w) A (execs body env) (InvPostG h₀ env.locals (T5J l ((i, oi) :: (b, ob) :: own) (G ++ tl) (l :: (((i, oi) :: (b, ob) :: own) ++ (G ++ tl)).map (·.1)) x stored m₀ (inStep whole part X T W (pre.foldl (inStep whole part X T W) fs) k)) own₂ { s with heap := h, toks := tk } Q) E { s with heap := h, toks := tk })
    (done : ∀ vs n tl' (u : Str → Option Value) h tk, KdSep own tl' (l :: G.map (·.1)) → (∀ c ∈ b :: l :: (G ++ (tl' ++ own)).map (·.1), c ≠ i) → (∀ p ∈ G ++ (tl' ++ own), p.1 ≠ l) → DatAll (G ++ tl') vs (((rangeKs a₀ cnt).foldl (inStep whole part X T W) fs).map D5) →
      Fr h₀ env.locals h (fun y => if y = x then u y else if stored.contains y then u y else m₀ y) → News h₀ env.locals h ((i, oi) :: (b, ob) :: (l, listOf (List.toArray vs) n) :: (G ++ (tl' ++ own))) → Q .next { s with heap := h, toks := tk }) :
    wpAny (model prog w) A (pyIter (.ref r)) (fun it s₂ => LoopAtV prog w A h₀ env x body Q E it s₂) E s :=
  let _ := hT; let _ := hW
  t5_inner fs (inStep whole part X T W) stored hh hr hsmall hsz F N hsep hoff hl hb hD turn done
theorem ne_of_below {l : Addr} {G : Led} (h : ∀ p ∈ G, p.1 < l) : ∀ p ∈ G, p.1 ≠ l := fun p hp => Nat.ne_of_lt (h p hp)
theorem in_len (whole part x t w : Int) : ∀ (ys : List Int) (f : List T5), (ys.foldl (inStep whole part x t w) f).length ≤ f.length + ys.length
  | [], f => Nat.le_refl _
  | y :: ys, f => by
    have h := in_len whole part x t w ys (inStep whole part x t w f y)
    have h2 : (inStep whole part x t w f y).length ≤ f.length + 1 := by
      unfold inStep; split <;> simp
    simp only [List.foldl_cons, List.length_cons]
    omega
theorem turn_len (whole part x t : Int) (f : List T5) : (turnStep whole part x t f).length ≤ f.length + (x - 1).toNat := by
  unfold turnStep
  split
  · have := in_len whole part x t (Int.fmod (-t * part * x) whole) (rangeKs 1 (x - 1).toNat) f
    rwa [rangeKs_length] at this
  · omega
theorem out_len (whole part : Int) : ∀ (xs : List Int) (f : List T5), (∀ x ∈ xs, x ≤ 46) → (xs.foldl (outStep whole part) f).length ≤ f.length + 90 * xs.length
  | [], f, _ => Nat.le_refl _
  | x :: xs, f, hx => by
    have h := out_len whole part xs (outStep whole part f x) fun y hy => hx y (.tail _ hy)
    have h1 := turn_len whole part x 1 f
    have h2 := turn_len whole part x (-1) (turnStep whole part x 1 f)
    have h3 := hx x (.head _)
    have h4 : (outStep whole part f x).length ≤ f.length + 90 := by
      unfold outStep; omega
    simp only [List.foldl_cons, List.length_cons]
    omega
theorem out_len2 {whole part : Int} {pre : List Int} (hpre : pre = rangeKs 2 pre.length) (hlt : pre.length < (whole - 2).toNat) (h : whole ≤ 46) : (pre.foldl (outStep whole part) []).length ≤ 4000 := by
  have h1 := out_len whole part pre [] fun x hx => by
    rw [hpre] at hx
    have := mem_rangeKs hx
    omega
  simp only [List.length_nil] at h1
  omega
theorem t5_size {led : Led} {vs : List Value} {fs : List T5} (h : DatAll led vs (fs.map D5)) (hb : fs.length ≤ 10000) : (List.toArray vs).size ≤ sizeLine := by
  rw [List.size_toArray, h.length, List.length_map, sizeLine_eq]; omega
theorem size1 {whole part x t w : Int} {pre pre2 : List Int} (hpre : pre = rangeKs 2 pre.length) (hlt : pre.length < (whole - 2).toNat) (h : whole ≤ 46) (hk : x = 2 + (pre.length : Int)) (hlt2 : pre2.length < (x - 1).toNat) :
    (pre2.foldl (inStep whole part x t w) (pre.foldl (outStep whole part) [])).length ≤ 10000 := by
  have h1 := out_len2 (part := part) hpre hlt h
  have h2 := in_len whole part x t w pre2 (pre.foldl (outStep whole part) [])
  omega
theorem size2 {whole part x t w t' w' : Int} {pre pre2 : List Int} (hpre : pre = rangeKs 2 pre.length) (hlt : pre.length < (whole - 2).toNat) (h : whole ≤ 46) (hk : x = 2 + (pre.length : Int)) (hlt2 : pre2.length < (x - 1).toNat) :
    (pre2.foldl (inStep whole part x t w) ((rangeKs 1 (x - 1).toNat).foldl (inStep whole part x t' w') (pre.foldl (outStep whole part) []))).length ≤ 10000 := by
  have h1 := out_len2 (part := part) hpre hlt h
  have h2 := in_len whole part x t' w' (rangeKs 1 (x - 1).toNat) (pre.foldl (outStep whole part) [])
  have h3 := in_len whole part x t w pre2 ((rangeKs 1 (x - 1).toNat).foldl (inStep whole part x t' w') (pre.foldl (outStep whole part) []))
  rw [rangeKs_length] at h2
  omega
section
variable {h₀ : Heap} {L : Addr} {s₁ : Shared} {h' : Heap} {tk : Nat} {m' m₀ : Str → Option Value}
theorem in_same {l : Addr} {q : Addr × Obj} {O G tl own : Led} {adr : List Addr} {xn : Str} {stored : List Str} {vs : List Value} {n : Nat} {fs : List T5} {whole part x t w y : Int} (hs : KdSep own tl (l :: (O ++ G).map (·.1))) (hadr : adr = l :: (O ++ G).map (·.1)) (hD : DatAll (G ++ tl) vs (fs.map D5))
    (F : Fr h₀ L h' m') (N : News h₀ L h' (q :: (l, listOf (List.toArray vs) n) :: (O ++ (G ++ (tl ++ own)))))
    (hfs : ¬ (Int.fmod (whole - y * w) x = 0 ∧ Int.fdiv (whole - y * w) x > w ∧ w > 0 ∧ Int.fmod (part * y - t * Int.fdiv (whole - y * w) x) whole = 0))
    (hm : ∀ z, z ≠ xn → stored.contains z = false → m' z = m₀ z) :
    InvEndG h₀ L (T5J l O G adr xn stored m₀ (inStep whole part x t w fs y)) own s₁ { s₁ with heap := h', toks := tk } :=
  t5_same hs hadr hD (by unfold inStep; rw [if_neg hfs]) F N (fun _ hp => .tail _ hp) hm
theorem in_app {l D : Addr} {q : Addr × Obj} {O G tl own : Led} {adr : List Addr} {xn : Str} {stored : List Str} {vs : List Value} {n' k : Nat} {fs : List T5} {whole part x t w y : Int} {t1 t2 t3 t4 t5 : Tok} (hs : KdSep own tl (l :: (O ++ G).map (·.1))) (hadr : adr = l :: (O ++ G).map (·.1)) (hD : DatAll (G ++ tl) vs (fs.map D5))
    (F : Fr h₀ L h' m') (N : News h₀ L h' ((D, ({ cls := .type "tuple", data := .seq (List.toArray [.int x t1, .int y t2, .int (Int.fdiv (whole - y * w) x) t3, .int w t4, .int t t5]) k } : Obj)) :: q :: (l, listOf ((List.toArray vs).push (.ref D)) n') :: (O ++ (G ++ (tl ++ own)))))
    (hlt : q.1 < D ∧ l < D ∧ AllLt D (O ++ (G ++ (tl ++ own))))
    (c1 : Int.fmod (whole - y * w) x = 0) (c2 : w < Int.fdiv (whole - y * w) x) (c3 : 0 < w) (c4 : Int.fmod (part * y - t * Int.fdiv (whole - y * w) x) whole = 0)
    (hm : ∀ z, z ≠ xn → stored.contains z = false → m' z = m₀ z) :
    InvEndG h₀ L (T5J l O G adr xn stored m₀ (inStep whole part x t w fs y)) own s₁ { s₁ with heap := h', toks := tk } :=
  t5_app (n := 0) (d := (x, y, Int.fdiv (whole - y * w) x, w, t)) hs hadr hD (by unfold inStep; rw [if_pos ⟨c1, c2, c3, c4⟩]) F N (fun p hp => by
    simp only [List.mem_cons] at hp ⊢
    rcases hp with h | h | h
    · exact .inl h
    · exact .inr (.inr (.inl h))
    · exact .inr (.inr (.inr h))) hlt.2 (.cons (.int _ _) (.cons (.int _ _) (.cons (.int _ _) (.cons (.int _ _) (.cons (.int _ _) .nil))))) hm
theorem out_same {l : Addr} {q : Addr × Obj} {G tl own : Led} {adr : List Addr} {xn : Str} {stored : List Str} {vs : List Value} {n : Nat} {fs fs' : List T5} (hs : KdSep own tl (l :: G.map (·.1))) (hadr : adr = l :: G.map (·.1)) (hD : DatAll (G ++ tl) vs (fs.map D5))
    (F : Fr h₀ L h' m') (N : News h₀ L h' (q :: (l, listOf (List.toArray vs) n) :: (G ++ (tl ++ own)))) (hfs : fs = fs') (hm : ∀ z, z ≠ xn → stored.contains z = false → m' z = m₀ z) :
    InvEndG h₀ L (T5J l [] G adr xn stored m₀ fs') own s₁ { s₁ with heap := h', toks := tk } :=
  t5_same (O := []) hs hadr hD hfs F N (fun _ hp => .tail _ hp) hm
end
theorem turn_yes {whole part x t W : Int} {f : List T5} (hW : W = -t * part * x) (h : x * Int.fmod W whole < whole) : (rangeKs 1 (x - 1).toNat).foldl (inStep whole part x t (Int.fmod W whole)) f = turnStep whole part x t f := by
  subst hW; unfold turnStep; rw [if_pos h]
theorem turn_no {whole part x t W : Int} {f : List T5} (hW : W = -t * part * x) (h : ¬ x * Int.fmod W whole < whole) : f = turnStep whole part x t f := by
  subst hW; unfold turnStep; rw [if_neg h]
local macro_rules | `(tactic| walk_at "no key of any tree") => `(tactic| fail)
local macro_rules | `(tactic| walk_at "call builtin:list.append") => `(tactic| (k_here; (with_reducible show wpAny _ _ (call (Value.builtin _) [Value.ref _, Value.ref _]) _ _ _); k_dflt (refine' append_K ?k1 ?k2 ?k3 ?_ ?z; (case k1 => k_asm); (case k2 => k_asm); (case k3 => exact Upd.tail (by k_ne) (Upd.tail (by k_ne) (Upd.head (by assumption)))); (case z => first | exact t5_size (by assumption) (size1 (by assumption) (by assumption) (by assumption) (by assumption) (by assumption)) | exact t5_size (by assumption) (size2 (by assumption) (by assumption) (by assumption) (by assumption) (by assumption))); k_whole); intro h' F' N'; (try k_sweep)))
local macro_rules | `(tactic| walk_at "UnrEndW") => `(tactic| (refine t5_unr (by assumption) (by assumption) (by assumption) ⟨⟨List.Mem.head _, trivial⟩, ?_⟩))
set_option maxRecDepth 100000 in
set_option maxHeartbeats 8000000 in
theorem parted_tells (w : World) (mean : ExcName → Option Value) (mg mb : Str → Option Value) (whole part : Int) (tw tp : Tok) (h1 : 7 ≤ whole) (h2 : whole ≤ 46) (h3 : 1 ≤ part) (h4 : part < whole) :
    Tel w mean mg mb 4 150 [.int whole tw, .int part tp] (fun _ => True) (T5New (partedF whole part)) := by
  unfold Tel
  k_with_none
  w_top off
  k_fill
  intro dp un gd cn cs a ccd cl outer A₀ base h₀ L m news s Q E B F X N T hk hneed hd hu hret
  refine wpAny_call ?_
  k_dflt ktr_enter
  k_with "pyIter ref" =>
    k_of "x" =>
      rename Fr _ _ _ _ => lF'
      rename News _ _ _ _ => lN'
      rename IsRange _ _ _ _ _ _ _ _ => rgX
      with_unfolding_all refine' t5_outer _ _ [] 0 [] (outStep whole part) [Str.ofString "turn", Str.ofString "w", Str.ofString "y", Str.ofString "z", Str.ofString "rest"] (by rfl) rgX (by exact small_one (by omega) (by omega) (by omega) (by omega)) (rangeSize_nat _ _) lF' lN' (fun _ h => h) (ne_of_below (by assumption)) DatAll.nil ?_ ?_
      clear lF' lN'
      intro vs n tl pre k t u h tk own hk9 hlt9 hpre9 hsep9 hl9 hD9 F9 N9
      rotate_left
      clear lF' lN'
      intro vs n tl u h tk hO9 hD9 F9 N9
      rotate_left
  k_with "pyIter ref" =>
    with_reducible show wpAny _ _ (pyIter (Value.ref _)) (fun it s₂ => TurnsAt _ _ _ _ _ _ _ _ _ it s₂) _ _
    rename Fr _ _ _ _ => lF'
    rename News _ _ _ _ => lN'
    with_unfolding_all refine' iter_tupTurns (vs := [_, _]) (by rfl) lF' lN' (List.Mem.head _) (by rfl) (by rfl) ?_
    clear lF'
    intro I hI
    have hoff9 := t5_off hI
    clear hI
  k_with "pyIter ref" =>
    k_of "y" =>
      rename Fr _ _ _ _ => lF'
      rename News _ _ _ _ => lN'
      rename IsRange _ _ _ _ _ _ _ _ => rgX
      with_unfolding_all refine' t5_innerP whole part k [Str.ofString "z", Str.ofString "rest"] (by rfl) rgX (by exact small_one (by omega) (by omega) (by omega) (by omega)) (rangeSize_nat _ _) lF' lN' (by rfl) (by rfl) (by assumption) (by assumption) (by assumption) (by k_ne) (by assumption) ?_ ?_
      clear lF' lN'
      intro vs2 n2 tl2 pre2 k2 t2 u2 h2 tk2 own2 hk8 hlt8 hpre8 hsep8 hl8 hD8 F8 N8
      have hlt7 := ltN (Heap.lt_size (News.get N8 (List.mem_cons_self ..)))
      (try dsimp only at hlt7)
      rotate_left
      clear lF' lN'
      intro vs2 n2 tl2 u2 h2 tk2 hsep8 hoff8 hl8 hD8 F8 N8
      rotate_left
  k_steps
  all_goals try first
    | (refine in_app (by assumption) rfl (by assumption) (by assumption) (by assumption) (by assumption) (by assumption) (by assumption) (by assumption) (by assumption) ?_
       · intro z hz hs; simp only [List.contains_cons, List.contains_nil, Bool.or_false, Bool.or_eq_false_iff, beq_eq_false_iff_ne, ne_eq] at hs; simp [hz, hs])
    | (refine in_same (by assumption) rfl (by assumption) (by assumption) (by assumption) ?_ ?_
       · rintro ⟨q1, q2, q3, q4⟩; first | contradiction | omega
       · intro z hz hs; simp only [List.contains_cons, List.contains_nil, Bool.or_false, Bool.or_eq_false_iff, beq_eq_false_iff_ne, ne_eq] at hs; simp [hz, hs])
    | (refine out_same (by assumption) rfl (by assumption) (by assumption) (by assumption) ?_ ?_
       · unfold outStep; first | rw [← turn_yes (t := 1) rfl (by assumption), ← turn_yes (t := -1) rfl (by assumption)] | rw [← turn_no (t := 1) rfl (by assumption), ← turn_yes (t := -1) rfl (by assumption)] | rw [← turn_yes (t := 1) rfl (by assumption), ← turn_no (t := -1) rfl (by assumption)] | rw [← turn_no (t := 1) rfl (by assumption), ← turn_no (t := -1) rfl (by assumption)]
       · intro z hz hs; simp only [List.contains_cons, List.contains_nil, Bool.or_false, Bool.or_eq_false_iff, beq_eq_false_iff_ne, ne_eq] at hs; simp [hz, hs])
  refine hret _ ((_, listOf (List.toArray vs) n) :: tl) _ _ (by assumption) ?_ ⟨_, vs, n, tl, rfl, rfl, by assumption⟩
  refine cb_drop (by assumption) ?_
  intro p hp
  simp only [List.cons_append, List.mem_cons, List.mem_append] at hp ⊢
  rcases hp with h | h | h <;> simp [h]
end TL
namespace TL
noncomputable def AllNe (d : Addr) : List (Addr × Obj) → Prop
  | [] => True
  | p :: r => @Ne Nat p.1 d ∧ AllNe d r
theorem allNe_of {d : Addr} : ∀ {l : List (Addr × Obj)}, (∀ p ∈ l, p.1 ≠ d) → AllNe d l
  | [], _ => trivial
  | p :: _, h => ⟨h p (.head _), allNe_of fun q hq => h q (.tail _ hq)⟩
/-- the four names that the loop over a text's signs turns -/
def wsP (i bi ti : Int) (tn tb tt : Tok) (l : Addr) : List (Str × Value) := [(Str.ofString "n", .int i tn), (Str.ofString "b", .int bi tb), (Str.ofString "nt", .int ti tt), (Str.ofString "count", .ref l)]
def WsS (x : Str) (m₀ : Str → Option Value) (X : Led) (i bi ti : Int) (ns : List Int) (m : Str → Option Value) (nx : Led) : Prop :=
  ∃ tn tb tt l vs k, nx = (l, listOf (List.toArray vs) k) :: X ∧ (∀ p ∈ X, p.1 ≠ l) ∧ IntsAre vs ns ∧ (∀ p ∈ wsP i bi ti tn tb tt l, m p.1 = some p.2) ∧ (∀ z, z ≠ x → (∀ p ∈ wsP i bi ti tn tb tt l, z ≠ p.1) → m z = m₀ z)
theorem txt_sign {a b i : Nat} {v : Value} (hi : i < a + 1 + b) (h : SignAt (txt a b) i v) : ∃ t, v = .str ⟨#[if i = a then 9 else 32]⟩ t := by
  obtain ⟨c, u, hc, rfl⟩ := h
  have e : (txt a b).cps[i]? = some (if i = a then 9 else 32) := by
    show (txtL a b).toArray[i]? = _
    rw [List.getElem?_toArray, txtL_get a b i hi]
  rw [e] at hc
  cases hc
  exact ⟨u, rfl⟩
theorem txt_ascii (a b : Nat) : (txt a b).cps.all (· < 128) = true := by
  rw [← Array.all_toList]
  show (txtL a b).all _ = true
  rw [List.all_eq_true]
  intro c hc
  simp only [txtL, List.mem_append, List.mem_cons, List.mem_replicate] at hc
  rcases hc with ⟨_, h⟩ | h | ⟨_, h⟩ <;> subst h <;> rfl
section
variable {prog : Program} {w : World} {A : Around} {E : Value → Shared → Prop} {s : Shared} {env : Env} {h₀ : Heap} {x : Str} {body : List Stmt} {Q : Flow → Shared → Prop}
theorem ws_fr {L : Addr} {h : Heap} {i bi ti : Int} {tn tb tt : Tok} {l : Addr} {m₀ m₁ : Str → Option Value} {v : Value} (h1 : ∀ p ∈ wsP i bi ti tn tb tt l, m₁ p.1 = some p.2) (h2 : ∀ z, z ≠ x → (∀ p ∈ wsP i bi ti tn tb tt l, z ≠ p.1) → m₁ z = m₀ z)
    (F : Fr h₀ L h (fun y => if y = x then some v else m₁ y)) : Fr h₀ L h (fun y => if y = x then some v else kstB m₀ (wsP i bi ti tn tb tt l) y) := by
  have := kst_fr (stored := []) h1 (fun z hz hp _ => h2 z hz hp) F
  simpa using this
theorem ws_loop {xt : Str} {tx : Tok} {a b : Nat} (hxt : xt = txt a b) {X : Led} {l0 : Addr} {k0 : Nat} {t1 t2 t3 : Tok} {m₀ : Str → Option Value}
    (hh : A.handled = none) (F : Fr h₀ env.locals s.heap m₀) (N : News h₀ env.locals s.heap ((l0, listOf #[] k0) :: X)) (hl0 : ∀ p ∈ X, p.1 ≠ l0)
    (hn : m₀ (Str.ofString "n") = some (.int 0 t1)) (hb : m₀ (Str.ofString "b") = some (.int 0 t2)) (hnt : m₀ (Str.ofString "nt") = some (.int 0 t3)) (hc : m₀ (Str.ofString "count") = some (.ref l0))
    (turnB : ∀ (i bi ti : Int) ns t tn tb tt l vs k h tk own, 0 ≤ i → 0 ≤ bi → i ≤ a + b → bi ≤ a + b → (∀ p ∈ X, p.1 ≠ l) → IntsAre vs ns → OwnOff own (l :: X.map (·.1)) →
      Fr h₀ env.locals h (fun y => if y = x then some (.str ⟨#[32]⟩ t) else kstB m₀ (wsP i bi ti tn tb tt l) y) → News h₀ env.locals h ((l, listOf (List.toArray vs) k) :: (X ++ own)) →
      wpAny (model prog w) A (execs body env) (InvPostG h₀ env.locals (WsS x m₀ X (i + 1) (bi + 1) ti ns) own { s with heap := h, toks := tk } Q) E { s with heap := h, toks := tk })
    (turnT : ∀ t tn tb tt l vs k h tk own, (∀ p ∈ X, p.1 ≠ l) → IntsAre vs [] → OwnOff own (l :: X.map (·.1)) →
      Fr h₀ env.locals h (fun y => if y = x then some (.str ⟨#[9]⟩ t) else kstB m₀ (wsP a a 0 tn tb tt l) y) → News h₀ env.locals h ((l, listOf (List.toArray vs) k) :: (X ++ own)) →
      wpAny (model prog w) A (execs body env) (InvPostG h₀ env.locals (WsS x m₀ X (a + 1) 0 1 (List.replicate a 0 ++ [1])) own { s with heap := h, toks := tk } Q) E { s with heap := h, toks := tk })
    (done : ∀ (u : Str → Option Value) tn tb tt l vs k h tk, (∀ p ∈ X, p.1 ≠ l) → IntsAre vs (List.replicate a 0 ++ [1]) →
      Fr h₀ env.locals h (fun y => if y = x then u y else kstB m₀ (wsP (a + 1 + b : Nat) b 1 tn tb tt l) y) → News h₀ env.locals h ((l, listOf (List.toArray vs) k) :: X) → Q .next { s with heap := h, toks := tk }) :
    wpAny (model prog w) A (pyIter (.str xt tx)) (fun it s₂ => LoopAtV prog w A h₀ env x body Q E it s₂) E s := by
  subst hxt
  have hlen : (txt a b).cps.size = a + 1 + b := txt_len a b
  refine wpAny_pyIter_ascii (txt_ascii a b) ?_
  have W := Walks.strAscii (prog := prog) (w := w) (A := A) hh s.heap.objs.size (txt a b) tx
  rw [hlen] at W
  refine kdr_loop (fun (i : Nat) m nx => WsS x m₀ X i (if i ≤ a then (i : Int) else (i : Int) - a - 1) (if i ≤ a then 0 else 1) (if i ≤ a then [] else List.replicate a 0 ++ [1]) m nx)
    W (fun _ h => h) (fun _ h => h) ?_ ?_ ?_ ?_ ⟨_, Heap.get?_push_size _ rfl, rfl, rfl⟩ (F.push _) (fun p hp => ⟨Heap.get?_push_of_some _ (N p hp).1, (N p hp).2⟩) ?_ ?_ ?_
  · intro i h hi c hc
    rw [List.mem_singleton.mp hc]
    obtain ⟨o, ho, _⟩ := hi
    exact ⟨o, ho⟩
  · intro hm
    exact absurd F.ns.lt ((List.mem_singleton.mp hm) ▸ Nat.lt_irrefl _)
  · intro c hc
    rw [List.mem_singleton.mp hc]
    exact next_is_new F
  · intro p hp hI
    exact absurd (Heap.lt_size (N p hp).1) ((List.mem_singleton.mp hI) ▸ Nat.lt_irrefl _)
  · refine ⟨t1, t2, t3, l0, [], k0, rfl, hl0, ?_, ?_, fun _ _ _ => rfl⟩
    · simp only [Nat.zero_le, if_true]; exact IntsAre.nil
    · simp only [Nat.zero_le, if_true]
      intro p hp
      simp only [wsP, List.mem_cons, List.not_mem_nil, or_false] at hp
      rcases hp with rfl | rfl | rfl | rfl
      · exact hn
      · exact hb
      · exact hnt
      · exact hc
  · rintro i v m₁ nx h tk own hi hP hoff ⟨tn, tb, tt, l, vs, k, rfl, hl, hI, hps, hm⟩ F₁ N₁
    obtain ⟨t, rfl⟩ := txt_sign hi hP
    have F₂ := ws_fr hps hm F₁
    by_cases h1 : i = a
    · subst h1
      simp only [Nat.le_refl, if_true] at F₂ hI
      have h2 : ¬ (i + 1 ≤ i) := by omega
      have key := turnT t tn tb tt l vs k h tk own hl hI hoff F₂ N₁
      refine wpAny_mono key (fun f s₂ q => postG_mono (fun m nx hj => ?_) q) fun _ _ e => e
      simp only [if_neg h2]
      have e2 : ((i + 1 : Nat) : Int) - i - 1 = 0 := by omega
      rw [e2]
      simpa using hj
    · rw [if_neg h1] at F₂
      by_cases h2 : i ≤ a
      · have h3 : i + 1 ≤ a := by omega
        simp only [if_pos h2] at F₂ hI
        have key := turnB i i 0 [] t tn tb tt l vs k h tk own (by omega) (by omega) (by omega) (by omega) hl hI hoff F₂ N₁
        refine wpAny_mono key (fun f s₂ q => postG_mono (fun m nx hj => ?_) q) fun _ _ e => e
        simp only [if_pos h3]
        simpa using hj
      · have h3 : ¬ (i + 1 ≤ a) := by omega
        simp only [if_neg h2] at F₂ hI
        have key := turnB i (i - a - 1) 1 _ t tn tb tt l vs k h tk own (by omega) (by omega) (by omega) (by omega) hl hI hoff F₂ N₁
        refine wpAny_mono key (fun f s₂ q => postG_mono (fun m nx hj => ?_) q) fun _ _ e => e
        simp only [if_neg h3]
        have e2 : (i : Int) - a - 1 + 1 = ((i + 1 : Nat) : Int) - a - 1 := by omega
        rw [e2] at hj
        simpa using hj
  · rintro m₁ nx h tk ⟨tn, tb, tt, l, vs, k, rfl, hl, hI, hps, hm⟩ F₁ N₁
    have h3 : ¬ (a + 1 + b ≤ a) := by omega
    simp only [if_neg h3] at hI hps hm
    have e2 : ((a + 1 + b : Nat) : Int) - a - 1 = b := by omega
    rw [e2] at hps hm
    have F₂ := kst_frOut (x := x) (stored := []) hps (fun z hz hp _ => hm z hz hp) F₁
    exact done m₁ tn tb tt l vs k h tk hl hI (by simpa using F₂) N₁
end
section
variable {h₀ : Heap} {L : Addr} {s₁ : Shared} {h' : Heap} {tk : Nat} {m' m₀ : Str → Option Value}
theorem ws_end {l : Addr} {X own news' : Led} {x : Str} {vs : List Value} {k : Nat} {ns : List Int} {i bi ti : Int} {tn tb tt : Tok} (hl : ∀ p ∈ X, p.1 ≠ l) (hol : ∀ p ∈ own, p.1 ≠ l) (hoX : ∀ p ∈ own, ∀ c ∈ X.map (·.1), p.1 ≠ c) (hi : IntsAre vs ns)
    (F : Fr h₀ L h' m') (N : News h₀ L h' news') (hN : ∀ p ∈ (l, listOf (List.toArray vs) k) :: (X ++ own), p ∈ news')
    (hps : ∀ p ∈ wsP i bi ti tn tb tt l, m' p.1 = some p.2) (hm : ∀ z, z ≠ x → (∀ p ∈ wsP i bi ti tn tb tt l, z ≠ p.1) → m' z = m₀ z) :
    InvEndG h₀ L (WsS x m₀ X i bi ti ns) own s₁ { s₁ with heap := h', toks := tk } := by
  refine InvEndG.intro F N ⟨tn, tb, tt, l, vs, k, rfl, hl, hi, hps, hm⟩ ?_ (fun p hp => hN p ?_) (fun p hp => hN p (by simp [hp]))
  · intro p hp c hc
    rcases List.mem_cons.mp hc with h | h
    · rw [h]; exact hol p hp
    · exact hoX p hp c h
  · simp only [List.mem_cons, List.mem_append] at hp ⊢
    rcases hp with h | h <;> simp [h]
theorem ws_endB {l : Addr} {X own : Led} {x : Str} {vs : List Value} {k : Nat} {ns : List Int} {i bi ti : Int} {tn tb tt : Tok} (hl : ∀ p ∈ X, p.1 ≠ l) (ho : OwnOff own (l :: X.map (·.1))) (hi : IntsAre vs ns)
    (F : Fr h₀ L h' m') (N : News h₀ L h' ((l, listOf (List.toArray vs) k) :: (X ++ own)))
    (hps : ∀ p ∈ wsP i bi ti tn tb tt l, m' p.1 = some p.2) (hm : ∀ z, z ≠ x → (∀ p ∈ wsP i bi ti tn tb tt l, z ≠ p.1) → m' z = m₀ z) :
    InvEndG h₀ L (WsS x m₀ X i bi ti ns) own s₁ { s₁ with heap := h', toks := tk } :=
  ws_end hl (fun p hp => ho p hp l (.head _)) (fun p hp c hc => ho p hp c (.tail _ hc)) hi F N (fun _ hp => hp) hps hm
theorem ws_ps {l : Addr} {i bi ti : Int} {tn tb tt : Tok} (e1 : m' (Str.ofString "n") = some (.int i tn)) (e2 : m' (Str.ofString "b") = some (.int bi tb)) (e3 : m' (Str.ofString "nt") = some (.int ti tt)) (e4 : m' (Str.ofString "count") = some (.ref l)) : ∀ p ∈ wsP i bi ti tn tb tt l, m' p.1 = some p.2 := by
  intro p hp
  simp only [wsP, List.mem_cons, List.not_mem_nil, or_false] at hp
  rcases hp with rfl | rfl | rfl | rfl
  · exact e1
  · exact e2
  · exact e3
  · exact e4
theorem ws_rest {x : Str} {l : Addr} {i bi ti : Int} {tn tb tt : Tok} (h : ∀ z, z ≠ x → z ≠ Str.ofString "n" → z ≠ Str.ofString "b" → z ≠ Str.ofString "nt" → z ≠ Str.ofString "count" → m' z = m₀ z) : ∀ z, z ≠ x → (∀ p ∈ wsP i bi ti tn tb tt l, z ≠ p.1) → m' z = m₀ z := by
  intro z hz hp
  simp only [wsP, List.forall_mem_cons] at hp
  exact h z hz hp.1 hp.2.1 hp.2.2.1 hp.2.2.2.1
theorem ws_endB4 {l : Addr} {X own : Led} {x : Str} {vs : List Value} {k : Nat} {ns : List Int} {i bi ti : Int} {tn tb tt : Tok} (hl : ∀ p ∈ X, p.1 ≠ l) (ho : OwnOff own (l :: X.map (·.1))) (hi : IntsAre vs ns)
    (F : Fr h₀ L h' m') (N : News h₀ L h' ((l, listOf (List.toArray vs) k) :: (X ++ own)))
    (e1 : m' (Str.ofString "n") = some (.int i tn)) (e2 : m' (Str.ofString "b") = some (.int bi tb)) (e3 : m' (Str.ofString "nt") = some (.int ti tt)) (e4 : m' (Str.ofString "count") = some (.ref l))
    (hm : ∀ z, z ≠ x → z ≠ Str.ofString "n" → z ≠ Str.ofString "b" → z ≠ Str.ofString "nt" → z ≠ Str.ofString "count" → m' z = m₀ z) :
    InvEndG h₀ L (WsS x m₀ X i bi ti ns) own s₁ { s₁ with heap := h', toks := tk } :=
  ws_endB hl ho hi F N (ws_ps e1 e2 e3 e4) (ws_rest hm)
theorem ws_endT4 {l l0 : Addr} {c1 c2 c3 : Addr × Obj} {X own : Led} {x : Str} {vs : List Value} {k : Nat} {ns ns' : List Int} {i bi ti : Int} {tn tb tt : Tok} (F : Fr h₀ L h' m') (N : News h₀ L h' ((l, listOf (List.toArray vs) k) :: c1 :: c2 :: c3 :: (X ++ own)))
    (ho : OwnOff own (l0 :: X.map (·.1))) (hlt : @LT.lt Nat _ c1.1 l ∧ @LT.lt Nat _ c2.1 l ∧ @LT.lt Nat _ c3.1 l ∧ AllLt l (X ++ own)) (hi : IntsAre vs ns') (e : ns' = ns)
    (e1 : m' (Str.ofString "n") = some (.int i tn)) (e2 : m' (Str.ofString "b") = some (.int bi tb)) (e3 : m' (Str.ofString "nt") = some (.int ti tt)) (e4 : m' (Str.ofString "count") = some (.ref l))
    (hm : ∀ z, z ≠ x → z ≠ Str.ofString "n" → z ≠ Str.ofString "b" → z ≠ Str.ofString "nt" → z ≠ Str.ofString "count" → m' z = m₀ z) :
    InvEndG h₀ L (WsS x m₀ X i bi ti ns) own s₁ { s₁ with heap := h', toks := tk } := by
  subst e
  have lt := ktn_ltOf hlt.2.2.2
  refine ws_end (k := k) (fun p hp => Nat.ne_of_lt (lt p (by simp [hp]))) (fun p hp => Nat.ne_of_lt (lt p (by simp [hp]))) (fun p hp c hc => ho p hp c (.tail _ hc)) hi F N ?_ (ws_ps e1 e2 e3 e4) (ws_rest hm)
  intro p hp
  simp only [List.mem_cons] at hp ⊢
  rcases hp with h | h
  · exact .inl h
  · exact .inr (.inr (.inr (.inr h)))
end
theorem tuple_ofN {prog : Program} {w : World} {A : Around} {E : Value → Shared → Prop} {s : Shared} {h₀ : Heap} {L l : Addr} {m : Str → Option Value} {news : Led} {its : Array Value} {Q : Value → Shared → Prop} (F : Fr h₀ L s.heap m) (N : News h₀ L s.heap news) (hl : s.heap.IsList l its) (hsz : its.size ≤ sizeLine)
    (h : ∀ D h', Fr h₀ L h' m → News h₀ L h' ((D, { cls := .type "tuple", data := .seq its }) :: news) → (∀ p ∈ news, p.1 < D) → Q (.ref D) { s with heap := h' }) : wpAny (model prog w) A (call (.type "tuple") [.ref l]) Q E s := by
  refine call_tuple_list hl (fun h' hk => ?_) hsz
  have F' : Fr h₀ L h' m := ⟨F.ns.at' fun o e => hk _ o e, fun b o e => hk b o (F.keep b o e), F.above⟩
  have N' : News h₀ L h' news := fun p hp => ⟨hk _ _ (N p hp).1, (N p hp).2⟩
  exact h _ _ (F'.push _) (News.push F' N' _) fun p hp => Heap.lt_size (N' p hp).1
theorem cnt_size {a : Nat} {vs : List Value} {cs : List Int} (hI : IntsAre vs cs) (hc : cs.length = a + 1) (ha : a ≤ 46) : (List.toArray vs).size ≤ sizeLine := by
  rw [List.size_toArray, hI.length, sizeLine_eq]; omega
theorem cnt_len {a : Nat} {cs : List Int} (h : cs = List.replicate a 0 ++ [1]) : cs.length = a + 1 := by
  rw [h]; simp
theorem cnt_get {a : Nat} {cs : List Int} {i : Nat} (h : cs = List.replicate a 0 ++ [1]) (hi : i ≤ a) : cs.getD i 0 = if i = a then 1 else 0 := by
  rw [h, List.getD_eq_getElem?_getD]
  by_cases e : i = a
  · subst e; simp
  · rw [List.getElem?_append_left (by simp; omega), List.getElem?_replicate, if_pos (by omega), if_neg e]; rfl
theorem tlen {prog : Program} {w : World} {A : Around} {E : Value → Shared → Prop} {s : Shared} {l : Addr} {vs : List Value} {cs : List Int} {Q : Value → Shared → Prop} (hl : IsTup s.heap l vs.toArray) (hi : IntsAre vs cs) (hz : cs.length ≤ 16000)
    (h : Q (.int (cs.length : Int) (s.toks + 1)) { s with toks := s.toks + 1 + 1 }) : wpAny (model prog w) A (call (.builtin "len") [.ref l]) Q E s :=
  kun_lenT hl (by rw [List.size_toArray, hi.length]) (by omega) h
theorem cnt_eq (a : Nat) : ([] ++ (List.replicate ((a : Int) - ((0 : Nat) : Int) + 1).toNat [(0 : Int)]).flatten).set (a : Int).toNat (([] ++ (List.replicate ((a : Int) - ((0 : Nat) : Int) + 1).toNat [(0 : Int)]).flatten).getD (a : Int).toNat 0 + 1) = List.replicate a 0 ++ [1] := by
  have e1 : ((a : Int) - ((0 : Nat) : Int) + 1).toNat = a + 1 := by omega
  have e2 : (List.replicate (a + 1) [(0 : Int)]).flatten = List.replicate (a + 1) 0 := by
    induction a + 1 with
    | zero => rfl
    | succ n ih => rw [List.replicate_succ, List.flatten_cons, ih, List.replicate_succ]; rfl
  rw [e1, e2, List.nil_append, Int.toNat_natCast]
  have e3 : (List.replicate (a + 1) (0 : Int)).getD a 0 = 0 := by
    rw [List.getD_eq_getElem?_getD, List.getElem?_replicate]; simp
  rw [e3, List.replicate_succ']
  rw [List.set_append_right _ _ (by simp)]
  simp
end TL
namespace TL
theorem sliceBy_rev {x : Str} {uk : Tok} {a b : Nat} (hx : x = txt a b) : Txt.sliceBy x none none (-1, uk) = txt b a := by
  subst hx
  have e1 : slicePicked (txt a b) none none (some (-1, uk)) = (List.range (txt a b).cps.size).reverse := by
    show Builtin.Str.strSliceIndices none none (-1) (txt a b).length = _
    have e2 : Builtin.Str.strSliceIndices none none (-1) (txt a b).length = sliceRange (((txt a b).cps.size : Int) - 1) (-1) (-1) := rfl
    rw [e2, krv_sliceRange, krv_range]
  unfold Txt.sliceBy
  have hc : ¬ ((((some ((-1 : Int), uk)).map (·.1)).getD 1 == 1 && (slicePicked (txt a b) none none (some (-1, uk))).length == (txt a b).length) = true) := by
    simp
  first
  | (rw [if_neg hc, e1, List.filterMap_reverse, krv_all]
     show Str.mk (txtL a b).reverse.toArray = Str.mk (txtL b a).toArray
     rw [txt_rev])
  | (rw [e1, List.filterMap_reverse, krv_all]
     show Str.mk (txtL a b).reverse.toArray = Str.mk (txtL b a).toArray
     rw [txt_rev])
theorem made_rev {x : Str} {t uk : Tok} {a b : Nat} {s : Shared} {Q : Value → Shared → Prop} (hx : x = txt a b) (hsz : a + b ≤ 1000) (h : ∀ t' k, Q (.str (txt b a) t') { s with toks := k }) :
    (sliceMade x t none none (some (-1, uk))).post Q s := by
  subst hx
  have e : Str.mk ((slicePicked (txt a b) none none (some (-1, uk))).filterMap ((txt a b).cps[·]?)).toArray = txt b a := by
    have e1 : slicePicked (txt a b) none none (some (-1, uk)) = (List.range (txt a b).cps.size).reverse := by
      show Builtin.Str.strSliceIndices none none (-1) (txt a b).length = _
      have e2 : Builtin.Str.strSliceIndices none none (-1) (txt a b).length = sliceRange (((txt a b).cps.size : Int) - 1) (-1) (-1) := rfl
      rw [e2, krv_sliceRange, krv_range]
    rw [e1, List.filterMap_reverse, krv_all]
    show Str.mk (txtL a b).reverse.toArray = Str.mk (txtL b a).toArray
    rw [txt_rev]
  unfold sliceMade
  refine post_val_or_str ?_
  have hc : ¬ ((((some ((-1 : Int), uk)).map (·.1)).getD 1 == 1 && (slicePicked (txt a b) none none (some (-1, uk))).length == (txt a b).length) = true) := by
    simp
  rw [if_neg hc, e]
  exact ⟨by rw [txt_len, sizeLine_eq]; omega, h⟩
theorem str_rev {prog : Program} {w : World} {A : Around} {E : Value → Shared → Prop} {s : Shared} {value slice : PySem.Expr} {h₀ : Heap} {L : Addr} {m : Str → Option Value} {news : Led} {x : Str} {t uk : Tok} {a b : Nat} {Q : Value → Shared → Prop} (hF : Fr h₀ L s.heap m) (hN : News h₀ L s.heap news) (hx : x = txt a b) (hsz : a + b ≤ 1000)
    (h : ∀ v t' h' k, v = txt b a → v.length = a + b + 1 → Fr h₀ L h' m → News h₀ L h' news → Q (.str v t') { s with heap := h', toks := k })
    (hs : subscripted slice false (.str x t) (.ref s.heap.objs.size) = operate [.ref s.heap.objs.size, .str x t] (getItem (.str x t) (.ref s.heap.objs.size)))
    (ht : ∀ r, letTemporaryGo value (.str x t) r = pure ()) :
    wpAny (model prog w) A (subscriptTail value slice (.str x t) (.ref s.heap.objs.size)) Q E { s with heap := s.heap.push { cls := .type "slice", data := .fields #[.none, .none, .int (-1) uk] } } := by
  have K := (keptFrN (h₀ := h₀) (L := L) (m := m) (news := news)) s.heap { cls := .type "slice", data := .fields #[.none, .none, .int (-1) uk] } ⟨hF, hN⟩
  exact tail_of_ItemOn ⟨"str", _, F.slot_str_getitem.lookup, typeIs_str _ _ _, wpAny_getItem_str_slice (l := none) (u := none) (st := some (-1, uk)) ⟨_, Heap.get?_push_size _ rfl, rfl, rfl⟩ rfl
    (made_rev hx hsz fun t' k => h _ t' _ k rfl (by rw [txt_len]; omega) K.1 K.2)⟩ hs ht
theorem strip_tel (w : World) (mean : ExcName → Option Value) (mg mb : Str → Option Value) {u : Str} {t t' : Tok} {x y kn : Nat} {k : Int} (hu : u = txt x y) (hk : k = (kn : Int)) (h1 : kn ≤ x + y) (h2 : x + y ≤ 1000) :
    Tel w mean mg mb 2 28 [.str u t, .int k t'] (fun _ => True) (fun _ tl r => tl = [] ∧ ∃ v t, r = .str v t ∧ v = txt (x - kn) (y - (kn - x)) ∧ v.length ≤ x + y + 1) := by
  subst hu; subst hk
  unfold Tel
  intro dp un gd cn cs a ccd cl outer A₀ base h₀ L m news s Q E B F X N T hk hneed hd hu hret
  refine strip_tells w mean mg mb (x, y, kn) dp un gd cn cs a ccd cl outer A₀ base h₀ L m news s _ Q E B F X N T hk ⟨t, t', rfl⟩ ⟨h1, h2⟩ hd (by show un + 8 * 2 < cLine; omega) ?_
  intro r tl h' tk' F' N' _ htl ⟨t9, e9⟩
  have htl' : tl = [] := htl
  subst htl'
  exact hret r [] h' tk' F' (by simpa using N') ⟨rfl, txt (x - kn) (y - (kn - x)), t9, e9, rfl, by rw [txt_len]; omega⟩
end TL
namespace TL
noncomputable def quots : Nat → Nat → Nat → List Int
  | 0, _, _ => []
  | f + 1, a, b => if b = 0 then [] else ((a / b : Nat) : Int) :: quots f b (a % b)
def QInv (whole part : Nat) (text : Str) (qs : List Int) (a b : Nat) : Prop :=
  text = txt a b ∧ a ≤ 46 ∧ b ≤ 46 ∧ qs.length ≤ 12 ∧ qs ++ quots (12 - qs.length) a b = quots 12 whole part
theorem q_start {whole part : Nat} {T0 : Str} (e : T0 = txt whole part) (h2 : whole ≤ 46) (h4 : part < whole) : ([] : List Int).length ≤ 12 ∧ ∃ a b, QInv whole part T0 [] a b :=
  ⟨by simp, whole, part, e, h2, by omega, by simp, rfl⟩
theorem il_start {a b : Nat} : (0 : Int) = if (a : Int) < b + (([] : List Int).length : Int) then ((a / b : Nat) : Int) else 0 := by
  split
  · rename_i h
    simp only [List.length_nil] at h
    rw [Nat.div_eq_of_lt (by omega)]; rfl
  · rfl
theorem ints_snoc {vs : List Value} {ns : List Int} {n : Int} {t : Tok} (h : IntsAre vs ns) : IntsAre (vs ++ [.int n t]) (ns ++ [n]) := by
  induction h with
  | nil => exact .cons _ _ .nil
  | cons a b _ ih => exact .cons a b ih
theorem il_val {qa qb : Nat} {il : Int} {cs : List Int} (h : il = if (qa : Int) < qb + ((rangeKs (qb : Int) ((cs.length : Int) - qb).toNat).length : Int) then ((qa / qb : Nat) : Int) else 0) (hc : cs.length = qa + 1) : il = ((qa / qb : Nat) : Int) := by
  rw [h, rangeKs_length, if_pos (by omega)]
theorem quot_val {qa qb : Nat} {il : Int} {cs : List Int} (h : il = if (qa : Int) < qb + ((rangeKs (qb : Int) ((cs.length : Int) - qb).toNat).length : Int) then ((qa / qb : Nat) : Int) else 0) (hc : cs.length = qa + 1) (hb : (qb : Int) ≠ 0) :
    ((qb : Int) + qb * (il + 1)).fdiv qb - 2 = ((qa / qb : Nat) : Int) := by
  rw [il_val h hc]
  have e : (qb : Int) + qb * (((qa / qb : Nat) : Int) + 1) = qb * (((qa / qb : Nat) : Int) + 2) := by
    rw [Int.mul_add, Int.mul_add]; omega
  rw [e, Int.mul_fdiv_cancel_left _ hb]
  omega
theorem amt_odd {qa qb : Nat} {il : Int} {cs : List Int} (h : il = if (qa : Int) < qb + ((rangeKs (qb : Int) ((cs.length : Int) - qb).toNat).length : Int) then ((qa / qb : Nat) : Int) else 0) (hc : cs.length = qa + 1) (hb : (qb : Int) ≠ 0) :
    (qb : Int) * (((qb : Int) + qb * (il + 1)).fdiv qb - 2) = ((qb * (qa / qb) : Nat) : Int) := by
  rw [quot_val h hc hb, Int.natCast_mul]
theorem amt_even {qa qb : Nat} {il : Int} {cs : List Int} (h : il = if (qa : Int) < qb + ((rangeKs (qb : Int) ((cs.length : Int) - qb).toNat).length : Int) then ((qa / qb : Nat) : Int) else 0) (hc : cs.length = qa + 1) (hb : (qb : Int) ≠ 0) :
    (qb : Int) * (((qb : Int) + qb * (il + 1)).fdiv qb - 2 + 1) = ((qb * (qa / qb + 1) : Nat) : Int) := by
  rw [quot_val h hc hb, Int.natCast_mul]; rfl
theorem amt_le1 (qa qb : Nat) : qb * (qa / qb) ≤ qa + qb := Nat.le_trans (Nat.mul_div_le qa qb) (Nat.le_add_right _ _)
theorem amt_le2 (qa qb : Nat) : qb * (qa / qb + 1) ≤ qb + qa := by
  have := Nat.mul_div_le qa qb
  rw [Nat.mul_add]; omega
theorem txt_odd (qa qb : Nat) : txt (qb - (qb * (qa / qb) - qa)) (qa - qb * (qa / qb)) = txt qb (qa % qb) := by
  have h1 := Nat.mul_div_le qa qb
  have h2 := Nat.div_add_mod qa qb
  have e1 : qb - (qb * (qa / qb) - qa) = qb := by omega
  have e2 : qa - qb * (qa / qb) = qa % qb := by omega
  rw [e1, e2]
theorem txt_even (qa qb : Nat) : Txt.mul (Str.ofString " ") (qb : Int) ++ txt (qb - qb * (qa / qb + 1)) (qa - (qb * (qa / qb + 1) - qb)) = txt qb (qa % qb) := by
  have h1 := Nat.mul_div_le qa qb
  have h2 := Nat.div_add_mod qa qb
  have h3 : qb * (qa / qb + 1) = qb * (qa / qb) + qb := by rw [Nat.mul_add]; omega
  have e1 : qb - qb * (qa / qb + 1) = 0 := by omega
  have e2 : qa - (qb * (qa / qb + 1) - qb) = qa % qb := by omega
  rw [e1, e2, txt_add]; rfl
theorem q_turn {whole part qa qb : Nat} {qs : List Int} {q : Int} {T : Str} (hQ5 : qs ++ quots (12 - qs.length) qa qb = quots 12 whole part) (hQ3 : qb ≤ 46) (hlt : (qs.length : Int) < 12) (hb : (qb : Int) ≠ 0) (hq : q = ((qa / qb : Nat) : Int)) (hT : T = txt qb (qa % qb)) :
    (qs ++ [q]).length ≤ 12 ∧ ∃ a b, QInv whole part T (qs ++ [q]) a b := by
  have hl : (qs ++ [q]).length = qs.length + 1 := by simp
  refine ⟨by omega, qb, qa % qb, hT, hQ3, ?_, by omega, ?_⟩
  · have := Nat.mod_lt qa (show 0 < qb by omega); omega
  · rw [hl, ← hQ5, hq, List.append_assoc]
    have e : 12 - qs.length = (12 - (qs.length + 1)) + 1 := by omega
    rw [e]
    have hb' : qb ≠ 0 := by omega
    simp only [quots, if_neg hb', List.cons_append, List.nil_append]
theorem q_brk {whole part qa qb : Nat} {qs : List Int} (hQ5 : qs ++ quots (12 - qs.length) qa qb = quots 12 whole part) (h : (qb : Int) = 0) : qs = quots 12 whole part := by
  have e : qb = 0 := by omega
  subst e
  have e2 : quots (12 - qs.length) qa 0 = [] := by
    cases 12 - qs.length with
    | zero => rfl
    | succ n => simp [quots]
  rw [← hQ5, e2, List.append_nil]
theorem q_fin {whole part : Nat} {qs : List Int} {T : Str} (h : ∃ a b, QInv whole part T qs a b) (hlt : ¬ (qs.length : Int) < 12) : qs = quots 12 whole part := by
  obtain ⟨a, b, _, _, _, h4, h5⟩ := h
  have e : 12 - qs.length = 0 := by omega
  rw [e] at h5
  simpa [quots] using h5
theorem ints_done {vs : List Value} {ns ns' : List Int} (h : IntsAre vs ns) (e : ns = ns') : IntsAre vs ns' := e ▸ h
theorem il_turn {qa qb : Nat} {il k : Int} {pre cs : List Int} (hcs : cs = List.replicate qa 0 ++ [1]) (hL : cs.length = qa + 1) (hb : (qb : Int) ≠ 0) (hk : k = qb + (pre.length : Int)) (hlt : pre.length < ((cs.length : Int) - qb).toNat) (h : il = if (qa : Int) < qb + (pre.length : Int) then ((qa / qb : Nat) : Int) else 0) :
    il + k.fdiv qb * cs.getD k.toNat 0 = if (qa : Int) < qb + ((pre ++ [k]).length : Int) then ((qa / qb : Nat) : Int) else 0 := by
  have hle : pre.length + qb ≤ qa := by omega
  rw [if_neg (by omega)] at h
  have e1 : k.toNat = qb + pre.length := by omega
  rw [e1, cnt_get hcs (by omega), List.length_append, List.length_singleton, h]
  by_cases e : qb + pre.length = qa
  · rw [if_pos e, if_pos (by omega)]
    have e2 : k = (qa : Int) := by omega
    rw [e2, Int.fdiv_eq_ediv_of_nonneg _ (by omega)]
    simp
  · rw [if_neg e, if_neg (by omega)]; simp
theorem mulOk_cnt {a : Nat} {cs : List Int} (h : cs = List.replicate a 0 ++ [1]) (x : Int) (i : Nat) : IntMulOk x (cs.getD i 0) := by
  have hv : cs.getD i 0 = 0 ∨ cs.getD i 0 = 1 := by
    by_cases hi : i ≤ a
    · rw [cnt_get h hi]; split <;> simp
    · left
      rw [List.getD_eq_getElem?_getD, List.getElem?_eq_none (by rw [cnt_len h]; omega)]; rfl
  have h0 : 0 ≤ cs.getD i 0 := by omega
  have h1 : cs.getD i 0 ≤ 1 := by omega
  generalize cs.getD i 0 = c at h0 h1
  mul_fits
local macro_rules | `(tactic| mul_fits) => `(tactic| exact mulOk_cnt (by assumption) _ _)
local macro_rules | `(tactic| walk_at "call ref") => `(tactic| (k_here; k_dflt (refine' add_tells _ _ _ _ _ _ _ _  _ _ _ _ _ _ _ _ _ _ _ _ _ _ _ _ _ _ ?k1 ?k2 ?k3 ?k4 ?k5 ?kK ?kn ?kd ?ku ?_; (case k1 => k_asm); (case k2 => k_asm); (case k3 => k_asm); (case k4 => k_asm); (case k5 => k_asm); (case kK => first | exact rfl | assumption); (case kn => trivial); (case kd => ktr_room); (case ku => ktr_units)); intro r9 tl9 h9 tk9 F9 N9 ho9; obtain ⟨e9, t9, e8⟩ := ho9; subst e9; subst e8; (try dsimp only [List.nil_append] at N9); (try k_sweep); (try dsimp only); (try k_fold)))
local macro_rules | `(tactic| walk_at "call ref") => `(tactic| (k_here; k_dflt (refine' sub_tells _ _ _ _ _ _ _ _  _ _ _ _ _ _ _ _ _ _ _ _ _ _ _ _ _ _ ?k1 ?k2 ?k3 ?k4 ?k5 ?kK ?kn ?kd ?ku ?_; (case k1 => k_asm); (case k2 => k_asm); (case k3 => k_asm); (case k4 => k_asm); (case k5 => k_asm); (case kK => first | exact rfl | assumption); (case kn => trivial); (case kd => ktr_room); (case ku => ktr_units)); intro r9 tl9 h9 tk9 F9 N9 ho9; obtain ⟨e9, t9, e8⟩ := ho9; subst e9; subst e8; (try dsimp only [List.nil_append] at N9); (try k_sweep); (try dsimp only); (try k_fold)))
local macro_rules | `(tactic| walk_at "call ref") => `(tactic| (k_here; k_dflt (refine' mul_tells _ _ _ _ _ _ _ _ ?p0 _ _ _ _ _ _ _ _ _ _ _ _ _ _ _ _ _ _ ?k1 ?k2 ?k3 ?k4 ?k5 ?kK ?kn ?kd ?ku ?_; (case k1 => k_asm); (case k2 => k_asm); (case k3 => k_asm); (case k4 => k_asm); (case k5 => k_asm); (case kK => first | exact rfl | assumption); (case kn => trivial); (case p0 => exact mulOk_small (by omega) (by omega)); (case kd => ktr_room); (case ku => ktr_units)); intro r9 tl9 h9 tk9 F9 N9 ho9; obtain ⟨e9, t9, e8⟩ := ho9; subst e9; subst e8; (try dsimp only [List.nil_append] at N9); (try k_sweep); (try dsimp only); (try k_fold)))
local macro_rules | `(tactic| walk_at "call ref") => `(tactic| (k_here; k_dflt (refine' strip_tel _ _ _ _ ?p0 ?p1 ?p2 ?p3 _ _ _ _ _ _ _ _ _ _ _ _ _ _ _ _ _ _ ?k1 ?k2 ?k3 ?k4 ?k5 ?kK ?kn ?kd ?ku ?_; (case k1 => k_asm); (case k2 => k_asm); (case k3 => k_asm); (case k4 => k_asm); (case k5 => k_asm); (case kK => first | exact rfl | assumption); (case kn => trivial); (case p0 => first | assumption | exact sliceBy_rev (by assumption)); (case p1 => first | exact amt_odd (by assumption) (by assumption) (by assumption) | exact amt_even (by assumption) (by assumption) (by assumption)); (case p2 => first | exact amt_le1 _ _ | exact amt_le2 _ _); (case p3 => omega); (case kd => ktr_room); (case ku => ktr_units)); intro r9 tl9 h9 tk9 F9 N9 ho9; obtain ⟨e9, v9, t9, e8, hv9, hvl9⟩ := ho9; subst e9; subst e8; (try dsimp only [List.nil_append] at N9); (try k_sweep); (try dsimp only); (try k_fold)))
local macro_rules | `(tactic| walk_at "subscriptTail") => `(tactic| (k_here; (with_reducible show wpAny _ _ (subscriptTail _ (PySem.Expr.Slice none none (some _) _) (Value.str _ _) (Value.ref _)) _ _ _); k_dflt (refine' str_rev ?F ?N ?x ?z ?_ ?s ?t; (case F => k_asm); (case N => k_asm); (case x => assumption); (case z => omega); (case s => with_unfolding_all rfl); (case t => kmk_pure); k_whole); intro v' t' h' k' hv' hvl' F' N'; (try k_sweep)))
local macro_rules | `(tactic| walk_at "InvEndG") => `(tactic| first
  | (refine ws_endB4 (by assumption) (by assumption) (by assumption) (by assumption) (by assumption) (by with_unfolding_all rfl) (by with_unfolding_all rfl) (by with_unfolding_all rfl) (by with_unfolding_all rfl) ?_; (intro z h1 h2 h3 h4 h5; simp [h1, h2, h3, h4, h5]; done))
  | (refine ws_endT4 (by assumption) (by assumption) (by assumption) (by assumption) (by assumption) (cnt_eq _) (by with_unfolding_all rfl) (by with_unfolding_all rfl) (by with_unfolding_all rfl) (by with_unfolding_all rfl) ?_; (intro z h1 h2 h3 h4 h5; simp [h1, h2, h3, h4, h5]; done)))
local macro_rules | `(tactic| walk_at "call type:tuple") => `(tactic| (k_here; (with_reducible show wpAny _ _ (call (Value.type _) [Value.ref _]) _ _ _); k_dflt (refine' tuple_ofN ?k1 ?k2 ?k3 ?z ?_; (case k1 => k_asm); (case k2 => k_asm); (case k3 => exact News.isList (by k_asm) (by k_mem)); (case z => exact cnt_size (by assumption) (by assumption) (by assumption)); k_whole); intro D' h' F' N' l1; (try k_lt l1); (try k_sweep)))
local macro_rules | `(tactic| walk_at "call builtin:len") => `(tactic| (k_here; (with_reducible show wpAny _ _ (call (Value.builtin "len") [Value.ref _]) _ _ _); k_dflt (refine' tlen ?k1 ?k2 ?k3 ?_; (case k1 => exact News.isTup (by k_asm) (by k_mem)); (case k2 => assumption); (case k3 => omega); k_whole)))
local macro_rules | `(tactic| walk_at "subscriptTail") => `(tactic| (k_here; (with_reducible show wpAny _ _ (subscriptTail _ _ (Value.ref _) (Value.int _ _)) _ _ _); k_dflt (refine' item_tuple_ints ?k1 ?k2 ?k3 ?k4 ?k5 ?_ ?k6 ?k7; (case k1 => exact News.isTup (by k_asm) (by k_mem)); (case k2 => assumption); (case k3 => omega); (case k4 => omega); (case k5 => omega); (case k6 => with_unfolding_all rfl); (case k7 => (intro _; with_unfolding_all rfl)); k_whole); intro t'))
local macro_rules | `(tactic| k_room) => `(tactic| ktr_room)
local macro_rules | `(tactic| walk_at "KswEnd") => `(tactic| ((rename News _ _ _ _ => nE'); (try simp only [List.push_toArray] at nE'); (refine ksw_end (_, _, _, _, _) (by assumption) nE' (by kst_in) (by kst_facts) (by kst_all) (by ksw_same) (by kst_p) (by ksw_less))))
local macro_rules | `(tactic| kst_in) => `(tactic| (k_dflt (refine List.forall_mem_cons.mpr ⟨?_, List.forall_mem_cons.mpr ⟨?_, ?_⟩⟩; (· k_memK); (· k_memK); (· (intro p9 h9; kst_mem)))))
local macro_rules | `(tactic| kst_facts1) => `(tactic| first | exact ints_snoc (by assumption) | exact IntsAre.nil)
set_option maxRecDepth 100000 in
set_option maxHeartbeats 8000000 in
theorem quot_tells (w : World) (mean : ExcName → Option Value) (mg mb : Str → Option Value) (whole part : Nat) (tw tp : Tok) (h1 : 7 ≤ whole) (h2 : whole ≤ 46) (h3 : 1 ≤ part) (h4 : part < whole) :
    Tel w mean mg mb 8 136 [.int (whole : Int) tw, .int (part : Int) tp] (fun _ => True) (IntsNew (quots 12 whole part)) := by
  unfold Tel
  k_with_none
  w_top off
  k_fill
  intro dp un gd cn cs a ccd cl outer A₀ base h₀ L m news s Q E B F X N T hk hneed hd hu hret
  refine wpAny_call ?_
  k_dflt ktr_enter
  k_with "exec While Compare cons nil" =>
    rename Fr _ _ _ _ => lF'
    rename News _ _ _ _ => lN'
    rw [txt_make whole part] at lF' lN'
    have hT0 : ∃ T0, T0 = txt whole part := ⟨_, rfl⟩
    obtain ⟨T0, hT0⟩ := hT0
    rw [← hT0] at lF' lN'
    k_while_given [] (fun (_ : List Int) (text : Str) (qs : List Int) => qs.length ≤ 12 ∧ ∃ a b, QInv whole part text qs a b) (fun (_ : List Int) (_ : Str) (qs : List Int) => 12 - qs.length) "text" "quotients"
  k_with "pyIter str" =>
    k_of "ch" =>
      rename Exists _ => hX
      obtain ⟨qa, qb, hQ⟩ := hX
      obtain ⟨hQ1, hQ2, hQ3, hQ4, hQ5⟩ := hQ
      rename Fr _ _ _ _ => lF'
      rename News _ _ _ _ => lN'
      with_unfolding_all refine' ws_loop hQ1 (by rfl) lF' lN' (fun p hp => Nat.ne_of_lt (ktn_ltOf (by assumption) p hp)) (by rfl) (by rfl) (by rfl) (by rfl) ?_ ?_ ?_
      clear lF' lN'
      intro wi wb wt ns t tn tb tt l vs k h tk own hi0 hb0 hi1 hb1 hl9 hI9 hoff9 F9 N9
      dsimp only [wsP, kstB] at F9
      rotate_left
      clear lF' lN'
      intro t tn tb tt l vs k h tk own hl9 hI9 hoff9 F9 N9
      dsimp only [wsP, kstB] at F9
      rotate_left
      clear lF' lN'
      intro u tn tb tt l vs k h tk hl9 hI9 F9 N9
      dsimp only [wsP, kstB] at F9
      have hl8 := allNe_of hl9
      simp only [AllNe] at hl8
      have hcs : ∃ cs, cs = List.replicate qa (0 : Int) ++ [1] := ⟨_, rfl⟩
      obtain ⟨cs, hcs⟩ := hcs
      rw [← hcs] at hI9
      have hL9 := cnt_len hcs
      rotate_left
  k_with "pyIter ref" =>
    k_of "i" =>
      k_state (fun pre il => il = if (qa : Int) < qb + (pre.length : Int) then ((qa / qb : Nat) : Int) else 0) "il"
  k_with "state" => exact il_turn (by assumption) (by assumption) (by assumption) (by assumption) (by assumption) (by assumption)
  k_with "state" => exact il_start
  k_with "state" => exact q_turn (by assumption) (by assumption) (by assumption) (by assumption) (quot_val (by assumption) (by assumption) (by assumption)) (Eq.trans (sliceBy_rev (by assumption)) (txt_odd _ _))
  k_with "state" => exact q_turn (by assumption) (by assumption) (by assumption) (by assumption) (quot_val (by assumption) (by assumption) (by assumption)) (Eq.trans (congrArg (fun v => Txt.mul (Str.ofString " ") _ ++ v) (by assumption)) (txt_even _ _))
  k_with "state" => exact q_start (by assumption) (by assumption) (by assumption)
  k_steps
  all_goals
    refine hret _ [_] _ _ (by assumption) (cb_drop (by assumption) (List.forall_mem_cons.mpr ⟨by k_memK, fun p h9 => by kst_mem⟩)) ⟨_, _, _, rfl, rfl, ints_done (by assumption) ?_, allLt_of (by assumption)⟩
    first | exact q_brk (by assumption) (by assumption) | exact q_fin (by assumption) (by assumption)
end TL
namespace TL
def partsF (W : Int) : List Int := List.foldl (fun (l' : List Int) (k' : Int) => if ((Int.gcd W k' : Nat) : Int) = 1 then l' ++ [k'] else l') [] (rangeKs 1 (((W + 1).fdiv 2 - 1).toNat))
def stepsF (fr bk : List Int) (last : Nat) : List T5 :=
  (rangeKs 1 (last - 1)).map fun k => (fr.getD k.toNat 0, fr.getD (k - 1).toNat 0, bk.getD ((last : Int) - k).toNat 0, bk.getD ((last : Int) - k - 1).toNat 0, if Int.fmod k 2 = 0 then -1 else 1)
noncomputable def pairOk (wh pa : Nat) : Bool :=
  let qs := quots 12 wh pa
  let fr := (frF qs).1
  let bk := (frF qs.reverse).1
  decide (1 ≤ pa) && decide (2 * pa < wh + 1) && decide (pa < wh) && decide (1 ≤ qs.length) && decide (qs.length ≤ 12) && qs.all (fun q => decide (0 ≤ q) && decide (q ≤ 1000))
    && decide (fr.length = qs.length + 1) && decide (bk.length = qs.length + 1)
    && decide (fr.getD qs.length 0 = (wh : Int)) && decide (bk.getD (qs.length - 1) 0 = (pa : Int))
    && decide (stepsF fr bk qs.length = partedF (wh : Int) (pa : Int))
noncomputable def wholeOk (wh : Nat) : Bool :=
  let P := partsF (wh : Int)
  decide (0 < P.length) && decide (P.length ≤ 30) && P.all (fun p => decide (0 ≤ p) && pairOk wh p.toNat)
set_option maxRecDepth 100000 in
theorem wholeAt7 : wholeOk 7 = true := by decide +kernel
set_option maxRecDepth 100000 in
theorem wholeAt8 : wholeOk 8 = true := by decide +kernel
set_option maxRecDepth 100000 in
theorem wholeAt9 : wholeOk 9 = true := by decide +kernel
set_option maxRecDepth 100000 in
theorem wholeAt10 : wholeOk 10 = true := by decide +kernel
set_option maxRecDepth 100000 in
theorem wholeAt11 : wholeOk 11 = true := by decide +kernel
set_option maxRecDepth 100000 in
theorem wholeAt12 : wholeOk 12 = true := by decide +kernel
set_option maxRecDepth 100000 in
theorem wholeAt13 : wholeOk 13 = true := by decide +kernel
set_option maxRecDepth 100000 in
theorem wholeAt14 : wholeOk 14 = true := by decide +kernel
set_option maxRecDepth 100000 in
theorem wholeAt15 : wholeOk 15 = true := by decide +kernel
set_option maxRecDepth 100000 in
theorem wholeAt16 : wholeOk 16 = true := by decide +kernel
set_option maxRecDepth 100000 in
theorem wholeAt17 : wholeOk 17 = true := by decide +kernel
set_option maxRecDepth 100000 in
theorem wholeAt18 : wholeOk 18 = true := by decide +kernel
set_option maxRecDepth 100000 in
theorem wholeAt19 : wholeOk 19 = true := by decide +kernel
set_option maxRecDepth 100000 in
theorem wholeAt20 : wholeOk 20 = true := by decide +kernel
set_option maxRecDepth 100000 in
theorem wholeAt21 : wholeOk 21 = true := by decide +kernel
set_option maxRecDepth 100000 in
theorem wholeAt22 : wholeOk 22 = true := by decide +kernel
set_option maxRecDepth 100000 in
theorem wholeAt23 : wholeOk 23 = true := by decide +kernel
set_option maxRecDepth 100000 in
theorem wholeAt24 : wholeOk 24 = true := by decide +kernel
set_option maxRecDepth 100000 in
theorem wholeAt25 : wholeOk 25 = true := by decide +kernel
set_option maxRecDepth 100000 in
theorem wholeAt26 : wholeOk 26 = true := by decide +kernel
set_option maxRecDepth 100000 in
theorem wholeAt27 : wholeOk 27 = true := by decide +kernel
set_option maxRecDepth 100000 in
theorem wholeAt28 : wholeOk 28 = true := by decide +kernel
set_option maxRecDepth 100000 in
theorem wholeAt29 : wholeOk 29 = true := by decide +kernel
set_option maxRecDepth 100000 in
theorem wholeAt30 : wholeOk 30 = true := by decide +kernel
set_option maxRecDepth 100000 in
theorem wholeAt31 : wholeOk 31 = true := by decide +kernel
set_option maxRecDepth 100000 in
theorem wholeAt32 : wholeOk 32 = true := by decide +kernel
set_option maxRecDepth 100000 in
theorem wholeAt33 : wholeOk 33 = true := by decide +kernel
set_option maxRecDepth 100000 in
theorem wholeAt34 : wholeOk 34 = true := by decide +kernel
set_option maxRecDepth 100000 in
theorem wholeAt35 : wholeOk 35 = true := by decide +kernel
set_option maxRecDepth 100000 in
theorem wholeAt36 : wholeOk 36 = true := by decide +kernel
set_option maxRecDepth 100000 in
theorem wholeAt37 : wholeOk 37 = true := by decide +kernel
set_option maxRecDepth 100000 in
theorem wholeAt38 : wholeOk 38 = true := by decide +kernel
set_option maxRecDepth 100000 in
theorem wholeAt39 : wholeOk 39 = true := by decide +kernel
set_option maxRecDepth 100000 in
theorem wholeAt40 : wholeOk 40 = true := by decide +kernel
set_option maxRecDepth 100000 in
theorem wholeAt41 : wholeOk 41 = true := by decide +kernel
set_option maxRecDepth 100000 in
theorem wholeAt42 : wholeOk 42 = true := by decide +kernel
set_option maxRecDepth 100000 in
theorem wholeAt43 : wholeOk 43 = true := by decide +kernel
set_option maxRecDepth 100000 in
theorem wholeAt44 : wholeOk 44 = true := by decide +kernel
set_option maxRecDepth 100000 in
theorem wholeAt45 : wholeOk 45 = true := by decide +kernel
set_option maxRecDepth 100000 in
theorem wholeAt46 : wholeOk 46 = true := by decide +kernel
theorem whole_ok {wh : Nat} (h1 : 7 ≤ wh) (h2 : wh ≤ 46) : wholeOk wh = true := by
  by_cases h26 : wh ≤ 26
  ·
    by_cases h16 : wh ≤ 16
    ·
      by_cases h11 : wh ≤ 11
      ·
        by_cases h9 : wh ≤ 9
        ·
          by_cases h8 : wh ≤ 8
          ·
            by_cases h7 : wh ≤ 7
            ·
              (have e : wh = 7 := by omega); subst e; exact wholeAt7
            ·
              (have e : wh = 8 := by omega); subst e; exact wholeAt8
          ·
            (have e : wh = 9 := by omega); subst e; exact wholeAt9
        ·
          by_cases h10 : wh ≤ 10
          ·
            (have e : wh = 10 := by omega); subst e; exact wholeAt10
          ·
            (have e : wh = 11 := by omega); subst e; exact wholeAt11
      ·
        by_cases h14 : wh ≤ 14
        ·
          by_cases h13 : wh ≤ 13
          ·
            by_cases h12 : wh ≤ 12
            ·
              (have e : wh = 12 := by omega); subst e; exact wholeAt12
            ·
              (have e : wh = 13 := by omega); subst e; exact wholeAt13
          ·
            (have e : wh = 14 := by omega); subst e; exact wholeAt14
        ·
          by_cases h15 : wh ≤ 15
          ·
            (have e : wh = 15 := by omega); subst e; exact wholeAt15
          ·
            (have e : wh = 16 := by omega); subst e; exact wholeAt16
    ·
      by_cases h21 : wh ≤ 21
      ·
        by_cases h19 : wh ≤ 19
        ·
          by_cases h18 : wh ≤ 18
          ·
            by_cases h17 : wh ≤ 17
            ·
              (have e : wh = 17 := by omega); subst e; exact wholeAt17
            ·
              (have e : wh = 18 := by omega); subst e; exact wholeAt18
          ·
            (have e : wh = 19 := by omega); subst e; exact wholeAt19
        ·
          by_cases h20 : wh ≤ 20
          ·
            (have e : wh = 20 := by omega); subst e; exact wholeAt20
          ·
            (have e : wh = 21 := by omega); subst e; exact wholeAt21
      ·
        by_cases h24 : wh ≤ 24
        ·
          by_cases h23 : wh ≤ 23
          ·
            by_cases h22 : wh ≤ 22
            ·
              (have e : wh = 22 := by omega); subst e; exact wholeAt22
            ·
              (have e : wh = 23 := by omega); subst e; exact wholeAt23
          ·
            (have e : wh = 24 := by omega); subst e; exact wholeAt24
        ·
          by_cases h25 : wh ≤ 25
          ·
            (have e : wh = 25 := by omega); subst e; exact wholeAt25
          ·
            (have e : wh = 26 := by omega); subst e; exact wholeAt26
  ·
    by_cases h36 : wh ≤ 36
    ·
      by_cases h31 : wh ≤ 31
      ·
        by_cases h29 : wh ≤ 29
        ·
          by_cases h28 : wh ≤ 28
          ·
            by_cases h27 : wh ≤ 27
            ·
              (have e : wh = 27 := by omega); subst e; exact wholeAt27
            ·
              (have e : wh = 28 := by omega); subst e; exact wholeAt28
          ·
            (have e : wh = 29 := by omega); subst e; exact wholeAt29
        ·
          by_cases h30 : wh ≤ 30
          ·
            (have e : wh = 30 := by omega); subst e; exact wholeAt30
          ·
            (have e : wh = 31 := by omega); subst e; exact wholeAt31
      ·
        by_cases h34 : wh ≤ 34
        ·
          by_cases h33 : wh ≤ 33
          ·
            by_cases h32 : wh ≤ 32
            ·
              (have e : wh = 32 := by omega); subst e; exact wholeAt32
            ·
              (have e : wh = 33 := by omega); subst e; exact wholeAt33
          ·
            (have e : wh = 34 := by omega); subst e; exact wholeAt34
        ·
          by_cases h35 : wh ≤ 35
          ·
            (have e : wh = 35 := by omega); subst e; exact wholeAt35
          ·
            (have e : wh = 36 := by omega); subst e; exact wholeAt36
    ·
      by_cases h41 : wh ≤ 41
      ·
        by_cases h39 : wh ≤ 39
        ·
          by_cases h38 : wh ≤ 38
          ·
            by_cases h37 : wh ≤ 37
            ·
              (have e : wh = 37 := by omega); subst e; exact wholeAt37
            ·
              (have e : wh = 38 := by omega); subst e; exact wholeAt38
          ·
            (have e : wh = 39 := by omega); subst e; exact wholeAt39
        ·
          by_cases h40 : wh ≤ 40
          ·
            (have e : wh = 40 := by omega); subst e; exact wholeAt40
          ·
            (have e : wh = 41 := by omega); subst e; exact wholeAt41
      ·
        by_cases h44 : wh ≤ 44
        ·
          by_cases h43 : wh ≤ 43
          ·
            by_cases h42 : wh ≤ 42
            ·
              (have e : wh = 42 := by omega); subst e; exact wholeAt42
            ·
              (have e : wh = 43 := by omega); subst e; exact wholeAt43
          ·
            (have e : wh = 44 := by omega); subst e; exact wholeAt44
        ·
          by_cases h45 : wh ≤ 45
          ·
            (have e : wh = 45 := by omega); subst e; exact wholeAt45
          ·
            (have e : wh = 46 := by omega); subst e; exact wholeAt46
theorem parts_known {v : Int} {ys : List Value} (h0 : 0 ≤ v.fmod 40) (h1 : v.fmod 40 < 40)
    (hP : IntsAre ys (List.foldl (fun (l' : List Int) (k' : Int) => if ((Int.gcd (7 + v.fmod 40) k' : Nat) : Int) = 1 then l' ++ [k'] else l') [] (rangeKs 1 (((7 + v.fmod 40 + 1).fdiv 2 - 1).toNat)))) :
    ∃ (wh : Nat) (P : List Int), 7 + v.fmod 40 = (wh : Int) ∧ 7 ≤ wh ∧ wh ≤ 46 ∧ IntsAre ys P ∧ 0 < P.length ∧ P.length ≤ 30 ∧ ∀ p ∈ P, ∃ pa : Nat, p = (pa : Int) ∧ pairOk wh pa = true := by
  refine ⟨(7 + v.fmod 40).toNat, partsF (7 + v.fmod 40), by omega, by omega, by omega, hP, ?_⟩
  have hw := whole_ok (wh := (7 + v.fmod 40).toNat) (by omega) (by omega)
  unfold wholeOk at hw
  rw [show (((7 + v.fmod 40).toNat : Nat) : Int) = 7 + v.fmod 40 by omega] at hw
  simp only [Bool.and_eq_true, decide_eq_true_eq, List.all_eq_true] at hw
  refine ⟨hw.1.1, hw.1.2, fun p hp => ⟨p.toNat, ?_, (hw.2 p hp).2⟩⟩
  have := (hw.2 p hp).1
  omega
end TL
namespace TL
def T5El (news tl : Led) (d : T5) (y : Value) (news' : Led) : Prop := ∃ T ws k, y = .ref T ∧ news' = news ++ (T, ({ cls := .type "tuple", data := .seq (List.toArray ws) k } : Obj)) :: tl ∧ DatAll [] ws [.int d.1, .int d.2.1, .int d.2.2.1, .int d.2.2.2.1, .int d.2.2.2.2]
theorem t5_el {tl : Led} {T : Addr} {ws : List Value} {k : Nat} {d : T5} (hd : DatAll [] ws [.int d.1, .int d.2.1, .int d.2.2.1, .int d.2.2.2.1, .int d.2.2.2.2]) : DatIn ((T, ({ cls := .type "tuple", data := .seq (List.toArray ws) k } : Obj)) :: tl) (.ref T) (D5 d) :=
  DatIn.tuple (vs := ws) (n := k) (List.Mem.head _) (hd.mono fun _ hp => (List.not_mem_nil hp).elim)
section
variable {prog : Program} {w : World} {A : Around} {h₀ : Heap} {L : Addr} {m : Str → Option Value} {env : Env} {elt : PySem.Expr} {x : Str} {scope : Scope} {cl : List (Str × Addr)} {s : Shared} {Fin : List Value → List (Addr × Obj) → Prop} {news : Led}
theorem t5_comp {n : Nat} {a : Int} (g : Int → T5)
    (turn : ∀ k t I oI C oC D m₂ ys tl h tk (E' : Value → Shared → Prop), a ≤ k → k < a + (n : Int) → LCg.NsObj oC m₂ → m₂ x = some (.int k t) → Fr h₀ L h m → News h₀ L h ((I, oI) :: (C, oC) :: (D, LCg.lst ys) :: (news ++ tl)) → LCg.Off3 I C D (news ++ tl) → ((@Ne Nat I C) ∧ (@Ne Nat I D) ∧ (@Ne Nat C D)) →
      wpAny (model prog w) A (eval elt (compEnvC scope cl C env)) (LCg.CompEnd h₀ L m { s with heap := h, toks := tk } I oI C oC D (LCg.lst ys) (fun _ => True) (fun y news' => T5El news tl (g k) y news')) E' { s with heap := h, toks := tk })
    (fin : ∀ ys tl, DatAll tl ys (((rangeKs a n).map g).map D5) → Fin ys (news ++ tl)) :
    LCg.CompRest prog w A h₀ L m env elt x scope cl s (fun _ => True) (fun i v => ∃ t, v = .int (a + (i : Int)) t) Fin n 0 [] news := by
  have key : ∀ (j i : Nat) (ys : List Value) (tl : Led), i + j = n → DatAll tl ys (((rangeKs a i).map g).map D5) → LCg.CompRest prog w A h₀ L m env elt x scope cl s (fun _ => True) (fun i v => ∃ t, v = .int (a + (i : Int)) t) Fin j i ys (news ++ tl) := by
    intro j
    induction j with
    | zero =>
      intro i ys tl hi hy
      have e : i = n := by omega
      subst e
      exact LCg.CompRest.zero (fin ys tl hy)
    | succ j ih =>
      intro i ys tl hi hy
      refine LCg.CompRest.succ ?_
      intro v I oI C oC D m₂ h tk E' hv hC hx F N off ne
      obtain ⟨t, hv'⟩ := hv
      rw [hv'] at hx
      refine wpAny_mono (turn (a + (i : Int)) t I oI C oC D m₂ ys tl h tk E' (by omega) (by omega) hC hx F N off ne) (fun y s₂ hq => ?_) fun _ _ e => e
      obtain ⟨h', tk', nw, e, F', N', off', hS, T, ws, k, hy', hn, hd⟩ := hq
      subst hn
      refine ⟨h', tk', _, e, F', N', off', hS, ?_⟩
      rw [hy']
      refine ih (i + 1) _ _ (by omega) ?_
      rw [rangeKs_succ, List.map_append, List.map_append]
      exact DatAll.append (hy.mono fun p hp => .tail _ hp) (DatAll.one (t5_el hd))
  have := key n 0 [] [] (by omega) .nil
  rwa [List.append_nil] at this
theorem t5_steps {fr bk : List Int} {n : Nat} {W P : Int} (hS : stepsF fr bk n = partedF W P)
    (turn : ∀ k t I oI C oC D m₂ ys tl h tk (E' : Value → Shared → Prop), 1 ≤ k → k < (n : Int) → LCg.NsObj oC m₂ → m₂ x = some (.int k t) → Fr h₀ L h m → News h₀ L h ((I, oI) :: (C, oC) :: (D, LCg.lst ys) :: (news ++ tl)) → LCg.Off3 I C D (news ++ tl) → ((@Ne Nat I C) ∧ (@Ne Nat I D) ∧ (@Ne Nat C D)) →
      wpAny (model prog w) A (eval elt (compEnvC scope cl C env)) (LCg.CompEnd h₀ L m { s with heap := h, toks := tk } I oI C oC D (LCg.lst ys) (fun _ => True) (fun y news' => T5El news tl (fr.getD k.toNat 0, fr.getD (k - 1).toNat 0, bk.getD ((n : Int) - k).toNat 0, bk.getD ((n : Int) - k - 1).toNat 0, if Int.fmod k 2 = 0 then -1 else 1) y news')) E' { s with heap := h, toks := tk })
    (fin : ∀ ys tl, DatAll tl ys ((partedF W P).map D5) → Fin ys (news ++ tl)) :
    LCg.CompRest prog w A h₀ L m env elt x scope cl s (fun _ => True) (fun i v => ∃ t, v = .int (1 + (i : Int)) t) Fin ((n : Int) - 1).toNat 0 [] news := by
  rw [show ((n : Int) - 1).toNat = n - 1 by omega]
  refine t5_comp _ (fun k t I oI C oC D m₂ ys tl h tk E' h1 h2 hC hx F N off ne => turn k t I oI C oC D m₂ ys tl h tk E' h1 (by omega) hC hx F N off ne) (fun ys tl hD => fin ys tl ?_)
  rw [← hS]
  exact hD
theorem t5c_end {I C D T : Addr} {oI oC : Obj} {ys : List Value} {s₁ : Shared} {h' : Heap} {tk k : Nat} {tl : Led} {d : T5} {a1 a2 a3 a4 a5 : Int} {t1 t2 t3 t4 t5 : Tok} (F : Fr h₀ L h' m)
    (N : News h₀ L h' ((T, ({ cls := .type "tuple", data := .seq (List.toArray [.int a1 t1, .int a2 t2, .int a3 t3, .int a4 t4, .int a5 t5]) k } : Obj)) :: (I, oI) :: (C, oC) :: (D, LCg.lst ys) :: (news ++ tl)))
    (hlt : AllLt T ((I, oI) :: (C, oC) :: (D, LCg.lst ys) :: (news ++ tl))) (off : LCg.Off3 I C D (news ++ tl)) (e : (a1, a2, a3, a4, a5) = d) :
    LCg.CompEnd h₀ L m s₁ I oI C oC D (LCg.lst ys) (fun _ => True) (fun y news' => T5El news tl d y news') (.ref T) { s₁ with heap := h', toks := tk } := by
  subst e
  have lt := ktn_ltOf hlt
  have l1 := lt (I, oI) (by simp)
  have l2 := lt (C, oC) (by simp)
  have l3 := lt (D, LCg.lst ys) (by simp)
  refine LCg.CompEnd.intro F N _ ?_ (LCg.Off3.of fun p hp => ?_) trivial ⟨T, [.int a1 t1, .int a2 t2, .int a3 t3, .int a4 t4, .int a5 t5], k, rfl, rfl, .cons (.int _ _) (.cons (.int _ _) (.cons (.int _ _) (.cons (.int _ _) (.cons (.int _ _) .nil))))⟩
  · intro p hp
    simp only [List.mem_cons, List.mem_append] at hp ⊢
    rcases hp with h | h | h | h | h | h <;> simp [h]
  · rcases List.mem_append.mp hp with hp | hp
    · exact off.mem p (List.mem_append_left _ hp)
    · rcases List.mem_cons.mp hp with rfl | hp
      · exact ⟨(Nat.ne_of_lt l1).symm, (Nat.ne_of_lt l2).symm, (Nat.ne_of_lt l3).symm⟩
      · exact off.mem p (List.mem_append_right _ hp)
end
theorem t5_kqd (fs : List T5) : ∀ d ∈ fs.map D5, kqdOk 8 d = true := by
  intro d hd
  obtain ⟨x, _, hx⟩ := List.mem_map.mp hd
  subst hx; rfl
theorem t5_eq {prog : Program} {w : World} {A : Around} {E : Value → Shared → Prop} {s : Shared} {h₀ : Heap} {L a b : Addr} {news n₁ n₂ : Led} {xs ys : List Value} {kb : Nat} {fs gs : List T5} {Q : Value → Shared → Prop}
    (N : News h₀ L s.heap news) (ma : (a, LCg.lst xs) ∈ news) (Da : DatAll n₁ xs (fs.map D5)) (sa : ∀ p ∈ n₁, p ∈ news) (mb : (b, listOf ys.toArray kb) ∈ news) (Db : DatAll n₂ ys (gs.map D5)) (sb : ∀ p ∈ n₂, p ∈ news) (e : fs = gs)
    (hu : A.units + 64 < cLine) (h : Q (.bool true) s) : wpAny (model prog w) A (compareOp .Eq (.ref a) (.ref b)) Q E s := by
  subst e
  refine kqd_eq N ma rfl rfl Da sa mb rfl rfl Db sb (t5_kqd fs) (t5_kqd fs) hu ?_
  simpa using h
theorem parted_tel2 (w : World) (mean : ExcName → Option Value) (mg mb : Str → Option Value) {x y : Int} {wh pa : Nat} {tw tp : Tok} (hx : x = (wh : Int)) (hy : y = (pa : Int)) (h1 : 7 ≤ wh) (h2 : wh ≤ 46) (h3 : 1 ≤ pa) (h4 : pa < wh) :
    Tel w mean mg mb 4 150 [.int x tw, .int y tp] (fun _ => True) (T5New (partedF (wh : Int) (pa : Int))) := by
  subst hx; subst hy
  exact parted_tells w mean mg mb wh pa tw tp (by omega) (by omega) (by omega) (by omega)
theorem ite_ne_out {a b : Int} [d : Decidable ((a != b) = true)] {P Q : Prop} (e : a = b) (h : Q) : @ite Prop ((a != b) = true) d P Q := by
  subst e
  rw [if_neg (by simp)]
  exact h
theorem test_fr {fr : List Int} {n : Nat} {x wh : Int} (h8 : fr.getD n 0 = wh) (hw : x = wh) : fr.getD ((n : Nat) : Int).toNat 0 = x := by
  rw [Int.toNat_natCast, h8, hw]
theorem test_bk {bk : List Int} {n : Nat} {y pa : Int} (h9 : bk.getD (n - 1) 0 = pa) (e : y = pa) (h3 : 1 ≤ n) : bk.getD (((n : Nat) : Int) - 1).toNat 0 = y := by
  rw [show (((n : Nat) : Int) - 1).toNat = n - 1 by omega, h9, e]
theorem sub_two {q : Addr × Obj} {tl' news : Led} : ∀ z ∈ news ++ tl', z ∈ q :: (tl' ++ news) := fun z hz => .tail _ (List.mem_append.mpr (List.mem_append.mp hz).symm)
end TL
namespace TL
theorem common_tel (w : World) (mean : ExcName → Option Value) (mg mb : Str → Option Value) (x y : Int) (tx ty : Tok) (hx : 0 ≤ x) (hy : 0 ≤ y) :
    Tel w mean mg mb 2 129 [.int x tx, .int y ty] (fun _ => True) (fun _ tl r => tl = [] ∧ ∃ t, r = .int (Int.gcd x y : Nat) t) := by
  unfold Tel
  intro dp un gd cn cs a ccd cl outer A₀ base h₀ L m news s Q E B F X N T hk hneed hd hu hret
  refine common_tells w mean mg mb (x, y) dp un gd cn cs a ccd cl outer A₀ base h₀ L m news s _ Q E B F X N T hk ⟨tx, ty, rfl⟩ ⟨hx, hy⟩ hd (by show un + 8 * 2 < cLine; omega) ?_
  intro r tl h' tk' F' N' _ htl ⟨t9, e9⟩
  have htl' : tl = [] := htl
  subst htl'
  exact hret r [] h' tk' F' (by simpa using N') ⟨rfl, t9, e9⟩
theorem quot_tel (w : World) (mean : ExcName → Option Value) (mg mb : Str → Option Value) {x y : Int} {wh pa : Nat} {tw tp : Tok} (hx : x = (wh : Int)) (hy : y = (pa : Int)) (h1 : 7 ≤ wh) (h2 : wh ≤ 46) (h3 : 1 ≤ pa) (h4 : pa < wh) :
    Tel w mean mg mb 8 136 [.int x tw, .int y tp] (fun _ => True) (IntsNew (quots 12 wh pa)) := by
  subst hx; subst hy
  exact quot_tells w mean mg mb wh pa tw tp h1 h2 h3 h4
theorem pair_facts {wh pa : Nat} (h : pairOk wh pa = true) : 1 ≤ pa ∧ pa < wh ∧ 1 ≤ (quots 12 wh pa).length ∧ (quots 12 wh pa).length ≤ 12 ∧ (∀ q ∈ quots 12 wh pa, 0 ≤ q ∧ q ≤ 1000) ∧ (frF (quots 12 wh pa)).1.length = (quots 12 wh pa).length + 1 ∧ (frF (quots 12 wh pa).reverse).1.length = (quots 12 wh pa).length + 1 ∧ (frF (quots 12 wh pa)).1.getD (quots 12 wh pa).length 0 = (wh : Int) ∧ (frF (quots 12 wh pa).reverse).1.getD ((quots 12 wh pa).length - 1) 0 = (pa : Int) ∧ stepsF (frF (quots 12 wh pa)).1 (frF (quots 12 wh pa).reverse).1 (quots 12 wh pa).length = partedF (wh : Int) (pa : Int) := by
  unfold pairOk at h
  simp only [Bool.and_eq_true, decide_eq_true_eq, List.all_eq_true] at h
  obtain ⟨⟨⟨⟨⟨⟨⟨⟨⟨⟨a1, a2⟩, a3⟩, a4⟩, a5⟩, a6⟩, a7⟩, a8⟩, a9⟩, a10⟩, a11⟩ := h
  exact ⟨a1, a3, a4, a5, a6, a7, a8, a9, a10, a11⟩
theorem part_known {P : List Int} {wh : Nat} (n : Int) (hp1 : 0 < P.length) (hp3 : ∀ p ∈ P, ∃ pa : Nat, p = (pa : Int) ∧ pairOk wh pa = true) : ∃ pa : Nat, P.getD (n.fmod (P.length : Int)).toNat 0 = (pa : Int) ∧ pairOk wh pa = true := by
  have h0 : 0 ≤ n.fmod (P.length : Int) := Int.fmod_nonneg_of_pos _ (by omega)
  have h1 : n.fmod (P.length : Int) < (P.length : Int) := Int.fmod_lt_of_pos _ (by omega)
  have h2 : (n.fmod (P.length : Int)).toNat < P.length := by omega
  refine hp3 _ ?_
  rw [List.getD_eq_getElem?_getD, List.getElem?_eq_getElem h2, Option.getD_some]
  exact List.getElem_mem h2
theorem quot_tel2 (w : World) (mean : ExcName → Option Value) (mg mb : Str → Option Value) {x n : Int} {wh : Nat} {P : List Int} {tw tp : Tok} (hx : x = (wh : Int)) (h1 : 7 ≤ wh) (h2 : wh ≤ 46) (hp1 : 0 < P.length) (hp3 : ∀ p ∈ P, ∃ pa : Nat, p = (pa : Int) ∧ pairOk wh pa = true) :
    Tel w mean mg mb 8 136 [.int x tw, .int (P.getD (n.fmod (P.length : Int)).toNat 0) tp] (fun _ => True) (fun news tl r => ∃ pa : Nat, P.getD (n.fmod (P.length : Int)).toNat 0 = (pa : Int) ∧ pairOk wh pa = true ∧ IntsNew (quots 12 wh pa) news tl r) := by
  obtain ⟨pa, e, hok⟩ := part_known n hp1 hp3
  have f := pair_facts hok
  have q := quot_tel w mean mg mb (tw := tw) (tp := tp) hx e h1 h2 f.1 f.2.1
  unfold Tel at q ⊢
  intro dp un gd cn cs a ccd cl outer A₀ base h₀ L m news s Q E B F X N T hk hneed hd hu hret
  exact q dp un gd cn cs a ccd cl outer A₀ base h₀ L m news s Q E B F X N T hk hneed hd hu (fun r tl h' tk' F' N' ho => hret r tl h' tk' F' N' ⟨pa, e, hok, ho⟩)
theorem two_known {ws : List Value} {A : List Int} {f : Int → Int} (h : IntsAre ws ((List.take 2 A).map f ++ List.drop ((List.take 2 A).map f).length [6, 4])) : ∃ ns : List Int, IntsAre ws ns ∧ ns.length = 2 := by
  refine ⟨_, h, ?_⟩
  simp only [List.length_append, List.length_map, List.length_drop, List.length_take, List.length_cons, List.length_nil]
  omega
theorem rev_small {qs : List Int} (h : ∀ q ∈ qs, 0 ≤ q ∧ q ≤ 1000) : ∀ q ∈ qs.reverse, 0 ≤ q ∧ q ≤ 1000 := fun q hq => h q (List.mem_reverse.mp hq)
theorem two_slice {prog : Program} {w : World} {A : Around} {E : Value → Shared → Prop} {s : Shared} {h₀ : Heap} {L l : Addr} {m : Str → Option Value} {news : List (Addr × Obj)} {value slice : PySem.Expr} {ta tb tx : Tok} {n : Nat} {Q : Value → Shared → Prop} (F : Fr h₀ L s.heap m) (N : News h₀ L s.heap news) (hl : s.heap.IsList l #[.int 6 ta, .int 4 tb])
    (h : ∀ D ws h', Fr h₀ L h' m → News h₀ L h' ((D, W.listOf (List.toArray ws) 0) :: news) → (∀ p ∈ news, p.1 < D) → IntsAre ws ([6, 4].drop n) → Q (.ref D) { s with heap := h' })
    (hs : subscripted slice false (.ref l) (.ref s.heap.objs.size) = operate [.ref s.heap.objs.size, .ref l] (getItem (.ref l) (.ref s.heap.objs.size))) (ht : ∀ r, letTemporaryGo value (.ref l) r = pure ()) :
    wpAny (model prog w) A (subscriptTail value slice (.ref l) (.ref s.heap.objs.size)) Q E { s with heap := s.heap.push { cls := .type "slice", data := .fields #[.int (n : Int) tx, .none, .none] } } := by
  have hi : IntsAre [Value.int 6 ta, Value.int 4 tb] [6, 4] := ((IntsAre.nil).cons _ _).cons _ _
  have hm := kmk_from (x := (n : Int)) hi (by omega)
  rw [Int.toNat_natCast] at hm
  exact kmk_slice_ints (vs := [Value.int 6 ta, Value.int 4 tb]) F N hl (IsPart.int _ _) IsPart.none hi hm rfl (fun D ws h' F' N' l1 I _ _ => h D ws h' F' N' l1 I) hs ht (by show 2 ≤ sizeLine; decide)
end TL
open TL
local macro_rules | `(tactic| k_room) => `(tactic| ktr_room)
local macro_rules | `(tactic| walk_at "call ref") => `(tactic| (k_here; k_dflt (refine' common_tel _ _ _ _ _ _ _ _ ?p0 ?p1 _ _ _ _ _ _ _ _ _ _ _ _ _ _ _ _ _ _ ?k1 ?k2 ?k3 ?k4 ?k5 ?kK ?kn ?kd ?ku ?_; (case k1 => k_asm); (case k2 => k_asm); (case k3 => k_asm); (case k4 => k_asm); (case k5 => k_asm); (case kK => first | exact rfl | assumption); (case kn => trivial); (case p0 => omega); (case p1 => omega); (case kd => ktr_room); (case ku => ktr_units)); intro r9 tl9 h9 tk9 F9 N9 ho9; obtain ⟨e9, t9, e8⟩ := ho9; subst e9; subst e8; (try dsimp only [List.nil_append] at N9); (try k_sweep); (try dsimp only); (try k_fold)))
local macro_rules | `(tactic| walk_at "call ref") => `(tactic| (k_here; k_dflt (refine' quot_tel2 _ _ _ _ ?p0 ?p1 ?p2 ?p3 ?p4 _ _ _ _ _ _ _ _ _ _ _ _ _ _ _ _ _ _ ?k1 ?k2 ?k3 ?k4 ?k5 ?kK ?kn ?kd ?ku ?_; (case k1 => k_asm); (case k2 => k_asm); (case k3 => k_asm); (case k4 => k_asm); (case k5 => k_asm); (case kK => first | exact rfl | assumption); (case kn => trivial); (case p0 => assumption); (case p1 => omega); (case p2 => omega); (case p3 => assumption); (case p4 => assumption); (case kd => ktr_room); (case ku => ktr_units)); intro r9 tl9 h9 tk9 F9 N9 ho9; (dsimp only [IntsNew] at ho9); obtain ⟨pa9, epa9, hok9, l9, vs9, n9, e9, e8, hi9, ha9⟩ := ho9; subst e9; subst e8; (try dsimp only [List.cons_append, List.nil_append] at N9); (try simp only [AllLt, and_true] at ha9); obtain ⟨pf1, pf2, pf3, pf4, pf5, pf6, pf7, pf8, pf9, pf10⟩ := pair_facts hok9; (try k_sweep); (try dsimp only); (try k_fold)))
local macro_rules | `(tactic| walk_at "call ref") => `(tactic| (k_here; k_dflt (refine' fronts_tells _ _ _ _ _ _ _ _ ?p0 ?p1 ?p2 _ _ _ _ _ _ _ _ _ _ _ _ _ _ _ _ _ _ ?k1 ?k2 ?k3 ?k4 ?k5 ?kK ?kn ?kd ?ku ?_; (case k1 => k_asm); (case k2 => k_asm); (case k3 => k_asm); (case k4 => k_asm); (case k5 => k_asm); (case kK => first | exact rfl | assumption); (case kn => first | k_memK | k_mem); (case p0 => assumption); (case p1 => first | omega | (rw [List.length_reverse]; omega)); (case p2 => first | assumption | exact rev_small (by assumption)); (case kd => ktr_room); (case ku => ktr_units)); intro r9 tl9 h9 tk9 F9 N9 ho9; (dsimp only [IntsNew] at ho9); obtain ⟨l9, vs9, n9, e9, e8, hi9, ha9⟩ := ho9; subst e9; subst e8; (try dsimp only [List.cons_append, List.nil_append] at N9); (try simp only [AllLt, and_true] at ha9); (try k_sweep); (try dsimp only); (try k_fold)))
local macro_rules | `(tactic| walk_at "call ref") => `(tactic| (k_here; k_dflt (refine' parted_tel2 _ _ _ _ ?p0 ?p1 ?p2 ?p3 ?p4 ?p5 _ _ _ _ _ _ _ _ _ _ _ _ _ _ _ _ _ _ ?k1 ?k2 ?k3 ?k4 ?k5 ?kK ?kn ?kd ?ku ?_; (case k1 => k_asm); (case k2 => k_asm); (case k3 => k_asm); (case k4 => k_asm); (case k5 => k_asm); (case kK => first | exact rfl | assumption); (case kn => trivial); (case p0 => assumption); (case p1 => assumption); (case p2 => assumption); (case p3 => assumption); (case p4 => assumption); (case p5 => assumption); (case kd => ktr_room); (case ku => ktr_units)); intro r9 tl9 h9 tk9 F9 N9 ho9; (dsimp only [T5New] at ho9); obtain ⟨l9, vs9, n9, tl8, e9, e8, hd9⟩ := ho9; subst e9; subst e8; (try dsimp only [List.cons_append] at N9); (try k_sweep); (try dsimp only); (try k_fold)))
local macro_rules | `(tactic| walk_at "subscriptTail") => `(tactic| (k_here; (refine kba_turn (value' := PySem.Expr.Name (PySem.Str.ofString "_") ⟨0, 0, 0, 0⟩) (fun _ => rfl) ?_); k_dflt (refine' two_slice ?F ?N ?l ?_ ?s ?t; (case F => k_asm); (case N => k_asm); (case l => kmk_list); (case s => with_unfolding_all rfl); (case t => kmk_pure)); intro D' ws' h' F' N' l1 hI'; (try k_lt l1); (try k_sweep)))
local macro_rules | `(tactic| walk_at "subscriptTail") => `(tactic| (k_here; (rename IntsAre _ (List.map _ _ ++ List.drop _ _) => hN9); obtain ⟨ns9, hns9, hnl9⟩ := two_known hN9; clear hN9))
local macro_rules | `(tactic| walk_at "call builtin:len") => `(tactic| (k_here; (rename IntsAre _ (List.foldl _ _ _) => hP9); obtain ⟨wh9, P9, hw9, hwl9, hwh9, hQ9, hp1, hp2, hp3⟩ := parts_known (by assumption) (by assumption) hP9; clear hP9; (try (rename _ = List.length (List.foldl _ _ _) => hL9; clear hL9))))
local macro_rules | `(tactic| walk_at "ite") => `(tactic| (refine ite_ne_out (by first | exact test_fr (by assumption) (by assumption) | exact test_bk (by assumption) (by assumption) (by assumption)) ?_))
local macro_rules | `(tactic| walk_at "CompSrc") => `(tactic| (k_here; (with_reducible show LCg.CompSrc _ _ _ _ _ _ _ (PySem.Expr.Tuple _ _ _) _ _ _ _ _ _); k_dflt (refine LCg.CompSrc.range (by rfl) (by k_asm) (by k_asm) (by assumption) (by exact small_one (by omega) (by omega) (by omega) (by omega)) (by exact rangeSize_nat _ _) (by rw [PySem.sizeLine_eq]; omega) ?_; intro g'; refine' t5_steps (by assumption) (fun k' t' I' oI' C' oC' D' m' ys' tl' h' tk' E' hlo' hhi' hC' hx' F' N' off' ne' => ?_) (fun ys' tl' hD' => ?_)); (all_goals (try simp only [List.nil_append, List.cons_append] at *))))
local macro_rules | `(tactic| walk_at "CompEnd") => `(tactic| (k_here; k_dflt (refine LCg.CompEnd.intro (by assumption) (by assumption) _ (fun _ hp => hp) (by first | assumption | (simp only [LCg.Off3, and_true]; done) | (simp only [LCg.Off3, and_true]; assumption)) True.intro ?_)))
local macro_rules | `(tactic| walk_at "CompEnd") => `(tactic| (k_here; k_dflt (refine t5c_end (by assumption) (by assumption) (by assumption) (by assumption) (by first | (rw [if_pos (by assumption)]) | (rw [if_neg (by assumption)])))))
local macro_rules | `(tactic| walk_at "compareOp Eq ref ref") => `(tactic| (k_here; (with_reducible show wpAny _ _ (compareOp CmpOp.Eq (Value.ref _) (Value.ref _)) _ _ _); k_dflt (refine' t5_eq ?N ?a ?D ?sa ?b ?E ?sb ?e ?u ?_; (case N => k_asm); (case a => exact List.Mem.tail _ (List.mem_append_right _ (List.Mem.head _))); (case b => exact List.Mem.head _); (case D => assumption); (case E => assumption); (case sb => exact sub_two); (case sa => (intro p9 hp9; refine List.Mem.tail _ (List.mem_append_right _ ?_); (repeat (first | exact hp9 | apply List.Mem.tail)))); (case e => rfl); (case u => ke_room))))
set_option maxRecDepth 100000 in
set_option maxHeartbeats 12000000 in
theorem PySem.Challenge.cw_tl0012_01_holds : PySem.Challenge.rw_tl0012_01.Holds :=
  TL.hd (by k_with_none; w_top off; w_strict (k_go0; (all_goals try k_fold); k_steps))
