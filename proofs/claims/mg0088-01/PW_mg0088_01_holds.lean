import PyProof.Rows.All
import Wide.All
import OpenK.AllK
import Wide.FinOn
import Lean
import PySem.Challenge.RW_mg0088_01
open PySem PySem.W PyProof.Rows
set_option Elab.async false
namespace Mine
set_option maxRecDepth 100000 in
set_option maxHeartbeats 8000000 in
open_top hd for PySem.Challenge.rw_mg0088_01
end Mine
-- Base1
namespace Mine
open PySem PySem.W PyProof.Rows
abbrev tup (p : Str) (t0 : Tok) (z : Int) (t1 : Tok) (d : Int) (t2 : Tok) (c : Int) (t3 : Tok) (f : Int) (t4 : Tok) (n : Nat) : Obj :=
  { cls := .type "tuple", data := .seq #[.str p t0, .int z t1, .int d t2, .int c t3, .int f t4] n }
section
variable {prog : Program} {w : World} {A : Around} {E : Value → Shared → Prop} {s : Shared}
theorem sliceApplied_two {sl : Addr} {u : Tok} {Q : Int × Int × Nat → Shared → Prop} (hs : s.heap.IsSliceOf sl .none (.int 2 u) .none) (h : Q (0, 1, 2) s) :
    wpAny (model prog w) A (Builtin.Slice.sliceApplied (.ref sl) (pure (5 : Int))) Q E s := by
  obtain ⟨os, hos, hcs, hds⟩ := id hs
  unfold Builtin.Slice.sliceApplied Builtin.Slice.sliceFields
  refine wpAny_bind (wpAny_bind (wpAny_field hos hds (x := .none) rfl (wpAny_bind (wpAny_field hos hds (x := .int 2 u) rfl (wpAny_bind (wpAny_field hos hds (x := .none) rfl (wpAny_pure ?_)))))))
  refine wpAny_bind (slicePart_none ?_)
  show wpAny _ _ (if ((1 : Int) == 0) = true then _ else _) _ _ s
  rw [if_neg (by decide)]
  refine wpAny_bind (slicePart_none (wpAny_bind (slicePart_int (wpAny_bind (wpAny_pure ?_)))))
  show wpAny _ _ (match Builtin.Slice.sliceAdjust none (some (2 : Int)) 1 (5 : Int) with | (lo, hi) => pure (lo, (1 : Int), Builtin.Slice.slicePlaces lo hi 1)) _ _ s
  rw [show Builtin.Slice.sliceAdjust none (some (2 : Int)) 1 (5 : Int) = (0, 2) from by decide +kernel]
  show wpAny _ _ (pure ((0 : Int), (1 : Int), Builtin.Slice.slicePlaces (0 : Int) (2 : Int) 1)) _ _ s
  rw [show Builtin.Slice.slicePlaces (0 : Int) (2 : Int) 1 = 2 from by decide +kernel]
  exact wpAny_pure h

theorem getItem_two {t sl : Addr} {v0 v1 v2 v3 v4 : Value} {u : Tok} {Q : Value → Shared → Prop} (ht : IsTup s.heap t #[v0, v1, v2, v3, v4]) (hs : s.heap.IsSliceOf sl .none (.int 2 u) .none)
    (h : Q (.ref s.heap.objs.size) { s with heap := s.heap.push { cls := .type "tuple", data := .seq #[v0, v1] } }) : wpAny (model prog w) A (getItem (.ref t) (.ref sl)) Q E s := by
  have hdrop : sizeOk (.seq #[v0, v1]) := by
    show (2 : Nat) ≤ sizeLine
    exact Nat.le_of_ble_eq_true rfl
  obtain ⟨os, hos, hcs, hds⟩ := id hs
  have hTs : s.TypeIs (.ref sl) "slice" := ⟨os, hos, hcs⟩
  unfold getItem
  try with_reducible refine wpAny_holding ?_
  first | refine wpAny_bind (wpAny_pure ?_) | skip
  refine wpAny_bind (wpAny_sequenceKey ht.typeIs (by decide) ?_)
  refine wpAny_bind (wpAny_callSpecial?_slot (name := Str.ofString "__getitem__") ht.typeIs slot_tuple_getitem
    (wpAny_call_entry slot_tuple_getitem ht.typeIs entry_tuple_getitem ?_ (args_tuple_getitem _ _)))
  show wpAny _ _ (Builtin.Tuple.tupleItemsOf (.ref t) >>= _) _ _ s
  refine wpAny_bind (tupleItemsOf_ ht ?_)
  refine wpAny_bind (wpAny_typeOf hTs ?_)
  rw [if_pos (by decide)]
  refine wpAny_bind (sliceApplied_two hs ?_)
  show wpAny _ _ (if ((0 : Int) == 0 && (1 : Int) == 1 && (2 : Nat) == 5) = true then _ else _) _ _ s
  rw [if_neg (by decide)]
  first
    | exact wpAny_bind (m := Builtin.Tuple.tupleExact _) (wpAny_newObj_type (wpAny_pure ⟨_, rfl, wpAny_pure h⟩) hdrop)
    | exact wpAny_bind (m := Builtin.Tuple.tupleExact _) (wpAny_newObj_type (wpAny_bind (wpAny_pure (wpAny_pure ⟨_, rfl, wpAny_pure h⟩))) hdrop)
    | exact wpAny_bind (wpAny_bind (m := Builtin.Tuple.tupleExact _) (wpAny_newObj_type (wpAny_pure (wpAny_pure ⟨_, rfl, wpAny_pure h⟩)) hdrop))
    | exact wpAny_bind (wpAny_bind (m := Builtin.Tuple.tupleExact _) (wpAny_newObj_type (wpAny_pure ⟨_, rfl, wpAny_pure h⟩) hdrop))
end
section
variable {prog : Program} {w : World} {A : Around} {E : Value → Shared → Prop} {s : Shared} {h₀ : Heap} {L : Addr} {m : Str → Option Value} {news : List (Addr × Obj)}
theorem slice_two {value slice : Expr} {t : Addr} {v0 v1 v2 v3 v4 : Value} {u : Tok} {n : Nat} {Q : Value → Shared → Prop}
    (F : Fr h₀ L s.heap m) (N : News h₀ L s.heap news) (ht : (t, ({ cls := .type "tuple", data := .seq #[v0, v1, v2, v3, v4] n } : Obj)) ∈ news)
    (h : ∀ D h', Fr h₀ L h' m → News h₀ L h' ((D, ({ cls := .type "tuple", data := .seq #[v0, v1] } : Obj)) :: news) → (∀ p ∈ news, p.1 < D) → Q (.ref D) { s with heap := h' })
    (hs : subscripted slice false (.ref t) (.ref s.heap.objs.size) = operate [.ref s.heap.objs.size, .ref t] (getItem (.ref t) (.ref s.heap.objs.size)))
    (hg : ∀ r, letTemporaryGo value (.ref t) r = pure ()) :
    wpAny (model prog w) A (subscriptTail value slice (.ref t) (.ref s.heap.objs.size)) Q E { s with heap := s.heap.push { cls := .type "slice", data := .fields #[.none, .int 2 u, .none] } } := by
  have ht0 : IsTup s.heap t #[v0, v1, v2, v3, v4] := News.isTup N ht
  have ht' : IsTup (s.heap.push { cls := .type "slice", data := .fields #[.none, .int 2 u, .none] }) t #[v0, v1, v2, v3, v4] := ht0.keeps fun _ _ e => Heap.get?_push_of_some _ e
  refine subscriptTail_ops (s := { s with heap := s.heap.push { cls := .type "slice", data := .fields #[.none, .int 2 u, .none] } }) ht'.typeIs slot_tuple_getitem.lookup
    (getItem_two ht' (Heap.IsSliceOf.new ..) ?_) hs hg
  have N1 := News.push (F.push { cls := .type "slice", data := .fields #[.none, .int 2 u, .none] }) (N.grown fun _ _ e => Heap.get?_push_of_some _ e) { cls := .type "tuple", data := .seq #[v0, v1] }
  rw [Heap.size_push] at N1
  show Q (.ref (s.heap.push _).objs.size) _
  rw [Heap.size_push]
  exact h _ _ ((F.push _).push _) N1 (fun p hp => Nat.lt_succ_of_lt (Heap.lt_size (N p hp).1))
end
end Mine
-- F1
namespace Mine
open PySem PySem.W PyProof.Rows
set_option maxRecDepth 100000
/-- the float is a whole number, sign and size told -/
def whole (x : UInt64) (neg : Bool) (n : Nat) : Bool := match Float64.decode x with
  | .fin s m e => s == neg && m != 0 && (Float64.halfEven (Float64.shift m 1 e).1 (Float64.shift m 1 e).2 == n)
  | _ => false
theorem strip_back (l : List Char) : (l.dropWhile (· == '0')).length ≤ l.length ∧ l = List.replicate (l.length - (l.dropWhile (· == '0')).length) '0' ++ l.dropWhile (· == '0') := by
  induction l with
  | nil => simp
  | cons a r ih =>
    by_cases ha : (a == '0') = true
    · have e : (a :: r).dropWhile (· == '0') = r.dropWhile (· == '0') := by rw [List.dropWhile_cons, if_pos ha]
      rw [e]
      refine ⟨Nat.le_succ_of_le ih.1, ?_⟩
      have a0 : a = '0' := by simpa using ha
      have h1 : (a :: r).length - (r.dropWhile (· == '0')).length = (r.length - (r.dropWhile (· == '0')).length) + 1 := by
        have := ih.1
        simp only [List.length_cons]
        omega
      rw [h1, List.replicate_succ, List.cons_append, ← ih.2, a0]
    · have e : (a :: r).dropWhile (· == '0') = a :: r := by rw [List.dropWhile_cons, if_neg ha]
      rw [e]
      simp
theorem pointed_of (n : Nat) (hn : (Nat.repr n).toList ≠ []) : Float64.pointed (Float64.Digits.of n 0) 0 false = (Nat.repr n).toList := by
  unfold Float64.pointed Float64.Digits.of
  simp only [Int.zero_add]
  generalize hl : (Nat.repr n).toList = l at *
  have hpos : 0 < l.length := List.length_pos_iff.mpr hn
  rw [if_neg (by omega)]
  have h0 : (decide (0 > 0) || false) = false := by decide
  rw [if_neg (by decide), List.append_nil]
  have ht : ((l.length : Nat) : Int).toNat = l.length := by omega
  rw [ht]
  obtain ⟨s1, s2⟩ := strip_back l.reverse
  have s3 : ((l.reverse.dropWhile (· == '0')).reverse).length ≤ l.length := by
    rw [List.length_reverse]; rw [List.length_reverse] at s1; exact s1
  unfold Float64.padRight Float64.zeros
  rw [List.take_of_length_le s3]
  have s4 := congrArg List.reverse s2
  rw [List.reverse_reverse, List.reverse_append, List.reverse_replicate, List.length_reverse] at s4
  rw [List.length_reverse]
  exact s4.symm
theorem fixed_of {a b n : Nat} (h : Float64.halfEven a b = n) : Float64.fixed a b 0 = Float64.Digits.of n 0 := by
  unfold Float64.fixed Float64.shift10
  have e : (if ((0 : Nat) : Int) ≥ 0 then (a * 10 ^ ((0 : Nat) : Int).toNat, b) else (a, b * 10 ^ (-((0 : Nat) : Int)).toNat)) = (a, b) := by
    rw [if_pos (by decide)]
    have : ((0 : Nat) : Int).toNat = 0 := rfl
    rw [this, Nat.pow_zero, Nat.mul_one]
  rw [e, ← h]
  rfl
theorem whole_text {x : UInt64} {neg : Bool} {n : Nat} (h : whole x neg n = true) (hn : (Nat.repr n).toList ≠ []) : Float64.text x 'f' 0 false false false = (neg, (Nat.repr n).toList) := by
  unfold whole at h
  unfold Float64.text
  cases hd : Float64.decode x with
  | nan => rw [hd] at h; cases h
  | inf s => rw [hd] at h; cases h
  | fin s m e =>
    rw [hd] at h
    dsimp only at h ⊢
    generalize hs : Float64.shift m 1 e = sh at h ⊢
    obtain ⟨a, b⟩ := sh
    dsimp only at h ⊢
    obtain ⟨h12, h3⟩ := Bool.and_eq_true_iff.mp h
    obtain ⟨h1, h2⟩ := Bool.and_eq_true_iff.mp h12
    have h1 : s = neg := beq_iff_eq.mp h1
    have h2' : (m == 0) = false := by simpa using h2
    rw [h2', h1, if_neg Bool.false_ne_true, if_neg (by decide), if_pos (by decide), if_neg (by decide), if_pos (by decide), fixed_of (beq_iff_eq.mp h3), pointed_of n hn]
    simp
theorem whole_pos1 : ∀ k : Fin 325, whole (Float64.ofInt ((k.val + 1 : Nat) : Int)) false (k.val + 1) = true := by decide +kernel
theorem whole_pos2 : ∀ k : Fin 650, k.val < 325 ∨ whole (Float64.ofInt ((k.val + 1 : Nat) : Int)) false (k.val + 1) = true := by decide +kernel
theorem whole_pos3 : ∀ k : Fin 975, k.val < 650 ∨ whole (Float64.ofInt ((k.val + 1 : Nat) : Int)) false (k.val + 1) = true := by decide +kernel
theorem whole_pos4 : ∀ k : Fin 1300, k.val < 975 ∨ whole (Float64.ofInt ((k.val + 1 : Nat) : Int)) false (k.val + 1) = true := by decide +kernel
theorem whole_pos : ∀ k : Fin 1300, whole (Float64.ofInt ((k.val + 1 : Nat) : Int)) false (k.val + 1) = true := by
  intro ⟨k, hk⟩
  by_cases h0 : k < 325
  · exact whole_pos1 ⟨k, h0⟩
  by_cases h1 : k < 650
  · exact (whole_pos2 ⟨k, h1⟩).resolve_left h0
  by_cases h2 : k < 975
  · exact (whole_pos3 ⟨k, h2⟩).resolve_left h1
  exact (whole_pos4 ⟨k, hk⟩).resolve_left h2
theorem whole_neg1 : ∀ k : Fin 325, whole (Float64.ofInt (-((k.val + 1 : Nat) : Int))) true (k.val + 1) = true := by decide +kernel
theorem whole_neg2 : ∀ k : Fin 650, k.val < 325 ∨ whole (Float64.ofInt (-((k.val + 1 : Nat) : Int))) true (k.val + 1) = true := by decide +kernel
theorem whole_neg3 : ∀ k : Fin 975, k.val < 650 ∨ whole (Float64.ofInt (-((k.val + 1 : Nat) : Int))) true (k.val + 1) = true := by decide +kernel
theorem whole_neg4 : ∀ k : Fin 1300, k.val < 975 ∨ whole (Float64.ofInt (-((k.val + 1 : Nat) : Int))) true (k.val + 1) = true := by decide +kernel
theorem whole_neg : ∀ k : Fin 1300, whole (Float64.ofInt (-((k.val + 1 : Nat) : Int))) true (k.val + 1) = true := by
  intro ⟨k, hk⟩
  by_cases h0 : k < 325
  · exact whole_neg1 ⟨k, h0⟩
  by_cases h1 : k < 650
  · exact (whole_neg2 ⟨k, h1⟩).resolve_left h0
  by_cases h2 : k < 975
  · exact (whole_neg3 ⟨k, h2⟩).resolve_left h1
  exact (whole_neg4 ⟨k, hk⟩).resolve_left h2
theorem zero_text : Float64.text (Float64.ofInt 0) 'f' 0 false false false = (false, ['0']) := by decide +kernel
theorem quot2 : ∀ v : Fin 300, Float64.ofFrac false (v.val * 2) 2 = Float64.ofFrac false v.val 1 := by decide +kernel
theorem quot3 : ∀ v : Fin 300, Float64.ofFrac false (v.val * 3) 3 = Float64.ofFrac false v.val 1 := by decide +kernel
theorem quot4 : ∀ v : Fin 300, Float64.ofFrac false (v.val * 4) 4 = Float64.ofFrac false v.val 1 := by decide +kernel
theorem quot : ∀ (c : Fin 4) (v : Fin 300), Float64.ofFrac false (v.val * (c.val + 1)) (c.val + 1) = Float64.ofFrac false v.val 1
  | ⟨0, _⟩, v => by
    show Float64.ofFrac false (v.val * 1) 1 = _
    rw [Nat.mul_one]
  | ⟨1, _⟩, v => quot2 v
  | ⟨2, _⟩, v => quot3 v
  | ⟨3, _⟩, v => quot4 v
end Mine
-- G1
namespace Mine
open PySem PySem.W PyProof.Rows PySem.Calls
open Builtin Builtin.Str
set_option maxRecDepth 100000
/-- the decimal signs of a number -/
def digL (k : Nat) : List Nat := (Nat.toDigits 10 k).map Char.toNat
/-- the text of an int, with a sign ahead where asked -/
def laidL (sign neg : Bool) (k : Nat) : List Nat := (if neg then [45] else if sign then [43] else []) ++ digL k
def numS (n : Int) : PySem.Str := PySem.Str.ofString (toString n)
def sgnS (n : Int) : PySem.Str := if n < 0 then PySem.Str.ofString "-" ++ numS (-n) else PySem.Str.ofString "+" ++ numS n
theorem digL_ne (k : Nat) : digL k ≠ [] := by
  unfold digL
  intro h
  exact Nat.toDigits_ne_nil (List.map_eq_nil_iff.mp h)
theorem digL_digit {k c : Nat} (h : c ∈ digL k) : 48 ≤ c ∧ c ≤ 57 := by
  unfold digL at h
  obtain ⟨d, hd, rfl⟩ := List.mem_map.mp h
  have := Nat.isDigit_of_mem_toDigits (by decide) (by decide) hd
  unfold Char.isDigit at this
  have h2 := Bool.and_eq_true_iff.mp this
  have h3 : '0'.val ≤ d.val := of_decide_eq_true h2.1
  have h4 : d.val ≤ '9'.val := of_decide_eq_true h2.2
  exact ⟨UInt32.le_iff_toNat_le.mp h3, UInt32.le_iff_toNat_le.mp h4⟩
theorem numS_nat (k : Nat) : numS (k : Int) = ⟨(digL k).toArray⟩ := by
  unfold numS
  rw [PySem.Str.ofString_eq_toList]
  show PySem.Str.mk ((List.map Char.toNat (String.ofList (Nat.toDigits 10 k)).toList).toArray) = _
  rw [String.toList_ofList]
  rfl
theorem numS_nonneg {n : Int} (h : 0 ≤ n) : numS n = ⟨(laidL false (decide (n < 0)) n.natAbs).toArray⟩ := by
  have e : n = ((n.natAbs : Nat) : Int) := (Int.natAbs_of_nonneg h).symm
  have h0 : decide (n < 0) = false := decide_eq_false (by omega)
  rw [h0]
  unfold laidL
  simp only [Bool.false_eq_true, if_false, List.nil_append]
  rw [← numS_nat, ← e]
theorem sgnS_laid (n : Int) : sgnS n = ⟨(laidL true (decide (n < 0)) n.natAbs).toArray⟩ := by
  unfold sgnS laidL
  by_cases h : n < 0
  · have e : -n = ((n.natAbs : Nat) : Int) := by omega
    rw [if_pos h, e, numS_nat, show PySem.Str.ofString "-" = ⟨#[45]⟩ from by decide +kernel]
    simp only [h, decide_true, if_true]
    have := PySem.Str.cps_append (⟨#[45]⟩ : PySem.Str) ⟨(digL n.natAbs).toArray⟩
    refine congrArg PySem.Str.mk (this.trans ?_)
    simp
  · have e : n = ((n.natAbs : Nat) : Int) := by omega
    rw [if_neg h, show numS n = numS ((n.natAbs : Nat) : Int) from by rw [← e], numS_nat, show PySem.Str.ofString "+" = ⟨#[43]⟩ from by decide +kernel]
    simp only [h, decide_false, Bool.false_eq_true, if_false, if_true]
    have := PySem.Str.cps_append (⟨#[43]⟩ : PySem.Str) ⟨(digL n.natAbs).toArray⟩
    refine congrArg PySem.Str.mk (this.trans ?_)
    simp
theorem repr_list (k : Nat) : (Nat.repr k).toList = Nat.toDigits 10 k := by
  show (String.ofList (Nat.toDigits 10 k)).toList = _
  rw [String.toList_ofList]
/-- the float's text, by the whole number that it is -/
theorem text_int {n : Int} (h1 : -1300 ≤ n) (h2 : n ≤ 1300) : Float64.text (Float64.ofInt n) 'f' 0 false false false = (decide (n < 0), Nat.toDigits 10 n.natAbs) := by
  by_cases h0 : n = 0
  · subst h0
    exact zero_text.trans (by decide +kernel)
  · by_cases hn : n < 0
    · have e : n = -(((n.natAbs - 1) + 1 : Nat) : Int) := by omega
      have ea : n.natAbs - 1 + 1 = n.natAbs := by omega
      have w := whole_neg ⟨n.natAbs - 1, by omega⟩
      dsimp only at w
      rw [← e, ea] at w
      rw [whole_text w (by rw [repr_list]; exact Nat.toDigits_ne_nil), repr_list, decide_eq_true hn]
    · have e : n = (((n.natAbs - 1) + 1 : Nat) : Int) := by omega
      have ea : n.natAbs - 1 + 1 = n.natAbs := by omega
      have w := whole_pos ⟨n.natAbs - 1, by omega⟩
      dsimp only at w
      rw [← e, ea] at w
      rw [whole_text w (by rw [repr_list]; exact Nat.toDigits_ne_nil), repr_list, decide_eq_false hn]
theorem fits_int {n : Int} (h1 : -1300 ≤ n) (h2 : n ≤ 1300) : ¬ Float64.isInf (Float64.ofInt n) = true := by
  rw [Float64.ofInt_isInf_iff]
  have : (1300 : Nat) < 2 ^ 1024 - 2 ^ 970 := by decide +kernel
  intro h
  have : n.natAbs ≤ 1300 := by omega
  exact absurd (Nat.le_trans h this) (by decide +kernel)
theorem field_eq {f : Percent} {neg : Bool} {k : Nat} (h1 : f.ljust = false) (h2 : f.blank = false) (h3 : f.alt = false) (h4 : f.zero = false) (h5 : f.width = none) (h6 : f.prec = some 0 ∨ f.sign = true)
    (h7 : f.type = 102 ∨ f.type = 105) : percentField f true ((if neg then [45] else []) ++ digL k) = some (laidL f.sign neg k) := by
  have hc : (f.width.all (· ≤ ((if neg then [45] else []) ++ digL k).length) && f.prec.all (· ≥ ((if neg then [45] else []) ++ digL k).length) && !f.sign && !f.blank) = false := by
    have hl : 0 < ((if neg then [45] else []) ++ digL k).length := by
      rw [List.length_append]
      have := List.length_pos_iff.mpr (digL_ne k)
      omega
    rcases h6 with h6 | h6
    · have : f.prec.all (· ≥ ((if neg then [45] else []) ++ digL k).length) = false := by
        rw [h6]
        exact decide_eq_false (by omega)
      rw [this]
      simp
    · rw [h6]
      simp
  have hty : (f.type == 115 || f.type == 114 || f.type == 97) = false := by rcases h7 with h7 | h7 <;> rw [h7] <;> rfl
  unfold percentField
  rw [hc, hty]
  simp only [Bool.false_eq_true, if_false, Bool.not_true, h3, Bool.false_and, h1, h4, Bool.and_false, h5, Option.getD_none, Nat.zero_sub, List.replicate_zero, List.nil_append, h2, if_false]
  unfold laidL
  cases neg with
  | true => simp
  | false =>
    simp only [Bool.false_eq_true, if_false, List.nil_append]
    cases hd : digL k with
    | nil => exact absurd hd (digL_ne k)
    | cons c r =>
      have hcd := digL_digit (k := k) (c := c) (by rw [hd]; exact List.mem_cons_self ..)
      split
      · rename_i heq; cases heq; omega
      · rename_i heq; cases heq; omega
      · simp
section
variable {M : Model} {A : Around} {E : Value → Shared → Prop} {s : Shared}
theorem text_eq {x : UInt64} {c : Char} {p : Nat} {alt neg : Bool} {ds : List Char} (ht : Float64.text x 'f' 0 false false false = (neg, ds)) (hc : c = 'f') (hp : p = 0) (ha : alt = false) : Float64.text x c p false alt false = (neg, ds) := by
  subst hc hp ha
  exact ht
theorem pf_float {x : UInt64} {u : Tok} {Q : UInt64 → Shared → Prop} (h : Q x s) : wpAny M A (percentFloatOf (.float x u)) Q E s := wpAny_of_eq rfl h
end
section
variable {prog : Program} {w : World} {A : Around} {E : Value → Shared → Prop} {s : Shared}
set_option maxHeartbeats 4000000 in
theorem pf_int {n : Int} {u : Tok} {Q : UInt64 → Shared → Prop} (hf : ¬ Float64.isInf (Float64.ofInt n) = true) (h : ∀ k, Q (Float64.ofInt n) { s with toks := k }) : wpAny (model prog w) A (percentFloatOf (.int n u)) Q E s := by
  unfold percentFloatOf
  refine wpAny_bind (wpAny_of_eq (a := none) rfl ?_)
  dsimp only
  refine wpAny_bind ?_
  refine wpAny_callSpecial?_slot (M := model prog w) (self := .int n u) (T := "int") (name := PySem.Str.ofString "__float__") (id := "int.__float__") (args := []) (kw := []) ?t1 ?t2 ?_
  case t1 => exact typeIs_int s n u
  case t2 => exact F.slot_int_float
  refine call_gives (m := .float (Float64.ofInt n)) F.slot_int_float (typeIs_int s n u) F.entry_int_float (F.args_int_float_1 _) (AutoIntG0.int___float___int_1 n u hf) ?_
  dsimp only [Made.post]
  refine wpAny_bind (wpAny_of_eq (a := some (Float64.ofInt n)) rfl ?_)
  exact wpAny_pure (h _)
end
end Mine
-- G2
namespace Mine
open PySem PySem.W PyProof.Rows PySem.Calls
open Builtin Builtin.Str
set_option maxRecDepth 100000
abbrev S (x : String) : PySem.Str := PySem.Str.ofString x
theorem numS_len {n : Int} (h0 : 0 ≤ n) (h1 : n ≤ 10000) : (numS n).length ≤ 10 := toString_length_le (k := 10) h0 (by decide) (by omega)
theorem sgnS_len {n : Int} (h0 : -10000 ≤ n) (h1 : n ≤ 10000) : (sgnS n).length ≤ 12 := by
  unfold sgnS
  split
  · rw [PySem.Str.length_append, show (S "-").length = 1 from by decide +kernel]
    have := numS_len (n := -n) (by omega) (by omega)
    omega
  · rw [PySem.Str.length_append, show (S "+").length = 1 from by decide +kernel]
    have := numS_len (n := n) (by omega) (by omega)
    omega
section
variable {M : Model} {A : Around} {E : Value → Shared → Prop} {s : Shared} {l : List Nat} {p : List Value} {r : List Nat}
  {f : Nat → List Value × Writer × List Nat → Sem (ForInStep (List Value × Writer × List Nat))} {Q : List Value × Writer × List Nat → Shared → Prop}
  {w : Writer} {T x y : PySem.Str} {N K : Nat} {o : Option Value}
theorem after_to (g : KPc.Good w T N) (hx : x = y) (hy : y.length ≤ K) (ho : KPc.Obj o x) (h : ∀ w', KPc.Good w' (T ++ y) (N + K) → wpAny M A (forIn l (p, w', r) f) Q E s) : wpAny M A (forIn l (p, w.add x o, r) f) Q E s := by
  subst hx
  exact h _ (KPc.good_mono (KPc.good_add g ho) (Nat.add_le_add_left hy _))
theorem after_to0 (g : KPc.Good w PySem.Str.empty N) (hx : x = y) (hy : y.length ≤ K) (ho : KPc.Obj o x) (h : ∀ w', KPc.Good w' y (N + K) → wpAny M A (forIn l (p, w', r) f) Q E s) : wpAny M A (forIn l (p, w.add x o, r) f) Q E s :=
  after_to g hx hy ho fun w' g' => h w' (by rw [KPc.empty_app] at g'; exact g')
end
section
variable {prog : Program} {w : World} {A : Around} {E : Value → Shared → Prop} {s : Shared}
theorem reprU_str {b : Nat} {x : PySem.Str} {t : Tok} {Q : Value → Shared → Prop} (h : Q (.str (reprText x) s.toks) { s with toks := s.toks + 1 }) (hsz : (reprText x).length ≤ sizeLine) : wpAny (model prog w) A (pyReprObjUnder b (.str x t)) Q E s := by
  unfold pyReprObjUnder pyReprObjBy
  have hv : [Value.str x t].any Value.onHeap = false := rfl
  simp only [cRoomFor, hv, Bool.false_eq_true, if_false, pure_bind]
  refine wpAny_bind (wpAny_specialOf (name := PySem.Str.ofString "__repr__") (typeIs_str s x t) F.slot_str_repr.lookup ?_)
  refine wpAny_bind (wpAny_callSpecialIfBoundBy?_slotG (name := PySem.Str.ofString "__repr__") (typeIs_str s x t) F.slot_str_repr.toG ?_)
  have hn : reprUnder? (.builtin "str.__repr__") = none := rfl
  simp only [hn]
  refine call_gives F.slot_str_repr (typeIs_str s x t) F.entry_str_repr (F.args_str_repr_1 _) (gives_str_repr x t) ⟨hsz, ?_⟩
  exact wpAny_bind (wpAny_isInstance (T := "str") (b := true) rfl isSubtype_str_str (wpAny_pure h))
end
abbrev XP : PySem.Str := PySem.Str.mk #[37,46,48,102,32,37,115]
abbrev XS : PySem.Str := PySem.Str.mk #[37,43,46,48,102,32,37,115]
set_option maxHeartbeats 4000000 in
theorem m_plain {b : Addr} {t u2 : Tok} {v : Value} {x : UInt64} {n : Int} (h1 : 0 ≤ n) (h2 : n ≤ 1300) (hx : x = Float64.ofInt n)
    (hv : ∀ (prog : Program) (w : World) (A : Around) (s : Shared) (Q : UInt64 → Shared → Prop) (E : Value → Shared → Prop), (∀ k, Q x { s with toks := k }) → wpAny (model prog w) A (percentFloatOf v) Q E s) :
    Meets («str.__mod__» ⟨[.str XP t, .ref b], []⟩) (fun _ R s => IsTup s.heap b #[v, .str (S "B") u2] ∧ ∀ t' k, R (.ok (.ret (.str (numS n ++ S " " ++ S "B") t'))) { s with toks := k }) := by
  have ht := text_int (n := n) (by omega) (by omega)
  rw [← hx] at ht
  clear hx
  have hl := numS_len h1 (by omega)
  apply KPt.meets_tup
  intro _ _ _ _ _ _ kptH _
  obtain ⟨kptO, kptG, kptC, kptN, kptD⟩ := kptH
  rw [KPt.entry_is_r]
  unfold Builtin.Str.percentFormat
  refine wpAny_bind (wpAny_isInstance (T := "tuple") ⟨kptO, kptG, kptC⟩ KPt.sub_tt ?_)
  refine wpAny_bind (KPt.asStr_ref kptG kptD ?_)
  refine wpAny_bind (KPt.fills_ref ⟨kptO, kptG, kptC⟩ ?_)
  intro _
  kpc_if
  refine wpAny_bind (wpAny_seqItems kptG kptD ?_)
  refine wpAny_bind (wpAny_pure ?_)
  refine wpAny_bind ?_
  rw [KPc.range_list]
  refine KPc.start ?_
  intro w1 _
  refine KPc.turn ?_; kpc_check; (repeat kpc_if)
  refine wpAny_bind ?_; refine wpAny_holding ?_; (repeat kpc_if)
  refine wpAny_bind (hv _ _ _ _ _ _ ?_)
  intro _
  refine wpAny_ite (KPc.ite_no (by decide) ?_)
  refine wpAny_of_eq (a := ((if decide (n < 0) = true then [45] else []) ++ digL n.natAbs, none, true)) ?q1 ?_
  case q1 =>
    dsimp only
    rw [text_eq ht ?e1 ?e2 ?e3]
    case e1 => rfl
    case e2 => rfl
    case e3 => rfl
    rfl
  refine wpAny_of_eq (a := ForInStep.yield ([Value.str (S "B") u2], w1.add ⟨(laidL false (decide (n < 0)) n.natAbs).toArray⟩ none, [32, 37, 115])) ?q2 ?_
  case q2 =>
    dsimp only
    rw [field_eq (k := n.natAbs) (neg := decide (n < 0)) ?e1 ?e2 ?e3 ?e4 ?e5 ?e6 ?e7]
    case e6 => exact Or.inl rfl
    case e7 => exact Or.inl rfl
    all_goals rfl
  refine after_to0 (by kpc_g) (y := numS n) (numS_nonneg h1).symm hl (by kpc_obj) ?_
  intro _ _
  kpt_turns
set_option maxHeartbeats 4000000 in
theorem m_sign {b : Addr} {t u1 u2 : Tok} {n : Int} (h1 : -1300 ≤ n) (h2 : n ≤ 1300) :
    Meets («str.__mod__» ⟨[.str XS t, .ref b], []⟩) (fun _ R s => IsTup s.heap b #[.int n u1, .str (S "B") u2] ∧ ∀ t' k, R (.ok (.ret (.str (sgnS n ++ S " " ++ S "B") t'))) { s with toks := k }) := by
  have ht := text_int (n := n) (by omega) (by omega)
  have hf := fits_int (n := n) (by omega) (by omega)
  have hl := sgnS_len (n := n) (by omega) (by omega)
  apply KPt.meets_tup
  intro _ _ _ _ _ _ kptH _
  obtain ⟨kptO, kptG, kptC, kptN, kptD⟩ := kptH
  rw [KPt.entry_is_r]
  unfold Builtin.Str.percentFormat
  refine wpAny_bind (wpAny_isInstance (T := "tuple") ⟨kptO, kptG, kptC⟩ KPt.sub_tt ?_)
  refine wpAny_bind (KPt.asStr_ref kptG kptD ?_)
  refine wpAny_bind (KPt.fills_ref ⟨kptO, kptG, kptC⟩ ?_)
  intro _
  kpc_if
  refine wpAny_bind (wpAny_seqItems kptG kptD ?_)
  refine wpAny_bind (wpAny_pure ?_)
  refine wpAny_bind ?_
  rw [KPc.range_list]
  refine KPc.start ?_
  intro w1 _
  refine KPc.turn ?_; kpc_check; (repeat kpc_if)
  refine wpAny_bind ?_; refine wpAny_holding ?_; (repeat kpc_if)
  refine wpAny_bind (pf_int hf ?_)
  intro _
  generalize Float64.ofInt n = x at ht ⊢
  refine wpAny_ite (KPc.ite_no (by decide) ?_)
  refine wpAny_of_eq (a := ((if decide (n < 0) = true then [45] else []) ++ digL n.natAbs, none, true)) ?q1 ?_
  case q1 =>
    dsimp only
    rw [text_eq ht ?e1 ?e2 ?e3]
    case e1 => rfl
    case e2 => rfl
    case e3 => rfl
    rfl
  refine wpAny_of_eq (a := ForInStep.yield ([Value.str (S "B") u2], w1.add ⟨(laidL true (decide (n < 0)) n.natAbs).toArray⟩ none, [32, 37, 115])) ?q2 ?_
  case q2 =>
    dsimp only
    rw [field_eq (k := n.natAbs) (neg := decide (n < 0)) ?e1 ?e2 ?e3 ?e4 ?e5 ?e6 ?e7]
    case e6 => exact Or.inl rfl
    case e7 => exact Or.inl rfl
    all_goals rfl
  refine after_to0 (by kpc_g) (y := sgnS n) (sgnS_laid n).symm hl (by kpc_obj) ?_
  intro _ _
  kpt_turns
end Mine
-- G3
namespace Mine
open PySem PySem.W PyProof.Rows PySem.Calls
open Builtin Builtin.Str
set_option maxRecDepth 100000
theorem field_none {f : Percent} {b : Bool} {x : List Nat} (h1 : f.width = none) (h2 : f.prec = none) (h3 : f.sign = false) (h4 : f.blank = false) : percentField f b x = none := by
  unfold percentField
  rw [h1, h2, h3, h4]
  rfl
/-- the signs of an int's own text, with the minus where it is below nought -/
theorem int_laid (f : Int) : (if decide (f < 0) = true then [45] else []) ++ (PySem.Str.ofString (toString ((f.natAbs : Nat) : Int))).cps.toList = (if decide (f < 0) = true then [45] else []) ++ digL f.natAbs := by
  have e : (PySem.Str.ofString (toString ((f.natAbs : Nat) : Int))) = ⟨(digL f.natAbs).toArray⟩ := numS_nat f.natAbs
  rw [e]
theorem pint_eq {c : Percent} {neg : Bool} {d : List Nat} (h1 : c.alt = false) (h2 : c.type = 105) (h3 : c.prec = none) : percentInt c neg d = (if neg = true then [45] else []) ++ d := by
  unfold percentInt
  simp [h1, h2, h3]
abbrev XA : PySem.Str := PySem.Str.mk #[37,115,58,32,115,105,122,101,61,37,115,44,32,99,111,117,110,116,61,37,105]
abbrev XB : PySem.Str := PySem.Str.mk #[37,115,58,32,115,105,122,101,61,37,115,32,40,37,115,41,44,32,99,111,117,110,116,61,37,105,32,40,37,43,105,41]
abbrev XC : PySem.Str := PySem.Str.mk #[60,83,116,97,116,105,115,116,105,99,32,116,114,97,99,101,98,97,99,107,61,37,114,32,115,105,122,101,61,37,105,32,99,111,117,110,116,61,37,105,62]
abbrev XD : PySem.Str := PySem.Str.mk #[60,83,116,97,116,105,115,116,105,99,68,105,102,102,32,116,114,97,99,101,98,97,99,107,61,37,114,32,115,105,122,101,61,37,105,32,40,37,43,105,41,32,99,111,117,110,116,61,37,105,32,40,37,43,105,41,62]
set_option maxHeartbeats 4000000 in
theorem m_str {b : Addr} {t u0 u1 u2 : Tok} {p a : PySem.Str} {c : Int} (hp : p.length ≤ 100) (ha : a.length ≤ 100) (h1 : 0 ≤ c) (h2 : c ≤ 10) :
    Meets («str.__mod__» ⟨[.str XA t, .ref b], []⟩) (fun _ R s => IsTup s.heap b #[.str p u0, .str a u1, .int c u2] ∧ ∀ t' k, R (.ok (.ret (.str (p ++ S ": size=" ++ a ++ S ", count=" ++ numS c) t'))) { s with toks := k }) := by
  apply KPt.meets_tup
  intro _ _ _ _ _ _ kptH _
  obtain ⟨kptO, kptG, kptC, kptN, kptD⟩ := kptH
  rw [KPt.entry_is_r]
  unfold Builtin.Str.percentFormat
  refine wpAny_bind (wpAny_isInstance (T := "tuple") ⟨kptO, kptG, kptC⟩ KPt.sub_tt ?_)
  refine wpAny_bind (KPt.asStr_ref kptG kptD ?_)
  refine wpAny_bind (KPt.fills_ref ⟨kptO, kptG, kptC⟩ ?_)
  intro _
  kpc_if
  refine wpAny_bind (wpAny_seqItems kptG kptD ?_)
  refine wpAny_bind (wpAny_pure ?_)
  refine wpAny_bind ?_
  rw [KPc.range_list]
  refine KPc.start ?_
  intro w1 g1
  refine KPc.turn ?_; kpc_check; (repeat kpc_if)
  refine wpAny_bind ?_; refine wpAny_holding ?_; (repeat kpc_if)
  refine wpAny_bind ?_; kpc_if; refine wpAny_of_eq (KPc.strOf_str _ _) ?_; refine wpAny_bind (wpAny_of_eq (a := some _) rfl ?_)
  refine wpAny_pure ?_; refine wpAny_pure ?_
  refine KPc.after_str0 g1 (K := 100) hp (by kpc_obj) ?_
  intro w2 g2
  refine KPc.turn ?_; kpc_check; (repeat kpc_if)
  refine wpAny_pure ?_
  refine KPc.after_add g2 (by kpc_text) (by kpc_obj) ?_
  intro w3 g3
  refine KPc.turn ?_; kpc_check; (repeat kpc_if)
  refine wpAny_bind ?_; refine wpAny_holding ?_; (repeat kpc_if)
  refine wpAny_bind ?_; kpc_if; refine wpAny_of_eq (KPc.strOf_str _ _) ?_; refine wpAny_bind (wpAny_of_eq (a := some _) rfl ?_)
  refine wpAny_pure ?_; refine wpAny_pure ?_
  refine KPc.after_str g3 (K := 100) ha (by kpc_obj) ?_
  intro w4 g4
  refine KPc.turn ?_; kpc_check; (repeat kpc_if)
  refine wpAny_pure ?_
  refine KPc.after_add g4 (by kpc_text) (by kpc_obj) ?_
  intro w5 g5
  refine KPc.turn ?_; kpc_check; (repeat kpc_if)
  refine wpAny_bind ?_; refine wpAny_holding ?_; (repeat kpc_if)
  refine wpAny_bind (wpAny_of_eq (a := c) rfl ?_); (repeat kpc_if)
  refine wpAny_bind (wpAny_mkInt ?_)
  refine wpAny_bind (call_gives F.slot_int_repr (typeIs_int _ _ _) F.entry_int_repr (F.args_int_repr_1 _) (gives_int_repr _ _ (KPt.hd2 (by kpt_hd))) ⟨int_text_fits (KPt.hd2 (by kpt_hd)), ?_⟩)
  refine wpAny_bind (m := asStr? (.str (PySem.Str.ofString (toString ((c.natAbs : Nat) : Int))) _)) ?_; refine wpAny_pure ?_
  refine wpAny_pure ?_
  refine wpAny_pure ?_
  refine KPc.after_int g5 rfl (by kpc_kind) rfl (by omega) (by omega) rfl (by kpc_none) ?_
  intro w6 g6
  refine KPc.turn ?_; kpc_check; (repeat kpc_if); kpc_close
set_option maxHeartbeats 4000000 in
theorem m_strD {b : Addr} {t u0 u1 u2 u3 u4 : Tok} {p a d : PySem.Str} {c f : Int} (hp : p.length ≤ 100) (ha : a.length ≤ 100) (hd : d.length ≤ 100) (h1 : 0 ≤ c) (h2 : c ≤ 10) (h3 : -10 ≤ f) (h4 : f ≤ 10) :
    Meets («str.__mod__» ⟨[.str XB t, .ref b], []⟩) (fun _ R s => IsTup s.heap b #[.str p u0, .str a u1, .str d u2, .int c u3, .int f u4] ∧ ∀ t' k, R (.ok (.ret (.str (p ++ S ": size=" ++ a ++ S " (" ++ d ++ S "), count=" ++ numS c ++ S " (" ++ sgnS f ++ S ")") t'))) { s with toks := k }) := by
  apply KPt.meets_tup
  intro _ _ _ _ _ _ kptH _
  obtain ⟨kptO, kptG, kptC, kptN, kptD⟩ := kptH
  rw [KPt.entry_is_r]
  unfold Builtin.Str.percentFormat
  refine wpAny_bind (wpAny_isInstance (T := "tuple") ⟨kptO, kptG, kptC⟩ KPt.sub_tt ?_)
  refine wpAny_bind (KPt.asStr_ref kptG kptD ?_)
  refine wpAny_bind (KPt.fills_ref ⟨kptO, kptG, kptC⟩ ?_)
  intro _
  kpc_if
  refine wpAny_bind (wpAny_seqItems kptG kptD ?_)
  refine wpAny_bind (wpAny_pure ?_)
  refine wpAny_bind ?_
  rw [KPc.range_list]
  refine KPc.start ?_
  intro w1 g1
  refine KPc.turn ?_; kpc_check; (repeat kpc_if)
  refine wpAny_bind ?_; refine wpAny_holding ?_; (repeat kpc_if)
  refine wpAny_bind ?_; kpc_if; refine wpAny_of_eq (KPc.strOf_str _ _) ?_; refine wpAny_bind (wpAny_of_eq (a := some _) rfl ?_)
  refine wpAny_pure ?_; refine wpAny_pure ?_
  refine KPc.after_str0 g1 (K := 100) hp (by kpc_obj) ?_
  intro w2 g2
  refine KPc.turn ?_; kpc_check; (repeat kpc_if)
  refine wpAny_pure ?_
  refine KPc.after_add g2 (by kpc_text) (by kpc_obj) ?_
  intro w3 g3
  refine KPc.turn ?_; kpc_check; (repeat kpc_if)
  refine wpAny_bind ?_; refine wpAny_holding ?_; (repeat kpc_if)
  refine wpAny_bind ?_; kpc_if; refine wpAny_of_eq (KPc.strOf_str _ _) ?_; refine wpAny_bind (wpAny_of_eq (a := some _) rfl ?_)
  refine wpAny_pure ?_; refine wpAny_pure ?_
  refine KPc.after_str g3 (K := 100) ha (by kpc_obj) ?_
  intro w4 g4
  refine KPc.turn ?_; kpc_check; (repeat kpc_if)
  refine wpAny_pure ?_
  refine KPc.after_add g4 (by kpc_text) (by kpc_obj) ?_
  intro w5 g5
  refine KPc.turn ?_; kpc_check; (repeat kpc_if)
  refine wpAny_bind ?_; refine wpAny_holding ?_; (repeat kpc_if)
  refine wpAny_bind ?_; kpc_if; refine wpAny_of_eq (KPc.strOf_str _ _) ?_; refine wpAny_bind (wpAny_of_eq (a := some _) rfl ?_)
  refine wpAny_pure ?_; refine wpAny_pure ?_
  refine KPc.after_str g5 (K := 100) hd (by kpc_obj) ?_
  intro w6 g6
  refine KPc.turn ?_; kpc_check; (repeat kpc_if)
  refine wpAny_pure ?_
  refine KPc.after_add g6 (by kpc_text) (by kpc_obj) ?_
  intro w7 g7
  refine KPc.turn ?_; kpc_check; (repeat kpc_if)
  refine wpAny_bind ?_; refine wpAny_holding ?_; (repeat kpc_if)
  refine wpAny_bind (wpAny_of_eq (a := c) rfl ?_); (repeat kpc_if)
  refine wpAny_bind (wpAny_mkInt ?_)
  refine wpAny_bind (call_gives F.slot_int_repr (typeIs_int _ _ _) F.entry_int_repr (F.args_int_repr_1 _) (gives_int_repr _ _ (KPt.hd2 (by kpt_hd))) ⟨int_text_fits (KPt.hd2 (by kpt_hd)), ?_⟩)
  refine wpAny_bind (m := asStr? (.str (PySem.Str.ofString (toString ((c.natAbs : Nat) : Int))) _)) ?_; refine wpAny_pure ?_
  refine wpAny_pure ?_
  refine wpAny_pure ?_
  refine KPc.after_int g7 rfl (by kpc_kind) rfl (by omega) (by omega) rfl (by kpc_none) ?_
  intro w8 g8
  refine KPc.turn ?_; kpc_check; (repeat kpc_if)
  refine wpAny_pure ?_
  refine KPc.after_add g8 (by kpc_text) (by kpc_obj) ?_
  intro w9 g9
  refine KPc.turn ?_; kpc_check; (repeat kpc_if)
  refine wpAny_bind ?_; refine wpAny_holding ?_; (repeat kpc_if)
  refine wpAny_bind (wpAny_of_eq (a := f) rfl ?_); (repeat kpc_if)
  refine wpAny_bind (wpAny_mkInt ?_)
  refine wpAny_bind (call_gives F.slot_int_repr (typeIs_int _ _ _) F.entry_int_repr (F.args_int_repr_1 _) (gives_int_repr _ _ (KPt.hd2 (by kpt_hd))) ⟨int_text_fits (KPt.hd2 (by kpt_hd)), ?_⟩)
  refine wpAny_bind (m := asStr? (.str (PySem.Str.ofString (toString ((f.natAbs : Nat) : Int))) _)) ?_; refine wpAny_pure ?_
  refine wpAny_pure ?_
  refine wpAny_of_eq (a := ForInStep.yield ([], w9.add ⟨(laidL true (decide (f < 0)) f.natAbs).toArray⟩ none, [41])) ?q2 ?_
  case q2 =>
    dsimp only
    rw [pint_eq ?f1 ?f2 ?f3, int_laid, field_eq (k := f.natAbs) (neg := decide (f < 0)) ?e1 ?e2 ?e3 ?e4 ?e5 ?e6 ?e7]
    case e6 => exact Or.inr rfl
    case e7 => exact Or.inr rfl
    all_goals rfl
  refine after_to g9 (y := sgnS f) (sgnS_laid f).symm (sgnS_len (by omega) (by omega)) (by kpc_obj) ?_
  intro w10 g10
  refine KPc.turn ?_; kpc_check; (repeat kpc_if)
  refine wpAny_pure ?_
  refine KPc.after_add g10 (by kpc_text) (by kpc_obj) ?_
  intro w11 g11
  refine KPc.turn ?_; kpc_check; (repeat kpc_if); kpc_close
set_option maxHeartbeats 4000000 in
theorem m_repr {b : Addr} {t u0 u1 u2 : Tok} {p : PySem.Str} {z c : Int} (hp : (reprText p).length ≤ 100) (hs : (reprText p).length ≤ sizeLine) (h0 : 0 ≤ z) (h0' : z ≤ 1300) (h1 : 0 ≤ c) (h2 : c ≤ 10) :
    Meets («str.__mod__» ⟨[.str XC t, .ref b], []⟩) (fun _ R s => IsTup s.heap b #[.str p u0, .int z u1, .int c u2] ∧ ∀ t' k, R (.ok (.ret (.str (S "<Statistic traceback=" ++ reprText p ++ S " size=" ++ numS z ++ S " count=" ++ numS c ++ S ">") t'))) { s with toks := k }) := by
  apply KPt.meets_tup
  intro _ _ _ _ _ _ kptH _
  obtain ⟨kptO, kptG, kptC, kptN, kptD⟩ := kptH
  rw [KPt.entry_is_r]
  unfold Builtin.Str.percentFormat
  refine wpAny_bind (wpAny_isInstance (T := "tuple") ⟨kptO, kptG, kptC⟩ KPt.sub_tt ?_)
  refine wpAny_bind (KPt.asStr_ref kptG kptD ?_)
  refine wpAny_bind (KPt.fills_ref ⟨kptO, kptG, kptC⟩ ?_)
  intro _
  kpc_if
  refine wpAny_bind (wpAny_seqItems kptG kptD ?_)
  refine wpAny_bind (wpAny_pure ?_)
  refine wpAny_bind ?_
  rw [KPc.range_list]
  refine KPc.start ?_
  intro w1 g1
  refine KPc.turn ?_; kpc_check; (repeat kpc_if)
  refine wpAny_pure ?_
  refine KPc.after_add0 g1 (by kpc_text) (by kpc_obj) ?_
  intro w2 g2
  refine KPc.turn ?_; kpc_check; (repeat kpc_if)
  refine wpAny_bind ?_; refine wpAny_holding ?_; (repeat kpc_if)
  refine wpAny_bind ?_; (repeat kpc_if); refine reprU_str ?_ hs; refine wpAny_bind (wpAny_of_eq (a := some _) rfl ?_)
  refine wpAny_pure ?_; refine wpAny_pure ?_
  refine KPc.after_str g2 (K := 100) hp (by kpc_obj) ?_
  intro w3 g3
  refine KPc.turn ?_; kpc_check; (repeat kpc_if)
  refine wpAny_pure ?_
  refine KPc.after_add g3 (by kpc_text) (by kpc_obj) ?_
  intro w4 g4
  refine KPc.turn ?_; kpc_check; (repeat kpc_if)
  refine wpAny_bind ?_; refine wpAny_holding ?_; (repeat kpc_if)
  refine wpAny_bind (wpAny_of_eq (a := z) rfl ?_); (repeat kpc_if)
  refine wpAny_bind (wpAny_mkInt ?_)
  refine wpAny_bind (call_gives F.slot_int_repr (typeIs_int _ _ _) F.entry_int_repr (F.args_int_repr_1 _) (gives_int_repr _ _ (KPt.hd2 (by kpt_hd))) ⟨int_text_fits (KPt.hd2 (by kpt_hd)), ?_⟩)
  refine wpAny_bind (m := asStr? (.str (PySem.Str.ofString (toString ((z.natAbs : Nat) : Int))) _)) ?_; refine wpAny_pure ?_
  refine wpAny_pure ?_
  refine wpAny_pure ?_
  refine KPc.after_int g4 rfl (by kpc_kind) rfl (by omega) (by omega) rfl (by kpc_none) ?_
  intro w5 g5
  refine KPc.turn ?_; kpc_check; (repeat kpc_if)
  refine wpAny_pure ?_
  refine KPc.after_add g5 (by kpc_text) (by kpc_obj) ?_
  intro w6 g6
  refine KPc.turn ?_; kpc_check; (repeat kpc_if)
  refine wpAny_bind ?_; refine wpAny_holding ?_; (repeat kpc_if)
  refine wpAny_bind (wpAny_of_eq (a := c) rfl ?_); (repeat kpc_if)
  refine wpAny_bind (wpAny_mkInt ?_)
  refine wpAny_bind (call_gives F.slot_int_repr (typeIs_int _ _ _) F.entry_int_repr (F.args_int_repr_1 _) (gives_int_repr _ _ (KPt.hd2 (by kpt_hd))) ⟨int_text_fits (KPt.hd2 (by kpt_hd)), ?_⟩)
  refine wpAny_bind (m := asStr? (.str (PySem.Str.ofString (toString ((c.natAbs : Nat) : Int))) _)) ?_; refine wpAny_pure ?_
  refine wpAny_pure ?_
  refine wpAny_pure ?_
  refine KPc.after_int g6 rfl (by kpc_kind) rfl (by omega) (by omega) rfl (by kpc_none) ?_
  intro w7 g7
  refine KPc.turn ?_; kpc_check; (repeat kpc_if)
  refine wpAny_pure ?_
  refine KPc.after_add g7 (by kpc_text) (by kpc_obj) ?_
  intro w8 g8
  refine KPc.turn ?_; kpc_check; (repeat kpc_if); kpc_close
set_option maxHeartbeats 4000000 in
theorem m_reprD {b : Addr} {t u0 u1 u2 u3 u4 : Tok} {p : PySem.Str} {z d c f : Int} (hp : (reprText p).length ≤ 100) (hs : (reprText p).length ≤ sizeLine) (h0 : 0 ≤ z) (h0' : z ≤ 1300) (h1 : 0 ≤ c) (h2 : c ≤ 10) (h3 : -10 ≤ f) (h4 : f ≤ 10) (h5 : -1300 ≤ d) (h6 : d ≤ 1300) :
    Meets («str.__mod__» ⟨[.str XD t, .ref b], []⟩) (fun _ R s => IsTup s.heap b #[.str p u0, .int z u1, .int d u2, .int c u3, .int f u4] ∧ ∀ t' k, R (.ok (.ret (.str (S "<StatisticDiff traceback=" ++ reprText p ++ S " size=" ++ numS z ++ S " (" ++ sgnS d ++ S ") count=" ++ numS c ++ S " (" ++ sgnS f ++ S ")>") t'))) { s with toks := k }) := by
  apply KPt.meets_tup
  intro _ _ _ _ _ _ kptH _
  obtain ⟨kptO, kptG, kptC, kptN, kptD⟩ := kptH
  rw [KPt.entry_is_r]
  unfold Builtin.Str.percentFormat
  refine wpAny_bind (wpAny_isInstance (T := "tuple") ⟨kptO, kptG, kptC⟩ KPt.sub_tt ?_)
  refine wpAny_bind (KPt.asStr_ref kptG kptD ?_)
  refine wpAny_bind (KPt.fills_ref ⟨kptO, kptG, kptC⟩ ?_)
  intro _
  kpc_if
  refine wpAny_bind (wpAny_seqItems kptG kptD ?_)
  refine wpAny_bind (wpAny_pure ?_)
  refine wpAny_bind ?_
  rw [KPc.range_list]
  refine KPc.start ?_
  intro w1 g1
  refine KPc.turn ?_; kpc_check; (repeat kpc_if)
  refine wpAny_pure ?_
  refine KPc.after_add0 g1 (by kpc_text) (by kpc_obj) ?_
  intro w2 g2
  refine KPc.turn ?_; kpc_check; (repeat kpc_if)
  refine wpAny_bind ?_; refine wpAny_holding ?_; (repeat kpc_if)
  refine wpAny_bind ?_; (repeat kpc_if); refine reprU_str ?_ hs; refine wpAny_bind (wpAny_of_eq (a := some _) rfl ?_)
  refine wpAny_pure ?_; refine wpAny_pure ?_
  refine KPc.after_str g2 (K := 100) hp (by kpc_obj) ?_
  intro w3 g3
  refine KPc.turn ?_; kpc_check; (repeat kpc_if)
  refine wpAny_pure ?_
  refine KPc.after_add g3 (by kpc_text) (by kpc_obj) ?_
  intro w4 g4
  refine KPc.turn ?_; kpc_check; (repeat kpc_if)
  refine wpAny_bind ?_; refine wpAny_holding ?_; (repeat kpc_if)
  refine wpAny_bind (wpAny_of_eq (a := z) rfl ?_); (repeat kpc_if)
  refine wpAny_bind (wpAny_mkInt ?_)
  refine wpAny_bind (call_gives F.slot_int_repr (typeIs_int _ _ _) F.entry_int_repr (F.args_int_repr_1 _) (gives_int_repr _ _ (KPt.hd2 (by kpt_hd))) ⟨int_text_fits (KPt.hd2 (by kpt_hd)), ?_⟩)
  refine wpAny_bind (m := asStr? (.str (PySem.Str.ofString (toString ((z.natAbs : Nat) : Int))) _)) ?_; refine wpAny_pure ?_
  refine wpAny_pure ?_
  refine wpAny_pure ?_
  refine KPc.after_int g4 rfl (by kpc_kind) rfl (by omega) (by omega) rfl (by kpc_none) ?_
  intro w5 g5
  refine KPc.turn ?_; kpc_check; (repeat kpc_if)
  refine wpAny_pure ?_
  refine KPc.after_add g5 (by kpc_text) (by kpc_obj) ?_
  intro w6 g6
  refine KPc.turn ?_; kpc_check; (repeat kpc_if)
  refine wpAny_bind ?_; refine wpAny_holding ?_; (repeat kpc_if)
  refine wpAny_bind (wpAny_of_eq (a := d) rfl ?_); (repeat kpc_if)
  refine wpAny_bind (wpAny_mkInt ?_)
  refine wpAny_bind (call_gives F.slot_int_repr (typeIs_int _ _ _) F.entry_int_repr (F.args_int_repr_1 _) (gives_int_repr _ _ (KPt.hd2 (by kpt_hd))) ⟨int_text_fits (KPt.hd2 (by kpt_hd)), ?_⟩)
  refine wpAny_bind (m := asStr? (.str (PySem.Str.ofString (toString ((d.natAbs : Nat) : Int))) _)) ?_; refine wpAny_pure ?_
  refine wpAny_pure ?_
  refine wpAny_of_eq (a := ForInStep.yield ([Value.int c u3, Value.int f u4], w6.add ⟨(laidL true (decide (d < 0)) d.natAbs).toArray⟩ none, [41, 32, 99, 111, 117, 110, 116, 61, 37, 105, 32, 40, 37, 43, 105, 41, 62])) ?q2 ?_
  case q2 =>
    dsimp only
    rw [pint_eq ?f1 ?f2 ?f3, int_laid, field_eq (k := d.natAbs) (neg := decide (d < 0)) ?e1 ?e2 ?e3 ?e4 ?e5 ?e6 ?e7]
    case e6 => exact Or.inr rfl
    case e7 => exact Or.inr rfl
    all_goals rfl
  refine after_to g6 (y := sgnS d) (sgnS_laid d).symm (sgnS_len (by omega) (by omega)) (by kpc_obj) ?_
  intro w7 g7
  refine KPc.turn ?_; kpc_check; (repeat kpc_if)
  refine wpAny_pure ?_
  refine KPc.after_add g7 (by kpc_text) (by kpc_obj) ?_
  intro w8 g8
  refine KPc.turn ?_; kpc_check; (repeat kpc_if)
  refine wpAny_bind ?_; refine wpAny_holding ?_; (repeat kpc_if)
  refine wpAny_bind (wpAny_of_eq (a := c) rfl ?_); (repeat kpc_if)
  refine wpAny_bind (wpAny_mkInt ?_)
  refine wpAny_bind (call_gives F.slot_int_repr (typeIs_int _ _ _) F.entry_int_repr (F.args_int_repr_1 _) (gives_int_repr _ _ (KPt.hd2 (by kpt_hd))) ⟨int_text_fits (KPt.hd2 (by kpt_hd)), ?_⟩)
  refine wpAny_bind (m := asStr? (.str (PySem.Str.ofString (toString ((c.natAbs : Nat) : Int))) _)) ?_; refine wpAny_pure ?_
  refine wpAny_pure ?_
  refine wpAny_pure ?_
  refine KPc.after_int g8 rfl (by kpc_kind) rfl (by omega) (by omega) rfl (by kpc_none) ?_
  intro w9 g9
  refine KPc.turn ?_; kpc_check; (repeat kpc_if)
  refine wpAny_pure ?_
  refine KPc.after_add g9 (by kpc_text) (by kpc_obj) ?_
  intro w10 g10
  refine KPc.turn ?_; kpc_check; (repeat kpc_if)
  refine wpAny_bind ?_; refine wpAny_holding ?_; (repeat kpc_if)
  refine wpAny_bind (wpAny_of_eq (a := f) rfl ?_); (repeat kpc_if)
  refine wpAny_bind (wpAny_mkInt ?_)
  refine wpAny_bind (call_gives F.slot_int_repr (typeIs_int _ _ _) F.entry_int_repr (F.args_int_repr_1 _) (gives_int_repr _ _ (KPt.hd2 (by kpt_hd))) ⟨int_text_fits (KPt.hd2 (by kpt_hd)), ?_⟩)
  refine wpAny_bind (m := asStr? (.str (PySem.Str.ofString (toString ((f.natAbs : Nat) : Int))) _)) ?_; refine wpAny_pure ?_
  refine wpAny_pure ?_
  refine wpAny_of_eq (a := ForInStep.yield ([], w10.add ⟨(laidL true (decide (f < 0)) f.natAbs).toArray⟩ none, [41, 62])) ?q2 ?_
  case q2 =>
    dsimp only
    rw [pint_eq ?f1 ?f2 ?f3, int_laid, field_eq (k := f.natAbs) (neg := decide (f < 0)) ?e1 ?e2 ?e3 ?e4 ?e5 ?e6 ?e7]
    case e6 => exact Or.inr rfl
    case e7 => exact Or.inr rfl
    all_goals rfl
  refine after_to g10 (y := sgnS f) (sgnS_laid f).symm (sgnS_len (by omega) (by omega)) (by kpc_obj) ?_
  intro w11 g11
  refine KPc.turn ?_; kpc_check; (repeat kpc_if)
  refine wpAny_pure ?_
  refine KPc.after_add g11 (by kpc_text) (by kpc_obj) ?_
  intro w12 g12
  refine KPc.turn ?_; kpc_check; (repeat kpc_if); kpc_close
end Mine
-- H0
namespace Mine
open PySem PySem.W PyProof.Rows PySem.Calls Builtin
set_option maxRecDepth 100000
/-- a caller's surroundings -/
abbrev At (dp un : Nat) (gd : Option (List Code)) (env : Env) (outer : List Env) : Around := { handled := none, depth := dp, frames := some (env :: outer), guards := gd, units := un }
theorem At_depth (dp un : Nat) (gd : Option (List Code)) (env : Env) (outer : List Env) : (At dp un gd env outer).depth = dp := rfl
theorem At_units (dp un : Nat) (gd : Option (List Code)) (env : Env) (outer : List Env) : (At dp un gd env outer).units = un := rfl
abbrev stObj (d : Addr) (p : PySem.Str) (t0 : Tok) (z : Int) (t1 : Tok) (c : Int) (t3 : Tok) : Obj :=
  { cls := .ref 82, dict := some d, slots := #[some (.int c t3), some (.int z t1), some (.str p t0)] }
abbrev dfObj (e : Addr) (p : PySem.Str) (t0 : Tok) (z : Int) (t1 : Tok) (d : Int) (t2 : Tok) (c : Int) (t3 : Tok) (f : Int) (t4 : Tok) : Obj :=
  { cls := .ref 141, dict := some e, slots := #[some (.int c t3), some (.int f t4), some (.int z t1), some (.int d t2), some (.str p t0)] }
/-- what a caller knows -/
structure Gnd (w : World) (mean : ExcName → Option Value) (mg mb : PySem.Str → Option Value) (A₀ : Around) (env : Env) (outer : List Env) (base h₀ : Heap) (L : Addr) (m : PySem.Str → Option Value) (h : Heap) (dp un : Nat) : Prop where
  B : Below A₀ base outer h₀
  F : Fr h₀ L h m
  X : (hd.heap_39 w.params).In h₀
  T : Top hd.view_39 (looseW hd.view_39 [PySem.Str.ofString "Statistic", PySem.Str.ofString "StatisticDiff"]) mean mg mb h₀
  hf : env.frame = some L
  hke : env.scope.kind = .function
  hdp : dp ≤ 500
  hun : un ≤ 5000
theorem InElt.trans {a b c : Heap} (h : InElt a b) (k : InElt b c) : InElt a c := fun x o e => k x o (h x o e)
theorem sgnS_neg {n : Int} (h : n < 0) : PySem.Str.ofString "-" ++ PySem.Str.ofString (toString (-n)) = sgnS n := (if_pos h).symm
theorem sgnS_pos {n : Int} (h : ¬ n < 0) : PySem.Str.ofString "+" ++ PySem.Str.ofString (toString n) = sgnS n := (if_neg h).symm
theorem abs_small01 : ∀ k : Fin 326, (Float64.cmpInt (Float64.abs (Float64.ofInt ((k.val : Nat) : Int))) (10 * 1024) == some Ordering.lt) = true := by decide +kernel
theorem abs_small02 : ∀ k : Fin 651, k.val < 326 ∨ (Float64.cmpInt (Float64.abs (Float64.ofInt ((k.val : Nat) : Int))) (10 * 1024) == some Ordering.lt) = true := by decide +kernel
theorem abs_small03 : ∀ k : Fin 976, k.val < 651 ∨ (Float64.cmpInt (Float64.abs (Float64.ofInt ((k.val : Nat) : Int))) (10 * 1024) == some Ordering.lt) = true := by decide +kernel
theorem abs_small04 : ∀ k : Fin 1301, k.val < 976 ∨ (Float64.cmpInt (Float64.abs (Float64.ofInt ((k.val : Nat) : Int))) (10 * 1024) == some Ordering.lt) = true := by decide +kernel
theorem abs_small0 : ∀ k : Fin 1301, (Float64.cmpInt (Float64.abs (Float64.ofInt ((k.val : Nat) : Int))) (10 * 1024) == some Ordering.lt) = true := by
  intro ⟨k, hk⟩
  by_cases h0 : k < 326
  · exact abs_small01 ⟨k, h0⟩
  by_cases h1 : k < 651
  · exact (abs_small02 ⟨k, h1⟩).resolve_left h0
  by_cases h2 : k < 976
  · exact (abs_small03 ⟨k, h2⟩).resolve_left h1
  exact (abs_small04 ⟨k, hk⟩).resolve_left h2
theorem abs_small {n : Int} {x : UInt64} (h1 : 0 ≤ n) (h2 : n ≤ 1300) (hx : x = Float64.ofInt n) : (Float64.cmpInt (Float64.abs x) (10 * 1024) == some Ordering.lt) = true := by
  have := abs_small0 ⟨n.toNat, by omega⟩
  have e : ((n.toNat : Nat) : Int) = n := Int.toNat_of_nonneg h1
  dsimp only at this
  rw [e, ← hx] at this
  exact this
theorem sizeT_len {n : Int} (h0 : 0 ≤ n) (h1 : n ≤ 1300) : (numS n ++ S " " ++ S "B").length ≤ 100 := by
  have h := numS_len h0 (by omega)
  rw [PySem.Str.length_append, PySem.Str.length_append, show (S " ").length = 1 from by decide +kernel, show (S "B").length = 1 from by decide +kernel]
  omega
theorem moreT_len {n : Int} (h0 : -1300 ≤ n) (h1 : n ≤ 1300) : (sgnS n ++ S " " ++ S "B").length ≤ 100 := by
  have h := sgnS_len (n := n) (by omega) (by omega)
  rw [PySem.Str.length_append, PySem.Str.length_append, show (S " ").length = 1 from by decide +kernel, show (S "B").length = 1 from by decide +kernel]
  omega
/-- what is told behind a count that is not 0 -/
def tailT (c a : Int) : PySem.Str := if c = 0 then PySem.Str.empty else S ", average=" ++ (numS a ++ S " " ++ S "B")
@[irreducible] def strT (p : PySem.Str) (z c a : Int) : PySem.Str := (p ++ S ": size=" ++ (numS z ++ S " " ++ S "B") ++ S ", count=" ++ numS c) ++ tailT c a
@[irreducible] def strDT (p : PySem.Str) (z d c f a : Int) : PySem.Str := (p ++ S ": size=" ++ (numS z ++ S " " ++ S "B") ++ S " (" ++ (sgnS d ++ S " " ++ S "B") ++ S "), count=" ++ numS c ++ S " (" ++ sgnS f ++ S ")") ++ tailT c a
@[irreducible] def repT (p : PySem.Str) (z c : Int) : PySem.Str := S "<Statistic traceback=" ++ reprText p ++ S " size=" ++ numS z ++ S " count=" ++ numS c ++ S ">"
@[irreducible] def repDT (p : PySem.Str) (z d c f : Int) : PySem.Str := S "<StatisticDiff traceback=" ++ reprText p ++ S " size=" ++ numS z ++ S " (" ++ sgnS d ++ S ") count=" ++ numS c ++ S " (" ++ sgnS f ++ S ")>"
theorem app_empty (x : PySem.Str) : x ++ PySem.Str.empty = x := by
  apply PySem.Str.ext'
  rw [PySem.Str.cps_append]
  simp [PySem.Str.empty]
theorem tail0 (x : PySem.Str) {c a : Int} (h : c = 0) : x ++ tailT c a = x := by
  unfold tailT
  rw [if_pos h, app_empty]
theorem tail1 (x : PySem.Str) {c a : Int} (h : ¬ c = 0) : x ++ tailT c a = x ++ (S ", average=" ++ (numS a ++ S " " ++ S "B")) := by
  unfold tailT
  rw [if_neg h]
theorem lit_len : (S ": size=").length = 7 ∧ (S " ").length = 1 ∧ (S "B").length = 1 ∧ (S ", count=").length = 8 ∧ (S ", average=").length = 10 ∧ (S " (").length = 2 ∧ (S "), count=").length = 9 ∧ (S ")").length = 1 := by decide +kernel
theorem app_le {x y : PySem.Str} {a b : Nat} (h : x.length ≤ a) (k : y.length ≤ b) : (x ++ y).length ≤ a + b := by
  rw [PySem.Str.length_append]
  exact Nat.add_le_add h k
theorem lit_B {n : Int} (h0 : 0 ≤ n) (h1 : n ≤ 10000) : (numS n ++ S " " ++ S "B").length ≤ 12 :=
  app_le (app_le (numS_len h0 h1) (Nat.le_of_eq lit_len.2.1)) (Nat.le_of_eq lit_len.2.2.1)
theorem sgn_B {n : Int} (h0 : -10000 ≤ n) (h1 : n ≤ 10000) : (sgnS n ++ S " " ++ S "B").length ≤ 14 :=
  app_le (app_le (sgnS_len h0 h1) (Nat.le_of_eq lit_len.2.1)) (Nat.le_of_eq lit_len.2.2.1)
theorem fits_avg {p : PySem.Str} {z c a : Int} (hp : p.length ≤ 100) (hz0 : 0 ≤ z) (hz1 : z ≤ 1300) (hc0 : 0 ≤ c) (hc1 : c ≤ 4) (ha0 : 0 ≤ a) (ha1 : a < 300) :
    (p ++ S ": size=" ++ (numS z ++ S " " ++ S "B") ++ S ", count=" ++ numS c).length + (S ", average=" ++ (numS a ++ S " " ++ S "B")).length ≤ sizeLine := by
  obtain ⟨e1, e2, e3, e4, e5, e6, e7, e8⟩ := lit_len
  exact Nat.le_trans (Nat.add_le_add (app_le (app_le (app_le (app_le hp (Nat.le_of_eq e1)) (lit_B hz0 (by omega))) (Nat.le_of_eq e4)) (numS_len hc0 (by omega))) (app_le (Nat.le_of_eq e5) (lit_B ha0 (by omega)))) (Nat.le_of_ble_eq_true rfl)
theorem fits_avgD {p : PySem.Str} {z d c f a : Int} (hp : p.length ≤ 100) (hz0 : 0 ≤ z) (hz1 : z ≤ 1300) (hd0 : -1300 ≤ d) (hd1 : d ≤ 1300) (hc0 : 0 ≤ c) (hc1 : c ≤ 4) (hf0 : -10 ≤ f) (hf1 : f ≤ 10) (ha0 : 0 ≤ a) (ha1 : a < 300) :
    (p ++ S ": size=" ++ (numS z ++ S " " ++ S "B") ++ S " (" ++ (sgnS d ++ S " " ++ S "B") ++ S "), count=" ++ numS c ++ S " (" ++ sgnS f ++ S ")").length + (S ", average=" ++ (numS a ++ S " " ++ S "B")).length ≤ sizeLine := by
  obtain ⟨e1, e2, e3, e4, e5, e6, e7, e8⟩ := lit_len
  exact Nat.le_trans (Nat.add_le_add (app_le (app_le (app_le (app_le (app_le (app_le (app_le (app_le (app_le hp (Nat.le_of_eq e1)) (lit_B hz0 (by omega))) (Nat.le_of_eq e6)) (sgn_B (by omega) (by omega))) (Nat.le_of_eq e7)) (numS_len hc0 (by omega))) (Nat.le_of_eq e6)) (sgnS_len (by omega) (by omega))) (Nat.le_of_eq e8)) (app_le (Nat.le_of_eq e5) (lit_B ha0 (by omega)))) (Nat.le_of_ble_eq_true rfl)
def tailL (c q : Int) : PySem.Str := if c = 0 then S "" else S ", average=" ++ numS q ++ S " B"
@[irreducible] def x1 (p : PySem.Str) (z c q : Int) : PySem.Str := p ++ S ": size=" ++ numS z ++ S " B, count=" ++ numS c ++ tailL c q
@[irreducible] def x2 (p : PySem.Str) (z d c f q : Int) : PySem.Str := p ++ S ": size=" ++ numS z ++ S " B (" ++ sgnS d ++ S " B), count=" ++ (numS c ++ S " (" ++ sgnS f ++ S ")" ++ tailL c q)
@[irreducible] def x3 (p : PySem.Str) (z c : Int) : PySem.Str := S "<Statistic traceback='" ++ p ++ S "' size=" ++ numS z ++ S " count=" ++ numS c ++ S ">"
@[irreducible] def x4 (p : PySem.Str) (z d c f : Int) : PySem.Str := S "<StatisticDiff traceback='" ++ p ++ S "' size=" ++ numS z ++ S " (" ++ sgnS d ++ (S ") count=" ++ numS c ++ S " (" ++ sgnS f ++ S ")>")
theorem News_two {h₀ h : Heap} {L : Addr} {news : List (Addr × Obj)} {q1 q2 : Addr × Obj} (N : News h₀ L h news) (h1 : q1 ∈ news) (h2 : q2 ∈ news) : News h₀ L h [q1, q2] := by
  intro p hp
  rcases List.mem_cons.mp hp with rfl | hp
  · exact N _ h1
  · rw [List.mem_singleton.mp hp]
    exact N _ h2
theorem News_cons {h₀ h : Heap} {L : Addr} {news : List (Addr × Obj)} {q : Addr × Obj} (N : News h₀ L h news) (h1 : News h₀ L h [q]) : News h₀ L h (q :: news) := by
  intro p hp
  rcases List.mem_cons.mp hp with rfl | hp
  · exact h1 _ (.head _)
  · exact N _ hp
theorem bne_same (x : PySem.Str) : ¬ (x != x) = true := by simp
theorem app_assoc (x y z : PySem.Str) : (x ++ y) ++ z = x ++ (y ++ z) := PySem.Str.append_assoc x y z
theorem sB : S " " ++ S "B" = S " B" := by decide +kernel
theorem sizeB (x : PySem.Str) : x ++ S " " ++ S "B" = x ++ S " B" := by rw [app_assoc, sB]
abbrev XE : PySem.Str := PySem.Str.mk #[44,32,97,118,101,114,97,103,101,61,37,115]
set_option maxHeartbeats 4000000 in
theorem m_avg {t u : Tok} : ∀ z : PySem.Str, z.length ≤ 1000000 → Meets («str.__mod__» ⟨[.str XE t, .str z u], []⟩) (fun _ R s => ∀ t' k, R (.ok (.ret (.str (S ", average=" ++ z) t'))) { s with toks := k }) := by
  kpc_run_s
end Mine
namespace Mine
open PySem PySem.W PyProof.Rows PySem.Calls
set_option maxRecDepth 100000
-- S1
local macro_rules | `(tactic| k_room) => `(tactic| ((try simp only [depth_mark, depth_under_make, depth_under_kw, depth_in1, depth_deeper, At_depth]); (simp only [recursionLimit]); omega))
local macro_rules | `(tactic| k_units) => `(tactic| ((have hcL9 := cLine_is); (try simp only [units_in1, units_deeper, Around.mark_units, At_units]); omega))
local macro_rules | `(tactic| k_enter) => `(tactic| (k_inElt; (refine' code_defG ?k1 ?k2 ?k3 ?k4 ?k5 ?kA ?kF ?kK ?k6 ?k7 ?k8 ?k9 ?kB ?_ ?c2 ?c3 ?c4 ?c5; (case kA => exact rfl); (case kF => first | exact rfl | assumption); (case kK => first | exact rfl | assumption); (case k1 => k_asm); (case k2 => k_asm); (case k3 => k_asm); (case k4 => k_asm); (case k5 => k_asm); (case k6 => k_is); (case k7 => k_is); (case k8 => k_room); (case k9 => first | exact BindsTo.of_eq rfl | exact binds_K (by k_in) rfl (by k_is) rfl rfl rfl | fail "k_enter: no rule for these arguments"); (case c5 => decide); (case kB => exact locs rfl); (case c2 => exact rfl); (case c3 => exact rfl); (case c4 => exact rfl); k_whole; intro g' L' h' FG' F' N' B' X' T' kG'; (try dsimp only); (try k_lift B'); (try k_fold))))
local macro_rules | `(tactic| kas_ty) => `(tactic| first | exact Gnd.mk (by k_asm) (by k_asm) (by k_asm) (by k_asm) rfl rfl (by first | decide | (dsimp only [Around.deeper, Around.in1, At]; omega)) (by first | decide | (dsimp only [Around.deeper, Around.in1, At]; omega)) | (refine ⟨?_, ?_⟩ <;> first | decide | (dsimp only [Around.deeper, Around.in1, At]; omega)))
local macro_rules | `(tactic| ksp_bin) => `(tactic| (k_whole; (first | (intro _ h9 tk9 F9 E9; (have N9 := News.grown (by k_asm) E9)) | (intro h9 tk9 F9 E9; (have N9 := News.grown (by k_asm) E9))); (clear E9); (try dsimp only); (try k_fold)))
local macro_rules | `(tactic| walk_at "binaryOp Mod str ref") => `(tactic| (k_here; (with_reducible show wpAny _ _ (binaryOp _ (Value.str (PySem.Str.ofString "%.0f %s") _) _) _ _ _); k_dflt (refine' KPt.mod_tuple (by k_asm) (by k_mem) (by kpt_eq) (by first | ((rename ((_ : UInt64) = Float64.ofInt _) => hxx); exact m_plain (by assumption) (by assumption) hxx (fun _ _ _ s _ _ h => pf_float (h s.toks))) | exact m_plain (by assumption) (by assumption) rfl (fun _ _ _ _ _ _ h => pf_int (fits_int (by omega) (by omega)) h)) ?_); intro _ _))
local macro_rules | `(tactic| walk_at "binaryOp Mod str ref") => `(tactic| (k_here; (with_reducible show wpAny _ _ (binaryOp _ (Value.str (PySem.Str.ofString "%+.0f %s") _) _) _ _ _); k_dflt (refine' KPt.mod_tuple (by k_asm) (by k_mem) (by kpt_eq) (by exact m_sign (by assumption) (by assumption) ) ?_); intro _ _))
section
variable {w : World} {mean : ExcName → Option Value} {mg mb : PySem.Str → Option Value} {A₀ : Around} {env : Env} {outer : List Env} {base h₀ : Heap} {L : Addr} {m : PySem.Str → Option Value} {s : Shared} {E : Value → Shared → Prop} {dp un : Nat} {gd : Option (List Code)}
set_option maxHeartbeats 4000000 in
theorem signed_ok {n : Int} {t : Tok} {Q : Value → Shared → Prop} (G : Gnd w mean mg mb A₀ env outer base h₀ L m s.heap dp un) (h1 : -1300 ≤ n) (h2 : n ≤ 1300)
    (ret : ∀ u h' tk', Fr h₀ L h' m → InElt s.heap h' → Q (.str (sgnS n) u) { s with heap := h', toks := tk' }) :
    wpAny (model PySem.Challenge.rw_mg0088_01.row.toRowW.prog w) (At dp un gd env outer) (call (.ref 155) [.int n t]) Q E s := by
  obtain ⟨B, F, X, T, hf, hke, hdp, hun⟩ := G
  revert X
  k_fill
  intro X
  have cE' := InElt.start s.heap
  k_with_none
  have N : News h₀ L s.heap [] := fun _ h => nomatch h
  refine wpAny_call ?_
  k_dflt k_enter
  w_strict k_steps
  · rw [sgnS_neg (by assumption)]
    exact ret _ _ _ (by assumption) (by assumption)
  · rw [sgnS_pos (by assumption)]
    exact ret _ _ _ (by assumption) (by assumption)
set_option maxHeartbeats 4000000 in
theorem size_ok {n : Int} {t : Tok} {Q : Value → Shared → Prop} (G : Gnd w mean mg mb A₀ env outer base h₀ L m s.heap dp un) (h1 : 0 ≤ n) (h2 : n ≤ 1300)
    (ret : ∀ u h' tk', Fr h₀ L h' m → InElt s.heap h' → Q (.str (numS n ++ S " " ++ S "B") u) { s with heap := h', toks := tk' }) :
    wpAny (model PySem.Challenge.rw_mg0088_01.row.toRowW.prog w) (At dp un gd env outer) (call (.ref 28) [.int n t, .bool false]) Q E s := by
  obtain ⟨B, F, X, T, hf, hke, hdp, hun⟩ := G
  revert X
  k_fill
  intro X
  have cE' := InElt.start s.heap
  have N : News h₀ L s.heap [] := fun _ h => nomatch h
  refine wpAny_call ?_
  k_dflt k_enter
  w_strict k_steps
  all_goals exact ret _ _ _ (by assumption) (by assumption)
set_option maxHeartbeats 4000000 in
theorem more_ok {n : Int} {t : Tok} {Q : Value → Shared → Prop} (G : Gnd w mean mg mb A₀ env outer base h₀ L m s.heap dp un) (h1 : -1300 ≤ n) (h2 : n ≤ 1300)
    (ret : ∀ u h' tk', Fr h₀ L h' m → InElt s.heap h' → Q (.str (sgnS n ++ S " " ++ S "B") u) { s with heap := h', toks := tk' }) :
    wpAny (model PySem.Challenge.rw_mg0088_01.row.toRowW.prog w) (At dp un gd env outer) (call (.ref 28) [.int n t, .bool true]) Q E s := by
  obtain ⟨B, F, X, T, hf, hke, hdp, hun⟩ := G
  revert X
  k_fill
  intro X
  have cE' := InElt.start s.heap
  have N : News h₀ L s.heap [] := fun _ h => nomatch h
  refine wpAny_call ?_
  k_dflt k_enter
  w_strict k_steps
  all_goals exact ret _ _ _ (by assumption) (by assumption)
end
-- S2
section
variable {w : World} {mean : ExcName → Option Value} {mg mb : PySem.Str → Option Value} {A₀ : Around} {env : Env} {outer : List Env} {base h₀ : Heap} {L : Addr} {m : PySem.Str → Option Value} {s : Shared} {E : Value → Shared → Prop} {dp un : Nat} {gd : Option (List Code)}
set_option maxHeartbeats 4000000 in
theorem avg_ok {n : Int} {x : UInt64} {t : Tok} {Q : Value → Shared → Prop} (G : Gnd w mean mg mb A₀ env outer base h₀ L m s.heap dp un) (h1 : 0 ≤ n) (h2 : n ≤ 1300) (hx : x = Float64.ofInt n)
    (ret : ∀ u h' tk', Fr h₀ L h' m → InElt s.heap h' → Q (.str (numS n ++ S " " ++ S "B") u) { s with heap := h', toks := tk' }) :
    wpAny (model PySem.Challenge.rw_mg0088_01.row.toRowW.prog w) (At dp un gd env outer) (call (.ref 28) [.float x t, .bool false]) Q E s := by
  obtain ⟨B, F, X, T, hf, hke, hdp, hun⟩ := G
  revert X
  k_fill
  intro X
  have cE' := InElt.start s.heap
  k_with_none
  (k_with "ite" => (k_here; (with_reducible show (if (Float64.cmpInt (Float64.abs _) (10 * 1024) == some Ordering.lt) = true then _ else _)); refine ite_pos (abs_small (by assumption) (by assumption) (by assumption)) ?_))
  have N : News h₀ L s.heap [] := fun _ h => nomatch h
  refine wpAny_call ?_
  k_dflt k_enter
  w_strict k_steps
  all_goals exact ret _ _ _ (by assumption) (by assumption)
end
-- S4
local macro_rules | `(tactic| walk_at "binaryOp Mod str ref") => `(tactic| (k_here; (with_reducible show wpAny _ _ (binaryOp _ (Value.str (PySem.Str.ofString "%s: size=%s, count=%i") _) _) _ _ _); k_dflt (refine' KPt.mod_tuple (by k_asm) (by k_mem) (by kpt_eq) (by exact m_str (by assumption) (sizeT_len (by omega) (by omega) ) (by omega) (by omega) ) ?_); intro _ _))
local macro_rules | `(tactic| walk_at "binaryOp Mod str ref") => `(tactic| (k_here; (with_reducible show wpAny _ _ (binaryOp _ (Value.str (PySem.Str.ofString "%s: size=%s (%s), count=%i (%+i)") _) _) _ _ _); k_dflt (refine' KPt.mod_tuple (by k_asm) (by k_mem) (by kpt_eq) (by exact m_strD (by assumption) (sizeT_len (by omega) (by omega) ) (moreT_len (by omega) (by omega) ) (by omega) (by omega) (by omega) (by omega) ) ?_); intro _ _))
local macro_rules | `(tactic| walk_at "binaryOp Mod str ref") => `(tactic| (k_here; (with_reducible show wpAny _ _ (binaryOp _ (Value.str (PySem.Str.ofString "<Statistic traceback=%r size=%i count=%i>") _) _) _ _ _); k_dflt (refine' KPt.mod_tuple (by k_asm) (by k_mem) (by kpt_eq) (by exact m_repr (by assumption) (by assumption) (by omega) (by omega) (by omega) (by omega) ) ?_); intro _ _))
local macro_rules | `(tactic| walk_at "binaryOp Mod str ref") => `(tactic| (k_here; (with_reducible show wpAny _ _ (binaryOp _ (Value.str (PySem.Str.ofString "<StatisticDiff traceback=%r size=%i (%+i) count=%i (%+i)>") _) _) _ _ _); k_dflt (refine' KPt.mod_tuple (by k_asm) (by k_mem) (by kpt_eq) (by exact m_reprD (by assumption) (by assumption) (by omega) (by omega) (by omega) (by omega) (by omega) (by omega) (by omega) (by omega) ) ?_); intro _ _))
section
variable {w : World} {mean : ExcName → Option Value} {mg mb : PySem.Str → Option Value} {A₀ : Around} {env : Env} {outer : List Env} {base h₀ : Heap} {L : Addr} {m : PySem.Str → Option Value} {s : Shared} {E : Value → Shared → Prop} {dp un : Nat} {gd : Option (List Code)}
set_option maxHeartbeats 4000000 in
theorem str_ok {x e : Addr} {p : PySem.Str} {z c a : Int} {t0 t1 t3 : Tok} {Q : Value → Shared → Prop} (G : Gnd w mean mg mb A₀ env outer base h₀ L m s.heap dp un) (hb : dp ≤ 400 ∧ un ≤ 4000) (N : News h₀ L s.heap [(x, stObj e p t0 z t1 c t3), (e, dictOf [] 0)])
    (hp : p.length ≤ 100) (ha : 0 ≤ a) (ha' : a < 300) (hc : 0 ≤ c) (hc' : c ≤ 4) (hz0 : 0 ≤ z) (hz1 : z ≤ 1300) (hq : c ≠ 0 → Float64.ofFrac (decide (z < 0) != decide (c < 0)) z.natAbs c.natAbs = Float64.ofInt a)
    (ret : ∀ u h' tk', Fr h₀ L h' m → InElt s.heap h' → Q (.str (strT p z c a) u) { s with heap := h', toks := tk' }) :
    wpAny (model PySem.Challenge.rw_mg0088_01.row.toRowW.prog w) (At dp un gd env outer) (call (.type "str") [.ref x]) Q E s := by
  obtain ⟨B, F, X, T, hf, hke, hdp, hun⟩ := G
  revert X
  k_fill
  intro X
  have cE' := InElt.start s.heap
  k_with_none
  (k_with "ite" => (k_here; (with_reducible show (if (Float64.cmpInt (Float64.abs _) (10 * 1024) == some Ordering.lt) = true then _ else _)); refine ite_pos (abs_small (by assumption) (by assumption) (by assumption)) ?_))
  (k_with "binaryOp Mod str str" => (k_here; k_dflt (refine' KPc.mod_str (X' := XE) (by decide +kernel) (by exact Nat.le_trans (sizeT_len (by omega) (by omega)) (by decide)) m_avg ?_); intro _ _))
  (k_with "inplaceOp Add str str" => (k_here; (with_reducible show wpAny _ _ (inplaceOp _ (Value.str (_ ++ S ", count=" ++ numS _) _) _) _ _ _); k_dflt (refine' SBL.iadd (hsz := ?h) ?_; (case h => exact fits_avg (by assumption) (by omega) (by omega) (by omega) (by omega) (by omega) (by omega) )); intro _ _ _))
  (k_with "inplaceOp Add str str" => (k_here; (with_reducible show wpAny _ _ (inplaceOp _ (Value.str (_ ++ S ")") _) _) _ _ _); k_dflt (refine' SBL.iadd (hsz := ?h) ?_; (case h => exact fits_avgD (by assumption) (by omega) (by omega) (by omega) (by omega) (by omega) (by omega) (by omega) (by omega) (by omega) (by omega) )); intro _ _ _))
  (k_with "call ref" => (k_here; (with_reducible show wpAny _ _ (call (Value.ref 28) [Value.int _ _, Value.bool false]) _ _ _); k_dflt (refine' size_ok (by kas_ty) (by omega) (by omega) ?_; ksp_bin)))
  (k_with "call ref" => (k_here; (with_reducible show wpAny _ _ (call (Value.ref 28) [Value.int _ _, Value.bool true]) _ _ _); k_dflt (refine' more_ok (by kas_ty) (by omega) (by omega) ?_; ksp_bin)))
  (k_with "call ref" => (k_here; (with_reducible show wpAny _ _ (call (Value.ref 28) [Value.float _ _, Value.bool false]) _ _ _); k_dflt (refine' avg_ok (by kas_ty) ?a ?b (hq (by omega)) ?_; (case a => omega); (case b => omega); ksp_bin)))
  (k_with "call ref" => (k_here; (with_reducible show wpAny _ _ (call (Value.ref 155) [Value.int _ _]) _ _ _); k_dflt (refine' signed_ok (by kas_ty) (by omega) (by omega) ?_; ksp_bin)))
  unfold strT at ret
  w_strict k_steps
  · rw [tail1 _ (by omega)] at ret
    exact ret _ _ _ (by assumption) (by assumption)
  · rw [tail0 _ (by omega)] at ret
    exact ret _ _ _ (by assumption) (by assumption)
set_option maxHeartbeats 4000000 in
theorem strD_ok {x e : Addr} {p : PySem.Str} {z d c f a : Int} {t0 t1 t2 t3 t4 : Tok} {Q : Value → Shared → Prop} (G : Gnd w mean mg mb A₀ env outer base h₀ L m s.heap dp un) (hb : dp ≤ 400 ∧ un ≤ 4000) (N : News h₀ L s.heap [(x, dfObj e p t0 z t1 d t2 c t3 f t4), (e, dictOf [] 0)])
    (hp : p.length ≤ 100) (ha : 0 ≤ a) (ha' : a < 300) (hc : 0 ≤ c) (hc' : c ≤ 4) (hz0 : 0 ≤ z) (hz1 : z ≤ 1300) (hd0 : -1300 ≤ d) (hd1 : d ≤ 1300) (hf0 : -10 ≤ f) (hf1 : f ≤ 10) (hq : c ≠ 0 → Float64.ofFrac (decide (z < 0) != decide (c < 0)) z.natAbs c.natAbs = Float64.ofInt a)
    (ret : ∀ u h' tk', Fr h₀ L h' m → InElt s.heap h' → Q (.str (strDT p z d c f a) u) { s with heap := h', toks := tk' }) :
    wpAny (model PySem.Challenge.rw_mg0088_01.row.toRowW.prog w) (At dp un gd env outer) (call (.type "str") [.ref x]) Q E s := by
  obtain ⟨B, F, X, T, hf, hke, hdp, hun⟩ := G
  revert X
  k_fill
  intro X
  have cE' := InElt.start s.heap
  unfold strDT at ret
  w_strict k_steps
  · rw [tail1 _ (by omega)] at ret
    exact ret _ _ _ (by assumption) (by assumption)
  · rw [tail0 _ (by omega)] at ret
    exact ret _ _ _ (by assumption) (by assumption)
set_option maxHeartbeats 4000000 in
theorem repr_ok {x e : Addr} {p : PySem.Str} {z c : Int} {t0 t1 t3 : Tok} {Q : Value → Shared → Prop} (G : Gnd w mean mg mb A₀ env outer base h₀ L m s.heap dp un) (hb : dp ≤ 400 ∧ un ≤ 4000) (N : News h₀ L s.heap [(x, stObj e p t0 z t1 c t3), (e, dictOf [] 0)])
    (hp : (reprText p).length ≤ 100) (hs : (reprText p).length ≤ sizeLine) (hc : 0 ≤ c) (hc' : c ≤ 4) (hz0 : 0 ≤ z) (hz1 : z ≤ 1300)
    (ret : ∀ u h' tk', Fr h₀ L h' m → InElt s.heap h' → Q (.str (repT p z c) u) { s with heap := h', toks := tk' }) :
    wpAny (model PySem.Challenge.rw_mg0088_01.row.toRowW.prog w) (At dp un gd env outer) (call (.builtin "repr") [.ref x]) Q E s := by
  obtain ⟨B, F, X, T, hf, hke, hdp, hun⟩ := G
  revert X
  k_fill
  intro X
  have cE' := InElt.start s.heap
  unfold repT at ret
  w_strict k_steps
  all_goals exact ret _ _ _ (by assumption) (by assumption)
set_option maxHeartbeats 4000000 in
theorem reprD_ok {x e : Addr} {p : PySem.Str} {z d c f : Int} {t0 t1 t2 t3 t4 : Tok} {Q : Value → Shared → Prop} (G : Gnd w mean mg mb A₀ env outer base h₀ L m s.heap dp un) (hb : dp ≤ 400 ∧ un ≤ 4000) (N : News h₀ L s.heap [(x, dfObj e p t0 z t1 d t2 c t3 f t4), (e, dictOf [] 0)])
    (hp : (reprText p).length ≤ 100) (hs : (reprText p).length ≤ sizeLine) (hc : 0 ≤ c) (hc' : c ≤ 4) (hz0 : 0 ≤ z) (hz1 : z ≤ 1300) (hd0 : -1300 ≤ d) (hd1 : d ≤ 1300) (hf0 : -10 ≤ f) (hf1 : f ≤ 10)
    (ret : ∀ u h' tk', Fr h₀ L h' m → InElt s.heap h' → Q (.str (repDT p z d c f) u) { s with heap := h', toks := tk' }) :
    wpAny (model PySem.Challenge.rw_mg0088_01.row.toRowW.prog w) (At dp un gd env outer) (call (.builtin "repr") [.ref x]) Q E s := by
  obtain ⟨B, F, X, T, hf, hke, hdp, hun⟩ := G
  revert X
  k_fill
  intro X
  have cE' := InElt.start s.heap
  unfold repDT at ret
  w_strict k_steps
  all_goals exact ret _ _ _ (by assumption) (by assumption)
end
-- S5
theorem via_str {M : Model} {A : Around} {E : Value → Shared → Prop} {s : Shared} {t : Sem Value} {Q : Value → Shared → Prop} (y : PySem.Str) (h : ∀ Q' : Value → Shared → Prop, (∀ u tk, Q' (.str y u) { s with toks := tk }) → wpAny M A t Q' E s)
    (k : ∀ u tk, Q (.str y u) { s with toks := tk }) : wpAny M A t Q E s := h Q k
def JoinMark : Prop := True
theorem tail_len {c q : Int} (h1 : c ≠ 0 → 0 ≤ q) (h2 : c ≠ 0 → q ≤ 1300) : (tailL c q).length ≤ 40 := by
  unfold tailL
  split
  · exact Nat.le_trans (Nat.le_of_eq (by decide +kernel : (S "").length = 0)) (by decide)
  · rename_i h
    rw [PySem.Str.length_append, PySem.Str.length_append, lit_len.2.2.2.2.1, (by decide +kernel : (S " B").length = 2)]
    have := numS_len (h1 h) (by have := h2 h; omega)
    omega
section
variable {w : World} {mean : ExcName → Option Value} {mg mb : PySem.Str → Option Value} {A₀ : Around} {env : Env} {outer : List Env} {base h₀ : Heap} {L : Addr} {m : PySem.Str → Option Value} {s : Shared} {E : Value → Shared → Prop} {dp un : Nat} {gd : Option (List Code)}
set_option maxHeartbeats 4000000 in
theorem texts_ok {p : PySem.Str} {z d c f : Int} {t0 t1 t2 t3 t4 : Tok} {Q : Value → Shared → Prop} (G : Gnd w mean mg mb A₀ env outer base h₀ L m s.heap dp un) (hb : dp ≤ 400 ∧ un ≤ 4000)
    (hp : p.length ≤ 100) (hc : 0 ≤ c) (hc' : c ≤ 4) (hz0 : 0 ≤ z) (hz1 : z ≤ 1300) (hd0 : -1300 ≤ d) (hd1 : d ≤ 1300) (hf0 : -10 ≤ f) (hf1 : f ≤ 10) (hq0 : c ≠ 0 → 0 ≤ z.fdiv c) (hq1 : c ≠ 0 → z.fdiv c ≤ 1300)
    (ret : ∀ D u1 u2 u3 u4 h' tk', Fr h₀ L h' m → InElt s.heap h' → News h₀ L h' [(D, W.listOf #[.str (x1 p z c (z.fdiv c)) u1, .str (x2 p z d c f (z.fdiv c)) u2, .str (x3 p z c) u3, .str (x4 p z d c f) u4] 0)] → Q (.ref D) { s with heap := h', toks := tk' }) :
    wpAny (model PySem.Challenge.rw_mg0088_01.row.toRowW.prog w) (At dp un gd env outer) (call (.ref 169) [.str p t0, .int z t1, .int d t2, .int c t3, .int f t4]) Q E s := by
  obtain ⟨B, F, X, T, hf, hke, hdp, hun⟩ := G
  revert X
  k_fill
  intro X
  have cE' := InElt.start s.heap
  k_with_none
  (k_with "call ref" => (k_here; (with_reducible show wpAny _ _ (call (Value.ref 155) [Value.int _ _]) _ _ _); k_dflt (refine' signed_ok (by kas_ty) (by omega) (by omega) ?_; ksp_bin)))
  have N : News h₀ L s.heap [] := fun _ h => nomatch h
  have l2 := sgnS_len (n := d) (by omega) (by omega)
  have l3 := sgnS_len (n := f) (by omega) (by omega)
  refine wpAny_call ?_
  k_dflt k_enter
  unfold x1 x2 x3 x4 at ret
  have hJ : JoinMark := trivial
  have htl := tail_len hq0 hq1
  (k_with "eval IfExp" => ((rename JoinMark => hJ); refine via_str (tailL c (z.fdiv c)) (fun Q9 k9 => ?a) (fun u9 tk9 => ?b); (case' a => clear hJ); (try dsimp only)))
  w_strict k_steps
  · have e : tailL c (z.fdiv c) = S ", average=" ++ numS (z.fdiv c) ++ S " B" := if_neg (by omega)
    rw [e] at k9
    exact k9 _ _
  · have e : tailL c (z.fdiv c) = S "" := if_pos (by omega)
    rw [e] at k9
    exact k9 _ _
  · exact ret _ _ _ _ _ _ _ (by assumption) (by assumption) (by assumption)
end
-- E1
section
variable {prog : Program} {w : World} {A : Around} {E : Value → Shared → Prop} {s : Shared} {K : Frag} {x C D f : Addr} {ox od : Obj} {odo : Option Obj}
theorem looks_isT {K : Frag} {M : Model} {h : Heap} {D : Addr} (X : K.In h) (hc : (clsIn K D).isSome = true) : Looks M h (isType (.ref D)) true := by
  unfold clsIn at hc
  split at hc
  · rename_i c' d' cd' sl' ho
    intro A' Q' E' s' k q
    unfold isType loadHead
    exact wpAny_bind (wpAny_loadPart (k _ _ (X _ _ ho)) (wpAny_pure q))
  · cases hc
/-- isinstance of an object whose class has slots and no dict -/
theorem kitx_slots (hc : (clsIn K D).isSome = true) (hg : plainGet K D "__class__" = true) (ha : findIn K (.ref D) "__class__" = some (some (.builtin "object.__class__")))
    (hn : specialIn K (.builtin "object.__class__") "__get__" = some (some (.builtin "getset_descriptor.__get__"))) (htk : takesIn K (.builtin "object.__class__") = some true) (hm : mroIn K D (.type "object") = some true) :
    KitX K (.ref x) (.ref D) (fun h => InstAt h x ox D (some od)) where
  ty := fun _ _ _ I => I.type
  it := fun _ _ X _ => looks_isT X hc
  ne := fun h tp dd its n sl X htp => by
    refine Bool.eq_false_iff.mpr fun q => ?_
    cases Value.ref.inj (beq_iff_eq.mp q)
    unfold clsIn at hc
    split at hc
    · rename_i ho
      cases (X _ _ ho).symm.trans htp
    · cases hc
  ca := fun {_ _ _ _ _ s} X I k =>
    kin_open X I (plainGet_of hg).1 (kin_hooked (s := { s with toks := s.toks + 1 }) X I (findObj_data hc ha hn htk) (plainGet_of hg).2
      (wpAny_call (class_get (s := { s with toks := s.toks + 1 }) (ox := ox) (od := some od) X I hm (handed_on rfl k))))
theorem try_own {b : Value} {name : PySem.Str} {Q : Option Value → Shared → Prop} (X : K.In s.heap) (I : InstAt s.heap x ox C odo) (hs : findIn K (.ref C) name = some (some (.ref f))) (hf : isFn K (.ref f) = true)
    (h : wpAny (model prog w) A (call (.ref f) [.ref x, b]) (fun v s' => v = .notImplemented ∧ Q none s') E s) : wpAny (model prog w) A (tryCompare (.ref x) name b) Q E s := by
  unfold tryCompare
  refine wpAny_bind (ifBound_K X I hs hf (wpAny_mono h (fun v s' hv => ?_) fun _ _ e => e))
  obtain ⟨rfl, hq⟩ := hv
  exact wpAny_pure hq
theorem cmp_apart {y : Addr} {tx ty : Value} {Q : Value → Shared → Prop} (hu : A.units < cLine) (hx : Looks (model prog w) s.heap (typeOf (.ref x)) tx) (hy : Looks (model prog w) s.heap (typeOf (.ref y)) ty)
    (hne : (tx != ty) = true) (hsub : Looks (model prog w) s.heap (isSubtype ty tx) false) (hxy : x ≠ y)
    (h : wpAny (model prog w) A (tryCompare (.ref x) "__eq__" (.ref y)) (fun r s1 => r = none ∧ wpAny (model prog w) A (tryCompare (.ref y) "__eq__" (.ref x))
      (fun r s2 => r = none ∧ (∃ ox oy, s2.heap.get? x = some ox ∧ s2.heap.get? y = some oy ∧ ox.cls ≠ .type "tuple") ∧ Q (.bool false) s2) E s1) E s) :
    wpAny (model prog w) A (compareOp .Eq (.ref x) (.ref y)) Q E s := by
  show wpAny _ _ (richCompare .Eq (.ref x) (.ref y)) _ _ _
  unfold richCompare
  simp only [oneThing_ref]
  refine wpAny_holding (wpAny_bind (wpAny_cRoomFor hu ?_))
  refine wpAny_bind (hx.here (wpAny_bind (hy.here ?_)))
  rw [if_pos hne]
  refine wpAny_bind (hsub.here ?_)
  simp only [Bool.false_eq_true, if_false, Bool.not_false, if_true]
  refine wpAny_bind (m := tryCompare (.ref x) _ (.ref y)) (wpAny_mono h (fun r s1 h1 => ?_) fun _ _ e => e)
  obtain ⟨rfl, h1⟩ := h1
  refine wpAny_bind (m := tryCompare (.ref y) _ (.ref x)) (wpAny_mono h1 (fun r s2 h2 => ?_) fun _ _ e => e)
  obtain ⟨rfl, ⟨ox, oy, ex, ey, hn⟩, hq⟩ := h2
  exact wpAny_bind (wpAny_rule (wpAny_bind (wpAny_isSame_ref_other hxy ex ey hn (wpAny_pure hq))))
theorem try_tup {t : Addr} {o : Obj} {Q : Option Value → Shared → Prop} (ht : s.heap.get? t = some o) (hc : o.cls = .type "tuple") (hx : Looks (model prog w) s.heap (typeOf (.ref x)) (.ref C)) (hsub : Looks (model prog w) s.heap (isSubtype (.ref C) (.type "tuple")) false) (h : Q none s) :
    wpAny (model prog w) A (tryCompare (.ref t) "__eq__" (.ref x)) Q E s := by
  have hT : s.TypeIs (.ref t) "tuple" := ⟨o, ht, hc⟩
  refine wpAny_tryCompare_declines hT slot_tuple_eq ?_
  refine wpAny_call_entry slot_tuple_eq hT entry_tuple_eq ?_ (args_tuple_eq _ _)
  have LI : Looks (model prog w) s.heap (isInstance (.ref x) (.type "tuple")) false := hx.andThen hsub
  refine wpAny_bind (wpAny_pure (wpAny_bind (LI.here ?_)))
  simp only [Bool.not_false, if_true]
  first
    | exact wpAny_pure ⟨_, rfl, rfl, h⟩
    | exact wpAny_bind (wpAny_pure (wpAny_pure ⟨_, rfl, rfl, h⟩))
    | exact wpAny_bind (wpAny_pure ⟨_, rfl, rfl, h⟩)
end
-- E2
section
variable {p p' : PySem.Str} {z d c f z' d' c' f' : Int}
theorem eq3c (h1 : p = p') (h2 : z = z') : (c == c') = decide (p = p' ∧ z = z' ∧ c = c') := by subst h1 h2; by_cases h : c = c' <;> simp [h]
theorem eq3b (_ : p = p') (h2 : ¬ z = z') : (z == z') = decide (p = p' ∧ z = z' ∧ c = c') := by simp [h2]
theorem eq3a (h1 : ¬ p = p') : (p == p') = decide (p = p' ∧ z = z' ∧ c = c') := by simp [h1]
theorem eq5e (h1 : p = p') (h2 : z = z') (h3 : d = d') (h4 : c = c') : (f == f') = decide (p = p' ∧ z = z' ∧ d = d' ∧ c = c' ∧ f = f') := by subst h1 h2 h3 h4; by_cases h : f = f' <;> simp [h]
theorem eq5d (_ : p = p') (_ : z = z') (_ : d = d') (h4 : ¬ c = c') : (c == c') = decide (p = p' ∧ z = z' ∧ d = d' ∧ c = c' ∧ f = f') := by simp [h4]
theorem eq5c (_ : p = p') (_ : z = z') (h3 : ¬ d = d') : (d == d') = decide (p = p' ∧ z = z' ∧ d = d' ∧ c = c' ∧ f = f') := by simp [h3]
theorem eq5b (_ : p = p') (h2 : ¬ z = z') : (z == z') = decide (p = p' ∧ z = z' ∧ d = d' ∧ c = c' ∧ f = f') := by simp [h2]
theorem eq5a (h1 : ¬ p = p') : (p == p') = decide (p = p' ∧ z = z' ∧ d = d' ∧ c = c' ∧ f = f') := by simp [h1]
theorem not_of_bne {α : Type} [DecidableEq α] {a b : α} (h : (a == b) = false) : ¬ a = b := fun q => by rw [q] at h; simp at h
end
section
variable {w : World} {mean : ExcName → Option Value} {mg mb : PySem.Str → Option Value} {A₀ : Around} {env : Env} {outer : List Env} {base h₀ : Heap} {L : Addr} {m : PySem.Str → Option Value} {s : Shared} {E : Value → Shared → Prop} {dp un : Nat} {gd : Option (List Code)}

set_option maxHeartbeats 4000000 in
theorem stni_ok {x e y e' : Addr} {p p' : PySem.Str} {z c z' c' d' f' : Int} {t0 t1 t3 v0 v1 v2 v3 v4 : Tok} {Q : Value → Shared → Prop} (G : Gnd w mean mg mb A₀ env outer base h₀ L m s.heap dp un) (hb : dp ≤ 400 ∧ un ≤ 4000)
    (N : News h₀ L s.heap [(x, stObj e p t0 z t1 c t3), (e, dictOf [] 0), (y, dfObj e' p' v0 z' v1 d' v2 c' v3 f' v4), (e', dictOf [] 0)])
    (ret : ∀ h' tk', Fr h₀ L h' m → InElt s.heap h' → Q .notImplemented { s with heap := h', toks := tk' }) :
    wpAny (model PySem.Challenge.rw_mg0088_01.row.toRowW.prog w) (At dp un gd env outer) (call (.ref 57) [.ref x, .ref y]) Q E s := by
  obtain ⟨B, F, X, T, hf, hke, hdp, hun⟩ := G
  revert X
  k_fill
  intro X
  have cE' := InElt.start s.heap
  k_with_none
  (k_with "call builtin:isinstance" => (k_here; (with_reducible show wpAny _ _ (call _ [Value.ref _, Value.ref _]) _ _ _); k_dflt (refine' kia_one (kitx_slots ?k4 ?k5 ?k6 ?k7 ?k8 ?k9) ?X ?I ?ee ?nb ?_; (case X => k_in); (case I => k_inst); (case ee => kit_is); (case nb => kit_nb); (case k4 => kernel_rfl); (case k5 => k_is); (case k6 => k_is); (case k7 => k_is); (case k8 => k_is); (case k9 => k_is); k_whole; intro _)))
  refine wpAny_call ?_
  k_dflt k_enter
  w_strict k_steps
  all_goals exact ret _ _ (by assumption) (by assumption)
set_option maxHeartbeats 4000000 in
theorem sttup_ok {x e y : Addr} {p q : PySem.Str} {z c zz cc : Int} {nn : Nat} {t0 t1 t3 v0 v1 v3 : Tok} {Q : Value → Shared → Prop} (G : Gnd w mean mg mb A₀ env outer base h₀ L m s.heap dp un) (hb : dp ≤ 400 ∧ un ≤ 4000)
    (N : News h₀ L s.heap [(x, stObj e p t0 z t1 c t3), (e, dictOf [] 0), (y, ({ cls := .type "tuple", data := .seq #[.str q v0, .int zz v1, .int cc v3] nn } : Obj))])
    (ret : ∀ h' tk', Fr h₀ L h' m → InElt s.heap h' → Q .notImplemented { s with heap := h', toks := tk' }) :
    wpAny (model PySem.Challenge.rw_mg0088_01.row.toRowW.prog w) (At dp un gd env outer) (call (.ref 57) [.ref x, .ref y]) Q E s := by
  obtain ⟨B, F, X, T, hf, hke, hdp, hun⟩ := G
  revert X
  k_fill
  intro X
  have cE' := InElt.start s.heap
  refine wpAny_call ?_
  k_dflt k_enter
  w_strict k_steps
  all_goals exact ret _ _ (by assumption) (by assumption)
set_option maxHeartbeats 4000000 in
theorem dfni_ok {x e y e' : Addr} {p p' : PySem.Str} {z c z' c' d' f' : Int} {t0 t1 t3 v0 v1 v2 v3 v4 : Tok} {Q : Value → Shared → Prop} (G : Gnd w mean mg mb A₀ env outer base h₀ L m s.heap dp un) (hb : dp ≤ 400 ∧ un ≤ 4000)
    (N : News h₀ L s.heap [(x, stObj e p t0 z t1 c t3), (e, dictOf [] 0), (y, dfObj e' p' v0 z' v1 d' v2 c' v3 f' v4), (e', dictOf [] 0)])
    (ret : ∀ h' tk', Fr h₀ L h' m → InElt s.heap h' → Q .notImplemented { s with heap := h', toks := tk' }) :
    wpAny (model PySem.Challenge.rw_mg0088_01.row.toRowW.prog w) (At dp un gd env outer) (call (.ref 116) [.ref y, .ref x]) Q E s := by
  obtain ⟨B, F, X, T, hf, hke, hdp, hun⟩ := G
  revert X
  k_fill
  intro X
  have cE' := InElt.start s.heap
  refine wpAny_call ?_
  k_dflt k_enter
  w_strict k_steps
  all_goals exact ret _ _ (by assumption) (by assumption)
set_option maxHeartbeats 4000000 in
theorem sdeq_ok {x e y e' : Addr} {p p' : PySem.Str} {z c z' c' d' f' : Int} {t0 t1 t3 v0 v1 v2 v3 v4 : Tok} {Q : Value → Shared → Prop} (G : Gnd w mean mg mb A₀ env outer base h₀ L m s.heap dp un) (hb : dp ≤ 400 ∧ un ≤ 4000)
    (N : News h₀ L s.heap [(x, stObj e p t0 z t1 c t3), (e, dictOf [] 0), (y, dfObj e' p' v0 z' v1 d' v2 c' v3 f' v4), (e', dictOf [] 0)])
    (ret : ∀ h' tk', Fr h₀ L h' m → InElt s.heap h' → Q (.bool false) { s with heap := h', toks := tk' }) :
    wpAny (model PySem.Challenge.rw_mg0088_01.row.toRowW.prog w) (At dp un gd env outer) (compareOp .Eq (.ref x) (.ref y)) Q E s := by
  obtain ⟨B, F, X, T, hf, hke, hdp, hun⟩ := G
  revert X
  k_fill
  intro X
  have cE' := InElt.start s.heap
  have I1 : InstAt s.heap x (stObj e p t0 z t1 c t3) 82 (some (dictOf [] 0)) := by k_inst
  have I2 : InstAt s.heap y (dfObj e' p' v0 z' v1 d' v2 c' v3 f' v4) 141 (some (dictOf [] 0)) := by k_inst
  refine cmp_apart (tx := .ref 82) (ty := .ref 141) ?hu I1.type I2.type (by decide) (looks_subIn (K := hd.heap_39 w.params) (by k_in) ?hs) ?hne ?_
  case hu => k_units
  case hs => kernel_rfl
  case hne =>
    rintro rfl
    have := (N _ (.head _)).1.symm.trans (N _ (.tail _ (.tail _ (.head _)))).1
    cases this
  refine' try_own (K := hd.heap_39 w.params) (by k_in) I1 ?hs1 ?hf1 ?_
  case hs1 => k_is
  case hf1 => kernel_rfl
  refine stni_ok ⟨B, F, X, T, hf, hke, hdp, hun⟩ hb N ?_
  intro h1 tk1 F1 E1
  have N1 := N.grown E1
  have I3 : InstAt h1 y (dfObj e' p' v0 z' v1 d' v2 c' v3 f' v4) 141 (some (dictOf [] 0)) := by k_inst
  refine ⟨rfl, rfl, ?_⟩
  refine' try_own (s := { s with heap := h1, toks := tk1 }) (K := hd.heap_39 w.params) (by k_in) I3 ?hs1 ?hf1 ?_
  case hs1 => k_is
  case hf1 => kernel_rfl
  refine dfni_ok (s := { s with heap := h1, toks := tk1 }) ⟨B, F1, X, T, hf, hke, hdp, hun⟩ hb N1 ?_
  intro h2 tk2 F2 E2
  have N2 := N1.grown E2
  exact ⟨rfl, rfl, ⟨_, _, (N2 _ (.head _)).1, (N2 _ (.tail _ (.tail _ (.head _)))).1, nofun⟩, ret h2 tk2 F2 (InElt.trans E1 E2)⟩
set_option maxHeartbeats 4000000 in
theorem steqtup_ok {x e y : Addr} {p q : PySem.Str} {z c zz cc : Int} {nn : Nat} {t0 t1 t3 v0 v1 v3 : Tok} {Q : Value → Shared → Prop} (G : Gnd w mean mg mb A₀ env outer base h₀ L m s.heap dp un) (hb : dp ≤ 400 ∧ un ≤ 4000)
    (N : News h₀ L s.heap [(x, stObj e p t0 z t1 c t3), (e, dictOf [] 0), (y, ({ cls := .type "tuple", data := .seq #[.str q v0, .int zz v1, .int cc v3] nn } : Obj))])
    (ret : ∀ h' tk', Fr h₀ L h' m → InElt s.heap h' → Q (.bool false) { s with heap := h', toks := tk' }) :
    wpAny (model PySem.Challenge.rw_mg0088_01.row.toRowW.prog w) (At dp un gd env outer) (compareOp .Eq (.ref x) (.ref y)) Q E s := by
  obtain ⟨B, F, X, T, hf, hke, hdp, hun⟩ := G
  revert X
  k_fill
  intro X
  have cE' := InElt.start s.heap
  have I1 : InstAt s.heap x (stObj e p t0 z t1 c t3) 82 (some (dictOf [] 0)) := by k_inst
  have hy := (N _ (.tail _ (.tail _ (.head _)))).1
  refine cmp_apart (tx := .ref 82) (ty := .type "tuple") ?hu I1.type (kitAt_ty _ _ ⟨_, hy, rfl⟩) (by decide) (looks_subIn (K := hd.heap_39 w.params) (by k_in) ?hs) ?hne ?_
  case hu => k_units
  case hs => kernel_rfl
  case hne =>
    rintro rfl
    have := (N _ (.head _)).1.symm.trans hy
    cases this
  refine' try_own (K := hd.heap_39 w.params) (by k_in) I1 ?hs1 ?hf1 ?_
  case hs1 => k_is
  case hf1 => kernel_rfl
  refine sttup_ok ⟨B, F, X, T, hf, hke, hdp, hun⟩ hb N ?_
  intro h1 tk1 F1 E1
  have N1 := N.grown E1
  have I3 : InstAt h1 x (stObj e p t0 z t1 c t3) 82 (some (dictOf [] 0)) := by k_inst
  refine ⟨rfl, rfl, ?_⟩
  refine try_tup (s := { s with heap := h1, toks := tk1 }) (N1 _ (.tail _ (.tail _ (.head _)))).1 rfl I3.type (looks_subIn (K := hd.heap_39 w.params) (by k_in) ?hs2) ?_
  case hs2 => kernel_rfl
  exact ⟨rfl, ⟨_, _, (N1 _ (.head _)).1, (N1 _ (.tail _ (.tail _ (.head _)))).1, nofun⟩, ret h1 tk1 F1 E1⟩
set_option maxHeartbeats 4000000 in
theorem steq_ok {x e y e' : Addr} {p p' : PySem.Str} {z c z' c' : Int} {t0 t1 t3 v0 v1 v3 : Tok} {Q : Value → Shared → Prop} (G : Gnd w mean mg mb A₀ env outer base h₀ L m s.heap dp un) (hb : dp ≤ 400 ∧ un ≤ 4000)
    (N : News h₀ L s.heap [(x, stObj e p t0 z t1 c t3), (e, dictOf [] 0), (y, stObj e' p' v0 z' v1 c' v3), (e', dictOf [] 0)])
    (ret : ∀ h' tk', Fr h₀ L h' m → InElt s.heap h' → Q (.bool (decide (p = p' ∧ z = z' ∧ c = c'))) { s with heap := h', toks := tk' }) :
    wpAny (model PySem.Challenge.rw_mg0088_01.row.toRowW.prog w) (At dp un gd env outer) (compareOp .Eq (.ref x) (.ref y)) Q E s := by
  obtain ⟨B, F, X, T, hf, hke, hdp, hun⟩ := G
  revert X
  k_fill
  intro X
  have cE' := InElt.start s.heap
  w_strict k_steps
  · rw [eq3c (p := p) (p' := p') (z := z) (z' := z') (c := c) (c' := c') (by first | assumption | exact beq_iff_eq.mp (by assumption) | exact not_of_bne (by assumption)) (by first | assumption | exact beq_iff_eq.mp (by assumption) | exact not_of_bne (by assumption))]
    exact ret _ _ (by assumption) (by assumption)
  · rw [eq3b (p := p) (p' := p') (z := z) (z' := z') (c := c) (c' := c') (by first | assumption | exact beq_iff_eq.mp (by assumption) | exact not_of_bne (by assumption)) (by first | assumption | exact beq_iff_eq.mp (by assumption) | exact not_of_bne (by assumption))]
    exact ret _ _ (by assumption) (by assumption)
  · rw [eq3a (p := p) (p' := p') (z := z) (z' := z') (c := c) (c' := c') (by first | assumption | exact beq_iff_eq.mp (by assumption) | exact not_of_bne (by assumption))]
    exact ret _ _ (by assumption) (by assumption)
set_option maxHeartbeats 4000000 in
theorem dfeq_ok {x e y e' : Addr} {p p' : PySem.Str} {z d c f z' d' c' f' : Int} {t0 t1 t2 t3 t4 v0 v1 v2 v3 v4 : Tok} {Q : Value → Shared → Prop} (G : Gnd w mean mg mb A₀ env outer base h₀ L m s.heap dp un) (hb : dp ≤ 400 ∧ un ≤ 4000)
    (N : News h₀ L s.heap [(x, dfObj e p t0 z t1 d t2 c t3 f t4), (e, dictOf [] 0), (y, dfObj e' p' v0 z' v1 d' v2 c' v3 f' v4), (e', dictOf [] 0)])
    (ret : ∀ h' tk', Fr h₀ L h' m → InElt s.heap h' → Q (.bool (decide (p = p' ∧ z = z' ∧ d = d' ∧ c = c' ∧ f = f'))) { s with heap := h', toks := tk' }) :
    wpAny (model PySem.Challenge.rw_mg0088_01.row.toRowW.prog w) (At dp un gd env outer) (compareOp .Eq (.ref x) (.ref y)) Q E s := by
  obtain ⟨B, F, X, T, hf, hke, hdp, hun⟩ := G
  revert X
  k_fill
  intro X
  have cE' := InElt.start s.heap
  w_strict k_steps
  · rw [eq5e (p := p) (p' := p') (z := z) (z' := z') (c := c) (c' := c') (d := d) (d' := d') (f := f) (f' := f') (by first | assumption | exact beq_iff_eq.mp (by assumption) | exact not_of_bne (by assumption)) (by first | assumption | exact beq_iff_eq.mp (by assumption) | exact not_of_bne (by assumption)) (by first | assumption | exact beq_iff_eq.mp (by assumption) | exact not_of_bne (by assumption)) (by first | assumption | exact beq_iff_eq.mp (by assumption) | exact not_of_bne (by assumption))]
    exact ret _ _ (by assumption) (by assumption)
  · rw [eq5d (p := p) (p' := p') (z := z) (z' := z') (c := c) (c' := c') (d := d) (d' := d') (f := f) (f' := f') (by first | assumption | exact beq_iff_eq.mp (by assumption) | exact not_of_bne (by assumption)) (by first | assumption | exact beq_iff_eq.mp (by assumption) | exact not_of_bne (by assumption)) (by first | assumption | exact beq_iff_eq.mp (by assumption) | exact not_of_bne (by assumption)) (by first | assumption | exact beq_iff_eq.mp (by assumption) | exact not_of_bne (by assumption))]
    exact ret _ _ (by assumption) (by assumption)
  · rw [eq5c (p := p) (p' := p') (z := z) (z' := z') (c := c) (c' := c') (d := d) (d' := d') (f := f) (f' := f') (by first | assumption | exact beq_iff_eq.mp (by assumption) | exact not_of_bne (by assumption)) (by first | assumption | exact beq_iff_eq.mp (by assumption) | exact not_of_bne (by assumption)) (by first | assumption | exact beq_iff_eq.mp (by assumption) | exact not_of_bne (by assumption))]
    exact ret _ _ (by assumption) (by assumption)
  · rw [eq5b (p := p) (p' := p') (z := z) (z' := z') (c := c) (c' := c') (d := d) (d' := d') (f := f) (f' := f') (by first | assumption | exact beq_iff_eq.mp (by assumption) | exact not_of_bne (by assumption)) (by first | assumption | exact beq_iff_eq.mp (by assumption) | exact not_of_bne (by assumption))]
    exact ret _ _ (by assumption) (by assumption)
  · rw [eq5a (p := p) (p' := p') (z := z) (z' := z') (c := c) (c' := c') (d := d) (d' := d') (f := f) (f' := f') (by first | assumption | exact beq_iff_eq.mp (by assumption) | exact not_of_bne (by assumption))]
    exact ret _ _ (by assumption) (by assumption)
end
-- S6
section
variable {w : World} {mean : ExcName → Option Value} {mg mb : PySem.Str → Option Value} {A₀ : Around} {env : Env} {outer : List Env} {base h₀ : Heap} {L : Addr} {m : PySem.Str → Option Value} {s : Shared} {E : Value → Shared → Prop} {dp un : Nat} {gd : Option (List Code)}
theorem size_ok2 {n : Int} {t : Tok} {Q : Value → Shared → Prop} (G : Gnd w mean mg mb A₀ env outer base h₀ L m s.heap dp un) (h1 : 0 ≤ n) (h2 : n ≤ 1300)
    (ret : ∀ u h' tk', Fr h₀ L h' m → InElt s.heap h' → Q (.str (PySem.Str.ofString (toString n) ++ PySem.Str.ofString " B") u) { s with heap := h', toks := tk' }) :
    wpAny (model PySem.Challenge.rw_mg0088_01.row.toRowW.prog w) (At dp un gd env outer) (call (.ref 28) [.int n t, .bool false]) Q E s := by
  refine size_ok G h1 h2 ?_
  rw [sizeB]
  exact ret
theorem more_ok2 {n : Int} {t : Tok} {Q : Value → Shared → Prop} (G : Gnd w mean mg mb A₀ env outer base h₀ L m s.heap dp un) (h1 : -1300 ≤ n) (h2 : n ≤ 1300)
    (ret : ∀ u h' tk', Fr h₀ L h' m → InElt s.heap h' → Q (.str (sgnS n ++ PySem.Str.ofString " B") u) { s with heap := h', toks := tk' }) :
    wpAny (model PySem.Challenge.rw_mg0088_01.row.toRowW.prog w) (At dp un gd env outer) (call (.ref 28) [.int n t, .bool true]) Q E s := by
  refine more_ok G h1 h2 ?_
  rw [sizeB]
  exact ret
theorem str_ok2 {x e : Addr} {p Z : PySem.Str} {z c a : Int} {t0 t1 t3 : Tok} {Q : Value → Shared → Prop} (G : Gnd w mean mg mb A₀ env outer base h₀ L m s.heap dp un) (hb : dp ≤ 400 ∧ un ≤ 4000) (N : News h₀ L s.heap [(x, stObj e p t0 z t1 c t3), (e, dictOf [] 0)])
    (hp : p.length ≤ 100) (ha : 0 ≤ a) (ha' : a < 300) (hc : 0 ≤ c) (hc' : c ≤ 4) (hz0 : 0 ≤ z) (hz1 : z ≤ 1300) (hq : c ≠ 0 → Float64.ofFrac (decide (z < 0) != decide (c < 0)) z.natAbs c.natAbs = Float64.ofInt a) (hT : strT p z c a = Z)
    (ret : ∀ u h' tk', Fr h₀ L h' m → InElt s.heap h' → Q (.str Z u) { s with heap := h', toks := tk' }) :
    wpAny (model PySem.Challenge.rw_mg0088_01.row.toRowW.prog w) (At dp un gd env outer) (call (.type "str") [.ref x]) Q E s := by
  subst hT
  exact str_ok G hb N hp ha ha' hc hc' hz0 hz1 hq ret
theorem strD_ok2 {x e : Addr} {p Z : PySem.Str} {z d c f a : Int} {t0 t1 t2 t3 t4 : Tok} {Q : Value → Shared → Prop} (G : Gnd w mean mg mb A₀ env outer base h₀ L m s.heap dp un) (hb : dp ≤ 400 ∧ un ≤ 4000) (N : News h₀ L s.heap [(x, dfObj e p t0 z t1 d t2 c t3 f t4), (e, dictOf [] 0)])
    (hp : p.length ≤ 100) (ha : 0 ≤ a) (ha' : a < 300) (hc : 0 ≤ c) (hc' : c ≤ 4) (hz0 : 0 ≤ z) (hz1 : z ≤ 1300) (hd0 : -1300 ≤ d) (hd1 : d ≤ 1300) (hf0 : -10 ≤ f) (hf1 : f ≤ 10) (hq : c ≠ 0 → Float64.ofFrac (decide (z < 0) != decide (c < 0)) z.natAbs c.natAbs = Float64.ofInt a) (hT : strDT p z d c f a = Z)
    (ret : ∀ u h' tk', Fr h₀ L h' m → InElt s.heap h' → Q (.str Z u) { s with heap := h', toks := tk' }) :
    wpAny (model PySem.Challenge.rw_mg0088_01.row.toRowW.prog w) (At dp un gd env outer) (call (.type "str") [.ref x]) Q E s := by
  subst hT
  exact strD_ok G hb N hp ha ha' hc hc' hz0 hz1 hd0 hd1 hf0 hf1 hq ret
theorem repr_ok2 {x e : Addr} {p Z : PySem.Str} {z c : Int} {t0 t1 t3 : Tok} {Q : Value → Shared → Prop} (G : Gnd w mean mg mb A₀ env outer base h₀ L m s.heap dp un) (hb : dp ≤ 400 ∧ un ≤ 4000) (N : News h₀ L s.heap [(x, stObj e p t0 z t1 c t3), (e, dictOf [] 0)])
    (hp : (reprText p).length ≤ 100) (hc : 0 ≤ c) (hc' : c ≤ 4) (hz0 : 0 ≤ z) (hz1 : z ≤ 1300) (hT : repT p z c = Z)
    (ret : ∀ u h' tk', Fr h₀ L h' m → InElt s.heap h' → Q (.str Z u) { s with heap := h', toks := tk' }) :
    wpAny (model PySem.Challenge.rw_mg0088_01.row.toRowW.prog w) (At dp un gd env outer) (call (.builtin "repr") [.ref x]) Q E s := by
  subst hT
  exact repr_ok G hb N hp (Nat.le_trans hp (Nat.le_of_ble_eq_true rfl)) hc hc' hz0 hz1 ret
theorem reprD_ok2 {x e : Addr} {p Z : PySem.Str} {z d c f : Int} {t0 t1 t2 t3 t4 : Tok} {Q : Value → Shared → Prop} (G : Gnd w mean mg mb A₀ env outer base h₀ L m s.heap dp un) (hb : dp ≤ 400 ∧ un ≤ 4000) (N : News h₀ L s.heap [(x, dfObj e p t0 z t1 d t2 c t3 f t4), (e, dictOf [] 0)])
    (hp : (reprText p).length ≤ 100) (hc : 0 ≤ c) (hc' : c ≤ 4) (hz0 : 0 ≤ z) (hz1 : z ≤ 1300) (hd0 : -1300 ≤ d) (hd1 : d ≤ 1300) (hf0 : -10 ≤ f) (hf1 : f ≤ 10) (hT : repDT p z d c f = Z)
    (ret : ∀ u h' tk', Fr h₀ L h' m → InElt s.heap h' → Q (.str Z u) { s with heap := h', toks := tk' }) :
    wpAny (model PySem.Challenge.rw_mg0088_01.row.toRowW.prog w) (At dp un gd env outer) (call (.builtin "repr") [.ref x]) Q E s := by
  subst hT
  exact reprD_ok G hb N hp (Nat.le_trans hp (Nat.le_of_ble_eq_true rfl)) hc hc' hz0 hz1 hd0 hd1 hf0 hf1 ret
theorem ne_same4 {prog : Program} {A : Around} {news : List (Addr × Obj)} {a b : Addr} {y1 y2 y3 y4 : PySem.Str} {u1 u2 u3 u4 v1 v2 v3 v4 : Tok} {n k : Nat} {Q : Value → Shared → Prop} (N : News h₀ L s.heap news)
    (ha : (a, W.listOf #[.str y1 u1, .str y2 u2, .str y3 u3, .str y4 u4] n) ∈ news) (hb : (b, W.listOf #[.str y1 v1, .str y2 v2, .str y3 v3, .str y4 v4] k) ∈ news) (o1 : PyData.strOk y1 = true) (o2 : PyData.strOk y2 = true) (o3 : PyData.strOk y3 = true) (o4 : PyData.strOk y4 = true) (hu : A.units + 64 < cLine) (h : Q (.bool false) s) :
    wpAny (model prog w) A (compareOp .NotEq (.ref a) (.ref b)) Q E s := by
  have r1 : Reads s.heap (.ref a) (.list [.str y1, .str y2, .str y3, .str y4]) _ := reads_list_at (News.get N ha) rfl rfl (ReadsAll.cons (Reads.str _ _) (ReadsAll.cons (Reads.str _ _) (ReadsAll.cons (Reads.str _ _) (ReadsAll.cons (Reads.str _ _) ReadsAll.nil))))
  have r2 : Reads s.heap (.ref b) (.list [.str y1, .str y2, .str y3, .str y4]) _ := reads_list_at (News.get N hb) rfl rfl (ReadsAll.cons (Reads.str _ _) (ReadsAll.cons (Reads.str _ _) (ReadsAll.cons (Reads.str _ _) (ReadsAll.cons (Reads.str _ _) ReadsAll.nil))))
  have sh : SeqAt.shaped (.list [.str y1, .str y2, .str y3, .str y4]) = true := by
    unfold SeqAt.shaped
    simp only [PyData.canLay0, PyData.canLayAll0, o1, o2, o3, o4, PyData.depth, PyData.depthAll]
    rfl
  refine ne_dataH r1 r2 sh sh hu ?_
  simp only [PyData.eqv, PyData.eqvAll, beq_self_eq_true, Bool.and_true, Bool.not_true]
  exact h
theorem News_four {h₀ h : Heap} {L : Addr} {news : List (Addr × Obj)} {q1 q2 q3 q4 : Addr × Obj} (N : News h₀ L h news) (h1 : q1 ∈ news) (h2 : q2 ∈ news) (h3 : q3 ∈ news) (h4 : q4 ∈ news) : News h₀ L h [q1, q2, q3, q4] := fun p hp =>
  N p (by
    simp only [List.mem_cons, List.not_mem_nil, or_false] at hp
    rcases hp with rfl | rfl | rfl | rfl <;> assumption)
theorem News_three {h₀ h : Heap} {L : Addr} {news : List (Addr × Obj)} {q1 q2 q3 : Addr × Obj} (N : News h₀ L h news) (h1 : q1 ∈ news) (h2 : q2 ∈ news) (h3 : q3 ∈ news) : News h₀ L h [q1, q2, q3] := fun p hp =>
  N p (by
    simp only [List.mem_cons, List.not_mem_nil, or_false] at hp
    rcases hp with rfl | rfl | rfl <;> assumption)
end
local macro_rules | `(tactic| ke_room) => `(tactic| ((have hcL9 := cLine_is); (try simp only [units_in1, units_deeper, Around.mark_units, At_units]); omega))
local macro_rules | `(tactic| walk_at "call type:str") => `(tactic| (k_here; (with_reducible show wpAny _ _ (call (Value.type "str") [Value.ref _]) _ _ _); k_dflt (refine' strD_ok2 (by kas_ty) (by kas_ty) (by exact News_two (by k_asm) (by k_mem) (by k_mem)) (by assumption) ?a ?b (by omega) (by omega) (by omega) (by omega) (by omega) (by omega) (by omega) (by omega) (by assumption) (by assumption) ?_; (case a => omega); (case b => omega); ksp_bin)))
local macro_rules | `(tactic| walk_at "call type:str") => `(tactic| (k_here; (with_reducible show wpAny _ _ (call (Value.type "str") [Value.ref _]) _ _ _); k_dflt (refine' str_ok2 (by kas_ty) (by kas_ty) (by exact News_two (by k_asm) (by k_mem) (by k_mem)) (by assumption) ?a ?b (by omega) (by omega) (by omega) (by omega) (by assumption) (by assumption) ?_; (case a => omega); (case b => omega); ksp_bin)))
local macro_rules | `(tactic| walk_at "call builtin:repr") => `(tactic| (k_here; (with_reducible show wpAny _ _ (call (Value.builtin "repr") [Value.ref _]) _ _ _); k_dflt (refine' reprD_ok2 (by kas_ty) (by kas_ty) (by exact News_two (by k_asm) (by k_mem) (by k_mem)) (by assumption) (by omega) (by omega) (by omega) (by omega) (by omega) (by omega) (by omega) (by omega) (by assumption) ?_; ksp_bin)))
local macro_rules | `(tactic| walk_at "call builtin:repr") => `(tactic| (k_here; (with_reducible show wpAny _ _ (call (Value.builtin "repr") [Value.ref _]) _ _ _); k_dflt (refine' repr_ok2 (by kas_ty) (by kas_ty) (by exact News_two (by k_asm) (by k_mem) (by k_mem)) (by assumption) (by omega) (by omega) (by omega) (by omega) (by assumption) ?_; ksp_bin)))
local macro_rules | `(tactic| walk_at "compareOp NotEq ref ref") => `(tactic| (k_here; (with_reducible show wpAny _ _ (compareOp CmpOp.NotEq (Value.ref _) (Value.ref _)) _ _ _); k_dflt (refine' ne_same4 ?q1 ?q2 ?q3 ?o1 ?o2 ?o3 ?o4 ?q4 ?_; (case q1 => k_asm); (case q2 => k_mem); (case q3 => k_mem); (case o1 => assumption); (case o2 => assumption); (case o3 => assumption); (case o4 => assumption); (case q4 => ke_room); k_whole)))
section
variable {w : World} {mean : ExcName → Option Value} {mg mb : PySem.Str → Option Value} {A₀ : Around} {env : Env} {outer : List Env} {base h₀ : Heap} {L : Addr} {m : PySem.Str → Option Value} {s : Shared} {E : Value → Shared → Prop} {dp un : Nat} {gd : Option (List Code)}
set_option maxHeartbeats 4000000 in
theorem told_ok {x : Addr} {p : PySem.Str} {z d c f a : Int} {t0 t1 t2 t3 t4 : Tok} {n : Nat} {Q : Value → Shared → Prop} (G : Gnd w mean mg mb A₀ env outer base h₀ L m s.heap dp un) (hb : dp ≤ 320 ∧ un ≤ 3000) (N : News h₀ L s.heap [(x, tup p t0 z t1 d t2 c t3 f t4 n)])
    (hp : p.length ≤ 100) (hr : (reprText p).length ≤ 100) (ha : 0 ≤ a) (ha' : a < 300) (hc : 0 ≤ c) (hc' : c ≤ 4) (hz0 : 0 ≤ z) (hz1 : z ≤ 1300) (hd0 : -1300 ≤ d) (hd1 : d ≤ 1300) (hf0 : -10 ≤ f) (hf1 : f ≤ 10)
    (hq : c ≠ 0 → Float64.ofFrac (decide (z < 0) != decide (c < 0)) z.natAbs c.natAbs = Float64.ofInt a) (hq0 : c ≠ 0 → 0 ≤ z.fdiv c) (hq1 : c ≠ 0 → z.fdiv c ≤ 1300)
    (e1 : strT p z c a = x1 p z c (z.fdiv c)) (e2 : strDT p z d c f a = x2 p z d c f (z.fdiv c)) (e3 : repT p z c = x3 p z c) (e4 : repDT p z d c f = x4 p z d c f)
    (o1 : PyData.strOk (x1 p z c (z.fdiv c)) = true) (o2 : PyData.strOk (x2 p z d c f (z.fdiv c)) = true) (o3 : PyData.strOk (x3 p z c) = true) (o4 : PyData.strOk (x4 p z d c f) = true)
    (ret : ∀ h' tk', Fr h₀ L h' m → InElt s.heap h' → Q (.bool true) { s with heap := h', toks := tk' }) :
    wpAny (model PySem.Challenge.rw_mg0088_01.row.toRowW.prog w) (At dp un gd env outer) (call (.ref 176) [.ref x]) Q E s := by
  obtain ⟨B, F, X, T, hf, hke, hdp, hun⟩ := G
  revert X
  k_fill
  intro X
  have cE' := InElt.start s.heap
  k_with_none
  (k_with "ite" => (k_here; (with_reducible refine ite_neg (bne_same _) ?_)))
  (k_with "compareOp Eq ref ref" => (k_here; k_dflt (refine' sdeq_ok (by kas_ty) (by kas_ty) (by exact News_four (by k_asm) (by k_mem) (by k_mem) (by k_mem) (by k_mem)) ?_; ksp_bin)))
  (k_with "compareOp Eq ref ref" => (k_here; k_dflt (refine' steqtup_ok (by kas_ty) (by kas_ty) (by exact News_three (by k_asm) (by k_mem) (by k_mem) (by k_mem)) ?_; ksp_bin)))
  (k_with "call ref" => (k_here; (with_reducible show wpAny _ _ (call (Value.ref 28) [Value.int _ _, Value.bool false]) _ _ _); k_dflt (refine' size_ok2 (by kas_ty) (by omega) (by omega) ?_; ksp_bin)))
  (k_with "call ref" => (k_here; (with_reducible show wpAny _ _ (call (Value.ref 28) [Value.int _ _, Value.bool true]) _ _ _); k_dflt (refine' more_ok2 (by kas_ty) (by omega) (by omega) ?_; ksp_bin)))
  (k_with "call ref" => (k_here; (with_reducible show wpAny _ _ (call (Value.ref 169) [Value.str _ _, Value.int _ _, Value.int _ _, Value.int _ _, Value.int _ _]) _ _ _); k_dflt (refine' texts_ok (by kas_ty) (by kas_ty) (by assumption) (by omega) (by omega) (by omega) (by omega) (by omega) (by omega) (by omega) (by omega) (by assumption) (by assumption) ?_; k_whole; intro D9 u91 u92 u93 u94 h9 tk9 F9 E9 NN9; (have N9 := News_cons (News.grown (by k_asm) E9) NN9); (clear E9 NN9); (try dsimp only); (try k_fold))))
  (k_with "call ref" => (k_here; (with_reducible show wpAny _ _ (call (Value.ref 155) [Value.int _ _]) _ _ _); k_dflt (refine' signed_ok (by kas_ty) (by omega) (by omega) ?_; ksp_bin)))
  refine wpAny_call ?_
  have l2 := sgnS_len (n := d) (by omega) (by omega)
  k_dflt k_enter
  w_strict k_steps
  all_goals exact ret _ _ (by assumption) (by assumption)
end
-- S7
section
variable {prog : Program} {w : World} {A : Around} {E : Value → Shared → Prop} {s : Shared} {h₀ : Heap} {L : Addr} {news : List (Addr × Obj)}
theorem eq_tup2 {a b : Addr} {p p' : PySem.Str} {z z' : Int} {t0 t1 v0 v1 : Tok} {n k : Nat} {Q : Value → Shared → Prop} (N : News h₀ L s.heap news)
    (ha : (a, ({ cls := .type "tuple", data := .seq #[.str p t0, .int z t1] n } : Obj)) ∈ news) (hb : (b, ({ cls := .type "tuple", data := .seq #[.str p' v0, .int z' v1] k } : Obj)) ∈ news)
    (o1 : PyData.strOk p = true) (o2 : PyData.strOk p' = true) (hu : A.units + 64 < cLine) (h : Q (.bool (decide (p = p' ∧ z = z'))) s) :
    wpAny (model prog w) A (compareOp .Eq (.ref a) (.ref b)) Q E s := by
  have r1 : Reads s.heap (.ref a) (.tuple [.str p, .int z]) _ := reads_tuple_at (News.get N ha) rfl rfl (ReadsAll.cons (Reads.str _ _) (ReadsAll.cons (Reads.int _ _) ReadsAll.nil))
  have r2 : Reads s.heap (.ref b) (.tuple [.str p', .int z']) _ := reads_tuple_at (News.get N hb) rfl rfl (ReadsAll.cons (Reads.str _ _) (ReadsAll.cons (Reads.int _ _) ReadsAll.nil))
  have sh : ∀ (p : PySem.Str) (z : Int), PyData.strOk p = true → SeqAt.shaped (.tuple [.str p, .int z]) = true := fun p z o => by
    unfold SeqAt.shaped
    simp only [PyData.canLay0, PyData.canLayAll0, o, PyData.depth, PyData.depthAll]
    rfl
  refine eq_dataH r1 r2 (sh _ _ o1) (sh _ _ o2) hu ?_
  have e : PyData.eqv (.tuple [.str p, .int z]) (.tuple [.str p', .int z']) = decide (p = p' ∧ z = z') := by
    simp only [PyData.eqv, PyData.eqvAll]
    by_cases h1 : p = p' <;> by_cases h2 : z = z' <;> simp [h1, h2]
  rw [e]
  exact h
theorem eq_tup5 {a b : Addr} {p p' : PySem.Str} {z d c f z' d' c' f' : Int} {t0 t1 t2 t3 t4 v0 v1 v2 v3 v4 : Tok} {n k : Nat} {Q : Value → Shared → Prop} (N : News h₀ L s.heap news)
    (ha : (a, tup p t0 z t1 d t2 c t3 f t4 n) ∈ news) (hb : (b, tup p' v0 z' v1 d' v2 c' v3 f' v4 k) ∈ news)
    (o1 : PyData.strOk p = true) (o2 : PyData.strOk p' = true) (hu : A.units + 64 < cLine) (h : Q (.bool (decide (p = p' ∧ z = z' ∧ d = d' ∧ c = c' ∧ f = f'))) s) :
    wpAny (model prog w) A (compareOp .Eq (.ref a) (.ref b)) Q E s := by
  have r1 : Reads s.heap (.ref a) (.tuple [.str p, .int z, .int d, .int c, .int f]) _ := reads_tuple_at (News.get N ha) rfl rfl (ReadsAll.cons (Reads.str _ _) (ReadsAll.cons (Reads.int _ _) (ReadsAll.cons (Reads.int _ _) (ReadsAll.cons (Reads.int _ _) (ReadsAll.cons (Reads.int _ _) ReadsAll.nil)))))
  have r2 : Reads s.heap (.ref b) (.tuple [.str p', .int z', .int d', .int c', .int f']) _ := reads_tuple_at (News.get N hb) rfl rfl (ReadsAll.cons (Reads.str _ _) (ReadsAll.cons (Reads.int _ _) (ReadsAll.cons (Reads.int _ _) (ReadsAll.cons (Reads.int _ _) (ReadsAll.cons (Reads.int _ _) ReadsAll.nil)))))
  have sh : ∀ (p : PySem.Str) (z d c f : Int), PyData.strOk p = true → SeqAt.shaped (.tuple [.str p, .int z, .int d, .int c, .int f]) = true := fun p z d c f o => by
    unfold SeqAt.shaped
    simp only [PyData.canLay0, PyData.canLayAll0, o, PyData.depth, PyData.depthAll]
    rfl
  refine eq_dataH r1 r2 (sh _ _ _ _ _ o1) (sh _ _ _ _ _ o2) hu ?_
  have e : PyData.eqv (.tuple [.str p, .int z, .int d, .int c, .int f]) (.tuple [.str p', .int z', .int d', .int c', .int f']) = decide (p = p' ∧ z = z' ∧ d = d' ∧ c = c' ∧ f = f') := by
    simp only [PyData.eqv, PyData.eqvAll]
    by_cases h1 : p = p' <;> by_cases h2 : z = z' <;> by_cases h3 : d = d' <;> by_cases h4 : c = c' <;> by_cases h5 : f = f' <;> simp [h1, h2, h3, h4, h5]
  rw [e]
  exact h
theorem eq_lst2 {a b : Addr} {b1 b2 c1 c2 : Bool} {n k : Nat} {Q : Value → Shared → Prop} (N : News h₀ L s.heap news)
    (ha : (a, W.listOf #[.bool b1, .bool b2] n) ∈ news) (hb : (b, W.listOf #[.bool c1, .bool c2] k) ∈ news)
    (o1 : b1 = c1) (o2 : b2 = c2) (hu : A.units + 64 < cLine) (h : Q (.bool true) s) :
    wpAny (model prog w) A (compareOp .Eq (.ref a) (.ref b)) Q E s := by
  subst o1 o2
  have r1 : Reads s.heap (.ref a) (.list [.bool b1, .bool b2]) _ := reads_list_at (News.get N ha) rfl rfl (ReadsAll.cons (Reads.bool _) (ReadsAll.cons (Reads.bool _) ReadsAll.nil))
  have r2 : Reads s.heap (.ref b) (.list [.bool b1, .bool b2]) _ := reads_list_at (News.get N hb) rfl rfl (ReadsAll.cons (Reads.bool _) (ReadsAll.cons (Reads.bool _) ReadsAll.nil))
  have sh : SeqAt.shaped (.list [.bool b1, .bool b2]) = true := by
    unfold SeqAt.shaped
    simp only [PyData.canLay0, PyData.canLayAll0, PyData.depth, PyData.depthAll]
    rfl
  refine eq_dataH r1 r2 sh sh hu ?_
  have e : PyData.eqv (.list [.bool b1, .bool b2]) (.list [.bool b1, .bool b2]) = true := by
    simp [PyData.eqv, PyData.eqvAll]
  rw [e]
  exact h
theorem eqA {p p' : PySem.Str} {z c z' c' : Int} (h : p = p' ∧ z = z') : decide (p = p' ∧ z = z' ∧ c = c') = (c == c') := by
  obtain ⟨rfl, rfl⟩ := h
  by_cases h : c = c' <;> simp [h]
theorem eqB {p p' : PySem.Str} {z c z' c' : Int} (h : ¬ (p = p' ∧ z = z')) : decide (p = p' ∧ z = z' ∧ c = c') = decide (p = p' ∧ z = z') := by
  rw [decide_eq_false h, decide_eq_false fun q => h ⟨q.1, q.2.1⟩]
end
def JoinB : Prop := True
theorem via_bool {M : Model} {A : Around} {E : Value → Shared → Prop} {s : Shared} {t : Sem Value} {Q : Value → Shared → Prop} {h₀ : Heap} {L : Addr} {m : PySem.Str → Option Value} {news : List (Addr × Obj)} (b : Bool) (_F : Fr h₀ L s.heap m) (_N : News h₀ L s.heap news)
    (h : ∀ Q' : Value → Shared → Prop, (∀ h' tk', Fr h₀ L h' m → News h₀ L h' news → Q' (.bool b) { s with heap := h', toks := tk' }) → wpAny M A t Q' E s)
    (k : ∀ h' tk', Fr h₀ L h' m → News h₀ L h' news → Q (.bool b) { s with heap := h', toks := tk' }) : wpAny M A t Q E s := h Q k
theorem News_two_off {h₀ h : Heap} {L : Addr} {a b : Addr × Obj} {news : List (Addr × Obj)} (N : News h₀ L h (a :: b :: news)) : News h₀ L h news := fun p hp => N p (.tail _ (.tail _ hp))
local macro_rules | `(tactic| walk_at "CompEnd") => `(tactic| (refine LCg.CompEnd.intro (by assumption) (by assumption) _ (fun p hp => hp) (by first | assumption | (simp only [LCg.Off3, and_true]; assumption)) (by lcg_src) ?_))
local macro_rules | `(tactic| walk_at "compareOp Eq ref ref") => `(tactic| (k_here; k_dflt (refine' steq_ok (by kas_ty) (by kas_ty) (by exact News_four (by k_asm) (by k_mem) (by k_mem) (by k_mem) (by k_mem)) ?_; ksp_bin)))
local macro_rules | `(tactic| walk_at "compareOp Eq ref ref") => `(tactic| (k_here; k_dflt (refine' dfeq_ok (by kas_ty) (by kas_ty) (by exact News_four (by k_asm) (by k_mem) (by k_mem) (by k_mem) (by k_mem)) ?_; ksp_bin)))
local macro_rules | `(tactic| walk_at "compareOp Eq ref ref") => `(tactic| (k_here; (with_reducible show wpAny _ _ (compareOp CmpOp.Eq (Value.ref _) (Value.ref _)) _ _ _); k_dflt (refine' eq_tup2 ?q1 ?q2 ?q3 ?o1 ?o2 ?q4 ?_; (case q1 => k_asm); (case q2 => k_mem); (case q3 => k_mem); (case o1 => assumption); (case o2 => assumption); (case q4 => ke_room); k_whole)))
local macro_rules | `(tactic| walk_at "compareOp Eq ref ref") => `(tactic| (k_here; (with_reducible show wpAny _ _ (compareOp CmpOp.Eq (Value.ref _) (Value.ref _)) _ _ _); k_dflt (refine' eq_tup5 ?q1 ?q2 ?q3 ?o1 ?o2 ?q4 ?_; (case q1 => k_asm); (case q2 => k_mem); (case q3 => k_mem); (case o1 => assumption); (case o2 => assumption); (case q4 => ke_room); k_whole)))
local macro_rules | `(tactic| walk_at "compareOp Eq ref ref") => `(tactic| (k_here; (with_reducible show wpAny _ _ (compareOp CmpOp.Eq (Value.ref _) (Value.ref _)) _ _ _); k_dflt (refine' eq_lst2 ?q1 ?q2 ?q3 ?o1 ?o2 ?q4 ?_; (case q1 => k_asm); (case q2 => k_mem); (case q3 => k_mem); (case o1 => first | rfl | exact eqA (by assumption) | exact eqB (by assumption) | simp_all); (case o2 => first | rfl | exact eqA (by assumption) | exact eqB (by assumption) | simp_all); (case q4 => ke_room); k_whole)))
section
variable {w : World} {mean : ExcName → Option Value} {mg mb : PySem.Str → Option Value} {A₀ : Around} {env : Env} {outer : List Env} {base h₀ : Heap} {L : Addr} {m : PySem.Str → Option Value} {s : Shared} {E : Value → Shared → Prop} {dp un : Nat} {gd : Option (List Code)}

set_option maxHeartbeats 4000000 in
theorem equal_ok {x y : Addr} {p p' : PySem.Str} {z d c f z' d' c' f' : Int} {t0 t1 t2 t3 t4 v0 v1 v2 v3 v4 : Tok} {n n' : Nat} {Q : Value → Shared → Prop} (G : Gnd w mean mg mb A₀ env outer base h₀ L m s.heap dp un) (hb : dp ≤ 320 ∧ un ≤ 3000)
    (N : News h₀ L s.heap [(x, tup p t0 z t1 d t2 c t3 f t4 n), (y, tup p' v0 z' v1 d' v2 c' v3 f' v4 n')])
    (o1 : PyData.strOk p = true) (o2 : PyData.strOk p' = true)
    (ret : ∀ h' tk', Fr h₀ L h' m → InElt s.heap h' → Q (.bool true) { s with heap := h', toks := tk' }) :
    wpAny (model PySem.Challenge.rw_mg0088_01.row.toRowW.prog w) (At dp un gd env outer) (call (.ref 181) [.ref x, .ref y]) Q E s := by
  obtain ⟨B, F, X, T, hf, hke, hdp, hun⟩ := G
  revert X
  k_fill
  intro X
  have cE' := InElt.start s.heap
  k_with_none
  (k_with "subscriptTail Name Slice ref ref" => (k_here; (with_reducible show wpAny _ _ (subscriptTail _ (PySem.Expr.Slice none (some _) none _) (Value.ref _) (Value.ref _)) _ _ _); k_dflt (refine' slice_two ?F ?N ?l ?_ ?s ?t; (case F => k_asm); (case N => k_asm); (case l => k_mem); (case s => with_unfolding_all rfl); (case t => (intro _; with_unfolding_all rfl))); intro D' h' F' N' l1; (try k_lt l1)))
  refine wpAny_call ?_
  k_dflt k_enter
  have hJ : JoinB := trivial
  (k_with "eval BoolOp" => ((rename JoinB => hJ); k_dflt (refine' via_bool (decide (p = p' ∧ z = z' ∧ c = c')) ?F ?N (fun Q9 k9 => ?a) (fun h9 tk9 F9 N9 => ?b); (case F => k_asm); (case N => k_asm)); (all_goals clear hJ); (all_goals (try dsimp only))))
  w_strict k_steps
  · rw [← eqA (c := c) (c' := c') (by assumption)]
    exact k9 _ _ (by assumption) (News_two_off (by assumption))
  · rw [← eqB (c := c) (c' := c') (by assumption)]
    exact k9 _ _ (by assumption) (News_two_off (by assumption))
  · exact ret _ _ (by assumption) (by assumption)
end
-- S8
/-- a row of the law's -/
def RowGood (p : PySem.Str) (z d c f : Int) : Prop :=
  (p = S "a.py:3" ∨ p = S "" ∨ p = S "b: size=1 B" ∨ p = S "c, count=2") ∧ 0 ≤ c ∧ c ≤ 4 ∧ (∃ a : Int, 0 ≤ a ∧ a < 300 ∧ z = a * max c 1) ∧ z - 1199 ≤ d ∧ d ≤ z ∧ c - 6 ≤ f ∧ f ≤ c
theorem good_of (cell : Int) {p : PySem.Str} (hp : p = S "a.py:3" ∨ p = S "" ∨ p = S "b: size=1 B" ∨ p = S "c, count=2") :
    RowGood p ((cell.fdiv 5).fmod 300 * if 1 > cell.fmod 5 then 1 else cell.fmod 5) (((cell.fdiv 5).fmod 300 * if 1 > cell.fmod 5 then 1 else cell.fmod 5) - (cell.fdiv 1500).fmod 1200) (cell.fmod 5) (cell.fmod 5 - (cell.fdiv 1800000).fmod 7) := by
  have a1 := fmod_lo cell (n := 5) (by decide)
  have a2 := fmod_hi cell (n := 5) (by decide)
  have b1 := fmod_lo (cell.fdiv 5) (n := 300) (by decide)
  have b2 := fmod_hi (cell.fdiv 5) (n := 300) (by decide)
  have c1 := fmod_lo (cell.fdiv 1500) (n := 1200) (by decide)
  have c2 := fmod_hi (cell.fdiv 1500) (n := 1200) (by decide)
  have d1 := fmod_lo (cell.fdiv 1800000) (n := 7) (by decide)
  have d2 := fmod_hi (cell.fdiv 1800000) (n := 7) (by decide)
  have e : (if 1 > cell.fmod 5 then 1 else cell.fmod 5) = max (cell.fmod 5) 1 := by
    split <;> omega
  rw [e]
  exact ⟨hp, a1, by omega, ⟨_, b1, b2, rfl⟩, by omega, by omega, by omega, by omega⟩
theorem News_one {h₀ h : Heap} {L : Addr} {news : List (Addr × Obj)} {q : Addr × Obj} (N : News h₀ L h news) (h1 : q ∈ news) : News h₀ L h [q] := fun p hp => by
  rw [List.mem_singleton.mp hp]
  exact N _ h1
theorem place_item {prog : Program} {w : World} {A : Around} {E : Value → Shared → Prop} {s : Shared} {h₀ : Heap} {L : Addr} {news : List (Addr × Obj)} {value slice : Expr} {t : Addr} {a b c d : PySem.Str} {t0 t1 t2 t3 u : Tok} {n : Nat} {k : Int} {Q : Value → Shared → Prop}
    (N : News h₀ L s.heap news) (hm : (t, ({ cls := .type "tuple", data := .seq #[.str a t0, .str b t1, .str c t2, .str d t3] n } : Obj)) ∈ news) (h0 : 0 ≤ k) (h1 : k < 4)
    (h : ∀ p u', (p = a ∨ p = b ∨ p = c ∨ p = d) → Q (.str p u') s)
    (hs : subscripted slice false (.ref t) (.int k u) = operate [.ref t, .int k u] (getItem (.ref t) (.int k u))) :
    wpAny (model prog w) A (subscriptTail value slice (.ref t) (.int k u)) Q E s := by
  have hT : IsTup s.heap t [.str a t0, .str b t1, .str c t2, .str d t3].toArray := ⟨_, (N _ hm).1, rfl, _, rfl⟩
  have hk : k = 0 ∨ k = 1 ∨ k = 2 ∨ k = 3 := by omega
  rcases hk with rfl | rfl | rfl | rfl
  · exact item_tupleT hT (by decide) (by decide) (j := 0) rfl rfl (h _ _ (.inl rfl)) hs
  · exact item_tupleT hT (by decide) (by decide) (j := 1) rfl rfl (h _ _ (.inr (.inl rfl))) hs
  · exact item_tupleT hT (by decide) (by decide) (j := 2) rfl rfl (h _ _ (.inr (.inr (.inl rfl)))) hs
  · exact item_tupleT hT (by decide) (by decide) (j := 3) rfl rfl (h _ _ (.inr (.inr (.inr rfl)))) hs
local macro_rules | `(tactic| walk_at "subscriptTail") => `(tactic| (k_here; (with_reducible show wpAny _ _ (subscriptTail (PySem.Expr.Tuple _ _ _) _ (Value.ref _) (Value.int _ _)) _ _ _); k_dflt (refine' place_item ?n ?m (fmod_lo _ (by decide)) (fmod_hi _ (by decide)) ?_ ?s; (case n => k_asm); (case m => k_mem); (case s => with_unfolding_all rfl); k_whole); intro _ _ _))
section
variable {w : World} {mean : ExcName → Option Value} {mg mb : PySem.Str → Option Value} {A₀ : Around} {env : Env} {outer : List Env} {base h₀ : Heap} {L : Addr} {m : PySem.Str → Option Value} {s : Shared} {E : Value → Shared → Prop} {dp un : Nat} {gd : Option (List Code)}

set_option maxHeartbeats 4000000 in
theorem fields_ok {cell at' : Int} {t u : Tok} {Q : Value → Shared → Prop} (G : Gnd w mean mg mb A₀ env outer base h₀ L m s.heap dp un) (hb : dp ≤ 320 ∧ un ≤ 3000) 
    {i j k : Addr} {oi oj ok : Obj} (N : News h₀ L s.heap [(i, oi), (j, oj), (k, ok)])
    (ret : ∀ D p z d c f t0 t1 t2 t3 t4 n h' tk', RowGood p z d c f → ((@LT.lt Nat _ i D) ∧ (@LT.lt Nat _ j D) ∧ (@LT.lt Nat _ k D)) → Fr h₀ L h' m → InElt s.heap h' → News h₀ L h' [(D, tup p t0 z t1 d t2 c t3 f t4 n)] → Q (.ref D) { s with heap := h', toks := tk' }) :
    wpAny (model PySem.Challenge.rw_mg0088_01.row.toRowW.prog w) (At dp un gd env outer) (call (.ref 162) [.int cell t, .int at' u]) Q E s := by
  obtain ⟨B, F, X, T, hf, hke, hdp, hun⟩ := G
  revert X
  k_fill
  intro X
  have cE' := InElt.start s.heap
  k_with_none
  refine wpAny_call ?_
  k_dflt k_enter
  w_strict k_steps
  exact ret _ _ _ _ _ _ _ _ _ _ _ _ _ _ (good_of _ (by assumption)) (by refine ⟨?_, ?_, ?_⟩ <;> omega) (by assumption) (by assumption) (News_one (by assumption) (.head _))
end
-- S9
theorem ok_app {x y : PySem.Str} (h1 : PyData.strOk x = true) (h2 : PyData.strOk y = true) : PyData.strOk (x ++ y) = true := by
  unfold PyData.strOk at *
  rw [PySem.Str.cps_append, Array.all_append, h1, h2]
  rfl
theorem ok_laid {sign neg : Bool} {k : Nat} : PyData.strOk ⟨(laidL sign neg k).toArray⟩ = true := by
  unfold PyData.strOk laidL
  rw [List.all_toArray, List.all_append]
  have h : (digL k).all (· < 0x110000) = true := List.all_eq_true.mpr fun c hc => decide_eq_true (by have := digL_digit hc; omega)
  rw [h]
  cases neg <;> cases sign <;> rfl
theorem ok_num {n : Int} (h : 0 ≤ n) : PyData.strOk (numS n) = true := by
  rw [numS_nonneg h]
  exact ok_laid
theorem ok_sgn (n : Int) : PyData.strOk (sgnS n) = true := by
  rw [sgnS_laid]
  exact ok_laid
theorem lits : PyData.strOk (S ": size=") = true ∧ PyData.strOk (S " B, count=") = true ∧ PyData.strOk (S "") = true ∧ PyData.strOk (S ", average=") = true ∧ PyData.strOk (S " B") = true ∧ PyData.strOk (S " B (") = true ∧ PyData.strOk (S " B), count=") = true ∧ PyData.strOk (S " (") = true ∧ PyData.strOk (S ")") = true ∧
    PyData.strOk (S "<Statistic traceback='") = true ∧ PyData.strOk (S "' size=") = true ∧ PyData.strOk (S " count=") = true ∧ PyData.strOk (S ">") = true ∧ PyData.strOk (S "<StatisticDiff traceback='") = true ∧ PyData.strOk (S ") count=") = true ∧ PyData.strOk (S ")>") = true := by decide +kernel
section
variable {p : PySem.Str} {z d c f a q : Int}
theorem ok_tail (hq : c ≠ 0 → 0 ≤ q) : PyData.strOk (tailL c q) = true := by
  unfold tailL
  split
  · exact lits.2.2.1
  · rename_i h
    exact ok_app (ok_app lits.2.2.2.1 (ok_num (hq h))) lits.2.2.2.2.1
theorem ok_x1 (o : PyData.strOk p = true) (hz : 0 ≤ z) (hc : 0 ≤ c) (hq : c ≠ 0 → 0 ≤ q) : PyData.strOk (x1 p z c q) = true := by
  unfold x1
  obtain ⟨l1, l2, l3, l4, l5, l6, l7, l8, l9, l10, l11, l12, l13, l14, l15, l16⟩ := lits
  exact ok_app (ok_app (ok_app (ok_app (ok_app o l1) (ok_num hz)) l2) (ok_num hc)) (ok_tail hq)
theorem ok_x2 (o : PyData.strOk p = true) (hz : 0 ≤ z) (hc : 0 ≤ c) (hq : c ≠ 0 → 0 ≤ q) : PyData.strOk (x2 p z d c f q) = true := by
  unfold x2
  obtain ⟨l1, l2, l3, l4, l5, l6, l7, l8, l9, l10, l11, l12, l13, l14, l15, l16⟩ := lits
  exact ok_app (ok_app (ok_app (ok_app (ok_app (ok_app o l1) (ok_num hz)) l6) (ok_sgn d)) l7) (ok_app (ok_app (ok_app (ok_app (ok_num hc) l8) (ok_sgn f)) l9) (ok_tail hq))
theorem ok_x3 (o : PyData.strOk p = true) (hz : 0 ≤ z) (hc : 0 ≤ c) : PyData.strOk (x3 p z c) = true := by
  unfold x3
  obtain ⟨l1, l2, l3, l4, l5, l6, l7, l8, l9, l10, l11, l12, l13, l14, l15, l16⟩ := lits
  exact ok_app (ok_app (ok_app (ok_app (ok_app (ok_app l10 o) l11) (ok_num hz)) l12) (ok_num hc)) l13
theorem ok_x4 (o : PyData.strOk p = true) (hz : 0 ≤ z) (hc : 0 ≤ c) : PyData.strOk (x4 p z d c f) = true := by
  unfold x4
  obtain ⟨l1, l2, l3, l4, l5, l6, l7, l8, l9, l10, l11, l12, l13, l14, l15, l16⟩ := lits
  exact ok_app (ok_app (ok_app (ok_app (ok_app (ok_app l14 o) l11) (ok_num hz)) l8) (ok_sgn d)) (ok_app (ok_app (ok_app (ok_app l15 (ok_num hc)) l8) (ok_sgn f)) l16)
theorem cut1 : S " B, count=" = S " " ++ (S "B" ++ S ", count=") ∧ S " B" = S " " ++ S "B" ∧ S " B (" = S " " ++ (S "B" ++ S " (") ∧ S " B), count=" = S " " ++ (S "B" ++ S "), count=") ∧ S "<Statistic traceback='" = S "<Statistic traceback=" ++ S "'" ∧
    S "' size=" = S "'" ++ S " size=" ∧ S "<StatisticDiff traceback='" = S "<StatisticDiff traceback=" ++ S "'" ∧ S "" = PySem.Str.empty := by decide +kernel
theorem tails (h : c ≠ 0 → a = q) : tailT c a = tailL c q := by
  unfold tailT tailL
  obtain ⟨k1, k2, k3, k4, k5, k6, k7, k8⟩ := cut1
  split
  · exact k8.symm
  · rename_i h0
    rw [h h0, k2]
    simp only [app_assoc]
theorem eq1 (h : c ≠ 0 → a = q) : strT p z c a = x1 p z c q := by
  unfold strT x1
  obtain ⟨k1, k2, k3, k4, k5, k6, k7, k8⟩ := cut1
  rw [tails h, k1]
  simp only [app_assoc]
theorem eq2 (h : c ≠ 0 → a = q) : strDT p z d c f a = x2 p z d c f q := by
  unfold strDT x2
  obtain ⟨k1, k2, k3, k4, k5, k6, k7, k8⟩ := cut1
  rw [tails h, k3, k4]
  simp only [app_assoc]
theorem eq3 (h : reprText p = S "'" ++ (p ++ S "'")) : repT p z c = x3 p z c := by
  unfold repT x3
  obtain ⟨k1, k2, k3, k4, k5, k6, k7, k8⟩ := cut1
  rw [h, k5, k6]
  simp only [app_assoc]
theorem eq4 (h : reprText p = S "'" ++ (p ++ S "'")) : repDT p z d c f = x4 p z d c f := by
  unfold repDT x4
  obtain ⟨k1, k2, k3, k4, k5, k6, k7, k8⟩ := cut1
  rw [h, k6, k7]
  simp only [app_assoc]
theorem place_ok (h : p = S "a.py:3" ∨ p = S "" ∨ p = S "b: size=1 B" ∨ p = S "c, count=2") : PyData.strOk p = true ∧ p.length ≤ 100 ∧ (reprText p).length ≤ 100 ∧ reprText p = S "'" ++ (p ++ S "'") := by
  rcases h with rfl | rfl | rfl | rfl <;> decide +kernel
theorem ofInt_frac : ∀ v : Fin 300, Float64.ofFrac false v.val 1 = Float64.ofInt ((v.val : Nat) : Int) := by decide +kernel
theorem quot_ok {a c z : Int} (ha : 0 ≤ a) (ha' : a < 300) (hc : 0 ≤ c) (hc' : c ≤ 4) (h0 : c ≠ 0) (hz : z = a * max c 1) : Float64.ofFrac (decide (z < 0) != decide (c < 0)) z.natAbs c.natAbs = Float64.ofInt a := by
  obtain ⟨n, rfl⟩ := Int.eq_ofNat_of_zero_le ha
  obtain ⟨k, rfl⟩ := Int.eq_ofNat_of_zero_le hc
  have hm : max (k : Int) 1 = (k : Int) := by omega
  rw [hm] at hz
  have hz' : z = ((n * k : Nat) : Int) := by rw [hz]; exact (Int.natCast_mul n k).symm
  subst hz'
  rw [decide_eq_false (by omega), decide_eq_false (by omega)]
  have h1 := quot ⟨k - 1, by omega⟩ ⟨n, by omega⟩
  have h2 := ofInt_frac ⟨n, by omega⟩
  dsimp only at h1 h2
  rw [show k - 1 + 1 = k by omega] at h1
  exact h1.trans h2
theorem div_ok {a c z : Int} (hc : 0 ≤ c) (h0 : c ≠ 0) (hz : z = a * max c 1) : z.fdiv c = a := by
  have hm : max c 1 = c := by omega
  rw [hz, hm]
  exact Int.mul_fdiv_cancel a h0
theorem size_le {a c : Int} (ha : 0 ≤ a) (ha' : a < 300) (hc : 0 ≤ c) (hc' : c ≤ 4) : 0 ≤ a * max c 1 ∧ a * max c 1 ≤ 1196 := by
  have h : max c 1 = 1 ∨ max c 1 = 2 ∨ max c 1 = 3 ∨ max c 1 = 4 := by omega
  rcases h with h | h | h | h <;> rw [h] <;> omega
end
section
variable {w : World} {mean : ExcName → Option Value} {mg mb : PySem.Str → Option Value} {A₀ : Around} {env : Env} {outer : List Env} {base h₀ : Heap} {L : Addr} {m : PySem.Str → Option Value} {s : Shared} {E : Value → Shared → Prop} {dp un : Nat} {gd : Option (List Code)}

theorem told_good {x : Addr} {p : PySem.Str} {z d c f : Int} {t0 t1 t2 t3 t4 : Tok} {n : Nat} {Q : Value → Shared → Prop} (G : Gnd w mean mg mb A₀ env outer base h₀ L m s.heap dp un) (hb : dp ≤ 320 ∧ un ≤ 3000) (N : News h₀ L s.heap [(x, tup p t0 z t1 d t2 c t3 f t4 n)])
    (g : RowGood p z d c f) (ret : ∀ h' tk', Fr h₀ L h' m → InElt s.heap h' → Q (.bool true) { s with heap := h', toks := tk' }) :
    wpAny (model PySem.Challenge.rw_mg0088_01.row.toRowW.prog w) (At dp un gd env outer) (call (.ref 176) [.ref x]) Q E s := by
  obtain ⟨hp, c1, c2, ⟨a, a1, a2, hz⟩, d1, d2, f1, f2⟩ := g
  obtain ⟨k1, k2, k3, k4⟩ := place_ok hp
  have hs := size_le a1 a2 c1 c2
  rw [← hz] at hs
  have hd : c ≠ 0 → z.fdiv c = a := fun h0 => div_ok c1 h0 hz
  have hq : c ≠ 0 → 0 ≤ z.fdiv c := fun h0 => by rw [hd h0]; exact a1
  exact told_ok G hb N k2 k3 a1 a2 c1 c2 hs.1 (by omega) (by omega) (by omega) (by omega) (by omega) (fun h0 => quot_ok a1 a2 c1 c2 h0 hz) hq (fun h0 => by rw [hd h0]; omega)
    (eq1 fun h0 => (hd h0).symm) (eq2 fun h0 => (hd h0).symm) (eq3 k4) (eq4 k4) (ok_x1 k1 hs.1 c1 hq) (ok_x2 k1 hs.1 c1 hq) (ok_x3 k1 hs.1 c1) (ok_x4 k1 hs.1 c1) ret
theorem equal_good {x y : Addr} {p p' : PySem.Str} {z d c f z' d' c' f' : Int} {t0 t1 t2 t3 t4 v0 v1 v2 v3 v4 : Tok} {n n' : Nat} {Q : Value → Shared → Prop} (G : Gnd w mean mg mb A₀ env outer base h₀ L m s.heap dp un) (hb : dp ≤ 320 ∧ un ≤ 3000)
    (N : News h₀ L s.heap [(x, tup p t0 z t1 d t2 c t3 f t4 n), (y, tup p' v0 z' v1 d' v2 c' v3 f' v4 n')]) (g : RowGood p z d c f) (g' : RowGood p' z' d' c' f')
    (ret : ∀ h' tk', Fr h₀ L h' m → InElt s.heap h' → Q (.bool true) { s with heap := h', toks := tk' }) :
    wpAny (model PySem.Challenge.rw_mg0088_01.row.toRowW.prog w) (At dp un gd env outer) (call (.ref 181) [.ref x, .ref y]) Q E s :=
  equal_ok G hb N (place_ok g.1).1 (place_ok g'.1).1 ret
end
-- S10
def GoodObj (o : Obj) : Prop := ∃ p z d c f t0 t1 t2 t3 t4 n, o = tup p t0 z t1 d t2 c t3 f t4 n ∧ RowGood p z d c f
/-- the values are rows that the ledger's tuples hold -/
def Rows (ys : List Value) (rs : List (Addr × Obj)) : Prop := (∀ v ∈ ys, ∃ q ∈ rs, v = .ref q.1) ∧ ∀ q ∈ rs, GoodObj q.2
theorem Rows.nil : Rows [] [] := ⟨fun _ h => absurd h List.not_mem_nil, fun _ h => absurd h List.not_mem_nil⟩
theorem Rows.snoc {ys : List Value} {rs : List (Addr × Obj)} {a : Addr} {o : Obj} (r : Rows ys rs) (g : GoodObj o) : Rows (ys ++ [.ref a]) ((a, o) :: rs) := by
  refine ⟨fun v hv => ?_, fun q hq => ?_⟩
  · rcases List.mem_append.mp hv with hv | hv
    · obtain ⟨q, hq, e⟩ := r.1 v hv
      exact ⟨q, List.mem_cons_of_mem _ hq, e⟩
    · exact ⟨(a, o), List.mem_cons_self, List.mem_singleton.mp hv⟩
  · rcases List.mem_cons.mp hq with rfl | hq
    · exact g
    · exact r.2 q hq
def RowEnd (h₀ : Heap) (L : Addr) (m : PySem.Str → Option Value) (s : Shared) (h : Heap) (I C D : Addr) (y : Value) (s₂ : Shared) : Prop :=
  ∃ a o h' tk', y = .ref a ∧ GoodObj o ∧ s₂ = { s with heap := h', toks := tk' } ∧ Fr h₀ L h' m ∧ InElt h h' ∧ News h₀ L h' [(a, o)] ∧ ((@LT.lt Nat _ I a) ∧ (@LT.lt Nat _ C a) ∧ (@LT.lt Nat _ D a))
def BoolEnd (h₀ : Heap) (L : Addr) (m : PySem.Str → Option Value) (s : Shared) (h : Heap) (y : Value) (s₂ : Shared) : Prop :=
  y = .bool true ∧ ∃ h' tk', s₂ = { s with heap := h', toks := tk' } ∧ Fr h₀ L h' m ∧ InElt h h'
def TurnEnd (h₀ : Heap) (L : Addr) (m : PySem.Str → Option Value) (s : Shared) (K : List (Addr × Obj)) (f : Flow) (s₂ : Shared) : Prop :=
  f = .next ∧ ∃ h' tk', s₂ = { s with heap := h', toks := tk' } ∧ Fr h₀ L h' m ∧ News h₀ L h' K
theorem pick_rows {h₀ h : Heap} {L D : Addr} {ys : List Value} {rs news : List (Addr × Obj)} {q : Addr × Obj} (N : News h₀ L h ((D, LCg.lst ys) :: (rs ++ news))) (hq : q ∈ news) : News h₀ L h ((D, LCg.lst ys) :: q :: rs) := fun p hp => N p (by
  simp only [List.mem_cons, List.mem_append] at hp ⊢
  rcases hp with h | h | h
  · exact .inl h
  · rw [h]; exact .inr (.inr hq)
  · exact .inr (.inl h))
theorem News_sub {h₀ h : Heap} {L : Addr} {a b : List (Addr × Obj)} (N : News h₀ L h a) (k : ∀ q ∈ b, q ∈ a) : News h₀ L h b := fun p hp => N p (k p hp)
section
variable {prog : Program} {w : World} {A : Around} {h₀ : Heap} {L : Addr} {m : PySem.Str → Option Value} {env : Env} {elt : Expr} {x : PySem.Str} {scope : Scope} {cl : List (PySem.Str × Addr)} {s : Shared} {S : List (Addr × Obj) → Prop} {P : Nat → Value → Prop} {Fin : List Value → List (Addr × Obj) → Prop} {news : List (Addr × Obj)}
theorem rows_rest {n : Nat} {a₀ : Int}
    (turn : ∀ k t I oI C oC D m₂ ys h tk (E' : Value → Shared → Prop), a₀ ≤ k → k < a₀ + (n : Int) → LCg.NsObj oC m₂ → m₂ x = some (.int k t) → Fr h₀ L h m → News h₀ L h ((I, oI) :: (C, oC) :: (D, LCg.lst ys) :: news) →
      wpAny (model prog w) A (eval elt (compEnvC scope cl C env)) (RowEnd h₀ L m s h I C D) E' { s with heap := h, toks := tk })
    (fin : ∀ ys rs, ys.length = n → Rows ys rs → Fin ys (rs ++ news)) : LCg.CompRest prog w A h₀ L m env elt x scope cl s (fun _ => True) (fun i v => ∃ t, v = .int (a₀ + (i : Int)) t) Fin n 0 [] news := by
  have key : ∀ (j i : Nat) (ys : List Value) (rs : List (Addr × Obj)), i + j = n → ys.length = i → Rows ys rs →
      LCg.CompRest prog w A h₀ L m env elt x scope cl s (fun _ => True) (fun i v => ∃ t, v = .int (a₀ + (i : Int)) t) Fin j i ys (rs ++ news) := by
    intro j
    induction j with
    | zero => intro i ys rs hi hl hr; exact LCg.CompRest.zero (fin ys rs (by omega) hr)
    | succ j ih =>
      intro i ys rs hi hl hr
      refine LCg.CompRest.succ ?_
      intro v I oI C oC D m₂ h tk E' hv hC hx F N off ne
      obtain ⟨t, rfl⟩ := hv
      have N3 : News h₀ L h ((I, oI) :: (C, oC) :: (D, LCg.lst ys) :: news) := News_sub N fun q hq => by
        simp only [List.mem_cons, List.mem_append] at hq ⊢
        rcases hq with h | h | h | h
        · exact .inl h
        · exact .inr (.inl h)
        · exact .inr (.inr (.inl h))
        · exact .inr (.inr (.inr (.inr h)))
      refine wpAny_mono (turn _ t I oI C oC D m₂ ys h tk E' (by omega) (by omega) hC hx F N3) (fun y s₂ hq => ?_) fun _ _ e => e
      obtain ⟨a, o, h', tk', rfl, g, rfl, F', E1, Na, l1, l2, l3⟩ := hq
      have Ng := News.grown N E1
      refine ⟨h', tk', (a, o) :: rs ++ news, rfl, F', fun q hq => ?_, ?_, trivial, ?_⟩
      · simp only [List.mem_cons, List.mem_append] at hq
        rcases hq with h | h | h | (h | h) | h
        · exact Ng q (by rw [h]; exact List.mem_cons_self)
        · exact Ng q (by rw [h]; exact List.mem_cons_of_mem _ List.mem_cons_self)
        · exact Ng q (by rw [h]; exact List.mem_cons_of_mem _ (List.mem_cons_of_mem _ List.mem_cons_self))
        · exact Na q (by rw [h]; exact List.mem_cons_self)
        · exact Ng q (List.mem_cons_of_mem _ (List.mem_cons_of_mem _ (List.mem_cons_of_mem _ (List.mem_append_left _ h))))
        · exact Ng q (List.mem_cons_of_mem _ (List.mem_cons_of_mem _ (List.mem_cons_of_mem _ (List.mem_append_right _ h))))
      · exact ⟨⟨Nat.ne_of_gt l1, Nat.ne_of_gt l2, Nat.ne_of_gt l3⟩, off⟩
      · exact ih (i + 1) (ys ++ [.ref a]) ((a, o) :: rs) (by omega) (by rw [List.length_append, hl]; rfl) (hr.snoc g)
  exact key n 0 [] [] (by omega) rfl Rows.nil
theorem trues_rest {ys : List Value} {rs : List (Addr × Obj)} (R : Rows ys rs) (hsub : ∀ q ∈ rs, q ∈ news) (hS : S news)
    (turn : ∀ b p z d c f t0 t1 t2 t3 t4 n C oC m₂ h tk (E' : Value → Shared → Prop), RowGood p z d c f → LCg.NsObj oC m₂ → m₂ x = some (.ref b) → Fr h₀ L h m → News h₀ L h ((C, oC) :: (b, tup p t0 z t1 d t2 c t3 f t4 n) :: news) →
      wpAny (model prog w) A (eval elt (compEnvC scope cl C env)) (BoolEnd h₀ L m s h) E' { s with heap := h, toks := tk })
    (fin : ∀ k, Fin (List.replicate k (.bool true)) news) : LCg.CompRest prog w A h₀ L m env elt x scope cl s S (fun i v => ys.toArray[i]? = some v) Fin ys.toArray.size 0 [] news := by
  have key : ∀ (j i : Nat), i + j = ys.toArray.size → LCg.CompRest prog w A h₀ L m env elt x scope cl s S (fun i v => ys.toArray[i]? = some v) Fin j i (List.replicate i (.bool true)) news := by
    intro j
    induction j with
    | zero => intro i hi; exact LCg.CompRest.zero (fin i)
    | succ j ih =>
      intro i hi
      refine LCg.CompRest.succ ?_
      intro v I oI C oC D m₂ h tk E' hv hC hx F N off ne
      have hv' : v ∈ ys := List.mem_of_getElem? (i := i) (by simpa using hv)
      obtain ⟨q, hq, rfl⟩ := R.1 v hv'
      obtain ⟨p, z, d, c, f, t0, t1, t2, t3, t4, n, e, g⟩ := R.2 q hq
      obtain ⟨b, o⟩ := q
      subst e
      refine wpAny_mono (turn b p z d c f t0 t1 t2 t3 t4 n C oC m₂ h tk E' g hC hx F (News_sub N fun q' hq' => ?_)) (fun y s₂ hb => ?_) fun _ _ e => e
      · simp only [List.mem_cons] at hq' ⊢
        rcases hq' with h | h | h
        · exact .inr (.inl h)
        · exact .inr (.inr (.inr (by rw [h]; exact hsub _ hq)))
        · exact .inr (.inr (.inr h))
      · obtain ⟨rfl, h', tk', rfl, F', E1⟩ := hb
        refine ⟨h', tk', news, rfl, F', News.grown N E1, off, hS, ?_⟩
        have e : List.replicate i (Value.bool true) ++ [.bool true] = List.replicate (i + 1) (.bool true) := List.replicate_succ'.symm
        have z := ih (i + 1) (by omega)
        rw [← e] at z
        exact z
  exact key _ 0 (by omega)
end
section
variable {prog : Program} {w : World} {A : Around} {E : Value → Shared → Prop} {s : Shared} {env : Env} {h₀ : Heap} {body : List Stmt} {Q : Flow → Shared → Prop}
theorem loop_rows {x : PySem.Str} {px : Pos} {l : Addr} {ys : List Value} {m₀ : PySem.Str → Option Value} {cR : Addr} {oR : Obj} {v0 : Option Value} {rs : List (Addr × Obj)}
    (hh : A.handled = none) (hk : env.scope.kind = .function) (hl : env.kindOf x = some .cell) (hc : env.cells.lookup x = some cR)
    (F : Fr h₀ env.locals s.heap m₀) (N : News h₀ env.locals s.heap ((l, LCg.lst ys) :: (cR, oR) :: rs)) (hd : oR.data = .cell v0) (R : Rows ys rs)
    (turn : ∀ a p z d c f t0 t1 t2 t3 t4 n oR' own h tk, RowGood p z d c f → oR'.data = .cell (some (.ref a)) → Fr h₀ env.locals h m₀ →
      News h₀ env.locals h ((a, tup p t0 z t1 d t2 c t3 f t4 n) :: (cR, oR') :: (l, LCg.lst ys) :: (own ++ rs)) →
      wpAny (model prog w) A (execs body env) (TurnEnd h₀ env.locals m₀ s ((cR, oR') :: (l, LCg.lst ys) :: (own ++ rs))) E { s with heap := h, toks := tk })
    (done : ∀ h tk, Fr h₀ env.locals h m₀ → News h₀ env.locals h [] → Q .next { s with heap := h, toks := tk }) :
    wpAny (model prog w) A (pyIter (.ref l)) (fun it s₂ => TurnsAt prog w A h₀ env (.Name x px) body Q E it s₂) E s := by
  have nl := N _ List.mem_cons_self
  have nc := N _ (List.mem_cons_of_mem _ List.mem_cons_self)
  have hls : s.heap.IsList l ys.toArray := ⟨_, nl.1, rfl, _, rfl⟩
  have hlt : l < s.heap.objs.size := Heap.lt_size nl.1
  have hct : cR < s.heap.objs.size := Heap.lt_size nc.1
  have hlc : l ≠ cR := by
    rintro rfl
    have e := nl.1.symm.trans nc.1
    have e' : (LCg.lst ys).data = oR.data := congrArg Obj.data (Option.some.inj e)
    rw [hd] at e'
    cases e'
  refine wpAny_pyIter_list hls ?_
  have W := Walks.list (prog := prog) (w := w) hh s.heap.objs.size l (Nat.ne_of_lt hlt) ys.toArray
  let J : Nat → (PySem.Str → Option Value) → List (Addr × Obj) → Prop := fun _ m₁ news₁ => m₁ = m₀ ∧ ∃ oR' v, oR'.data = .cell v ∧ news₁ = (l, LCg.lst ys) :: (cR, oR') :: rs
  refine ⟨s.heap.objs.size, [s.heap.objs.size, l], [s.heap.objs.size], ys.toArray.size, _, _, _, m₀, (l, LCg.lst ys) :: (cR, oR) :: rs, J, rfl,
    KTurns.ofWalks W (fun _ _ _ _ _ _ q => wpAny_of_eq rfl q), ?_, ?_, ?_, ⟨⟨_, Heap.get?_push_size _ rfl, rfl, rfl⟩, hls.at fun o e => Heap.get?_push_of_some _ e⟩, F.push _, (fun p hp => ⟨Heap.get?_push_of_some _ (N p hp).1, (N p hp).2⟩), ⟨rfl, oR, v0, hd, rfl⟩, ?_, ?_⟩
  · intro hm
    rcases List.mem_cons.mp hm with e | hm
    · exact absurd F.ns.lt (e ▸ Nat.lt_irrefl _)
    · exact nl.2.1 (List.mem_singleton.mp hm).symm
  · intro b hb
    rw [List.mem_singleton.mp hb]
    exact next_is_new F
  · intro p hp hI
    exact absurd (Heap.lt_size (N p hp).1) ((List.mem_singleton.mp hI) ▸ Nat.lt_irrefl _)
  · rintro i v m₁ news₁ h₁ tk₁ own hi hP ⟨rfl, oR', v', hd', rfl⟩ hoff hown1 hown2 hown3 hst F₁ N₁
    have hv : v ∈ ys := List.mem_of_getElem? (i := i) (by simpa using hP)
    obtain ⟨⟨a, o⟩, hq, rfl⟩ := R.1 v hv
    obtain ⟨p, z, d, c, f, t0, t1, t2, t3, t4, n, e, g⟩ := R.2 _ hq
    dsimp only at e
    subst e
    have Nc := N₁ (cR, oR') (List.mem_append_right _ (List.mem_cons_of_mem _ List.mem_cons_self))
    refine wpAny_assign_Name (wpAny_storeName_cell hk hl hc ⟨oR', Nc.1, hd'⟩ fun h₂ hv2 hs => ?_)
    obtain ⟨oR2, ho2, hd2⟩ := hv2
    have other : ∀ q ∈ own ++ (l, LCg.lst ys) :: rs, q.1 ≠ cR := by
      intro q hq
      rcases List.mem_append.mp hq with hq | hq
      · rcases List.mem_cons.mp (hown1 q hq) with e | e
        · rw [e]; exact Nat.ne_of_gt hct
        · rw [List.mem_singleton.mp e]; exact hlc
      · rcases List.mem_cons.mp hq with rfl | hq
        · exact hlc
        · intro e
          have z1 := (N₁ q (List.mem_append_right _ (List.mem_cons_of_mem _ (List.mem_cons_of_mem _ hq)))).1
          rw [e, Nc.1] at z1
          obtain ⟨_, _, _, _, _, _, _, _, _, _, _, e2, _⟩ := R.2 q hq
          rw [e2] at z1
          have z2 := congrArg Obj.data (Option.some.inj z1)
          rw [hd'] at z2
          cases z2
    have inN : ∀ q ∈ own ++ (l, LCg.lst ys) :: rs, q ∈ own ++ (l, LCg.lst ys) :: (cR, oR') :: rs := by
      intro q hq
      simp only [List.mem_append, List.mem_cons] at hq ⊢
      rcases hq with h | h | h
      · exact .inl h
      · exact .inr (.inl h)
      · exact .inr (.inr (.inr h))
    have N₂ : News h₀ env.locals h₂ (own ++ (l, LCg.lst ys) :: rs) := fun q hq => ⟨hs.extBut _ _ (other q hq) (N₁ q (inN q hq)).1, (N₁ q (inN q hq)).2⟩
    have F₂ : Fr h₀ env.locals h₂ m₁ := F₁.change hs Nc.2.1 Nc.2.2
    have c₂ : h₂.get? cR = some oR2 ∧ _ := ⟨ho2, Nc.2⟩
    refine wpAny_mono (turn a p z d c f t0 t1 t2 t3 t4 n oR2 own h₂ tk₁ g hd2 F₂ fun q hq' => ?_) (fun fl s₂ hfl => ?_) fun _ _ e => e
    · simp only [List.mem_cons, List.mem_append] at hq'
      rcases hq' with h | h | h | h | h
      · rw [h]; exact N₂ _ (List.mem_append_right _ (List.mem_cons_of_mem _ hq))
      · rw [h]; exact c₂
      · rw [h]; exact N₂ _ (List.mem_append_right _ List.mem_cons_self)
      · exact N₂ q (List.mem_append_left _ h)
      · exact N₂ q (List.mem_append_right _ (List.mem_cons_of_mem _ h))
    · obtain ⟨rfl, h', tk', rfl, F', N3⟩ := hfl
      refine LoopStepV.next ⟨rfl, h', tk', m₁, (l, LCg.lst ys) :: (cR, oR2) :: rs, rfl, F', fun q hq' => N3 q ?_, fun q hq' hI => ?_, rfl, oR2, _, hd2, rfl⟩
      · simp only [List.mem_append, List.mem_cons] at hq' ⊢
        rcases hq' with h | h | h | h
        · exact .inr (.inr (.inl h))
        · exact .inr (.inl h)
        · exact .inl h
        · exact .inr (.inr (.inr h))
      · have : q.1 < s.heap.objs.size := by
          simp only [List.mem_cons] at hq'
          rcases hq' with h | h | h
          · rw [h]; exact hlt
          · rw [h]; exact hct
          · exact Heap.lt_size (N q (List.mem_cons_of_mem _ (List.mem_cons_of_mem _ h))).1
        exact absurd this ((List.mem_singleton.mp hI) ▸ Nat.lt_irrefl _)
  · rintro h' tk m' news' F' N' _ ⟨rfl, _⟩
    exact done h' tk F' (fun _ h => absurd h List.not_mem_nil)
theorem reads_trues {h : Heap} : ∀ k : Nat, ReadsAll h (List.replicate k (.bool true)) (List.replicate k (.bool true)) []
  | 0 => ReadsAll.nil
  | k + 1 => ReadsAll.cons (Reads.bool _) (reads_trues k)
theorem lay_trues : ∀ k : Nat, PyData.canLayAll0 (List.replicate k (.bool true)) = true
  | 0 => rfl
  | k + 1 => by rw [List.replicate_succ, PyData.canLayAll0, lay_trues k]; rfl
theorem in_trues {Q : Value → Shared → Prop} {L D : Addr} {k : Nat} {news : List (Addr × Obj)} (N : News h₀ L s.heap news) (hm : (D, LCg.lst (List.replicate k (.bool true))) ∈ news) (hu : A.units + 65 < cLine) (h : Q (.bool false) s) :
    wpAny (model prog w) A (compareOp .In (.bool false) (.ref D)) Q E s := by
  refine SeqAt.in_list_reads (reads_list_at (News.get N hm) rfl rfl (xs := List.replicate k (.bool true)) (reads_trues k)) (Reads.bool _) (lay_trues k) rfl ?_ ?_
  · have : min (PyData.depthAll (List.replicate k (.bool true))) (PyData.bool false).depth ≤ 0 := Nat.min_le_right _ _
    omega
  · have e : ((List.replicate k (PyData.bool true)).any fun y => PyData.eqv y (.bool false)) = false := by
      rw [List.any_eq_false]
      intro y hy
      rw [List.eq_of_mem_replicate hy]
      decide
    rw [e]
    exact h
end
end Mine
-- S11
namespace Mine
open PySem PySem.W PyProof.Rows PySem.Calls
set_option maxRecDepth 100000
theorem rows_size {ys : List Value} {n : Nat} (h : ys.length = n) (hn : n ≤ 100) : ys.toArray.size ≤ sizeLine := by
  rw [List.size_toArray, h]
  exact Nat.le_trans hn (Nat.le_of_ble_eq_true rfl)
local macro_rules | `(tactic| walk_at "CompSrc") => `(tactic| (k_here; kcf_src; (try k_fmods); (try kcf_lens); k_dflt (refine LCg.CompSrc.range (by rfl) (by k_asm) (by k_asm) (by assumption) (by first | exact small_one (by kcf_bnd) (by kcf_bnd) (by kcf_bnd) (by kcf_bnd) | decide) (by first | exact rangeSize_nat _ _ | rfl) (by first | exact Nat.le_of_ble_eq_true rfl | (rw [PySem.sizeLine_eq]; first | omega | ((simp only [List.size_toArray]); omega) | ((have hb9 := len_ints_list (by lay_of)); omega)) | size_fits) ?_; intro g'; (refine' rows_rest (fun k' t' I' oI' C' oC' D' m' ys' h' tk' E' hlo' hhi' hC' hx' F' N' => ?_) (fun ys' rs' hl' hR' => ?_)); kcf_last)))
local macro_rules | `(tactic| walk_at "CompSrc") => `(tactic| (k_here; (rename Rows _ _ => hR'); k_dflt (refine LCg.CompSrc.ledger (by rfl) (by k_asm) (by k_asm) (by k_mem) (by assumption) ?_; intro g'; (refine' trues_rest hR' (fun q hq => List.mem_cons_of_mem _ (List.mem_cons_of_mem _ (List.mem_cons_of_mem _ (List.mem_append_right _ hq)))) (.inr ⟨_, by k_mem, rfl, _, rfl⟩) (fun b' p' z' d' c' f' t0' t1' t2' t3' t4' n' C' oC' m' h' tk' E' g' hC' hx' F' N' => ?_) (fun k' => ?_)); kcf_last)))
local macro_rules | `(tactic| walk_at "FinA") => `(tactic| (k_here; k_dflt ((rename Rows _ _ => hR'); (rename List.length _ = _ => hl'); (unfold LCg.FinA); intro D' h' tk' F' N' o1'; (have N9 := pick_rows N' (.tail _ (.tail _ (.tail _ (.head _))))); (clear N' o1'); (have hsz9 := rows_size hl' (by first | omega | (simp only [List.length_cons, List.length_append, List.size_toArray]; omega)))); (try dsimp only)))
local macro_rules | `(tactic| walk_at "eval ListComp") => `(tactic| (k_here; k_dflt (refine LCg.ListComp_U (F₀ := by k_asm) (by with_unfolding_all rfl) (by decide) (by rfl) (by decide) (by rfl) ?_)))
local macro_rules | `(tactic| walk_at "exec For Name Name cons nil") => `(tactic| (k_here; k_dflt (refine For_turns (by k_asm) ?_)))
set_option maxHeartbeats 8000000 in
theorem law_holds : PySem.Challenge.rw_mg0088_01.Holds := hd (by
  k_with_none
  (k_with "pyIter ref" => ((with_reducible show wpAny _ _ (pyIter (Value.ref _)) (fun it s₂ => TurnsAt _ _ _ _ _ _ _ _ _ it s₂) _ _); k_here; k_dflt (refine' loop_rows ?hh ?hk ?hl ?hc ?F ?N ?hd ?R (fun a' p' z' d' c' f' t0' t1' t2' t3' t4' n' o' own' h' tk' g' hd' F' N' => ?_) (fun h' tk' F' N' => ?_); (case hh => exact rfl); (case hk => exact rfl); (case hl => exact rfl); (case hc => exact rfl); (case F => k_asm); (case N => k_asm); (case hd => k_asm); (case R => assumption))))
  (k_with "compareOp In bool ref" => (k_here; k_dflt (refine' in_trues ?q1 ?q2 ?q4 ?_; (case q1 => k_asm); (case q2 => k_mem); (case q4 => exact Nat.le_of_ble_eq_true rfl); k_whole)))
  (k_with "TurnEnd" => (exact ⟨rfl, _, _, rfl, by assumption, News_sub (by assumption) (fun q hq => List.Mem.tail _ (List.Mem.tail _ hq))⟩))
  (k_with "call ref" => (k_here; (with_reducible show wpAny _ _ (call (Value.ref 162) [Value.int _ _, Value.int _ _]) _ _ _); k_dflt (refine' fields_ok ⟨?gB, ?gF, ?gX, ?gT, ?gf, ?gk, ?gd, ?gu⟩ ?hb ?kN ?_; (case gB => k_asm); (case gF => k_asm); (case gX => k_asm); (case gT => k_asm); (case gf => exact rfl); (case gk => exact rfl); (case gd => decide); (case gu => decide); (case hb => decide); (case kN => exact News_three (by k_asm) (.head _) (.tail _ (.head _)) (.tail _ (.tail _ (.head _)))); k_whole; intro D9 p9 z9 d9 c9 f9 t90 t91 t92 t93 t94 n9 h9 tk9 g9 l9 F9 E9 N9; (show RowEnd _ _ _ _ _ _ _ _ _ _); exact ⟨_, _, _, _, rfl, ⟨_, _, _, _, _, _, _, _, _, _, _, rfl, g9⟩, rfl, F9, E9, N9, l9⟩)))
  (k_with "call ref" => (k_here; (with_reducible show wpAny _ _ (call (Value.ref 176) [Value.ref _]) _ _ _); k_dflt (refine' told_good ⟨?gB, ?gF, ?gX, ?gT, ?gf, ?gk, ?gd, ?gu⟩ ?hb ?kN ?hg ?_; (case gB => k_asm); (case gF => k_asm); (case gX => k_asm); (case gT => k_asm); (case gf => exact rfl); (case gk => exact rfl); (case gd => decide); (case gu => decide); (case hb => decide); (case kN => exact News_one (by k_asm) (by k_mem)); (case hg => assumption); k_whole; intro h9 tk9 F9 E9; (have N9 := News.grown (by k_asm) E9); (clear E9); (try dsimp only); (try k_fold))))
  (k_with "call ref" => (k_here; (with_reducible show wpAny _ _ (call (Value.ref 181) [Value.ref _, Value.ref _]) _ _ _); k_dflt (refine' equal_good ⟨?gB, ?gF, ?gX, ?gT, ?gf, ?gk, ?gd, ?gu⟩ ?hb ?kN ?hg ?hg2 ?_; (case gB => k_asm); (case gF => k_asm); (case gX => k_asm); (case gT => k_asm); (case gf => exact rfl); (case gk => exact rfl); (case gd => decide); (case gu => decide); (case hb => decide); (case kN => exact News_two (by k_asm) (by k_mem) (by k_mem)); (case hg => assumption); (case hg2 => assumption); k_whole; intro h9 tk9 F9 E9; (show BoolEnd _ _ _ _ _ _ _); exact ⟨rfl, _, _, rfl, F9, E9⟩)))
  w_strict (k_go0; (all_goals try k_fold); k_steps; (all_goals (try k_data))))
end Mine
theorem PySem.Challenge.cw_mg0088_01_holds : PySem.Challenge.rw_mg0088_01.Holds := by
  exact Mine.law_holds
