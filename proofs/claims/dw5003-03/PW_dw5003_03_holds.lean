import PyProof.Rows.All
import Wide.All
import OpenK.AllK
import Wide.FinOn
import PySem.Challenge.RW_dw5003_03
open PySem PySem.W PyProof.Rows
set_option Elab.async false
set_option maxRecDepth 100000
set_option maxHeartbeats 8000000
namespace Mine
open_top hd03 for PySem.Challenge.rw_dw5003_03
end Mine
namespace Mine
open PySem.Calls PySem.NumText
/-- a figure of base 16 -/
def hexd (c : Nat) : Bool := (48 ≤ c && c ≤ 57) || (97 ≤ c && c ≤ 102) || (65 ≤ c && c ≤ 70)
def hexn (c : Nat) : Nat := if c ≤ 57 then c - 48 else if c ≤ 70 then c - 55 else c - 87
theorem hexd_lt {c : Nat} (h : hexd c = true) : c < 103 := by
  unfold hexd at h
  simp only [Bool.or_eq_true, Bool.and_eq_true, decide_eq_true_eq] at h
  omega
theorem hexn_lt {c : Nat} (h : hexd c = true) : hexn c < 16 := by
  unfold hexd at h
  simp only [Bool.or_eq_true, Bool.and_eq_true, decide_eq_true_eq] at h
  unfold hexn
  split
  · omega
  · split <;> omega
def hexOk (a b : Nat) : Bool := ([a, b].takeWhile (· != 0) == [a, b]) && ([a, b].dropWhile blank == [a, b]) && (sign [a, b] == (false, [a, b])) && (based 16 [a, b] == (16, false, [a, b])) &&
  (([a, b].reverse.dropWhile blank).reverse == [a, b]) && (digits? 16 [a, b] == some #[hexn a, hexn b])
theorem hexOk_all : (List.range 103).all (fun a => (List.range 103).all fun b => !(hexd a && hexd b) || hexOk a b) = true := by decide +kernel
theorem hexOk_of {a b : Nat} (ha : hexd a = true) (hb : hexd b = true) : hexOk a b = true := by
  have h1 := List.all_eq_true.mp hexOk_all a (List.mem_range.mpr (hexd_lt ha))
  have h2 := List.all_eq_true.mp h1 b (List.mem_range.mpr (hexd_lt hb))
  simpa [ha, hb] using h2
theorem read16 {a b : Nat} (ha : hexd a = true) (hb : hexd b = true) :
    (int_private% "readNumeral") 0 16 ([a, b].takeWhile (· != 0)) = (int_private% "Numeral.value") ((16 * hexn a + hexn b : Nat) : Int) := by
  have h := hexOk_of ha hb
  unfold hexOk at h
  simp only [Bool.and_eq_true, beq_iff_eq] at h
  obtain ⟨⟨⟨⟨⟨h1, h2⟩, h3⟩, h4⟩, h5⟩, h6⟩ := h
  rw [h1, readNumeral_eq, h2, h3]
  dsimp only
  rw [h4]
  dsimp only
  rw [h5, h6]
  show (int_private% "Numeral.value") _ = _
  congr 1
  simp
  omega
theorem typeCall_int_2 (a b : Value) : checkTypeCall "int" ⟨[a, b], []⟩ = pure () := by kernel_rfl
theorem newCall_int_2 (a b : Value) : checkBuiltinCall "int.__new__" ⟨[.type "int", a, b], []⟩ = pure () := by kernel_rfl
theorem args_object_init_3 (a b c : Value) : argsOk "object.__init__" ⟨[a, b, c], []⟩ := by unfold argsOk; kernel_rfl
theorem wp_text16 {M : Model} {A : Around} {E : Value → Shared → Prop} {s : Shared} {Q : Value → Shared → Prop} {v : Value} {text : List Nat} {n : Int}
    (hs : (text.takeWhile (· != 0)).length ≤ 640) (hr : (int_private% "readNumeral") 0 16 (text.takeWhile (· != 0)) = (int_private% "Numeral.value") n)
    (ha : ((text.takeWhile (· != 0)).length == text.length) = true) (h : Q (.int n s.toks) { s with toks := s.toks + 1 }) :
    wpAny M A ((int_private% "intFromText") v text 16) Q E s := by
  obtain ⟨hp, g, d, tk, os⟩ := s
  repeat (any_goals (first
    | assumption
    | (with_reducible refine wpAny_ite_true (decide_eq_true hs) ?_)
    | (with_reducible refine wpAny_ite_true (decide_eq_true ha) ?_)
    | wp_step))
  all_goals (try rw [hr])
  all_goals (try dsimp only)
  repeat (any_goals (first
    | assumption
    | (with_reducible refine wpAny_ite_true (decide_eq_true hs) ?_)
    | (with_reducible refine wpAny_ite_true (decide_eq_true ha) ?_)
    | wp_step))
structure Hid (p : Prop) : Prop where
  out : p
theorem text16 {a b : Nat} (ha : hexd a = true) (hb : hexd b = true) : (if (#[a, b] : Array Nat).all (· < 128) then (#[a, b] : Array Nat).toList else Unicode.numberText (#[a, b] : Array Nat).toList) = [a, b] := by
  have h1 := hexd_lt ha
  have h2 := hexd_lt hb
  rw [if_pos (by simp; omega)]
theorem takes16 {a b : Nat} (ha : hexd a = true) (hb : hexd b = true) : [a, b].takeWhile (· != 0) = [a, b] := by
  have h := hexOk_of ha hb
  unfold hexOk at h
  simp only [Bool.and_eq_true, beq_iff_eq] at h
  exact h.1.1.1.1.1
theorem hk1 {a b : Nat} (h : Hid (hexd a = true ∧ hexd b = true)) : ((if (#[a, b] : Array Nat).all (· < 128) then (#[a, b] : Array Nat).toList else Unicode.numberText (#[a, b] : Array Nat).toList).takeWhile (· != 0)).length ≤ 640 := by
  rw [text16 h.out.1 h.out.2, takes16 h.out.1 h.out.2]; exact (by decide : 2 ≤ 640)
theorem hk2 {a b : Nat} (h : Hid (hexd a = true ∧ hexd b = true)) : (int_private% "readNumeral") 0 16 ((if (#[a, b] : Array Nat).all (· < 128) then (#[a, b] : Array Nat).toList else Unicode.numberText (#[a, b] : Array Nat).toList).takeWhile (· != 0)) = (int_private% "Numeral.value") ((16 * hexn a + hexn b : Nat) : Int) := by
  rw [text16 h.out.1 h.out.2]; exact read16 h.out.1 h.out.2
theorem hk3 {a b : Nat} (h : Hid (hexd a = true ∧ hexd b = true)) : (((if (#[a, b] : Array Nat).all (· < 128) then (#[a, b] : Array Nat).toList else Unicode.numberText (#[a, b] : Array Nat).toList).takeWhile (· != 0)).length == (if (#[a, b] : Array Nat).all (· < 128) then (#[a, b] : Array Nat).toList else Unicode.numberText (#[a, b] : Array Nat).toList).length) = true := by
  rw [text16 h.out.1 h.out.2, takes16 h.out.1 h.out.2]; rfl
theorem gives_text16 {a b : Nat} {u v : Tok} (ha : hexd a = true) (hb : hexd b = true) : Gives (Builtin.«int.__new__» ⟨[.type "int", .str ⟨#[a, b]⟩ u, .int 16 v], []⟩) (.int ((16 * hexn a + hexn b : Nat) : Int)) :=
  .of_wp fun M A E s Q h => by
    obtain ⟨hp, g, d, tk, os⟩ := s
    have f1 := F.conv_sub_int
    have f2 := F.madeHere_int
    have f6 : typeOf (.str ⟨#[a, b]⟩ u) = pure (.type "str") := rfl
    have hk := Hid.mk (And.intro ha hb)
    clear ha hb
    repeat (any_goals (first
      | assumption
      | ((with_reducible show wpAny _ _ ((int_private% "intFromText") _ _ _) _ _ _); refine wp_text16 (n := ((16 * hexn a + hexn b : Nat) : Int)) ?k1 ?k2 ?k3 ?_; (case k1 => exact hk1 hk); (case k2 => exact hk2 hk); (case k3 => exact hk3 hk))
      | wp_step))
    all_goals first | exact ⟨_, rfl, h⟩ | skip
theorem call_int16 {prog : Program} {w : World} {A : Around} {E : Value → Shared → Prop} {s : Shared} {Q : Value → Shared → Prop} {a b : Nat} {t u : Tok} (ha : hexd a = true) (hb : hexd b = true)
    (h : Q (.int ((16 * hexn a + hexn b : Nat) : Int) s.toks) { s with toks := s.toks + 1 }) :
    wpAny (PySem.model prog w) A (call (.type "int") [.str ⟨#[a, b]⟩ t, .int 16 u]) Q E s :=
  callType_new F.called_int F.newNe_int (typeCall_int_2 _ _) (newCall_int_2 _ _) (fun obj => args_object_init_3 obj _ _) F.entry_int_new (gives_text16 ha hb).meets (show (Made.int _).post _ s from ⟨rfl, h⟩)
end Mine
namespace Mine
/-- a line's decoding, the eol behind it -/
def decLine (e : List Nat) : List Nat → List Nat
  | [] => e
  | [61] => []
  | 61 :: a :: b :: r => if hexd a && hexd b then (16 * hexn a + hexn b) :: decLine e r else 61 :: decLine e (a :: b :: r)
  | c :: r => c :: decLine e r
def decLines (e : Str) (ls : List Str) : List Nat := (ls.map fun y => decLine e.cps.toList (Txt.rstrip y).cps.toList).flatten
/-- what decode gives, on texts -/
def lastIn (x : Str) : Bool := x.cps.toList.getLast? == some 13 || x.cps.toList.getLast? == some 10
def trimEnd (d e : List Nat) : List Nat := if e.length ≤ d.length && d.drop (d.length - e.length) == e then d.take (if e.length = 0 then 0 else d.length - e.length) else d
def decS (x e : Str) : Str :=
  if x.cps.toList = [] then x else
  let d := decLines e (Txt.lines x)
  ⟨(if lastIn x then d else trimEnd d e.cps.toList).toArray⟩
theorem decLine_cons {e : List Nat} {c : Nat} {r : List Nat} (h : c ≠ 61) : decLine e (c :: r) = c :: decLine e r := by
  rw [decLine]
  · intro h1 h2; exact absurd h1 h
  · intro a b r' h1 h2; exact absurd h1 h
theorem decLine_eq1 {e : List Nat} : decLine e [61] = [] := rfl
theorem decLine_eq2 {e : List Nat} {a b : Nat} {r : List Nat} (h : (hexd a && hexd b) = true) : decLine e (61 :: a :: b :: r) = (16 * hexn a + hexn b) :: decLine e r := by
  rw [decLine]; simp [h]
theorem decLine_eq3 {e : List Nat} {a b : Nat} {r : List Nat} (h : (hexd a && hexd b) = false) : decLine e (61 :: a :: b :: r) = 61 :: decLine e (a :: b :: r) := by
  rw [decLine]; simp [h]
theorem decLine_eq4 {e : List Nat} {a : Nat} : decLine e [61, a] = 61 :: decLine e [a] := by
  rw [decLine]
  · intro h1 h2; cases h2
  · intro a' b r' h1 h2; cases h2
theorem decLine_length (e : List Nat) : ∀ (n : Nat) (l : List Nat), l.length ≤ n → (decLine e l).length ≤ l.length + e.length
  | 0, l, h => by
    have : l = [] := List.length_eq_zero_iff.mp (by omega)
    subst this; simp [decLine]
  | n + 1, l, h => by
    unfold decLine
    split
    · simp
    · simp
    · rename_i a b r
      simp only [List.length_cons] at h
      split
      · have := decLine_length e n r (by omega)
        simp only [List.length_cons]; omega
      · have := decLine_length e n (a :: b :: r) (by simp only [List.length_cons]; omega)
        simp only [List.length_cons] at this ⊢; omega
    · rename_i c r _ _
      simp only [List.length_cons] at h
      have := decLine_length e n r (by omega)
      simp only [List.length_cons]; omega
end Mine
namespace Mine
theorem str_len (x : Str) : x.length = x.cps.toList.length := by simp [Str.length]
theorem str_app (a b : Str) : (a ++ b).cps.toList = a.cps.toList ++ b.cps.toList := by simp [Str.cps_append]
theorem str_eq {a b : Str} (h : a.cps.toList = b.cps.toList) : a = b := Str.ext' (Array.toList_inj.mp h)
/-- the sign at a place, and the list from there on -/
theorem item_drop {ln : Str} {i : Int} (h0 : 0 ≤ i) (h1 : i < (ln.length : Int)) :
    ∃ c, ln.cps.toList.drop i.toNat = c :: ln.cps.toList.drop (i + 1).toNat ∧ Txt.item ln i = ⟨#[c]⟩ := by
  have hl := str_len ln
  have hlt : i.toNat < ln.cps.toList.length := by omega
  refine ⟨ln.cps.toList[i.toNat], ?_, ?_⟩
  · have e : (i + 1).toNat = i.toNat + 1 := by omega
    rw [e]
    exact List.drop_eq_getElem_cons hlt
  · refine item_meets h0 ?_
    rw [← Array.getElem?_toList]
    exact List.getElem?_eq_getElem hlt
def hexText : Str := Str.ofString "0123456789abcdefABCDEF"
theorem hexText_mem (c : Nat) : decide (c ∈ hexText.cps.toList) = hexd c := by
  by_cases h : c < 128
  · have key : (List.range 128).all (fun c => decide (c ∈ hexText.cps.toList) == hexd c) = true := by decide +kernel
    exact beq_iff_eq.mp (List.all_eq_true.mp key c (List.mem_range.mpr h))
  · have h1 : hexd c = false := by
      unfold hexd
      simp only [Bool.or_eq_false_iff, Bool.and_eq_false_iff, decide_eq_false_iff_not]
      omega
    have h2 : ∀ d ∈ hexText.cps.toList, d < 128 := by decide +kernel
    rw [h1, decide_eq_false_iff_not]
    intro hm
    exact h (h2 c hm)
theorem hex_in {c : Nat} {b : Bool} (h : (Builtin.Str.occurrences (Str.ofString "0123456789abcdefABCDEF") ⟨#[c]⟩ 0 (Str.ofString "0123456789abcdefABCDEF").length 1).isEmpty = b) : hexd c = !b := by
  have e := StrLaws.found_one hexText c
  rw [hexText_mem] at e
  rw [← e]
  show (!(Builtin.Str.occurrences (Str.ofString "0123456789abcdefABCDEF") ⟨#[c]⟩ 0 (Str.ofString "0123456789abcdefABCDEF").length 1).isEmpty) = !b
  rw [h]
theorem eqs_eq (c : Nat) : ((⟨#[c]⟩ : Str) != Str.ofString "=") = (c != 61) := by
  have e : Str.ofString "=" = ⟨#[61]⟩ := by decide +kernel
  rw [e]
  by_cases h : c = 61
  · subst h; decide
  · have h2 : (⟨#[c]⟩ : Str) ≠ ⟨#[61]⟩ := by
      intro q
      injection q with q
      exact h (by simpa using q)
    rw [bne_iff_ne.mpr h2, bne_iff_ne.mpr h]
/-- what holds between two turns of decode's inner loop -/
def WInv (e ln : Str) (D : List Nat) (d : Str) (i : Int) : Prop :=
  0 ≤ i ∧ i ≤ (ln.length : Int) ∧ d.length ≤ 400005 ∧ (i < (ln.length : Int) → d.cps.toList ++ decLine e.cps.toList (ln.cps.toList.drop i.toNat) = D) ∧ (i = (ln.length : Int) → d.cps.toList = D)
section
variable {e ln d : Str} {D : List Nat} {i : Int}
theorem drop_all (h : i = (ln.length : Int)) : ln.cps.toList.drop i.toNat = [] := by
  have := str_len ln
  exact List.drop_of_length_le (by omega)
theorem pre_len {a : Str} {b D : List Nat} (h : a.cps.toList ++ b = D) (hD : D.length ≤ 400005) : a.length ≤ 400005 := by
  rw [str_len]
  rw [← h, List.length_append] at hD
  omega
/-- one more sign as it stands, or the like -/
theorem wnext {k : Int} {v : Str} (hD : D.length ≤ 400005) (h0 : 0 ≤ i) (hk : 0 ≤ k) (hle : i + k ≤ (ln.length : Int)) (hv : d.cps.toList ++ (v.cps.toList ++ decLine e.cps.toList (ln.cps.toList.drop (i + k).toNat)) = D) :
    (i + k ≠ (ln.length : Int) → WInv e ln D (d ++ v) (i + k)) ∧ (i + k = (ln.length : Int) → WInv e ln D (d ++ v ++ e) (i + k)) := by
  rw [← List.append_assoc, ← str_app] at hv
  refine ⟨fun hne => ⟨by omega, hle, pre_len hv hD, fun _ => hv, fun q => absurd q hne⟩, fun he => ?_⟩
  rw [drop_all he] at hv
  have hv' : (d ++ v ++ e).cps.toList = D := by rw [str_app]; exact hv
  refine ⟨by omega, hle, pre_len (b := []) (by rw [List.append_nil]; exact hv') hD, fun q => absurd he (by omega), fun _ => hv'⟩
variable (hD : D.length ≤ 400005) (W : WInv e ln D d i) (hi : i < (ln.length : Int))
include hD W hi
theorem w_plain (hc : (Txt.item ln i != Str.ofString "=") = true) :
    (i + 1 ≠ (ln.length : Int) → WInv e ln D (d ++ Txt.item ln i) (i + 1)) ∧ (i + 1 = (ln.length : Int) → WInv e ln D (d ++ Txt.item ln i ++ e) (i + 1)) := by
  obtain ⟨h0, h1, h2, h3, h4⟩ := W
  obtain ⟨c, hd, hit⟩ := item_drop h0 hi
  rw [hit] at hc ⊢
  rw [eqs_eq] at hc
  refine wnext hD h0 (by omega) (by omega) ?_
  have := h3 hi
  rw [hd, decLine_cons (bne_iff_ne.mp hc)] at this
  exact this
theorem w_soft (hc : (Txt.item ln i != Str.ofString "=") = false) (he : i + 1 = (ln.length : Int)) : WInv e ln D d (i + 1) := by
  obtain ⟨h0, h1, h2, h3, h4⟩ := W
  obtain ⟨c, hd, hit⟩ := item_drop h0 hi
  rw [hit, eqs_eq] at hc
  have hc' : c = 61 := by simpa using hc
  have := h3 hi
  rw [hd, drop_all he, hc', decLine_eq1, List.append_nil] at this
  exact ⟨by omega, by omega, h2, fun q => absurd he (by omega), fun _ => this⟩
theorem w_eq1 (hc : (Txt.item ln i != Str.ofString "=") = false) (h : i + 2 < (ln.length : Int))
    (hx : (Builtin.Str.occurrences (Str.ofString "0123456789abcdefABCDEF") (Txt.item ln (i + 1)) 0 (Str.ofString "0123456789abcdefABCDEF").length 1).isEmpty = true) :
    WInv e ln D (d ++ Txt.item ln i) (i + 1) := by
  obtain ⟨h0, h1, h2, h3, h4⟩ := W
  obtain ⟨c, hd, hit⟩ := item_drop h0 hi
  obtain ⟨a, hda, hita⟩ := item_drop (ln := ln) (i := i + 1) (by omega) (by omega)
  obtain ⟨b, hdb, hitb⟩ := item_drop (ln := ln) (i := i + 1 + 1) (by omega) (by omega)
  rw [hita] at hx
  have hx' := hex_in hx
  rw [hit] at hc ⊢
  rw [eqs_eq] at hc
  have hc' : c = 61 := by simpa using hc
  refine (wnext hD h0 (by omega) (by omega) ?_).1 (by omega)
  have := h3 hi
  rw [hd, hda, hdb, hc', decLine_eq3 (by simp [hx'])] at this
  rw [hda, hdb, hc']
  exact this
theorem w_eq2 (hc : (Txt.item ln i != Str.ofString "=") = false) (h : i + 2 < (ln.length : Int))
    (hx : (Builtin.Str.occurrences (Str.ofString "0123456789abcdefABCDEF") (Txt.item ln (i + 2)) 0 (Str.ofString "0123456789abcdefABCDEF").length 1).isEmpty = true) :
    WInv e ln D (d ++ Txt.item ln i) (i + 1) := by
  obtain ⟨h0, h1, h2, h3, h4⟩ := W
  obtain ⟨c, hd, hit⟩ := item_drop h0 hi
  obtain ⟨a, hda, hita⟩ := item_drop (ln := ln) (i := i + 1) (by omega) (by omega)
  obtain ⟨b, hdb, hitb⟩ := item_drop (ln := ln) (i := i + 1 + 1) (by omega) (by omega)
  have e2 : i + 2 = i + 1 + 1 := by omega
  rw [e2, hitb] at hx
  have hx' := hex_in hx
  rw [hit] at hc ⊢
  rw [eqs_eq] at hc
  have hc' : c = 61 := by simpa using hc
  refine (wnext hD h0 (by omega) (by omega) ?_).1 (by omega)
  have := h3 hi
  rw [hd, hda, hdb, hc', decLine_eq3 (by simp [hx'])] at this
  rw [hda, hdb, hc']
  exact this
theorem w_eq3 (hc : (Txt.item ln i != Str.ofString "=") = false) (hne : i + 1 ≠ (ln.length : Int)) (h : ¬ i + 2 < (ln.length : Int)) :
    WInv e ln D (d ++ Txt.item ln i) (i + 1) := by
  obtain ⟨h0, h1, h2, h3, h4⟩ := W
  obtain ⟨c, hd, hit⟩ := item_drop h0 hi
  obtain ⟨a, hda, hita⟩ := item_drop (ln := ln) (i := i + 1) (by omega) (by omega)
  have e2 : (i + 1 + 1) = (ln.length : Int) := by omega
  rw [hit] at hc ⊢
  rw [eqs_eq] at hc
  have hc' : c = 61 := by simpa using hc
  refine (wnext hD h0 (by omega) (by omega) ?_).1 (by omega)
  have := h3 hi
  rw [hd, hda, drop_all e2, hc', decLine_eq4] at this
  rw [hda, drop_all e2, hc']
  exact this
/-- a word of three -/
theorem w_hex (hc : (Txt.item ln i != Str.ofString "=") = false) (h : i + 2 < (ln.length : Int))
    (hx : (Builtin.Str.occurrences (Str.ofString "0123456789abcdefABCDEF") (Txt.item ln (i + 1)) 0 (Str.ofString "0123456789abcdefABCDEF").length 1).isEmpty = false)
    (hy : (Builtin.Str.occurrences (Str.ofString "0123456789abcdefABCDEF") (Txt.item ln (i + 2)) 0 (Str.ofString "0123456789abcdefABCDEF").length 1).isEmpty = false) :
    ∃ a b, hexd a = true ∧ hexd b = true ∧ Txt.slice ln (some i) (some (i + 3)) = ⟨#[61, a, b]⟩ ∧
      (i + 3 ≠ (ln.length : Int) → WInv e ln D (d ++ ⟨#[16 * hexn a + hexn b]⟩) (i + 3)) ∧ (i + 3 = (ln.length : Int) → WInv e ln D (d ++ ⟨#[16 * hexn a + hexn b]⟩ ++ e) (i + 3)) := by
  obtain ⟨h0, h1, h2, h3, h4⟩ := W
  obtain ⟨c, hd, hit⟩ := item_drop h0 hi
  obtain ⟨a, hda, hita⟩ := item_drop (ln := ln) (i := i + 1) (by omega) (by omega)
  obtain ⟨b, hdb, hitb⟩ := item_drop (ln := ln) (i := i + 1 + 1) (by omega) (by omega)
  have e2 : i + 2 = i + 1 + 1 := by omega
  have e3 : i + 1 + 1 + 1 = i + 3 := by omega
  rw [e2, hitb] at hy
  rw [hita] at hx
  rw [e3] at hdb
  have hx' := hex_in hx
  have hy' := hex_in hy
  rw [hit] at hc
  rw [eqs_eq] at hc
  have hc' : c = 61 := by simpa using hc
  have hl := str_len ln
  refine ⟨a, b, hx', hy', ?_, wnext hD h0 (by omega) (by omega) ?_⟩
  · have hp : Txt.slice ln (some i) (some (i + 3)) = ⟨((ln.cps.toList.drop i.toNat).take (i + 3 - i).toNat).toArray⟩ := StrLaws.sliceText_plain ⟨h0, by omega, by omega⟩
    have e4 : (i + 3 - i).toNat = 3 := by omega
    rw [hp, e4, hd, hda, hdb, hc']
    rfl
  · have := h3 hi
    rw [hd, hda, hdb, hc', decLine_eq2 (by simp [hx', hy'])] at this
    exact this
end
theorem decLines_nil (e : Str) : decLines e [] = [] := rfl
theorem decLines_append (e : Str) (a b : List Str) : decLines e (a ++ b) = decLines e a ++ decLines e b := by
  unfold decLines
  rw [List.map_append, List.flatten_append]
theorem decLines_snoc (e : Str) (a : List Str) (y : Str) : decLines e (a ++ [y]) = decLines e a ++ decLine e.cps.toList (Txt.rstrip y).cps.toList := by
  rw [decLines_append]
  unfold decLines
  simp
theorem rstrip_le (y : Str) : (Txt.rstrip y).length ≤ y.length := by
  unfold Txt.rstrip Txt.stripBy
  split
  · exact Nat.le_refl _
  · exact strSub_length_le ..
theorem decLines_len (e : Str) : ∀ ls : List Str, (decLines e ls).length ≤ (ls.map (·.length)).sum + e.length * ls.length
  | [] => by simp [decLines]
  | y :: r => by
    have ih := decLines_len e r
    have h1 := decLine_length e.cps.toList _ (Txt.rstrip y).cps.toList (Nat.le_refl _)
    have h2 := rstrip_le y
    have e1 : decLines e (y :: r) = decLine e.cps.toList (Txt.rstrip y).cps.toList ++ decLines e r := by simp [decLines]
    rw [e1, List.length_append]
    simp only [List.map_cons, List.sum_cons, List.length_cons]
    rw [← str_len, ← str_len] at h1
    have e2 : e.length * (r.length + 1) = e.length * r.length + e.length := by rw [Nat.mul_add, Nat.mul_one]
    omega
theorem decLines_pre (e : Str) (a b : List Str) : (decLines e a).length ≤ (decLines e (a ++ b)).length := by
  rw [decLines_append, List.length_append]
  omega
theorem decLines_bound {e x : Str} {pre post : List Str} {y : Str} (h : Txt.lines x = pre ++ y :: post) (he : e.length ≤ 2) : (decLines e (pre ++ [y])).length ≤ 2 * (x.length + 1) := by
  have h1 := StrLaws.lines_weight x
  rw [h] at h1
  have h2 := decLines_len e (pre ++ [y])
  have h3 : e.length * (pre ++ [y]).length ≤ 2 * (pre ++ [y]).length := Nat.mul_le_mul_right _ he
  simp only [List.map_append, List.map_cons, List.map_nil, List.sum_append, List.sum_cons, List.sum_nil, List.length_append, List.length_cons, List.length_nil] at h1 h2 h3
  omega
theorem decLines_all {e x : Str} (he : e.length ≤ 2) : (decLines e (Txt.lines x)).length ≤ 2 * (x.length + 1) := by
  have h1 := StrLaws.lines_weight x
  have h2 := decLines_len e (Txt.lines x)
  have h3 : e.length * (Txt.lines x).length ≤ 2 * (Txt.lines x).length := Nat.mul_le_mul_right _ he
  omega
theorem item_last {x : Str} (h : (x.length : Int) ≠ 0) : ∃ c, x.cps.toList.getLast? = some c ∧ Txt.item x (-1) = ⟨#[c]⟩ := by
  have hl := str_len x
  have hne : x.cps.toList ≠ [] := by
    intro q
    rw [q] at hl
    simp at hl
    omega
  refine ⟨x.cps.toList.getLast hne, List.getLast?_eq_getLast hne, ?_⟩
  have hpos : 0 < x.cps.toList.length := List.length_pos_iff.mpr hne
  have e1 : ((-1 : Int) + (x.length : Int)).toNat = x.cps.toList.length - 1 := by omega
  have hn : x.cps[((-1 : Int) + (x.length : Int)).toNat]? = some (x.cps.toList.getLast hne) := by
    rw [e1, ← Array.getElem?_toList, List.getElem?_eq_getElem (by omega), List.getLast_eq_getElem]
  have := StrLaws.at_neg (x := x) (i := -1) (by decide) (by omega) hn
  show (⟨#[(Txt.charAt x (-1)).getD 0]⟩ : Str) = _
  rw [show Txt.charAt x (-1) = some (x.cps.toList.getLast hne) from this]
  rfl
theorem crlf_in {c : Nat} {b : Bool} (h : (Builtin.Str.occurrences (Str.ofString "\r\n") ⟨#[c]⟩ 0 (Str.ofString "\r\n").length 1).isEmpty = b) : decide (c = 13 ∨ c = 10) = !b := by
  have e := StrLaws.found_one (Str.ofString "\r\n") c
  rw [h] at e
  rw [e]
  have : (Str.ofString "\r\n").cps.toList = [13, 10] := by decide +kernel
  rw [this]
  simp
theorem lastIn_eq {x : Str} {b : Bool} (hne : (x.length : Int) ≠ 0) (h : (Builtin.Str.occurrences (Str.ofString "\r\n") (Txt.item x (-1)) 0 (Str.ofString "\r\n").length 1).isEmpty = b) : lastIn x = !b := by
  obtain ⟨c, h1, h2⟩ := item_last hne
  rw [h2] at h
  have := crlf_in h
  unfold lastIn
  rw [h1, ← this]
  by_cases h13 : c = 13 <;> by_cases h10 : c = 10 <;> simp [h13, h10]
theorem endswith_eq (d e : Str) : Txt.endswith d e = (decide (e.cps.toList.length ≤ d.cps.toList.length) && (d.cps.toList.drop (d.cps.toList.length - e.cps.toList.length) == e.cps.toList)) := by
  unfold Txt.endswith
  rw [StrLaws.subAt_eq, Nat.zero_add, str_len d, str_len e]
  by_cases h : e.cps.toList.length ≤ d.cps.toList.length
  · rw [List.take_of_length_le (by rw [List.length_drop]; omega)]
  · rw [decide_eq_false h, Bool.false_and, Bool.false_and]
theorem str_ne {x : Str} (hne : (x.length : Int) ≠ 0) : x.cps.toList ≠ [] := by
  intro q
  have := str_len x
  rw [q] at this
  simp at this
  omega
theorem dec_end0 {x e : Str} (h : (x.length : Int) = 0) : x = decS x e := by
  unfold decS
  rw [if_pos]
  refine List.length_eq_zero_iff.mp ?_
  have := str_len x
  omega
theorem decS_ne {x e : Str} (hne : (x.length : Int) ≠ 0) : decS x e = ⟨(if lastIn x then decLines e (Txt.lines x) else trimEnd (decLines e (Txt.lines x)) e.cps.toList).toArray⟩ := by
  unfold decS
  rw [if_neg (str_ne hne)]
theorem mk_toList (c : Str) : (⟨c.cps.toList.toArray⟩ : Str) = c := by simp
theorem dec_end1 {x e c : Str} (hne : (x.length : Int) ≠ 0) (hp : c.cps.toList = decLines e (Txt.lines x)) (h : (Builtin.Str.occurrences (Str.ofString "\r\n") (Txt.item x (-1)) 0 (Str.ofString "\r\n").length 1).isEmpty = true)
    (he : Txt.endswith c e = true) : Txt.slice c none (some (-(e.length : Int))) = decS x e := by
  rw [decS_ne hne, lastIn_eq hne h, ← hp]
  rw [endswith_eq] at he
  simp only [Bool.and_eq_true, decide_eq_true_eq, beq_iff_eq] at he
  have hl := str_len e
  have hc := str_len c
  refine str_eq ?_
  show _ = if (!true) = true then c.cps.toList else trimEnd c.cps.toList e.cps.toList
  rw [if_neg (by decide)]
  unfold trimEnd
  rw [if_pos (by rw [Bool.and_eq_true]; exact ⟨decide_eq_true he.1, beq_iff_eq.mpr he.2⟩)]
  by_cases h0 : e.cps.toList.length = 0
  · rw [if_pos h0]
    have e0 : -(e.length : Int) = 0 := by omega
    rw [e0]
    have : Txt.slice c none (some 0) = ⟨((c.cps.toList.drop 0).take (0 - 0 : Int).toNat).toArray⟩ := StrLaws.sliceText_to ⟨by omega, by omega⟩
    rw [this]
    simp
  · rw [if_neg h0]
    have : Txt.slice c none (some (-(e.length : Int))) = Txt.slice c none (some (-(e.length : Int) + c.length)) := StrLaws.sliceText_neg_hi c none (by omega) (by omega)
    rw [this]
    have h2 : Txt.slice c none (some (-(e.length : Int) + c.length)) = ⟨((c.cps.toList.drop 0).take (-(e.length : Int) + c.length - 0).toNat).toArray⟩ := StrLaws.sliceText_to ⟨by omega, by omega⟩
    rw [h2]
    have h3 : (-(e.length : Int) + c.length - 0).toNat = c.cps.toList.length - e.cps.toList.length := by omega
    rw [h3]
    simp
theorem dec_end2 {x e c : Str} (hne : (x.length : Int) ≠ 0) (hp : c.cps.toList = decLines e (Txt.lines x)) (h : (Builtin.Str.occurrences (Str.ofString "\r\n") (Txt.item x (-1)) 0 (Str.ofString "\r\n").length 1).isEmpty = true)
    (he : Txt.endswith c e = false) : c = decS x e := by
  rw [decS_ne hne, lastIn_eq hne h, ← hp]
  rw [endswith_eq] at he
  refine str_eq ?_
  show _ = if (!true) = true then c.cps.toList else trimEnd c.cps.toList e.cps.toList
  rw [if_neg (by decide)]
  unfold trimEnd
  rw [he]
  rfl
theorem dec_end3 {x e c : Str} (hne : (x.length : Int) ≠ 0) (hp : c.cps.toList = decLines e (Txt.lines x)) (h : (Builtin.Str.occurrences (Str.ofString "\r\n") (Txt.item x (-1)) 0 (Str.ofString "\r\n").length 1).isEmpty = false) : c = decS x e := by
  rw [decS_ne hne, lastIn_eq hne h, ← hp]
  refine str_eq ?_
  rfl
end Mine
namespace Mine
open PySem.Calls
/-- a goal the walk leaves to the hand -/
structure Stop (p : Prop) : Prop where
  out : p
section
variable {prog : Program} {w : World} {A : Around} {E : Value → Shared → Prop} {s : Shared} {env : Env} {h₀ : Heap} {x : Str} {body : List Stmt} {Q : Flow → Shared → Prop}
/-- a loop over a list of texts that lies off the ledger named -/
theorem for_strs {σ : Type} {l : Addr} {vs : List Value} {ys : List Str} {m₀ : Str → Option Value} (news : List (Addr × Obj)) (ps : σ → List (Str × Value)) (stored : List Str) (P : List Str → σ → Prop) (c₀ : σ)
    (hh : A.handled = none) (hl : s.heap.IsList l vs.toArray) (hi : StrsAre vs ys) (hnl : ∀ p ∈ news, p.1 ≠ l) (hLl : env.locals ≠ l) (F : Fr h₀ env.locals s.heap m₀) (N : News h₀ env.locals s.heap news) (hk : ∀ p ∈ ps c₀, m₀ p.1 = some p.2) (hp : P [] c₀)
    (turn : ∀ (c : σ) pre post y t (u : Str → Option Value) h tk own, ys = pre ++ y :: post → OwnOff own (news.map (·.1)) → P pre c →
      Fr h₀ env.locals h (fun z => if z = x then some (.str y t) else kstB (fun z => if stored.contains z then u z else m₀ z) (ps c) z) → News h₀ env.locals h (news ++ own) →
      wpAny (PySem.model prog w) A (execs body env) (InvPostN h₀ env.locals (KstS (fun _ => news) ps (fun _ => True) x stored m₀ (fun _ c => P (pre ++ [y]) c) []) own (news.map (·.1)) { s with heap := h, toks := tk } Q) E { s with heap := h, toks := tk })
    (done : ∀ (c : σ) (u : Str → Option Value) h tk, P ys c → Fr h₀ env.locals h (fun z => if z = x then u z else kstB (fun z => if stored.contains z then u z else m₀ z) (ps c) z) → News h₀ env.locals h news → Q .next { s with heap := h, toks := tk }) :
    wpAny (PySem.model prog w) A (pyIter (.ref l)) (fun it s₂ => LoopAtV prog w A h₀ env x body Q E it s₂) E s := by
  obtain ⟨ol, hol, hol2⟩ := id hl
  have hne : l ≠ s.heap.objs.size := Nat.ne_of_lt (Heap.lt_size hol)
  refine wpAny_pyIter_list hl ?_
  have W := Walks.list (prog := prog) (w := w) hh s.heap.objs.size l hne vs.toArray
  have hlen : vs.toArray.size = ys.length := by simp [hi.len_eq]
  rw [hlen] at W
  refine loop_invN (fun i m nx => KstS (fun _ => news) ps (fun _ => True) x stored m₀ (fun _ c => P (ys.take i) c) [] m nx) W ?_ ?_ ?_ ?_ ⟨⟨_, Heap.get?_push_size _ rfl, rfl, rfl⟩, hl.at fun o e => Heap.get?_push_of_some _ e⟩ (F.push _) (fun p hp => ⟨Heap.get?_push_of_some _ (N p hp).1, (N p hp).2⟩) ⟨c₀, rfl, trivial, hk, fun _ _ _ _ => rfl, by simpa using hp⟩ ?_ ?_
  · intro hm
    rcases List.mem_cons.mp hm with e | hm
    · exact absurd F.ns.lt (e ▸ Nat.lt_irrefl _)
    · exact hLl (List.mem_singleton.mp hm)
  · intro b hb
    rw [List.mem_singleton.mp hb]
    exact next_is_new F
  · intro p hp hI
    exact absurd (Heap.lt_size (N p hp).1) ((List.mem_singleton.mp hI) ▸ Nat.lt_irrefl _)
  · intro p hp hI
    rcases List.mem_cons.mp hI with e | e
    · exact absurd (Heap.lt_size (N p hp).1) (e ▸ Nat.lt_irrefl _)
    · exact hnl p hp (List.mem_singleton.mp e)
  · rintro i v m₁ nx h tk own hin hP _ hoff ⟨c, rfl, _, h1, h2, hp'⟩ F₁ N₁
    have hlt' : i < ys.length := hin
    have hy : ys[i]? = some ys[i] := List.getElem?_eq_getElem hlt'
    obtain ⟨t, hx⟩ := hi.at hy
    have hv : v = .str ys[i] t := by
      have hP' : vs[i]? = some v := by rw [← List.getElem?_toArray]; exact hP
      rw [hx] at hP'; exact (Option.some.inj hP').symm
    subst hv
    have hs : ys.take (i + 1) = ys.take i ++ [ys[i]] := by rw [List.take_add_one, hy]; rfl
    have e : ys = ys.take i ++ ys[i] :: ys.drop (i + 1) := by
      have ht := List.take_append_drop (i + 1) ys
      rw [hs, List.append_assoc] at ht
      exact ht.symm
    rw [hs]
    exact turn c _ _ _ t m₁ h tk own e hoff hp' (kst_fr h1 h2 F₁) N₁
  · rintro m₁ nx h tk ⟨c, rfl, _, h1, h2, hp'⟩ F₁ N₁
    rw [List.take_length] at hp'
    exact done c m₁ h tk hp' (kst_frOut h1 h2 F₁) N₁
end
end Mine
namespace Mine
theorem fillme : PySem.Challenge.rw_dw5003_03.name = PySem.Challenge.rw_dw5003_03.name ∧ hd03.heap_39 = hd03.heap_39 := by
  k_fill
  exact ⟨rfl, rfl⟩
abbrev Ret (h₀ : Heap) (L : Addr) (m : Str → Option Value) (news : List (Addr × Obj)) (s : Shared) (Q : Value → Shared → Prop) (R : Tok → Value) : Prop :=
  ∀ (t : Tok) (h' : Heap) (tk' : Nat), Fr h₀ L h' m → News h₀ L h' news → Q (R t) { s with heap := h', toks := tk' }
abbrev Ctr (w : World) (f : Addr) (d u : Nat) (vs : List Value) (R : Tok → Value) : Prop :=
  ∀ (p : Program) (loose : List Str) (mean : ExcName → Option Value) (mg mb : Str → Option Value) (news : List (Addr × Obj)) (dp un : Nat) (gd : Option (List Code)) (cn : Str) (cs : Scope) (a : Addr) (ccd : Value) (cl : List (Str × Addr)) (outer : List Env) (A₀ : Around) (base h₀ : Heap) (L : Addr) (m : Str → Option Value) (s : Shared) (Q E : Value → Shared → Prop),
    Below A₀ base outer h₀ → Fr h₀ L s.heap m → (hd03.heap_39 w.params).In h₀ → News h₀ L s.heap news → Top p loose mean mg mb h₀ → cs.kind = .function →
    dp + d < recursionLimit → un + u < cLine → Ret h₀ L m news s Q R →
      wpAny (PySem.model PySem.Challenge.pw_dw5003_03 w) (ktrTop dp un gd cn cs L a ccd cl outer) (call (.ref f) vs) Q E s
theorem Ctr.use {w : World} {f : Addr} {d u : Nat} {vs : List Value} {R : Tok → Value} (C : Ctr w f d u vs R) {p : Program} {loose : List Str} {mean : ExcName → Option Value} {mg mb : Str → Option Value} {news : List (Addr × Obj)} {dp un : Nat} {gd : Option (List Code)} {cn : Str} {cs : Scope} {a : Addr} {ccd : Value} {cl : List (Str × Addr)} {outer : List Env} {A₀ : Around} {base h₀ : Heap} {L : Addr} {m : Str → Option Value} {s : Shared} {Q E : Value → Shared → Prop}
    (B : Below A₀ base outer h₀) (F : Fr h₀ L s.heap m) (X : (hd03.heap_39 w.params).In h₀) (N : News h₀ L s.heap news) (T : Top p loose mean mg mb h₀) (hk : cs.kind = .function) (hd : dp + d < recursionLimit) (hu : un + u < cLine) (h : Ret h₀ L m news s Q R) :
    wpAny (PySem.model PySem.Challenge.pw_dw5003_03 w) (ktrTop dp un gd cn cs L a ccd cl outer) (call (.ref f) vs) Q E s :=
  C p loose mean mg mb news dp un gd cn cs a ccd cl outer A₀ base h₀ L m s Q E B F X N T hk hd hu h
end Mine
namespace Mine
theorem fillU : PySem.Challenge.rw_dw5003_03.name = PySem.Challenge.rw_dw5003_03.name ∧ hd03.heap_39 = hd03.heap_39 := by
  k_fill
  exact ⟨rfl, rfl⟩
local macro_rules | `(tactic| walk_at "call type:int") => `(tactic| refine Stop.out ?_)
theorem slice13 (c a b : Nat) : Txt.slice ⟨#[c, a, b]⟩ (some 1) (some 3) = ⟨#[a, b]⟩ := by
  rfl
theorem ctr_unquote (w : World) (x : Str) (c a' b' : Nat) (t : Tok) (hx : x = ⟨#[c, a', b']⟩) (hl : x.length ≤ 3) (ha : hexd a' = true) (hb : hexd b' = true) : Ctr w 43 1 8 [.str x t] (fun t => .str ⟨#[16 * hexn a' + hexn b']⟩ t) := by
  intro p loose mean mg mb news dp un gd cn cs a ccd cl outer A₀ base h₀ L m s Q E B F X N T hk hd hu hret
  refine wpAny_call ?_
  k_dflt (refine' code_def ?k1 ?k2 ?k3 ?k4 ?k5 ?kA ?kF ?kK ?k6 ?k7 ?k8 ?k9 ?kB ?_ ?c2 ?c3 ?c4 ?c5; (case kA => exact rfl); (case kF => exact rfl); (case kK => assumption); (case k1 => k_asm); (case k2 => k_asm); (case k3 => k_asm); (case k4 => k_asm); (case k5 => k_asm); (case k6 => k_is); (case k7 => k_is); (case k8 => ktr_room); (case k9 => first | exact BindsTo.of_eq rfl | exact binds_K (by k_in) rfl (by k_is) rfl rfl rfl); (case c5 => decide); (case kB => exact locs rfl); (case c2 => exact rfl); (case c3 => exact rfl); (case c4 => exact rfl); k_whole; intro g' L' h' FG' F' N' B' X' T'; (try dsimp only); (try k_lift B'); (try k_fold))
  k_steps
  · refine Stop.mk ?_
    rw [hx, slice13]
    refine call_int16 ha hb ?_
    have h1 := hexn_lt ha
    have h2 := hexn_lt hb
    k_steps
    rw [Int.toNat_natCast]
    exact hret _ _ _ (by k_asm) (by k_asm)
end Mine
namespace Mine
theorem fillD : PySem.Challenge.rw_dw5003_03.name = PySem.Challenge.rw_dw5003_03.name ∧ hd03.heap_39 = hd03.heap_39 := by
  k_fill
  exact ⟨rfl, rfl⟩
local macro_rules | `(tactic| walk_at "exec While Compare cons nil") => `(tactic| refine Stop.out ?_)
local macro_rules | `(tactic| walk_at "KswEnd") => `(tactic| refine Stop.out ?_)
local macro_rules | `(tactic| walk_at "InvEndN") => `(tactic| refine Stop.out ?_)
local macro_rules | `(tactic| walk_at "call ref") => `(tactic| refine Stop.out ?_)
theorem ctr_decode (w : World) (x e : Str) (t u : Tok) (hx : x.length ≤ 100000) (he : e.length ≤ 2) : Ctr w 51 2 20 [.str x t, .str e u] (fun t => .str (decS x e) t) := by
  intro p loose mean mg mb news dp un gd cn cs a ccd cl outer A₀ base h₀ L m s Q E B F X N T hk hd hu hret
  refine wpAny_call ?_
  k_dflt (refine' code_def ?k1 ?k2 ?k3 ?k4 ?k5 ?kA ?kF ?kK ?k6 ?k7 ?k8 ?k9 ?kB ?_ ?c2 ?c3 ?c4 ?c5; (case kA => exact rfl); (case kF => exact rfl); (case kK => assumption); (case k1 => k_asm); (case k2 => k_asm); (case k3 => k_asm); (case k4 => k_asm); (case k5 => k_asm); (case k6 => k_is); (case k7 => k_is); (case k8 => ktr_room); (case k9 => first | exact BindsTo.of_eq rfl | exact binds_K (by k_in) rfl (by k_is) rfl rfl rfl); (case c5 => decide); (case kB => exact locs rfl); (case c2 => exact rfl); (case c3 => exact rfl); (case c4 => exact rfl); k_whole; intro g' L' h' FG' F' N' B' X' T'; (try dsimp only); (try k_lift B'); (try k_fold))
  k_steps
  · rename_i hne h1 F1 N1 ls h2 k2 hlines hstrs hlens hlist F2 N2
    rw [hlines] at hstrs hlens
    refine for_strs (ys := Txt.lines x) news (fun c : Str × Tok => [(Str.ofString "decoded", Value.str c.1 c.2)]) [Str.ofString "i", Str.ofString "n", Str.ofString "c"] (fun pre c => c.1.cps.toList = decLines e pre) (Str.ofString "", _) rfl hlist hstrs
      (fun p hp => Nat.ne_of_lt (Heap.lt_size (N1 p hp).1)) (Nat.ne_of_lt F1.ns.lt) F2 (fun p hp => N2 p (List.mem_cons_of_mem _ hp)) (by intro p hp; cases List.mem_singleton.mp hp; rfl) rfl ?_ ?_
    · intro c pre post y ty u h tk own hys hoff hp F3 N3
      have hly : y.length ≤ 100000 := Nat.le_trans (hlens y (by rw [hys]; simp)) hx
      have hDl := decLines_bound (e := e) hys he
      have hDe : (decLines e (pre ++ [y])) = c.1.cps.toList ++ decLine e.cps.toList (Txt.rstrip y).cps.toList := by rw [decLines_snoc, hp]
      have hD : (c.1.cps.toList ++ decLine e.cps.toList (Txt.rstrip y).cps.toList).length ≤ 400005 := by rw [← hDe]; omega
      have hlen : c.1.length ≤ 300003 := by rw [str_len, hp]; have := decLines_pre e pre [y]; omega
      clear F1 N1 F2 N2 hlist hstrs
      (try k_fold)
      k_steps
      · refine Stop.mk ?_
        (with_reducible rename Fr _ _ _ _ => F5)
        (with_reducible rename News _ _ _ _ => N5)
        refine' ksw_while (σ := (Str × Tok) × (Int × Tok)) (fun _ => news ++ own) (fun c => [(Str.ofString "decoded", Value.str c.1.1 c.1.2), (Str.ofString "i", Value.int c.2.1 c.2.2)]) (fun _ => True) [Str.ofString "c"]
          (fun d => WInv e (Txt.rstrip y) (c.1.cps.toList ++ decLine e.cps.toList (Txt.rstrip y).cps.toList) d.1.1 d.2.1)
          (fun d => (((Txt.rstrip y).length : Int) - d.2.1).toNat) ((c.1, c.2), (0, ?tk)) F5 N5 trivial ?k1 ?k2 ?k3
        case k1 =>
          intro p hp
          rcases List.mem_cons.mp hp with rfl | hp
          · rfl
          · cases List.mem_singleton.mp hp; rfl
        case k2 =>
          exact ⟨Int.le_refl 0, (show (0 : Int) ≤ ((Txt.rstrip y).length : Int) by omega), by (show c.1.length ≤ 400005; omega), fun _ => rfl, fun h => absurd h.symm (by assumption)⟩
        case k3 =>
          intro d u5 h6 tk6 hf hP F6 N6
          have hi0 := hP.1
          have hdl := hP.2.2.1
          clear F5 N5
          k_steps
          · refine Stop.mk ?_
            (with_reducible rename Fr _ _ _ _ => FF)
            (with_reducible rename News _ _ _ _ => NN)
            refine' ksw_end ((d.1.1 ++ Txt.item (Txt.rstrip y) d.2.1 ++ e, ?tkc1), (d.2.1 + 1, ?tki1)) FF NN (fun p hp => hp) trivial ?ks1 ?kr1 ?kp1 ?km1
            case ks1 =>
              intro p hp
              rcases List.mem_cons.mp hp with rfl | hp
              · rfl
              · cases List.mem_singleton.mp hp; rfl
            case kr1 =>
              intro z h2 h3
              simp only [List.forall_mem_cons, List.not_mem_nil, false_implies, implies_true, and_true, ne_eq] at h2
              simp only [List.contains_cons, List.contains_nil, Bool.or_false, Bool.or_eq_false_iff, beq_eq_false_iff_ne, ne_eq] at h3
              simp [h2, h3, kstB]
            case kp1 => exact (w_plain hD hP (by assumption) (by assumption)).2 (by assumption)
            case km1 =>
              show (((Txt.rstrip y).length : Int) - (d.2.1 + 1)).toNat < (((Txt.rstrip y).length : Int) - d.2.1).toNat
              omega
          · refine Stop.mk ?_
            (with_reducible rename Fr _ _ _ _ => FF)
            (with_reducible rename News _ _ _ _ => NN)
            refine' ksw_end ((d.1.1 ++ Txt.item (Txt.rstrip y) d.2.1, ?tkc2), (d.2.1 + 1, ?tki2)) FF NN (fun p hp => hp) trivial ?ks2 ?kr2 ?kp2 ?km2
            case ks2 =>
              intro p hp
              rcases List.mem_cons.mp hp with rfl | hp
              · rfl
              · cases List.mem_singleton.mp hp; rfl
            case kr2 =>
              intro z h2 h3
              simp only [List.forall_mem_cons, List.not_mem_nil, false_implies, implies_true, and_true, ne_eq] at h2
              simp only [List.contains_cons, List.contains_nil, Bool.or_false, Bool.or_eq_false_iff, beq_eq_false_iff_ne, ne_eq] at h3
              simp [h2, h3, kstB]
            case kp2 => exact (w_plain hD hP (by assumption) (by assumption)).1 (by assumption)
            case km2 =>
              show (((Txt.rstrip y).length : Int) - (d.2.1 + 1)).toNat < (((Txt.rstrip y).length : Int) - d.2.1).toNat
              omega
          · refine Stop.mk ?_
            (with_reducible rename Fr _ _ _ _ => FF)
            (with_reducible rename News _ _ _ _ => NN)
            refine' ksw_end ((d.1.1, ?tkc3), (d.2.1 + 1, ?tki3)) FF NN (fun p hp => hp) trivial ?ks3 ?kr3 ?kp3 ?km3
            case ks3 =>
              intro p hp
              rcases List.mem_cons.mp hp with rfl | hp
              · rfl
              · cases List.mem_singleton.mp hp; rfl
            case kr3 =>
              intro z h2 h3
              simp only [List.forall_mem_cons, List.not_mem_nil, false_implies, implies_true, and_true, ne_eq] at h2
              simp only [List.contains_cons, List.contains_nil, Bool.or_false, Bool.or_eq_false_iff, beq_eq_false_iff_ne, ne_eq] at h3
              simp [h2, h3, kstB]
            case kp3 => exact w_soft hD hP (by assumption) (by assumption) (by assumption)
            case km3 =>
              show (((Txt.rstrip y).length : Int) - (d.2.1 + 1)).toNat < (((Txt.rstrip y).length : Int) - d.2.1).toNat
              omega
          · exfalso; omega
          · refine Stop.mk ?_
            (with_reducible rename Fr _ _ _ _ => FF)
            (with_reducible rename News _ _ _ _ => NN)
            refine' ksw_end ((d.1.1 ++ Txt.item (Txt.rstrip y) d.2.1, ?tkc4), (d.2.1 + 1, ?tki4)) FF NN (fun p hp => hp) trivial ?ks4 ?kr4 ?kp4 ?km4
            case ks4 =>
              intro p hp
              rcases List.mem_cons.mp hp with rfl | hp
              · rfl
              · cases List.mem_singleton.mp hp; rfl
            case kr4 =>
              intro z h2 h3
              simp only [List.forall_mem_cons, List.not_mem_nil, false_implies, implies_true, and_true, ne_eq] at h2
              simp only [List.contains_cons, List.contains_nil, Bool.or_false, Bool.or_eq_false_iff, beq_eq_false_iff_ne, ne_eq] at h3
              simp [h2, h3, kstB]
            case kp4 => exact w_eq1 hD hP (by assumption) (by assumption) (by assumption) (by assumption)
            case km4 =>
              show (((Txt.rstrip y).length : Int) - (d.2.1 + 1)).toNat < (((Txt.rstrip y).length : Int) - d.2.1).toNat
              omega
          · exfalso; omega
          · refine Stop.mk ?_
            (with_reducible rename Fr _ _ _ _ => FF)
            (with_reducible rename News _ _ _ _ => NN)
            refine' ksw_end ((d.1.1 ++ Txt.item (Txt.rstrip y) d.2.1, ?tkc5), (d.2.1 + 1, ?tki5)) FF NN (fun p hp => hp) trivial ?ks5 ?kr5 ?kp5 ?km5
            case ks5 =>
              intro p hp
              rcases List.mem_cons.mp hp with rfl | hp
              · rfl
              · cases List.mem_singleton.mp hp; rfl
            case kr5 =>
              intro z h2 h3
              simp only [List.forall_mem_cons, List.not_mem_nil, false_implies, implies_true, and_true, ne_eq] at h2
              simp only [List.contains_cons, List.contains_nil, Bool.or_false, Bool.or_eq_false_iff, beq_eq_false_iff_ne, ne_eq] at h3
              simp [h2, h3, kstB]
            case kp5 => exact w_eq2 hD hP (by assumption) (by assumption) (by assumption) (by assumption)
            case km5 =>
              show (((Txt.rstrip y).length : Int) - (d.2.1 + 1)).toNat < (((Txt.rstrip y).length : Int) - d.2.1).toNat
              omega
          · refine Stop.mk ?_
            obtain ⟨a2, b2, ha2, hb2, hsl, hw1, hw2⟩ := w_hex hD hP (by assumption) (by assumption) (by assumption) (by assumption) (by assumption)
            rw [hsl]
            k_dflt (refine' Ctr.use (ctr_unquote w _ 61 a2 b2 _ rfl (Nat.le_refl 3) ha2 hb2) ?B ?F ?X ?N ?T ?hk ?hd ?hu ?_; (case B => k_asm); (case F => k_asm); (case X => k_asm); (case N => k_asm); (case T => k_asm); (case hk => first | exact rfl | assumption); (case hd => ktr_room); (case hu => ktr_units))
            intro t9 h9 tk9 F9 N9
            have hl9 : (Str.mk #[16 * hexn a2 + hexn b2]).length ≤ 1 := Nat.le_refl 1
            (try dsimp only)
            (try k_fold)
            k_steps
            · refine Stop.mk ?_
              (with_reducible rename Fr _ _ _ _ => FF)
              (with_reducible rename News _ _ _ _ => NN)
              refine' ksw_end ((d.1.1 ++ ⟨#[16 * hexn a2 + hexn b2]⟩ ++ e, ?tkc6), (d.2.1 + 3, ?tki6)) FF NN (fun p hp => hp) trivial ?ks6 ?kr6 ?kp6 ?km6
              case ks6 =>
                intro p hp
                rcases List.mem_cons.mp hp with rfl | hp
                · rfl
                · cases List.mem_singleton.mp hp; rfl
              case kr6 =>
                intro z h2 h3
                simp only [List.forall_mem_cons, List.not_mem_nil, false_implies, implies_true, and_true, ne_eq] at h2
                simp only [List.contains_cons, List.contains_nil, Bool.or_false, Bool.or_eq_false_iff, beq_eq_false_iff_ne, ne_eq] at h3
                simp [h2, h3, kstB]
              case kp6 => exact hw2 (by assumption)
              case km6 =>
                show (((Txt.rstrip y).length : Int) - (d.2.1 + 3)).toNat < (((Txt.rstrip y).length : Int) - d.2.1).toNat
                omega
            · refine Stop.mk ?_
              (with_reducible rename Fr _ _ _ _ => FF)
              (with_reducible rename News _ _ _ _ => NN)
              refine' ksw_end ((d.1.1 ++ ⟨#[16 * hexn a2 + hexn b2]⟩, ?tkc7), (d.2.1 + 3, ?tki7)) FF NN (fun p hp => hp) trivial ?ks7 ?kr7 ?kp7 ?km7
              case ks7 =>
                intro p hp
                rcases List.mem_cons.mp hp with rfl | hp
                · rfl
                · cases List.mem_singleton.mp hp; rfl
              case kr7 =>
                intro z h2 h3
                simp only [List.forall_mem_cons, List.not_mem_nil, false_implies, implies_true, and_true, ne_eq] at h2
                simp only [List.contains_cons, List.contains_nil, Bool.or_false, Bool.or_eq_false_iff, beq_eq_false_iff_ne, ne_eq] at h3
                simp [h2, h3, kstB]
              case kp7 => exact hw1 (by assumption)
              case km7 =>
                show (((Txt.rstrip y).length : Int) - (d.2.1 + 3)).toNat < (((Txt.rstrip y).length : Int) - d.2.1).toNat
                omega
          · exfalso; omega
          · refine Stop.mk ?_
            (with_reducible rename Fr _ _ _ _ => FF)
            (with_reducible rename News _ _ _ _ => NN)
            refine' ksw_end ((d.1.1 ++ Txt.item (Txt.rstrip y) d.2.1, ?tkc8), (d.2.1 + 1, ?tki8)) FF NN (fun p hp => hp) trivial ?ks8 ?kr8 ?kp8 ?km8
            case ks8 =>
              intro p hp
              rcases List.mem_cons.mp hp with rfl | hp
              · rfl
              · cases List.mem_singleton.mp hp; rfl
            case kr8 =>
              intro z h2 h3
              simp only [List.forall_mem_cons, List.not_mem_nil, false_implies, implies_true, and_true, ne_eq] at h2
              simp only [List.contains_cons, List.contains_nil, Bool.or_false, Bool.or_eq_false_iff, beq_eq_false_iff_ne, ne_eq] at h3
              simp [h2, h3, kstB]
            case kp8 => exact w_eq3 hD hP (by assumption) (by assumption) (by assumption) (by assumption)
            case km8 =>
              show (((Txt.rstrip y).length : Int) - (d.2.1 + 1)).toNat < (((Txt.rstrip y).length : Int) - d.2.1).toNat
              omega
          · refine Stop.mk ?_
            refine kst_end d.1 F6 N6 (fun p hp => List.mem_append_left _ hp) (fun p hp => List.mem_append_right _ hp) rfl trivial (by intro p hp; cases List.mem_singleton.mp hp; rfl) ?_ ?_
            · intro z h1 h2 h3
              simp only [List.forall_mem_cons, List.not_mem_nil, false_implies, implies_true, and_true, ne_eq] at h2
              simp only [List.contains_cons, List.contains_nil, Bool.or_false, Bool.or_eq_false_iff, beq_eq_false_iff_ne, ne_eq] at h3
              simp [h1, h2, h3, kstB]
            · show d.1.1.cps.toList = decLines e (pre ++ [y])
              rw [hDe]
              exact hP.2.2.2.2 (by have := hP.2.1; omega)
      · refine Stop.mk ?_
        (with_reducible rename Fr _ _ _ _ => FF)
        (with_reducible rename News _ _ _ _ => NN)
        refine' kst_end (c.1 ++ e, ?tkz) FF NN (fun p hp => List.mem_append_left _ hp) (fun p hp => List.mem_append_right _ hp) rfl trivial ?ks ?kr ?kp
        case ks => intro p hp; cases List.mem_singleton.mp hp; rfl
        case kr =>
          intro z h1 h2 h3
          simp only [List.forall_mem_cons, List.not_mem_nil, false_implies, implies_true, and_true, ne_eq] at h2
          simp only [List.contains_cons, List.contains_nil, Bool.or_false, Bool.or_eq_false_iff, beq_eq_false_iff_ne, ne_eq] at h3
          simp [h1, h2, h3, kstB]
        case kp =>
          show (c.1 ++ e).cps.toList = decLines e (pre ++ [y])
          have hz : (Txt.rstrip y).cps.toList = [] := List.length_eq_zero_iff.mp (by rw [← str_len]; omega)
          rw [hDe, hz, str_app]
          rfl
    · intro c u h tk hp F3 N3
      have hlen : c.1.length ≤ 300003 := by rw [str_len, hp]; have := decLines_all (x := x) he; omega
      clear F1 N1 F2 N2 hlist hstrs
      (try k_fold)
      k_steps
      · rw [dec_end1 hne hp (by assumption) (by assumption)]
        exact hret _ _ _ (by k_asm) (by k_asm)
      · have hz : c.1 = decS x e := dec_end2 hne hp (by assumption) (by assumption)
        rw [hz]
        exact hret _ _ _ (by k_asm) (by k_asm)
      · have hz : c.1 = decS x e := dec_end3 hne hp (by assumption)
        rw [hz]
        exact hret _ _ _ (by k_asm) (by k_asm)
  · rename_i hz _ _ _ _ _
    have hz : x = decS x e := dec_end0 (by assumption)
    conv => rw [hz]
    exact hret _ _ _ (by k_asm) (by k_asm)
theorem ctr_decode1 (w : World) (x : Str) (t : Tok) (hx : x.length ≤ 100000) : Ctr w 51 2 20 [.str x t] (fun t => .str (decS x (Str.ofString "\n")) t) := by
  obtain ⟨e, hee⟩ : ∃ e : Str, e = Str.ofString "\n" := ⟨_, rfl⟩
  have he : e.length ≤ 2 := by rw [hee]; decide +kernel
  intro p loose mean mg mb news dp un gd cn cs a ccd cl outer A₀ base h₀ L m s Q E B F X N T hk hd hu hret
  refine wpAny_call ?_
  k_dflt (refine' code_def ?k1 ?k2 ?k3 ?k4 ?k5 ?kA ?kF ?kK ?k6 ?k7 ?k8 ?k9 ?kB ?_ ?c2 ?c3 ?c4 ?c5; (case kA => exact rfl); (case kF => exact rfl); (case kK => assumption); (case k1 => k_asm); (case k2 => k_asm); (case k3 => k_asm); (case k4 => k_asm); (case k5 => k_asm); (case k6 => k_is); (case k7 => k_is); (case k8 => ktr_room); (case k9 => first | exact BindsTo.of_eq rfl | exact binds_K (by k_in) rfl (by k_is) rfl rfl rfl); (case c5 => decide); (case kB => exact locs rfl); (case c2 => exact rfl); (case c3 => exact rfl); (case c4 => exact rfl); k_whole; intro g' L' h' FG' F' N' B' X' T'; (try dsimp only); (try k_lift B'); (try k_fold))
  rw [← hee] at F' hret
  k_steps
  · rename_i hne h1 F1 N1 ls h2 k2 hlines hstrs hlens hlist F2 N2
    rw [hlines] at hstrs hlens
    refine for_strs (ys := Txt.lines x) news (fun c : Str × Tok => [(Str.ofString "decoded", Value.str c.1 c.2)]) [Str.ofString "i", Str.ofString "n", Str.ofString "c"] (fun pre c => c.1.cps.toList = decLines e pre) (Str.ofString "", _) rfl hlist hstrs
      (fun p hp => Nat.ne_of_lt (Heap.lt_size (N1 p hp).1)) (Nat.ne_of_lt F1.ns.lt) F2 (fun p hp => N2 p (List.mem_cons_of_mem _ hp)) (by intro p hp; cases List.mem_singleton.mp hp; rfl) rfl ?_ ?_
    · intro c pre post y ty u h tk own hys hoff hp F3 N3
      have hly : y.length ≤ 100000 := Nat.le_trans (hlens y (by rw [hys]; simp)) hx
      have hDl := decLines_bound (e := e) hys he
      have hDe : (decLines e (pre ++ [y])) = c.1.cps.toList ++ decLine e.cps.toList (Txt.rstrip y).cps.toList := by rw [decLines_snoc, hp]
      have hD : (c.1.cps.toList ++ decLine e.cps.toList (Txt.rstrip y).cps.toList).length ≤ 400005 := by rw [← hDe]; omega
      have hlen : c.1.length ≤ 300003 := by rw [str_len, hp]; have := decLines_pre e pre [y]; omega
      clear F1 N1 F2 N2 hlist hstrs
      (try k_fold)
      k_steps
      · refine Stop.mk ?_
        (with_reducible rename Fr _ _ _ _ => F5)
        (with_reducible rename News _ _ _ _ => N5)
        refine' ksw_while (σ := (Str × Tok) × (Int × Tok)) (fun _ => news ++ own) (fun c => [(Str.ofString "decoded", Value.str c.1.1 c.1.2), (Str.ofString "i", Value.int c.2.1 c.2.2)]) (fun _ => True) [Str.ofString "c"]
          (fun d => WInv e (Txt.rstrip y) (c.1.cps.toList ++ decLine e.cps.toList (Txt.rstrip y).cps.toList) d.1.1 d.2.1)
          (fun d => (((Txt.rstrip y).length : Int) - d.2.1).toNat) ((c.1, c.2), (0, ?tk)) F5 N5 trivial ?k1 ?k2 ?k3
        case k1 =>
          intro p hp
          rcases List.mem_cons.mp hp with rfl | hp
          · rfl
          · cases List.mem_singleton.mp hp; rfl
        case k2 =>
          exact ⟨Int.le_refl 0, (show (0 : Int) ≤ ((Txt.rstrip y).length : Int) by omega), by (show c.1.length ≤ 400005; omega), fun _ => rfl, fun h => absurd h.symm (by assumption)⟩
        case k3 =>
          intro d u5 h6 tk6 hf hP F6 N6
          have hi0 := hP.1
          have hdl := hP.2.2.1
          clear F5 N5
          k_steps
          · refine Stop.mk ?_
            (with_reducible rename Fr _ _ _ _ => FF)
            (with_reducible rename News _ _ _ _ => NN)
            refine' ksw_end ((d.1.1 ++ Txt.item (Txt.rstrip y) d.2.1 ++ e, ?tkc1), (d.2.1 + 1, ?tki1)) FF NN (fun p hp => hp) trivial ?ks1 ?kr1 ?kp1 ?km1
            case ks1 =>
              intro p hp
              rcases List.mem_cons.mp hp with rfl | hp
              · rfl
              · cases List.mem_singleton.mp hp; rfl
            case kr1 =>
              intro z h2 h3
              simp only [List.forall_mem_cons, List.not_mem_nil, false_implies, implies_true, and_true, ne_eq] at h2
              simp only [List.contains_cons, List.contains_nil, Bool.or_false, Bool.or_eq_false_iff, beq_eq_false_iff_ne, ne_eq] at h3
              simp [h2, h3, kstB]
            case kp1 => exact (w_plain hD hP (by assumption) (by assumption)).2 (by assumption)
            case km1 =>
              show (((Txt.rstrip y).length : Int) - (d.2.1 + 1)).toNat < (((Txt.rstrip y).length : Int) - d.2.1).toNat
              omega
          · refine Stop.mk ?_
            (with_reducible rename Fr _ _ _ _ => FF)
            (with_reducible rename News _ _ _ _ => NN)
            refine' ksw_end ((d.1.1 ++ Txt.item (Txt.rstrip y) d.2.1, ?tkc2), (d.2.1 + 1, ?tki2)) FF NN (fun p hp => hp) trivial ?ks2 ?kr2 ?kp2 ?km2
            case ks2 =>
              intro p hp
              rcases List.mem_cons.mp hp with rfl | hp
              · rfl
              · cases List.mem_singleton.mp hp; rfl
            case kr2 =>
              intro z h2 h3
              simp only [List.forall_mem_cons, List.not_mem_nil, false_implies, implies_true, and_true, ne_eq] at h2
              simp only [List.contains_cons, List.contains_nil, Bool.or_false, Bool.or_eq_false_iff, beq_eq_false_iff_ne, ne_eq] at h3
              simp [h2, h3, kstB]
            case kp2 => exact (w_plain hD hP (by assumption) (by assumption)).1 (by assumption)
            case km2 =>
              show (((Txt.rstrip y).length : Int) - (d.2.1 + 1)).toNat < (((Txt.rstrip y).length : Int) - d.2.1).toNat
              omega
          · refine Stop.mk ?_
            (with_reducible rename Fr _ _ _ _ => FF)
            (with_reducible rename News _ _ _ _ => NN)
            refine' ksw_end ((d.1.1, ?tkc3), (d.2.1 + 1, ?tki3)) FF NN (fun p hp => hp) trivial ?ks3 ?kr3 ?kp3 ?km3
            case ks3 =>
              intro p hp
              rcases List.mem_cons.mp hp with rfl | hp
              · rfl
              · cases List.mem_singleton.mp hp; rfl
            case kr3 =>
              intro z h2 h3
              simp only [List.forall_mem_cons, List.not_mem_nil, false_implies, implies_true, and_true, ne_eq] at h2
              simp only [List.contains_cons, List.contains_nil, Bool.or_false, Bool.or_eq_false_iff, beq_eq_false_iff_ne, ne_eq] at h3
              simp [h2, h3, kstB]
            case kp3 => exact w_soft hD hP (by assumption) (by assumption) (by assumption)
            case km3 =>
              show (((Txt.rstrip y).length : Int) - (d.2.1 + 1)).toNat < (((Txt.rstrip y).length : Int) - d.2.1).toNat
              omega
          · exfalso; omega
          · refine Stop.mk ?_
            (with_reducible rename Fr _ _ _ _ => FF)
            (with_reducible rename News _ _ _ _ => NN)
            refine' ksw_end ((d.1.1 ++ Txt.item (Txt.rstrip y) d.2.1, ?tkc4), (d.2.1 + 1, ?tki4)) FF NN (fun p hp => hp) trivial ?ks4 ?kr4 ?kp4 ?km4
            case ks4 =>
              intro p hp
              rcases List.mem_cons.mp hp with rfl | hp
              · rfl
              · cases List.mem_singleton.mp hp; rfl
            case kr4 =>
              intro z h2 h3
              simp only [List.forall_mem_cons, List.not_mem_nil, false_implies, implies_true, and_true, ne_eq] at h2
              simp only [List.contains_cons, List.contains_nil, Bool.or_false, Bool.or_eq_false_iff, beq_eq_false_iff_ne, ne_eq] at h3
              simp [h2, h3, kstB]
            case kp4 => exact w_eq1 hD hP (by assumption) (by assumption) (by assumption) (by assumption)
            case km4 =>
              show (((Txt.rstrip y).length : Int) - (d.2.1 + 1)).toNat < (((Txt.rstrip y).length : Int) - d.2.1).toNat
              omega
          · exfalso; omega
          · refine Stop.mk ?_
            (with_reducible rename Fr _ _ _ _ => FF)
            (with_reducible rename News _ _ _ _ => NN)
            refine' ksw_end ((d.1.1 ++ Txt.item (Txt.rstrip y) d.2.1, ?tkc5), (d.2.1 + 1, ?tki5)) FF NN (fun p hp => hp) trivial ?ks5 ?kr5 ?kp5 ?km5
            case ks5 =>
              intro p hp
              rcases List.mem_cons.mp hp with rfl | hp
              · rfl
              · cases List.mem_singleton.mp hp; rfl
            case kr5 =>
              intro z h2 h3
              simp only [List.forall_mem_cons, List.not_mem_nil, false_implies, implies_true, and_true, ne_eq] at h2
              simp only [List.contains_cons, List.contains_nil, Bool.or_false, Bool.or_eq_false_iff, beq_eq_false_iff_ne, ne_eq] at h3
              simp [h2, h3, kstB]
            case kp5 => exact w_eq2 hD hP (by assumption) (by assumption) (by assumption) (by assumption)
            case km5 =>
              show (((Txt.rstrip y).length : Int) - (d.2.1 + 1)).toNat < (((Txt.rstrip y).length : Int) - d.2.1).toNat
              omega
          · refine Stop.mk ?_
            obtain ⟨a2, b2, ha2, hb2, hsl, hw1, hw2⟩ := w_hex hD hP (by assumption) (by assumption) (by assumption) (by assumption) (by assumption)
            rw [hsl]
            k_dflt (refine' Ctr.use (ctr_unquote w _ 61 a2 b2 _ rfl (Nat.le_refl 3) ha2 hb2) ?B ?F ?X ?N ?T ?hk ?hd ?hu ?_; (case B => k_asm); (case F => k_asm); (case X => k_asm); (case N => k_asm); (case T => k_asm); (case hk => first | exact rfl | assumption); (case hd => ktr_room); (case hu => ktr_units))
            intro t9 h9 tk9 F9 N9
            have hl9 : (Str.mk #[16 * hexn a2 + hexn b2]).length ≤ 1 := Nat.le_refl 1
            (try dsimp only)
            (try k_fold)
            k_steps
            · refine Stop.mk ?_
              (with_reducible rename Fr _ _ _ _ => FF)
              (with_reducible rename News _ _ _ _ => NN)
              refine' ksw_end ((d.1.1 ++ ⟨#[16 * hexn a2 + hexn b2]⟩ ++ e, ?tkc6), (d.2.1 + 3, ?tki6)) FF NN (fun p hp => hp) trivial ?ks6 ?kr6 ?kp6 ?km6
              case ks6 =>
                intro p hp
                rcases List.mem_cons.mp hp with rfl | hp
                · rfl
                · cases List.mem_singleton.mp hp; rfl
              case kr6 =>
                intro z h2 h3
                simp only [List.forall_mem_cons, List.not_mem_nil, false_implies, implies_true, and_true, ne_eq] at h2
                simp only [List.contains_cons, List.contains_nil, Bool.or_false, Bool.or_eq_false_iff, beq_eq_false_iff_ne, ne_eq] at h3
                simp [h2, h3, kstB]
              case kp6 => exact hw2 (by assumption)
              case km6 =>
                show (((Txt.rstrip y).length : Int) - (d.2.1 + 3)).toNat < (((Txt.rstrip y).length : Int) - d.2.1).toNat
                omega
            · refine Stop.mk ?_
              (with_reducible rename Fr _ _ _ _ => FF)
              (with_reducible rename News _ _ _ _ => NN)
              refine' ksw_end ((d.1.1 ++ ⟨#[16 * hexn a2 + hexn b2]⟩, ?tkc7), (d.2.1 + 3, ?tki7)) FF NN (fun p hp => hp) trivial ?ks7 ?kr7 ?kp7 ?km7
              case ks7 =>
                intro p hp
                rcases List.mem_cons.mp hp with rfl | hp
                · rfl
                · cases List.mem_singleton.mp hp; rfl
              case kr7 =>
                intro z h2 h3
                simp only [List.forall_mem_cons, List.not_mem_nil, false_implies, implies_true, and_true, ne_eq] at h2
                simp only [List.contains_cons, List.contains_nil, Bool.or_false, Bool.or_eq_false_iff, beq_eq_false_iff_ne, ne_eq] at h3
                simp [h2, h3, kstB]
              case kp7 => exact hw1 (by assumption)
              case km7 =>
                show (((Txt.rstrip y).length : Int) - (d.2.1 + 3)).toNat < (((Txt.rstrip y).length : Int) - d.2.1).toNat
                omega
          · exfalso; omega
          · refine Stop.mk ?_
            (with_reducible rename Fr _ _ _ _ => FF)
            (with_reducible rename News _ _ _ _ => NN)
            refine' ksw_end ((d.1.1 ++ Txt.item (Txt.rstrip y) d.2.1, ?tkc8), (d.2.1 + 1, ?tki8)) FF NN (fun p hp => hp) trivial ?ks8 ?kr8 ?kp8 ?km8
            case ks8 =>
              intro p hp
              rcases List.mem_cons.mp hp with rfl | hp
              · rfl
              · cases List.mem_singleton.mp hp; rfl
            case kr8 =>
              intro z h2 h3
              simp only [List.forall_mem_cons, List.not_mem_nil, false_implies, implies_true, and_true, ne_eq] at h2
              simp only [List.contains_cons, List.contains_nil, Bool.or_false, Bool.or_eq_false_iff, beq_eq_false_iff_ne, ne_eq] at h3
              simp [h2, h3, kstB]
            case kp8 => exact w_eq3 hD hP (by assumption) (by assumption) (by assumption) (by assumption)
            case km8 =>
              show (((Txt.rstrip y).length : Int) - (d.2.1 + 1)).toNat < (((Txt.rstrip y).length : Int) - d.2.1).toNat
              omega
          · refine Stop.mk ?_
            refine kst_end d.1 F6 N6 (fun p hp => List.mem_append_left _ hp) (fun p hp => List.mem_append_right _ hp) rfl trivial (by intro p hp; cases List.mem_singleton.mp hp; rfl) ?_ ?_
            · intro z h1 h2 h3
              simp only [List.forall_mem_cons, List.not_mem_nil, false_implies, implies_true, and_true, ne_eq] at h2
              simp only [List.contains_cons, List.contains_nil, Bool.or_false, Bool.or_eq_false_iff, beq_eq_false_iff_ne, ne_eq] at h3
              simp [h1, h2, h3, kstB]
            · show d.1.1.cps.toList = decLines e (pre ++ [y])
              rw [hDe]
              exact hP.2.2.2.2 (by have := hP.2.1; omega)
      · refine Stop.mk ?_
        (with_reducible rename Fr _ _ _ _ => FF)
        (with_reducible rename News _ _ _ _ => NN)
        refine' kst_end (c.1 ++ e, ?tkz) FF NN (fun p hp => List.mem_append_left _ hp) (fun p hp => List.mem_append_right _ hp) rfl trivial ?ks ?kr ?kp
        case ks => intro p hp; cases List.mem_singleton.mp hp; rfl
        case kr =>
          intro z h1 h2 h3
          simp only [List.forall_mem_cons, List.not_mem_nil, false_implies, implies_true, and_true, ne_eq] at h2
          simp only [List.contains_cons, List.contains_nil, Bool.or_false, Bool.or_eq_false_iff, beq_eq_false_iff_ne, ne_eq] at h3
          simp [h1, h2, h3, kstB]
        case kp =>
          show (c.1 ++ e).cps.toList = decLines e (pre ++ [y])
          have hz : (Txt.rstrip y).cps.toList = [] := List.length_eq_zero_iff.mp (by rw [← str_len]; omega)
          rw [hDe, hz, str_app]
          rfl
    · intro c u h tk hp F3 N3
      have hlen : c.1.length ≤ 300003 := by rw [str_len, hp]; have := decLines_all (x := x) he; omega
      clear F1 N1 F2 N2 hlist hstrs
      (try k_fold)
      k_steps
      · rw [dec_end1 hne hp (by assumption) (by assumption)]
        exact hret _ _ _ (by k_asm) (by k_asm)
      · have hz : c.1 = decS x e := dec_end2 hne hp (by assumption) (by assumption)
        rw [hz]
        exact hret _ _ _ (by k_asm) (by k_asm)
      · have hz : c.1 = decS x e := dec_end3 hne hp (by assumption)
        rw [hz]
        exact hret _ _ _ (by k_asm) (by k_asm)
  · rename_i hz _ _ _ _ _
    have hz : x = decS x e := dec_end0 (by assumption)
    conv => rw [hz]
    exact hret _ _ _ (by k_asm) (by k_asm)
end Mine
namespace Mine
open PySem.Calls
theorem slot_sub : Slot "re.Pattern" "sub" "re.Pattern.sub" :=
  .of (owner := "re.Pattern") (n := "sub") (by rw [typeLookup_type, builtinLookup_eq_fast]; kernel_rfl) (by decide +kernel) (by decide +kernel) (by decide +kernel)
    (by first | exact .inl (by decide +kernel) | exact .inr (by decide +kernel)) (by rw [isSubtype_type]; kernel_rfl)
theorem type_sub : typeOf (.builtin "re.Pattern.sub") = pure (.type "method_descriptor") := by show builtinType _ = _; rw [builtinType_eq_fast]; kernel_rfl
theorem entry_sub : entryFor table "re.Pattern.sub" = some Builtin.«re.Pattern.sub» := entryFor_of_tree (by kernel_rfl)
theorem entry_subloop : entryFor table "re.Pattern.sub.loop" = some Builtin.«re.Pattern.sub.loop» := entryFor_of_tree (by kernel_rfl)
theorem args_sub (a b c : Value) : argsOk "re.Pattern.sub" ⟨[a, b, c], []⟩ := by unfold argsOk; kernel_rfl
theorem pa_pattern : PlainAttrs "re.Pattern" := ⟨⟨"object.__getattribute__", by rw [typeLookup_type, builtinLookup_eq_fast]; kernel_rfl, by decide +kernel⟩, by rw [typeLookup_type, builtinLookup_eq_fast]; kernel_rfl⟩
theorem slot_group : Slot "re.Match" "group" "re.Match.group" :=
  .of (owner := "re.Match") (n := "group") (by rw [typeLookup_type, builtinLookup_eq_fast]; kernel_rfl) (by decide +kernel) (by decide +kernel) (by decide +kernel)
    (by first | exact .inl (by decide +kernel) | exact .inr (by decide +kernel)) (by rw [isSubtype_type]; kernel_rfl)
theorem type_group : typeOf (.builtin "re.Match.group") = pure (.type "method_descriptor") := by show builtinType _ = _; rw [builtinType_eq_fast]; kernel_rfl
theorem entry_group : entryFor table "re.Match.group" = some Builtin.«re.Match.group» := entryFor_of_tree (by kernel_rfl)
theorem args_group (a b : Value) : argsOk "re.Match.group" ⟨[a, b], []⟩ := by unfold argsOk; kernel_rfl
theorem pa_match : PlainAttrs "re.Match" := ⟨⟨"object.__getattribute__", by rw [typeLookup_type, builtinLookup_eq_fast]; kernel_rfl, by decide +kernel⟩, by rw [typeLookup_type, builtinLookup_eq_fast]; kernel_rfl⟩
end Mine
namespace Mine
open PySem.Calls PySem.Builtin PySem.Builtin.Re
def matchObj (x : Str) (t : Tok) (pat : Addr) (lim : Nat) (li : Int) (tp : Addr) : Obj := { cls := .type "re.Match", data := .fields #[.str x t, .ref pat, .int 0 0, .int (lim : Int) 0, .int li 0, .ref tp] }
def spanObj (b e : Nat) : Obj := { cls := .type "tuple", data := .seq #[.int (b : Int) 0, .int (e : Int) 0] }
theorem wp_group {M : Model} {A : Around} {E : Value → Shared → Prop} {s : Shared} {q tp pat : Addr} {x : Str} {t u : Tok} {lim b e : Nat} {li : Int} {Q : Fin → Shared → Prop}
    (h1 : s.heap.get? q = some (matchObj x t pat lim li tp)) (h2 : s.heap.get? tp = some (spanObj b e)) (hx : x.length ≤ sizeLine)
    (h : Q (.done (.ret (.str ⟨x.cps.extract b e⟩ s.toks))) { s with toks := s.toks + 1 }) :
    wpAny M A (Builtin.«re.Match.group» ⟨[.ref q, .int 0 u], []⟩) Q E s := by
  obtain ⟨hp, g, d, tk, os⟩ := s
  repeat (any_goals (first | assumption | wp_step))
  have hsp : Array.map reRawOf ((some #[Value.int (↑b) 0, Value.int (↑e) 0]).getD #[]) = #[(b : Int), (e : Int)] := by simp [reRawOf]
  rw [hsp]
  show wpAny M A (if (decide ((b : Int) < 0) || decide ((e : Int) < 0)) = true then pure Value.none else do
    let __x ← reTextOf (.str x t)
    match __x with
    | (text, kind) => reSlice text kind ((b : Int)).toNat ((e : Int)).toNat) _ _ _
  rw [if_neg (by simp), Int.toNat_natCast, Int.toNat_natCast]
  refine wpAny_bind (wpAny_mono (Q := fun r s' => r = (x.cps, 0) ∧ s' = ⟨hp, g, d, tk, os⟩) ?_ ?_ fun _ _ h => h)
  · repeat (any_goals (first | exact ⟨rfl, rfl⟩ | wp_step))
  · rintro _ _ ⟨rfl, rfl⟩
    show wpAny M A (mkStr ⟨x.cps.extract b e⟩) _ _ _
    exact wpAny_mkStr (wpAny_pure h) (by show (x.cps.extract b e).size ≤ sizeLine; rw [Array.size_extract]; have : x.cps.size ≤ sizeLine := hx; omega)
section
variable {prog : Program} {w : World} {A : Around} {E : Value → Shared → Prop} {s : Shared}
theorem call_group {q tp pat : Addr} {x : Str} {t u : Tok} {lim b e : Nat} {li : Int} {Q : Value → Shared → Prop}
    (h1 : s.heap.get? q = some (matchObj x t pat lim li tp)) (h2 : s.heap.get? tp = some (spanObj b e)) (hx : x.length ≤ sizeLine)
    (h : Q (.str ⟨x.cps.extract b e⟩ s.toks) { s with toks := s.toks + 1 }) :
    wpAny (PySem.model prog w) A (call (.builtin "re.Match.group") [.ref q, .int 0 u]) Q E s :=
  wpAny_call (codeAny_call_builtin slot_group.plain entry_group (slot_group.check _ _ _ _ _ _ _ _ ⟨_, h1, rfl⟩ (args_group _ _) (wp_group h1 h2 hx h)))
theorem meth_group {q tp pat : Addr} {x : Str} {t : Tok} {lim : Nat} {li : Int} {pl : Sem Bool} {Q : Value × List Value → Shared → Prop}
    (h1 : s.heap.get? q = some (matchObj x t pat lim li tp)) (h : Q (.builtin "re.Match.group", [.ref q]) s) : wpAny (PySem.model prog w) A (getMethod (.ref q) (Str.ofString "group") pl) Q E s :=
  getMethod_builtin ⟨_, h1, rfl⟩ pa_match slot_group type_group (fun a e => by cases e; exact ⟨_, h1, rfl⟩) h
theorem meth_sub {q : Addr} {o : Obj} {pl : Sem Bool} {Q : Value × List Value → Shared → Prop}
    (h1 : s.heap.get? q = some o) (hc : o.cls = .type "re.Pattern") (hd : o.dict = none) (h : Q (.builtin "re.Pattern.sub", [.ref q]) s) : wpAny (PySem.model prog w) A (getMethod (.ref q) (Str.ofString "sub") pl) Q E s :=
  getMethod_builtin ⟨_, h1, hc⟩ pa_pattern slot_sub type_sub (fun a e => by cases e; exact ⟨_, h1, hd⟩) h
end
end Mine
namespace Mine
theorem fillM : PySem.Challenge.rw_dw5003_03.name = PySem.Challenge.rw_dw5003_03.name ∧ hd03.heap_39 = hd03.heap_39 := by
  k_fill
  exact ⟨rfl, rfl⟩
local macro_rules | `(tactic| walk_at "call ref") => `(tactic| refine Stop.out ?_)
local macro_rules | `(tactic| walk_at "getMethod ref") => `(tactic| (refine meth_group (News.get (by k_asm) (by assumption)) ?_))
local macro_rules | `(tactic| walk_at "call builtin:re.Match.group") => `(tactic| (refine call_group (News.get (by k_asm) (by assumption)) (News.get (by k_asm) (by assumption)) (by size_fits) ?_))
theorem ctr_um (w : World) (x : Str) (t : Tok) (c a' b' lim b e : Nat) (li : Int) (q tp : Addr) (hx : x.length ≤ 100000) (hs : x.cps.extract b e = #[c, a', b']) (ha : hexd a' = true) (hb : hexd b' = true) :
  ∀ (p : Program) (loose : List Str) (mean : ExcName → Option Value) (mg mb : Str → Option Value) (news : List (Addr × Obj)) (dp un : Nat) (gd : Option (List Code)) (cn : Str) (cs : Scope) (a : Addr) (ccd : Value) (cl : List (Str × Addr)) (outer : List Env) (A₀ : Around) (base h₀ : Heap) (L : Addr) (m : Str → Option Value) (s : Shared) (Q E : Value → Shared → Prop),
    (q, matchObj x t 36 lim li tp) ∈ news → (tp, spanObj b e) ∈ news → Below A₀ base outer h₀ → Fr h₀ L s.heap m → (hd03.heap_39 w.params).In h₀ → News h₀ L s.heap news → Top p loose mean mg mb h₀ → cs.kind = .function →
    dp + 3 < recursionLimit → un + 16 < cLine → Ret h₀ L m news s Q (fun t => .str ⟨#[16 * hexn a' + hexn b']⟩ t) →
      wpAny (PySem.model PySem.Challenge.pw_dw5003_03 w) (ktrTop dp un gd cn cs L a ccd cl outer) (call (.ref 58) [.ref q]) Q E s := by
  intro p loose mean mg mb news dp un gd cn cs a ccd cl outer A₀ base h₀ L m s Q E hm1 hm2 B F X N T hk hd hu hret
  refine wpAny_call ?_
  k_dflt (refine' code_def ?k1 ?k2 ?k3 ?k4 ?k5 ?kA ?kF ?kK ?k6 ?k7 ?k8 ?k9 ?kB ?_ ?c2 ?c3 ?c4 ?c5; (case kA => exact rfl); (case kF => exact rfl); (case kK => assumption); (case k1 => k_asm); (case k2 => k_asm); (case k3 => k_asm); (case k4 => k_asm); (case k5 => k_asm); (case k6 => k_is); (case k7 => k_is); (case k8 => ktr_room); (case k9 => first | exact BindsTo.of_eq rfl | exact binds_K (by k_in) rfl (by k_is) rfl rfl rfl); (case c5 => decide); (case kB => exact locs rfl); (case c2 => exact rfl); (case c3 => exact rfl); (case c4 => exact rfl); k_whole; intro g' L' h' FG' F' N' B' X' T'; (try dsimp only); (try k_lift B'); (try k_fold))
  k_steps
  · refine Stop.mk ?_
    rw [hs]
    k_dflt (refine' Ctr.use (ctr_unquote w _ c a' b' _ rfl (Nat.le_refl 3) ha hb) ?B ?F ?X ?N ?T ?hk ?hd ?hu ?_; (case B => k_asm); (case F => k_asm); (case X => k_asm); (case N => k_asm); (case T => k_asm); (case hk => first | exact rfl | assumption); (case hd => ktr_room); (case hu => ktr_units))
    intro t9 h9 tk9 F9 N9
    (try dsimp only)
    (try k_fold)
    k_steps
    all_goals (exact hret _ _ _ (by k_asm) (by k_asm))
end Mine
namespace Mine
open PySem.Sre PySem.Builtin PySem.Builtin.Re
def reCode : Array Nat := #[14, 8, 1, 3, 3, 1, 1, 61, 0, 16, 61, 24, 16, 2, 2, 13, 11, 9, 0, 67043328, 126, 126, 0, 0, 0, 0, 0, 1, 1]
theorem inSet_eq (c : Nat) (seen : Sre.Seen) : ∃ seen', inSet reCode c reCode.size 17 true seen = .ok (hexd c, seen') := by
  have h1 : inSet reCode c reCode.size 17 true seen =
      (if (decide (c < 256) && (reCode.getD (17 + (1 + c / 32)) 0).testBit (c % 32)) = true then .ok (true, seen.add 9) else .ok (!true, (seen.add 9).add 0)) := by rfl
  rw [h1]
  have h2 : (decide (c < 256) && (reCode.getD (17 + (1 + c / 32)) 0).testBit (c % 32)) = hexd c := by
    by_cases h : c < 256
    · have key : (List.range 256).all (fun c => (decide (c < 256) && (reCode.getD (17 + (1 + c / 32)) 0).testBit (c % 32)) == hexd c) = true := by decide +kernel
      exact beq_iff_eq.mp (List.all_eq_true.mp key c (List.mem_range.mpr h))
    · have h3 : hexd c = false := by
        cases hh : hexd c with
        | false => rfl
        | true => have := hexd_lt hh; omega
      rw [h3, decide_eq_false h, Bool.false_and]
  rw [h2]
  cases hexd c
  · exact ⟨_, rfl⟩
  · exact ⟨_, rfl⟩
theorem accepts_set (c : Nat) (seen : Sre.Seen) : ∃ seen', accepts reCode 15 c seen = .ok (hexd c, seen') := inSet_eq c seen
theorem accepts_eq (c : Nat) (seen : Sre.Seen) : accepts reCode 9 c seen = .ok (c == 61, seen) := rfl
/-- the machine at the start of a try -/
def S0 (text : Array Nat) (lim s : Nat) (first : Bool) (seen : Sre.Seen) : M :=
  { code := reCode, text, lim, start := s, lastStart := lim, pc := 9, pos := s, handed := s, outermost := first, marks := #[], frames := [{ wait := .nextStart, pc := 9, pos := s, outermost := first }], weight := 1, seen }
theorem runFor_done (n : Nat) (m : M) (h : m.outcome.isSome = true) : m.runFor n = m := by
  cases n with
  | zero => rfl
  | succ n => unfold M.runFor; rw [if_pos h]
theorem runFor_succ (n : Nat) (m : M) (h : m.outcome = none) : m.runFor (n + 1) = m.step.runFor n := by
  rw [M.runFor, h]
  rfl
theorem runFor_add (a b : Nat) : ∀ m : M, m.runFor (a + b) = (m.runFor a).runFor b := by
  induction a with
  | zero => intro m; rw [Nat.zero_add]; rfl
  | succ a ih =>
    intro m
    rw [Nat.add_right_comm]
    cases h : m.outcome with
    | none => rw [runFor_succ _ _ h, runFor_succ _ _ h, ih]
    | some o =>
      have hs : m.outcome.isSome = true := by rw [h]; rfl
      rw [runFor_done (a + b + 1) m hs, runFor_done (a + 1) m hs, runFor_done b m hs]
section
variable {text : Array Nat} {lim s : Nat} {first : Bool} {seen : Sre.Seen}
/-- the state behind a failed try -/
def Sf (text : Array Nat) (lim s : Nat) (first : Bool) (seen : Sre.Seen) (pc pos : Nat) : M := { S0 text lim s first seen with pc, pos, answer := some false }
theorem step_lit_no (h : lim ≤ s ∨ text.getD s 0 ≠ 61) : ∃ seen' pc pos, (S0 text lim s first seen).step = Sf text lim s first seen' pc pos := by
  have e : (S0 text lim s first seen).step = (S0 text lim s first seen).exec := rfl
  rw [e]
  have e2 : (S0 text lim s first seen).exec = (if s ≥ lim then ({ S0 text lim s first seen with seen := seen.add 16 } : M).say false else
      match accepts reCode 9 (text.getD s 0) (seen.add 16) with
      | .error why => ({ S0 text lim s first seen with seen := seen.add 16 } : M).stick why
      | .ok (false, seen) => ({ S0 text lim s first seen with seen } : M).say false
      | .ok (true, seen) => { S0 text lim s first seen with seen, pc := 9 + itemWidth reCode 9, pos := s + 1 }) := rfl
  rw [e2]
  by_cases hs : s ≥ lim
  · rw [if_pos hs]
    exact ⟨_, _, _, rfl⟩
  · rw [if_neg hs, accepts_eq]
    have hne : text.getD s 0 ≠ 61 := h.resolve_left (by omega)
    rw [beq_eq_false_iff_ne.mpr hne]
    exact ⟨_, _, _, rfl⟩
def S1 (text : Array Nat) (lim s : Nat) (first : Bool) (seen : Sre.Seen) : M := { S0 text lim s first seen with pc := 11, pos := s + 1 }
theorem step_lit_yes (h1 : s < lim) (h2 : text.getD s 0 = 61) : ∃ seen', (S0 text lim s first seen).step = S1 text lim s first seen' := by
  have e : (S0 text lim s first seen).step = (S0 text lim s first seen).exec := rfl
  rw [e]
  have e2 : (S0 text lim s first seen).exec = (if s ≥ lim then ({ S0 text lim s first seen with seen := seen.add 16 } : M).say false else
      match accepts reCode 9 (text.getD s 0) (seen.add 16) with
      | .error why => ({ S0 text lim s first seen with seen := seen.add 16 } : M).stick why
      | .ok (false, seen) => ({ S0 text lim s first seen with seen } : M).say false
      | .ok (true, seen) => { S0 text lim s first seen with seen, pc := 9 + itemWidth reCode 9, pos := s + 1 }) := rfl
  rw [e2, if_neg (by omega), accepts_eq, h2]
  exact ⟨_, rfl⟩
def matchAt (text : Array Nat) (lim s : Nat) : Bool := decide (s + 2 < lim) && text.getD s 0 == 61 && hexd (text.getD (s + 1) 0) && hexd (text.getD (s + 2) 0)
def keptNone : Sre.Kept := { lastmark := -1, lastindex := -1, whole := false, marks := #[] }
def S2 (text : Array Nat) (lim s : Nat) (first : Bool) (seen : Sre.Seen) : M :=
  { S0 text lim s first seen with pc := 28, pos := s + 1 + 2, handed := s + 1 + 2, frames := [{ wait := .giveBack, pc := 11, pos := s + 1 + 2, outermost := first, count := 2, kept := keptNone }, { wait := .nextStart, pc := 9, pos := s, outermost := first }], weight := 2 }
theorem exec_rep : (S1 text lim s first seen).step =
    (if ((2 : Nat) : Int) > (lim : Int) - ((s + 1 : Nat) : Int) then ({ S1 text lim s first seen with seen := seen.add 24 } : M).say false else
    match Sre.run reCode text 15 (min 2 ((lim : Int) - ((s + 1 : Nat) : Int)).toNat) (s + 1) 0 ((seen.add 24).add 13) with
    | .error why => ({ S1 text lim s first seen with seen := seen.add 24 } : M).stick why
    | .ok (n, seen) =>
      if n < 2 then ({ S1 text lim s first seen with seen } : M).say false else
      ({ S1 text lim s first seen with seen, pos := s + 1 + n } : M).afterRun .giveBack n (({ S1 text lim s first seen with seen, pos := s + 1 + n } : M).keep false)) := rfl
theorem run2 (p : Nat) (seen : Sre.Seen) : ∃ n seen', Sre.run reCode text 15 2 p 0 seen = .ok (n, seen') ∧ (n < 2 ↔ (hexd (text.getD p 0) && hexd (text.getD (p + 1) 0)) = false) ∧ n ≤ 2 := by
  obtain ⟨s1, h1⟩ := accepts_set (text.getD p 0) seen
  obtain ⟨s2, h2⟩ := accepts_set (text.getD (p + 1) 0) s1
  have e1 : Sre.run reCode text 15 2 p 0 seen = (do
      let (yes, seen) ← accepts reCode 15 (text.getD p 0) seen
      if yes then Sre.run reCode text 15 1 (p + 1) (0 + 1) seen else pure (0, seen)) := rfl
  have e2 : ∀ seen, Sre.run reCode text 15 1 (p + 1) (0 + 1) seen = (do
      let (yes, seen) ← accepts reCode 15 (text.getD (p + 1) 0) seen
      if yes then Sre.run reCode text 15 0 (p + 1 + 1) (0 + 1 + 1) seen else pure (0 + 1, seen)) := fun _ => rfl
  rw [e1, h1]
  show ∃ n seen', (if hexd (text.getD p 0) = true then Sre.run reCode text 15 1 (p + 1) (0 + 1) s1 else pure (0, s1)) = .ok (n, seen') ∧ _ ∧ _
  cases hexd (text.getD p 0) with
  | false => exact ⟨0, s1, rfl, by simp, by omega⟩
  | true =>
    rw [if_pos rfl, e2, h2]
    show ∃ n seen', (if hexd (text.getD (p + 1) 0) = true then Sre.run reCode text 15 0 (p + 1 + 1) (0 + 1 + 1) s2 else pure (0 + 1, s2)) = .ok (n, seen') ∧ _ ∧ _
    cases hexd (text.getD (p + 1) 0) with
    | false => exact ⟨1, s2, rfl, by simp, by omega⟩
    | true => exact ⟨2, s2, rfl, by simp, by omega⟩
theorem step_rep_no (h1 : s < lim) (h : ¬ s + 2 < lim ∨ (hexd (text.getD (s + 1) 0) && hexd (text.getD (s + 2) 0)) = false) : ∃ seen' pc pos, (S1 text lim s first seen).step = Sf text lim s first seen' pc pos := by
  rw [exec_rep]
  by_cases hr : s + 2 < lim
  · rw [if_neg (by omega)]
    have hm : min 2 ((lim : Int) - ((s + 1 : Nat) : Int)).toNat = 2 := by omega
    rw [hm]
    obtain ⟨n, seen', e, hn, _⟩ := run2 (text := text) (s + 1) ((seen.add 24).add 13)
    rw [e]
    have hlt : n < 2 := hn.mpr (h.resolve_left (fun q => q hr))
    show ∃ seen'' pc pos, (if n < 2 then _ else _) = _
    rw [if_pos hlt]
    exact ⟨_, _, _, rfl⟩
  · rw [if_pos (by omega)]
    exact ⟨_, _, _, rfl⟩
theorem step_rep_yes (hr : s + 2 < lim) (h : (hexd (text.getD (s + 1) 0) && hexd (text.getD (s + 2) 0)) = true) : ∃ seen', (S1 text lim s first seen).step = S2 text lim s first seen' := by
  rw [exec_rep, if_neg (by omega)]
  have hm : min 2 ((lim : Int) - ((s + 1 : Nat) : Int)).toNat = 2 := by omega
  rw [hm]
  obtain ⟨n, seen', e, hn, hle⟩ := run2 (text := text) (s + 1) ((seen.add 24).add 13)
  rw [e]
  have hge : ¬ n < 2 := by
    intro hlt
    have := hn.mp hlt
    rw [h] at this
    cases this
  have h2 : n = 2 := by omega
  subst h2
  exact ⟨seen', rfl⟩
/-- the end of a found match -/
def Sm (text : Array Nat) (lim s : Nat) (first : Bool) (seen : Sre.Seen) : M :=
  { S0 text lim s first seen with handed := s + 1 + 2, frames := [], weight := 0, answer := some true, outcome := some .matched }
theorem run_S2 : ∃ seen', (S2 text lim s first seen).runFor 4 = Sm text lim s first seen' := by
  cases first with
  | false => exact ⟨seen.add 1, rfl⟩
  | true => exact ⟨seen.add 1, rfl⟩
theorem step_fail (h : s < lim) {pc pos : Nat} : (Sf text lim s first seen pc pos).step = S0 text lim (s + 1) false seen := by
  have e : (Sf text lim s first seen pc pos).step = (if s < lim then S0 text lim (s + 1) false seen else ({ S0 text lim s first seen with frames := [], weight := 0 } : M).say false) := rfl
  rw [e, if_pos h]
def Se (text : Array Nat) (lim s : Nat) (first : Bool) (seen : Sre.Seen) : M :=
  { S0 text lim s first seen with frames := [], weight := 0, answer := some false, outcome := some .failed }
theorem run_fail (h : ¬ s < lim) {pc pos : Nat} : (Sf text lim s first seen pc pos).runFor 2 = Se text lim s first seen := by
  have e : (Sf text lim s first seen pc pos).step = (if s < lim then S0 text lim (s + 1) false seen else ({ S0 text lim s first seen with frames := [], weight := 0 } : M).say false) := rfl
  rw [if_neg h] at e
  have e2 : (Sf text lim s first seen pc pos).runFor 2 = ((Sf text lim s first seen pc pos).step).runFor 1 := rfl
  rw [e2, e]
  rfl
theorem run_yes (h : matchAt text lim s = true) : ∃ seen', (S0 text lim s first seen).runFor 6 = Sm text lim s first seen' := by
  unfold matchAt at h
  simp only [Bool.and_eq_true, decide_eq_true_eq, beq_iff_eq] at h
  obtain ⟨⟨⟨h1, h2⟩, h3⟩, h4⟩ := h
  obtain ⟨s1, e1⟩ := step_lit_yes (first := first) (seen := seen) (show s < lim by omega) h2
  obtain ⟨s2, e2⟩ := step_rep_yes (first := first) (seen := s1) h1 (by rw [h3, h4]; rfl)
  obtain ⟨s3, e3⟩ := run_S2 (text := text) (lim := lim) (s := s) (first := first) (seen := s2)
  refine ⟨s3, ?_⟩
  have a1 : (S0 text lim s first seen).runFor 6 = ((S0 text lim s first seen).step).runFor 5 := rfl
  rw [a1, e1]
  have a2 : (S1 text lim s first s1).runFor 5 = ((S1 text lim s first s1).step).runFor 4 := rfl
  rw [a2, e2, e3]
theorem to_fail (h : matchAt text lim s = false) : ∃ k seen' pc pos, k ≤ 2 ∧ (S0 text lim s first seen).runFor k = Sf text lim s first seen' pc pos := by
  by_cases h1 : lim ≤ s ∨ text.getD s 0 ≠ 61
  · obtain ⟨s1, pc, pos, e⟩ := step_lit_no (first := first) (seen := seen) h1
    exact ⟨1, s1, pc, pos, by omega, e⟩
  · have h2 : s < lim ∧ text.getD s 0 = 61 := by omega
    obtain ⟨s1, e1⟩ := step_lit_yes (first := first) (seen := seen) h2.1 h2.2
    obtain ⟨s2, pc, pos, e2⟩ := step_rep_no (first := first) (seen := s1) h2.1 (by
      unfold matchAt at h
      rw [h2.2] at h
      by_cases hr : s + 2 < lim
      · right
        rw [decide_eq_true hr] at h
        simpa using h
      · exact .inl hr)
    refine ⟨2, s2, pc, pos, by omega, ?_⟩
    have a1 : (S0 text lim s first seen).runFor 1 = (S0 text lim s first seen).step := rfl
    have a2 : (S1 text lim s first s1).runFor 1 = (S1 text lim s first s1).step := rfl
    rw [runFor_add 1 1, a1, e1, a2, e2]
/-- a search: the first place at which it matches -/
theorem search_yes : ∀ (k s : Nat) (first : Bool) (seen : Sre.Seen), matchAt text lim (s + k) = true → (∀ j, j < k → matchAt text lim (s + j) = false) →
    ∃ n first' seen', n ≤ 3 * k + 6 ∧ (S0 text lim s first seen).runFor n = Sm text lim (s + k) first' seen'
  | 0, s, first, seen, h, _ => by
    obtain ⟨s1, e⟩ := run_yes (first := first) (seen := seen) h
    exact ⟨6, first, s1, by omega, e⟩
  | k + 1, s, first, seen, h, hno => by
    have h0 := hno 0 (by omega)
    obtain ⟨k1, s1, pc, pos, hk, e1⟩ := to_fail (first := first) (seen := seen) h0
    have hlt : s < lim := by
      unfold matchAt at h
      simp only [Bool.and_eq_true, decide_eq_true_eq] at h
      omega
    obtain ⟨n, f', s', hn, e⟩ := search_yes k (s + 1) false s1 (by rw [show s + 1 + k = s + (k + 1) by omega]; exact h) (fun j hj => by
      rw [show s + 1 + j = s + (j + 1) by omega]; exact hno (j + 1) (by omega))
    refine ⟨k1 + (1 + n), f', s', by omega, ?_⟩
    rw [runFor_add, show s + 0 = s from rfl] at *
    rw [e1, runFor_add]
    have a1 : (Sf text lim s first s1 pc pos).runFor 1 = (Sf text lim s first s1 pc pos).step := rfl
    rw [a1, step_fail hlt, e, show s + 1 + k = s + (k + 1) by omega]
theorem search_no : ∀ (k s : Nat) (first : Bool) (seen : Sre.Seen), s + k = lim → (∀ j, s ≤ j → matchAt text lim j = false) →
    ∃ n first' seen', n ≤ 3 * k + 6 ∧ (S0 text lim s first seen).runFor n = Se text lim lim first' seen'
  | 0, s, first, seen, h, hno => by
    obtain ⟨k1, s1, pc, pos, hk, e1⟩ := to_fail (first := first) (seen := seen) (hno s (Nat.le_refl _))
    have hs : s = lim := by omega
    subst hs
    refine ⟨k1 + 2, first, s1, by omega, ?_⟩
    rw [runFor_add, e1, run_fail (Nat.lt_irrefl _)]
  | k + 1, s, first, seen, h, hno => by
    obtain ⟨k1, s1, pc, pos, hk, e1⟩ := to_fail (first := first) (seen := seen) (hno s (Nat.le_refl _))
    obtain ⟨n, f', s', hn, e⟩ := search_no k (s + 1) false s1 (by omega) (fun j hj => hno j (by omega))
    refine ⟨k1 + (1 + n), f', s', by omega, ?_⟩
    rw [runFor_add, e1, runFor_add]
    have a1 : (Sf text lim s first s1 pc pos).runFor 1 = (Sf text lim s first s1 pc pos).step := rfl
    rw [a1, step_fail (by omega), e]
end
end Mine
namespace Mine
open PySem.Sre PySem.Builtin PySem.Builtin.Re
theorem forSearch_eq (text : Array Nat) (start lim : Nat) (h : start + 3 ≤ lim) : forSearch reCode text 0 start lim false = S0 text lim start true (({} : Sre.Seen).add 14) := by
  have e : forSearch reCode text 0 start lim false = (if (decide (start > lim) || decide (lim - start < 3)) = true then (forSearch reCode text 0 start lim false) else S0 text lim start true (({} : Sre.Seen).add 14)) := by
    by_cases hc : (decide (start > lim) || decide (lim - start < 3)) = true
    · rw [if_pos hc]
    · rw [if_neg hc]
      unfold forSearch
      show (if (decide (start > lim) || decide (lim - start < 3)) = true then _ else _) = _
      rw [if_neg hc]
      rfl
  rw [e, if_neg (by simp; omega)]
theorem forSearch_no (text : Array Nat) (start lim : Nat) (h : ¬ start + 3 ≤ lim) : ((forSearch reCode text 0 start lim false).runFor 1).outcome = some .failed := by
  unfold forSearch
  show (M.runFor 1 (if (decide (start > lim) || decide (lim - start < 3)) = true then _ else _)).outcome = _
  rw [if_pos (by simp; omega)]
  rfl
section
variable {M : Model} {A : Around} {E : Value → Shared → Prop} {s : Shared}
theorem wp_drive {Q : Sre.M → Shared → Prop} : ∀ (turns n : Nat) (m : Sre.M), n ≤ 4 * turns → (m.runFor n).outcome.isSome = true → Q (m.runFor n) s → 0 < turns → wpAny M A (reDrive turns m) Q E s
  | 0, _, _, _, _, _, h => absurd h (Nat.lt_irrefl _)
  | turns + 1, n, m, hn, ho, hq, _ => by
    unfold reDrive
    show wpAny M A (if (m.runFor 4).outcome.isSome = true then pure (m.runFor 4) else do rule "sre.turn"; reDrive turns (m.runFor 4)) Q E s
    by_cases h4 : n ≤ 4
    · have e : m.runFor 4 = m.runFor n := by
        rw [show 4 = n + (4 - n) by omega, runFor_add, runFor_done _ _ ho]
      rw [e, if_pos ho]
      exact wpAny_pure hq
    · have e : m.runFor n = (m.runFor 4).runFor (n - 4) := by
        rw [← runFor_add, show 4 + (n - 4) = n by omega]
      by_cases hs : (m.runFor 4).outcome.isSome = true
      · rw [if_pos hs]
        rw [e, runFor_done _ _ hs] at hq
        exact wpAny_pure hq
      · rw [if_neg hs]
        rw [e] at ho hq
        exact wpAny_bind (wpAny_rule (wp_drive turns (n - 4) _ (by omega) ho hq (by omega)))
theorem wp_marks (b : Nat → Bool) (f : Nat → String) {Q : PUnit → Shared → Prop} (h : Q ⟨⟩ s) : ∀ l : List Nat, wpAny M A (forIn l PUnit.unit (fun i _ => if b i = true then (do rule (f i); pure (ForInStep.yield PUnit.unit)) else pure (ForInStep.yield PUnit.unit))) Q E s
  | [] => by simp only [List.forIn_nil]; exact wpAny_pure h
  | i :: r => by
    rw [List.forIn_cons]
    refine wpAny_bind ?_
    have ih := wp_marks b f h r
    split
    · exact wpAny_bind (wpAny_rule (wpAny_pure ih))
    · exact wpAny_pure ih
theorem least {p : Nat → Bool} : ∀ k, p k = true → ∃ k, p k = true ∧ ∀ j, j < k → p j = false := by
  intro k
  induction k using Nat.strongRecOn with
  | ind k ih =>
    intro hk
    by_cases hex : ∃ j, j < k ∧ p j = true
    · obtain ⟨j, hj, hp⟩ := hex
      exact ih j hj hp
    · refine ⟨k, hk, fun j hj => ?_⟩
      cases hp : p j with
      | false => rfl
      | true => exact absurd ⟨j, hj, hp⟩ hex
theorem wp_runToEnd {Q : Option Sre.M → Shared → Prop} {n : Nat} {m : Sre.M} (hn : n ≤ 4 * 2 ^ 64)
    (h : ((m.runFor n).outcome = some .matched ∧ Q (some (m.runFor n)) s) ∨ ((m.runFor n).outcome = some .failed ∧ Q none s)) : wpAny M A (reRunToEnd m) Q E s := by
  unfold reRunToEnd
  refine wpAny_bind (wp_drive (2 ^ 64) n m hn (by rcases h with h | h <;> rw [h.1] <;> rfl) ?_ (by decide))
  refine wpAny_bind ?_
  refine wpAny_mono (Q := fun _ s' => s' = s) ?_ ?_ fun _ _ h => h
  · exact wp_marks (Q := fun _ s' => s' = s) (fun i => (m.runFor n).seen.has i) (fun i => Sre.names.getD i "") rfl _
  · rintro _ _ rfl
    rcases h with ⟨h1, h2⟩ | ⟨h1, h2⟩
    · rw [h1]; exact wpAny_pure h2
    · rw [h1]; exact wpAny_pure h2
/-- the next match behind a place, or none -/
theorem wp_found {Q : Option Sre.M → Shared → Prop} {t : ReTarget} {start : Nat} (hc : t.code = reCode) (hg : t.groups = 0) (hl : t.lim = t.text.size) (hz : t.text.size ≤ 16777216)
    (hyes : ∀ k m, matchAt t.text t.text.size (start + k) = true → (∀ j, j < k → matchAt t.text t.text.size (start + j) = false) → m.start = start + k → m.handed = start + k + 3 → m.lastindex = -1 → Q (some m) s)
    (hno : (∀ j, start ≤ j → matchAt t.text t.text.size j = false) → Q none s) : wpAny M A (reNextFound t start false) Q E s := by
  unfold reNextFound
  rw [hc, hg, hl]
  by_cases hs : start + 3 ≤ t.text.size
  · rw [forSearch_eq _ _ _ hs]
    by_cases hex : ∃ k, matchAt t.text t.text.size (start + k) = true
    · obtain ⟨k₀, hk₀⟩ := hex
      obtain ⟨k, hk, hlt⟩ := least (p := fun k => matchAt t.text t.text.size (start + k)) k₀ hk₀
      have hlim : start + k + 2 < t.text.size := by
        unfold matchAt at hk
        simp only [Bool.and_eq_true, decide_eq_true_eq] at hk
        exact hk.1.1.1
      obtain ⟨n, f', s', hn, e⟩ := search_yes k start true (({} : Sre.Seen).add 14) hk hlt
      refine wp_runToEnd (n := n) (by omega) (.inl ?_)
      rw [e]
      exact ⟨rfl, hyes _ _ hk hlt rfl rfl rfl⟩
    · have hall : ∀ j, start ≤ j → matchAt t.text t.text.size j = false := fun j hj => by
        cases hm : matchAt t.text t.text.size j with
        | false => rfl
        | true => exact absurd ⟨j - start, by rw [show start + (j - start) = j by omega]; exact hm⟩ hex
      obtain ⟨n, f', s', hn, e⟩ := search_no (text := t.text) (lim := t.text.size) (t.text.size - start) start true (({} : Sre.Seen).add 14) (by omega) hall
      refine wp_runToEnd (n := n) (by omega) (.inr ?_)
      rw [e]
      exact ⟨rfl, hno hall⟩
  · refine wp_runToEnd (n := 1) (by omega) (.inr ⟨forSearch_no _ _ _ hs, hno fun j hj => ?_⟩)
    unfold matchAt
    rw [decide_eq_false (by omega)]
    rfl
end
end Mine
namespace Mine
/-- what the pattern's sub gives -/
def hdec : List Nat → List Nat
  | [] => []
  | 61 :: a :: b :: r => if hexd a && hexd b then (16 * hexn a + hexn b) :: hdec r else 61 :: hdec (a :: b :: r)
  | c :: r => c :: hdec r
theorem hdec_ne {c : Nat} {r : List Nat} (h : c ≠ 61) : hdec (c :: r) = c :: hdec r := by
  rw [hdec]
  intro a b r' h1 h2; exact absurd h1 h
theorem hdec_one {c : Nat} : hdec [c] = [c] := by
  rw [hdec]
  · rw [hdec]
  · intro a b r' h1 h2; cases h2
theorem hdec_two {c d : Nat} : hdec [c, d] = [c, d] := by
  rw [hdec]
  · rw [hdec_one]
  · intro a b r' h1 h2; cases h2
theorem hdec_yes {a b : Nat} {r : List Nat} (ha : hexd a = true) (hb : hexd b = true) : hdec (61 :: a :: b :: r) = (16 * hexn a + hexn b) :: hdec r := by
  rw [hdec, ha, hb]; rfl
theorem hdec_no {a b : Nat} {r : List Nat} (h : (hexd a && hexd b) = false) : hdec (61 :: a :: b :: r) = 61 :: hdec (a :: b :: r) := by
  rw [hdec, h]; rfl
section
variable {x : Array Nat}
theorem drop_at {s : Nat} (h : s < x.size) : x.toList.drop s = x.getD s 0 :: x.toList.drop (s + 1) := by
  have hl : s < x.toList.length := by simpa using h
  rw [List.drop_eq_getElem_cons hl]
  congr 1
  simp [Array.getD, h]
theorem hdec_match {s : Nat} (h : matchAt x x.size s = true) : ∃ a b, hexd a = true ∧ hexd b = true ∧ x.extract s (s + 3) = #[61, a, b] ∧ s + 3 ≤ x.size ∧
    hdec (x.toList.drop s) = (16 * hexn a + hexn b) :: hdec (x.toList.drop (s + 3)) := by
  unfold matchAt at h
  simp only [Bool.and_eq_true, decide_eq_true_eq, beq_iff_eq] at h
  obtain ⟨⟨⟨h1, h2⟩, h3⟩, h4⟩ := h
  have e : x.toList.drop s = 61 :: x.getD (s + 1) 0 :: x.getD (s + 2) 0 :: x.toList.drop (s + 3) := by
    rw [drop_at (by omega), drop_at (s := s + 1) (by omega), drop_at (s := s + 1 + 1) (by omega), h2]
  refine ⟨x.getD (s + 1) 0, x.getD (s + 2) 0, h3, h4, ?_, by omega, by rw [e, hdec_yes h3 h4]⟩
  refine Array.toList_inj.mp ?_
  rw [Array.toList_extract, List.extract_eq_take_drop, e, show s + 3 - s = 3 by omega]
  rfl
theorem hdec_step {s : Nat} (hs : s < x.size) (h : matchAt x x.size s = false) : hdec (x.toList.drop s) = x.getD s 0 :: hdec (x.toList.drop (s + 1)) := by
  rw [drop_at hs]
  by_cases hc : x.getD s 0 = 61
  · rw [hc]
    by_cases h1 : s + 2 < x.size
    · rw [drop_at (s := s + 1) (by omega), drop_at (s := s + 1 + 1) (by omega)]
      refine hdec_no ?_
      unfold matchAt at h
      rw [decide_eq_true h1, hc] at h
      simpa using h
    · by_cases h2 : s + 1 < x.size
      · rw [drop_at (s := s + 1) h2, List.drop_of_length_le (by simp; omega), hdec_two, hdec_one]
      · rw [List.drop_of_length_le (by simp; omega), hdec_one, hdec]
  · exact hdec_ne hc
theorem hdec_skip : ∀ (k s : Nat), s + k ≤ x.size → (∀ j, j < k → matchAt x x.size (s + j) = false) → hdec (x.toList.drop s) = (x.toList.drop s).take k ++ hdec (x.toList.drop (s + k))
  | 0, s, _, _ => by simp
  | k + 1, s, hs, h => by
    have ih := hdec_skip k (s + 1) (by omega) (fun j hj => by rw [show s + 1 + j = s + (j + 1) by omega]; exact h (j + 1) (by omega))
    rw [hdec_step (s := s) (by omega) (h 0 (by omega)), ih, drop_at (s := s) (by omega), List.take_succ_cons, List.cons_append, show s + 1 + k = s + (k + 1) by omega]
theorem hdec_rest {s : Nat} (hs : s ≤ x.size) (h : ∀ j, s ≤ j → matchAt x x.size j = false) : hdec (x.toList.drop s) = x.toList.drop s := by
  rw [hdec_skip (x.size - s) s (by omega) (fun j _ => h _ (by omega)), List.drop_of_length_le (i := s + (x.size - s)) (by simp; omega), List.take_of_length_le (by simp)]
  simp [hdec]
end
theorem hdec_length : ∀ (n : Nat) (l : List Nat), l.length ≤ n → (hdec l).length ≤ l.length
  | 0, l, h => by
    have : l = [] := List.length_eq_zero_iff.mp (by omega)
    subst this; simp [hdec]
  | n + 1, l, h => by
    unfold hdec
    split
    · simp
    · rename_i a b r
      simp only [List.length_cons] at h
      split
      · have := hdec_length n r (by omega)
        simp only [List.length_cons]; omega
      · have := hdec_length n (a :: b :: r) (by simp only [List.length_cons]; omega)
        simp only [List.length_cons] at this ⊢; omega
    · rename_i c r _
      simp only [List.length_cons] at h
      have := hdec_length n r (by omega)
      simp only [List.length_cons]; omega
end Mine
namespace Mine
/-- _ as a blank -/
def unline (c : Nat) : Nat := if c = 95 then 32 else c
def hdrS (x : Str) : Str := ⟨(hdec (x.cps.toList.map unline)).toArray⟩
theorem unline_free {l : List Nat} (h : 95 ∉ l) : l.map unline = l := by
  induction l with
  | nil => rfl
  | cons c r ih =>
    simp only [List.mem_cons, not_or] at h
    rw [List.map_cons, ih h.2]
    unfold unline
    rw [if_neg (fun q => h.1 q.symm)]
theorem unline_join : ∀ parts : List Str, (∀ p ∈ parts, 95 ∉ p.cps.toList) → (Str.join ⟨#[95]⟩ parts).cps.toList.map unline = (Str.join ⟨#[32]⟩ parts).cps.toList
  | [], _ => rfl
  | [p], h => unline_free (h p (List.mem_singleton.mpr rfl))
  | p :: q :: r, h => by
    have ih := unline_join (q :: r) fun a ha => h a (List.mem_cons_of_mem _ ha)
    show (p ++ ⟨#[95]⟩ ++ Str.join ⟨#[95]⟩ (q :: r)).cps.toList.map unline = (p ++ ⟨#[32]⟩ ++ Str.join ⟨#[32]⟩ (q :: r)).cps.toList
    rw [str_app, str_app, str_app, str_app, List.map_append, List.map_append, ih, unline_free (h p (List.mem_cons_self ..))]
    rfl
def repS (x : Str) : Str := ⟨(x.cps.toList.map unline).toArray⟩
theorem replace_line (x : Str) : Txt.replace x (Str.ofString "_") (Str.ofString " ") = repS x := by
  have e1 : Str.ofString "_" = ⟨#[95]⟩ := by decide +kernel
  have e2 : Str.ofString " " = ⟨#[32]⟩ := by decide +kernel
  refine str_eq ?_
  rw [e1, e2, StrLaws.replace_one, ← unline_join _ (StrLaws.split_free x 95), StrLaws.join_split]
  rfl
theorem repS_len (x : Str) : (repS x).length = x.length := by
  rw [str_len, str_len]
  show ((x.cps.toList.map unline).toArray.toList).length = _
  simp
theorem repS_hdec (x : Str) : (⟨(hdec (repS x).cps.toList).toArray⟩ : Str) = hdrS x := rfl
end Mine
namespace Mine
open PySem.Calls PySem.Builtin PySem.Builtin.Re PySem.Builtin.Str
def patObj (z : Str) (k1 k2 : Tok) (c : Addr) : Obj := { cls := .type "re.Pattern", data := .fields #[.str z k1, .int 256 k2, .int 0 0, .none, .none, .ref c, .int 0 0] }
def codeObj : Obj := { cls := .type "tuple", data := .seq #[.int 14 0, .int 8 0, .int 1 0, .int 3 0, .int 3 0, .int 1 0, .int 1 0, .int 61 0, .int 0 0, .int 16 0, .int 61 0, .int 24 0, .int 16 0, .int 2 0, .int 2 0, .int 13 0, .int 11 0, .int 9 0, .int 0 0, .int 67043328 0, .int 126 0, .int 126 0, .int 0 0, .int 0 0, .int 0 0, .int 0 0, .int 0 0, .int 1 0, .int 1 0] }
theorem code_eq : Array.map (fun x => x.toNat) (Array.map reRawOf ((some #[Value.int 14 0, .int 8 0, .int 1 0, .int 3 0, .int 3 0, .int 1 0, .int 1 0, .int 61 0, .int 0 0, .int 16 0, .int 61 0, .int 24 0, .int 16 0, .int 2 0, .int 2 0, .int 13 0, .int 11 0, .int 9 0, .int 0 0, .int 67043328 0, .int 126 0, .int 126 0, .int 0 0, .int 0 0, .int 0 0, .int 0 0, .int 0 0, .int 1 0, .int 1 0]).getD #[])) = reCode := by decide +kernel
section
variable {M : Model} {A : Around} {E : Value → Shared → Prop} {s : Shared}
theorem wp_target {pa ca : Addr} {z x : Str} {k1 k2 t : Tok} {Q : ReTarget → Shared → Prop} (h1 : s.heap.get? pa = some (patObj z k1 k2 ca)) (h2 : s.heap.get? ca = some codeObj)
    (h : Q ⟨.ref pa, .str x t, reCode, x.cps, 0, 0, 0, x.cps.size⟩ s) : wpAny M A (reWholeTarget (.ref pa) (.str x t)) Q E s := by
  obtain ⟨hp, g, d, tk, os⟩ := s
  repeat (any_goals (first | assumption | wp_step))
  rw [code_eq]
  exact h
end
section
variable {M : Model} {A : Around} {E : Value → Shared → Prop} {s : Shared} {h₀ : Heap} {L : Addr} {m : Str → Option Value} {news : List (Addr × Obj)}
theorem push_piece {prog : Program} {w : World} {P : Addr} {its : Array Value} {v : Value} {n : Nat} {Q : Unit → Shared → Prop} (F : Fr h₀ L s.heap m) (N : News h₀ L s.heap ((P, listOf its n) :: news)) (hP : ∀ p ∈ news, p.1 ≠ P)
    (h : ∀ h', Fr h₀ L h' m → News h₀ L h' ((P, listOf (its.push v) (n + 1)) :: news) → Q () { s with heap := h' }) (hsz : its.size ≤ sizeLine) : wpAny (PySem.model prog w) A (updateSeq P (·.push v)) Q E s := by
  have z := N (P, listOf its n) (.head _)
  have hs : Heap.SameBut P s.heap (s.heap.update P (Obj.mapSeq (·.push v))) := Heap.SameBut.update ..
  have ho' : (s.heap.update P (Obj.mapSeq (·.push v))).get? P = some (listOf (its.push v) (n + 1)) := by
    have e : Obj.mapSeq (·.push v) (listOf its n) = listOf (its.push v) (n + 1) := by
      show (⟨_, _, .seq (its.push v) (if (its.push v).size == its.size then n else n + 1), _⟩ : Obj) = _
      rw [if_neg (by simp)]
    rw [← e]
    exact Heap.get?_update_self _ z.1 rfl
  refine wpAny_updateSeq z.1 rfl (h _ (F.change hs z.2.1 z.2.2) ?_) hsz (by rw [Array.size_push]; omega)
  exact news_set (pre := []) N (fun p hp => nomatch hp) hP hs ho'
theorem new_match {x : Str} {t : Tok} {pa : Addr} {m' : Sre.M} {b e : Nat} {Q : Value → Shared → Prop} (F : Fr h₀ L s.heap m) (N : News h₀ L s.heap news) (hb : m'.start = b) (he : m'.handed = e) (hli : m'.lastindex = -1)
    (h : ∀ q tp h', Fr h₀ L h' m → News h₀ L h' ((q, matchObj x t pa x.cps.size (-1) tp) :: (tp, spanObj b e) :: news) → Q (.ref q) { s with heap := h' }) :
    wpAny M A (reNewMatch (.ref pa) (.str x t) 0 0 x.cps.size m') Q E s := by
  have e1 : reNewMatch (.ref pa) (.str x t) 0 0 x.cps.size m' = (do newFields "re.Match" [.str x t, .ref pa, rawInt 0, rawInt x.cps.size, rawInt m'.lastindex, ← newTuple [rawInt m'.start, rawInt m'.handed]]) := by
    rfl
  rw [e1, hb, he, hli]
  refine wpAny_bind (newTuple_N F N ?_ (by show 2 ≤ sizeLine; decide))
  intro h1 F1 N1
  exact wpAny_newObj_type (h _ _ _ (F1.push _) (N1.push F1 _)) (by size_fits)
end
def textOf (us : List (Str × Tok)) : List Nat := (us.map (·.1.cps.toList)).flatten
theorem textOf_snoc (us : List (Str × Tok)) (p : Str × Tok) : textOf (us ++ [p]) = textOf us ++ p.1.cps.toList := by
  unfold textOf
  rw [List.map_append, List.flatten_append]
  simp
theorem strValues_snoc (us : List (Str × Tok)) (p : Str × Tok) : (strValues us).toArray.push (.str p.1 p.2) = (strValues (us ++ [p])).toArray := by
  unfold strValues
  simp
theorem foldl_len (sep : Str) (h0 : sep.length = 0) : ∀ (l : List Str) (a : Nat), l.foldl (· + ·.length + sep.length) a = a + (l.map (·.length)).sum
  | [], a => by simp
  | y :: r, a => by
    rw [List.foldl_cons, foldl_len sep h0 r]
    simp only [List.map_cons, List.sum_cons]
    omega
theorem textOf_len (us : List (Str × Tok)) : (textOf us).length = ((us.map (·.1)).map (·.length)).sum := by
  induction us with
  | nil => rfl
  | cons p r ih =>
    unfold textOf at ih ⊢
    simp only [List.map_cons, List.flatten_cons, List.length_append, List.sum_cons, ih]
    rw [str_len]
theorem joinOk_empty {us : List (Str × Tok)} (h : (textOf us).length ≤ 16777216) : JoinOk ⟨#[]⟩ (us.map (·.1)) = true := by
  unfold JoinOk
  have e : (us.map (·.1)).toArray.foldl (· + ·.length + (⟨#[]⟩ : Str).length) 0 = (us.map (·.1)).foldl (· + ·.length + (⟨#[]⟩ : Str).length) 0 := by simp
  rw [e, foldl_len ⟨#[]⟩ rfl, Nat.zero_add, ← textOf_len]
  unfold tooLong
  rw [decide_eq_false (by rw [sizeLine_eq]; omega)]
  rfl
theorem join_empty : ∀ (us : List (Str × Tok)), (Str.join ⟨#[]⟩ (us.map (·.1))).cps.toList = textOf us
  | [] => rfl
  | [p] => by simp [Str.join, textOf]
  | p :: q :: r => by
    have ih := join_empty (q :: r)
    simp only [List.map_cons] at ih ⊢
    rw [Str.join]
    · rw [str_app, str_app, ih]
      unfold textOf
      simp
    · intro h; cases h
/-- a turn's code -/
def subCode (pa P : Addr) (f : Value) (x : Str) (tx : Tok) (n : Int) (d : Nat) (must : Bool) : Code :=
  .builtin "re.Pattern.sub.loop" ⟨[.ref pa, .str x tx, f, .int 1 0, .int 0 0, .int n 0, .int (d : Int) 0, .int (d : Int) 0, .bool must, .ref P, .bool false], []⟩
def subTail (pa P : Addr) (f : Value) (x : Str) (tx : Tok) (n : Int) (m : Sre.M) : Sem PySem.Fin := do
  let found ← reNewMatch (.ref pa) (.str x tx) 0 0 x.cps.size m
  let item ← holding [found] (if ((1 : Int) == 1) = true then call f [found] else do reExpand f (← reFound found))
  if (item != Value.none) = true then do
    updateSeq P (·.push item)
    again (subCode pa P f x tx (n + 1) m.handed (m.handed == m.start))
  else again (subCode pa P f x tx (n + 1) m.handed (m.handed == m.start))
def subEnd (P : Addr) (x : Str) (n : Int) : Sem PySem.Fin := do
  let joiner ← reSlice x.cps 0 0 0
  let items ← seqItems? (Value.ref P)
  if (items.getD #[]).isEmpty = true then do
    let text ← pure joiner
    if false = true then do
      let v ← holding [text] do newTuple [text, ← mkInt n]
      ret v
    else ret text
  else do
    let text ← call (Value.builtin (if ((0 : Nat) == 0) = true then "str.join" else "bytes.join")) [joiner, Value.ref P]
    if false = true then do
      let v ← holding [text] do newTuple [text, ← mkInt n]
      ret v
    else ret text
section
variable {prog : Program} {w : World} {A : Around} {R : Result → Shared → Prop} {h₀ : Heap} {L : Addr} {m : Str → Option Value} {news : List (Addr × Obj)}
theorem sub_loop {pa ca P : Addr} {f : Value} {z x : Str} {k1 k2 tx : Tok} {s₀ : Shared} (hx : x.cps.size ≤ 1000000)
    (hpa : h₀.get? pa = some (patObj z k1 k2 ca)) (hca : h₀.get? ca = some codeObj) (hP : ∀ p ∈ news, p.1 ≠ P)
    (hcb : ∀ (c a b bb ee : Nat) (q tp : Addr) (news' : List (Addr × Obj)) (s' : Shared) (Q E : Value → Shared → Prop), x.cps.extract bb ee = #[c, a, b] → hexd a = true → hexd b = true →
      (q, matchObj x tx pa x.cps.size (-1) tp) ∈ news' → (tp, spanObj bb ee) ∈ news' → Fr h₀ L s'.heap m → News h₀ L s'.heap news' →
      (∀ t9 h9 tk9, Fr h₀ L h9 m → News h₀ L h9 news' → Q (.str ⟨#[16 * hexn a + hexn b]⟩ t9) { s' with heap := h9, toks := tk9 }) → wpAny (PySem.model prog w) A.in1 (call f [.ref q]) Q E s')
    (hret : ∀ t9 h9 tk9, Fr h₀ L h9 m → News h₀ L h9 news → R (.ok (.ret (.str ⟨(hdec x.cps.toList).toArray⟩ t9))) { s₀ with heap := h9, toks := tk9 }) :
    ∀ (k d c : Nat) (n : Int) (us : List (Str × Tok)) (h : Heap) (tk : Nat), x.cps.size - d ≤ k → 0 ≤ n → d ≤ x.cps.size → us.length ≤ d → textOf us ++ hdec (x.cps.toList.drop d) = hdec x.cps.toList →
      Fr h₀ L h m → News h₀ L h ((P, listOf (strValues us).toArray c) :: news) →
      codeAny (PySem.model prog w) A (subCode pa P f x tx n d false) R { s₀ with heap := h, toks := tk } := by
  intro k
  induction k using Nat.strongRecOn with
  | ind k ih =>
    intro d c n us h tk hk hn hd hus hT F N
    have hz : x.cps.size ≤ 16777216 := by omega
    have hxl : x.length = x.cps.size := rfl
    -- the tail of a turn: the match made, the callback, the piece
    have tail : ∀ (m' : Sre.M) (b c' : Nat) (us' : List (Str × Tok)) (h' : Heap) (tk' : Nat), m'.start = b → m'.handed = b + 3 → m'.lastindex = -1 → matchAt x.cps x.cps.size b = true → d ≤ b → us'.length ≤ d + 1 →
        textOf us' ++ hdec (x.cps.toList.drop b) = hdec x.cps.toList → Fr h₀ L h' m → News h₀ L h' ((P, listOf (strValues us').toArray c') :: news) →
        wpAny (PySem.model prog w) A.in1 (subTail pa P f x tx n m') (fun fin s' => match fin with | .done f => R (.ok f) s' | .again c' => c'.quiet = true ∧ codeAny (PySem.model prog w) A c' R s') (fun e s' => R (.error e) s') { s₀ with heap := h', toks := tk' } := by
      intro m' b c' us' h' tk' hb he hli hm hdb hul hT' F' N'
      obtain ⟨a2, b2, ha, hb2, hext, hle, hdecm⟩ := hdec_match hm
      unfold subTail
      refine wpAny_bind (new_match F' N' hb he hli fun q tp h1 F1 N1 => ?_)
      refine wpAny_bind (wpAny_holding ?_)
      rw [if_pos (by decide)]
      refine hcb 61 a2 b2 b (b + 3) q tp _ _ _ _ hext ha hb2 (.head _) (.tail _ (.head _)) F1 N1 fun t9 h9 tk9 F9 N9 => ?_
      rw [if_pos (by rfl)]
      have N9' : News h₀ L h9 ((P, listOf (strValues us').toArray c') :: news) := fun p hp => N9 p (.tail _ (.tail _ hp))
      refine wpAny_bind (push_piece F9 N9' hP (fun h2 F2 N2 => ?_) (by simp [strValues, sizeLine_eq]; omega))
      rw [strValues_snoc us' (⟨#[16 * hexn a2 + hexn b2]⟩, t9)] at N2
      refine wpAny_pure ⟨Code.quiet_builtin _ (by decide +kernel), ?_⟩
      rw [he, hb, show (b + 3 == b) = false by simp]
      refine ih (x.cps.size - (b + 3)) (by omega) (b + 3) _ (n + 1) _ h2 tk9 (Nat.le_refl _) (by omega) hle (by simp; omega) ?_ F2 N2
      rw [textOf_snoc, List.append_assoc]
      rw [hdecm] at hT'
      exact hT'
    have last : ∀ (c' : Nat) (us' : List (Str × Tok)) (h' : Heap) (tk' : Nat), textOf us' = hdec x.cps.toList → us'.length ≤ 1000002 → Fr h₀ L h' m → News h₀ L h' ((P, listOf (strValues us').toArray c') :: news) →
        wpAny (PySem.model prog w) A.in1 (subEnd P x n) (fun fin s' => match fin with | .done f => R (.ok f) s' | .again c' => c'.quiet = true ∧ codeAny (PySem.model prog w) A c' R s') (fun e s' => R (.error e) s') { s₀ with heap := h', toks := tk' } := by
      intro c' us' h' tk' hT' hul F' N'
      have N0 : News h₀ L h' news := fun p hp => N' p (.tail _ hp)
      have hlist : h'.IsList P (strValues us').toArray := ⟨_, (N' _ (.head _)).1, rfl, c', rfl⟩
      have he0 : (⟨x.cps.extract 0 0⟩ : Str) = ⟨#[]⟩ := by congr 1; simp
      have hlen : (textOf us').length ≤ 16777216 := by
        have h1 := hdec_length _ x.cps.toList (Nat.le_refl _)
        rw [hT']
        simp only [Array.length_toList] at h1
        omega
      unfold subEnd
      refine wpAny_bind (show wpAny _ _ (mkStr ⟨x.cps.extract 0 0⟩) _ _ _ from wpAny_mkStr ?_ (by rw [he0]; show 0 ≤ sizeLine; omega))
      rw [he0]
      refine wpAny_bind (wpAny_seqItems (N' _ (.head _)).1 rfl ?_)
      by_cases hem : (strValues us').toArray.isEmpty = true
      · rw [show ((some (strValues us').toArray).getD #[]).isEmpty = true from hem, if_pos rfl]
        have hu : us' = [] := by
          simpa [strValues] using hem
        refine wpAny_bind (wpAny_pure ?_)
        rw [if_neg (by decide)]
        have := hret tk' h' (tk' + 1) F' N0
        rw [← hT', hu] at this
        exact wpAny_pure this
      · rw [show ((some (strValues us').toArray).getD #[]).isEmpty = false by simpa using hem, if_neg (by decide)]
        refine wpAny_bind (SC.join hlist rfl (joinOk_empty hlen) fun t' k => ?_)
        rw [if_neg (by decide)]
        have e2 : Txt.join ⟨#[]⟩ (us'.map (·.1)) = ⟨(hdec x.cps.toList).toArray⟩ := by
          refine str_eq ?_
          show (glued ⟨#[]⟩ _).cps.toList = _
          rw [StrLaws.glued_eq_join, join_empty, hT']
        rw [e2]
        exact wpAny_pure (hret t' h' k F' N0)
    refine codeAny_builtin entry_subloop ?_
    rw [Around.under_plainId (by decide +kernel)]
    unfold Builtin.«re.Pattern.sub.loop»
    dsimp only
    refine wpAny_bind (wp_target (F.keep _ _ hpa) (F.keep _ _ hca) ?_)
    dsimp only
    rw [if_neg (by decide)]
    refine wpAny_bind ?_
    rw [if_neg (by simp)]
    rw [Int.toNat_natCast]
    refine wp_found rfl rfl rfl hz ?_ ?_
    · intro k' m' hm hlt hs hh hli
      have hdk : d + k' + 3 ≤ x.cps.size := by
        obtain ⟨_, _, _, _, _, hle, _⟩ := hdec_match hm
        exact hle
      have hskip := hdec_skip (x := x.cps) k' d (by omega) hlt
      dsimp only
      by_cases h0 : d < m'.start
      · rw [if_pos h0]
        have hle2 : (x.cps.extract d m'.start).size ≤ x.cps.size := by rw [Array.size_extract]; omega
        refine wpAny_bind (show wpAny _ _ (mkStr ⟨x.cps.extract d m'.start⟩) _ _ _ from wpAny_mkStr ?_ (by show (x.cps.extract d m'.start).size ≤ sizeLine; rw [sizeLine_eq]; omega))
        refine wpAny_bind (push_piece F N hP (fun h2 F2 N2 => ?_) (by simp [strValues, sizeLine_eq]; omega))
        rw [strValues_snoc us (⟨x.cps.extract d m'.start⟩, _)] at N2
        refine tail m' (d + k') _ _ h2 _ hs (by omega) hli hm (by omega) (by simp; omega) ?_ F2 N2
        rw [textOf_snoc, List.append_assoc]
        have he : (⟨x.cps.extract d m'.start⟩ : Str).cps.toList = (x.cps.toList.drop d).take k' := by
          show (x.cps.extract d m'.start).toList = _
          rw [Array.toList_extract, List.extract_eq_take_drop, hs, show d + k' - d = k' by omega]
        rw [he, ← hskip]
        exact hT
      · rw [if_neg h0]
        have hk0 : k' = 0 := by omega
        subst hk0
        exact tail m' d _ us h tk (by omega) (by omega) hli (by simpa using hm) (Nat.le_refl _) (by omega) hT F N
    · intro hno
      have hrest := hdec_rest hd hno
      dsimp only
      by_cases h0 : d < x.cps.size
      · rw [if_pos h0]
        refine wpAny_bind (show wpAny _ _ (mkStr ⟨x.cps.extract d x.cps.size⟩) _ _ _ from wpAny_mkStr ?_ (by show (x.cps.extract d x.cps.size).size ≤ sizeLine; rw [Array.size_extract, sizeLine_eq]; omega))
        refine wpAny_bind (push_piece F N hP (fun h2 F2 N2 => ?_) (by simp [strValues, sizeLine_eq]; omega))
        rw [strValues_snoc us (⟨x.cps.extract d x.cps.size⟩, _)] at N2
        refine last _ _ h2 _ ?_ (by simp; omega) F2 N2
        rw [textOf_snoc]
        have he : (⟨x.cps.extract d x.cps.size⟩ : Str).cps.toList = x.cps.toList.drop d := by
          show (x.cps.extract d x.cps.size).toList = _
          rw [Array.toList_extract, List.extract_eq_take_drop, List.take_of_length_le (by simp)]
        rw [he, ← hrest]
        exact hT
      · rw [if_neg h0]
        refine last _ us h tk ?_ (by omega) F N
        rw [hrest, List.drop_of_length_le (by simp; omega), List.append_nil] at hT
        exact hT
theorem wp_notHeld {M : Model} {id : String} {y : Str} {t : Tok} {s : Shared} {E : Value → Shared → Prop} {Q : Unit → Shared → Prop} (h : Q () s) : wpAny M A (reNotHeld id (.str y t)) Q E s := by
  obtain ⟨hp, g, d, tk, os⟩ := s
  have f1 : isSubtype (.type "str") (.type "bytearray") = pure false := by rw [isSubtype_type]; kernel_rfl
  repeat (any_goals (first | assumption | wp_step))
theorem look_call : typeLookup (.type "function") "__call__" = pure (some (.builtin "function.__call__")) := by rw [typeLookup_type, builtinLookup_eq_fast]; kernel_rfl
theorem call_sub {pa ca f : Addr} {z x : Str} {k1 k2 tx : Tok} {fo : Obj} {s : Shared} {Q E : Value → Shared → Prop} (hx : x.cps.size ≤ 1000000)
    (hpa : h₀.get? pa = some (patObj z k1 k2 ca)) (hca : h₀.get? ca = some codeObj) (hf : h₀.get? f = some fo) (hfc : fo.cls = .type "function") (F : Fr h₀ L s.heap m) (N : News h₀ L s.heap news)
    (hcb : ∀ (c a b bb ee : Nat) (q tp : Addr) (news' : List (Addr × Obj)) (s' : Shared) (Q E : Value → Shared → Prop), x.cps.extract bb ee = #[c, a, b] → hexd a = true → hexd b = true →
      (q, matchObj x tx pa x.cps.size (-1) tp) ∈ news' → (tp, spanObj bb ee) ∈ news' → Fr h₀ L s'.heap m → News h₀ L s'.heap news' →
      (∀ t9 h9 tk9, Fr h₀ L h9 m → News h₀ L h9 news' → Q (.str ⟨#[16 * hexn a + hexn b]⟩ t9) { s' with heap := h9, toks := tk9 }) → wpAny (PySem.model prog w) A.in1 (call (.ref f) [.ref q]) Q E s')
    (hret : ∀ t9 h9 tk9, Fr h₀ L h9 m → News h₀ L h9 news → Q (.str ⟨(hdec x.cps.toList).toArray⟩ t9) { s with heap := h9, toks := tk9 }) :
    wpAny (PySem.model prog w) A (call (.builtin "re.Pattern.sub") [.ref pa, .ref f, .str x tx]) Q E s := by
  refine wpAny_call (codeAny_call_builtin slot_sub.plain entry_sub (slot_sub.check _ _ _ _ _ _ _ _ ⟨_, F.keep _ _ hpa, rfl⟩ (args_sub _ _ _) ?_))
  have hT : s.TypeIs (.ref f) "function" := ⟨_, F.keep _ _ hf, hfc⟩
  show wpAny _ _ (reSubstitute "re.Pattern.sub" "sub" false ⟨[.ref pa, .ref f, .str x tx], []⟩) _ _ _
  unfold reSubstitute
  dsimp only
  have hnamed : reNamed "re.Pattern.sub" "sub" ["repl", "string", "count"] 2 [.ref f, .str x tx] [] = pure [some (.ref f), some (.str x tx), none] := by rfl
  rw [hnamed]
  refine wpAny_bind (wpAny_pure ?_)
  dsimp only
  refine wpAny_bind (wpAny_pure ?_)
  refine wpAny_bind (wpAny_specialOf hT look_call ?_)
  rw [if_pos (by rfl)]
  refine wpAny_bind (wpAny_pure ?_)
  rw [if_pos (by rfl)]
  refine wpAny_bind (wpAny_pure ?_)
  dsimp only
  refine wpAny_bind (wpAny_holding (wp_target (F.keep _ _ hpa) (F.keep _ _ hca) ?_))
  rw [if_pos (by decide)]
  refine wpAny_bind (wp_notHeld ?_)
  refine wpAny_bind (newList_N F N (fun h' F' N' => ?_) (by show 0 ≤ sizeLine; omega))
  refine wpAny_pure ⟨Code.quiet_builtin _ (by decide +kernel), ?_⟩
  exact sub_loop (s₀ := s) hx hpa hca (fun p hp => Nat.ne_of_lt (Heap.lt_size (N p hp).1)) hcb hret x.cps.size 0 0 0 [] h' s.toks (by omega) (Int.le_refl 0) (Nat.zero_le _) (Nat.zero_le _) rfl F' N'
end
end Mine
namespace Mine
theorem fillH : PySem.Challenge.rw_dw5003_03.name = PySem.Challenge.rw_dw5003_03.name ∧ hd03.heap_39 = hd03.heap_39 := by
  k_fill
  exact ⟨rfl, rfl⟩
local macro_rules | `(tactic| walk_at "pad 0") => `(tactic| skip)
local macro_rules | `(tactic| walk_at "pad 1") => `(tactic| skip)
local macro_rules | `(tactic| walk_at "call builtin:re.Pattern.sub") => `(tactic| refine Stop.out ?_)
local macro_rules | `(tactic| walk_at "getMethod ref") => `(tactic| (refine meth_sub (o := patObj (Str.ofString "=[a-fA-F0-9]{2}") 285 317 35) (Fr.keep (by k_asm) _ _ (by (with_reducible rename Frag.In _ _ => kX9); exact kX9 _ _ rfl)) rfl rfl ?_))
local macro_rules | `(tactic| walk_at "call builtin:str.replace") => `(tactic| (refine SC.replaceW (Nat.ne_of_gt (by assumption)) (Nat.succ_ne_zero _) (Nat.ne_of_lt (Nat.lt_succ_self _)) (by decide +kernel) (by omega) (by decide +kernel) ?_; intro _ _))
theorem ctr_header (w : World) (x : Str) (t : Tok) (hx : x.length ≤ 100000) : Ctr w 65 5 60 [.str x t] (fun t => .str (hdrS x) t) := by
  intro p loose mean mg mb news dp un gd cn cs a ccd cl outer A₀ base h₀ L m s Q E B F X N T hk hd hu hret
  refine wpAny_call ?_
  k_dflt (refine' code_def ?k1 ?k2 ?k3 ?k4 ?k5 ?kA ?kF ?kK ?k6 ?k7 ?k8 ?k9 ?kB ?_ ?c2 ?c3 ?c4 ?c5; (case kA => exact rfl); (case kF => exact rfl); (case kK => assumption); (case k1 => k_asm); (case k2 => k_asm); (case k3 => k_asm); (case k4 => k_asm); (case k5 => k_asm); (case k6 => k_is); (case k7 => k_is); (case k8 => ktr_room); (case k9 => first | exact BindsTo.of_eq rfl | exact binds_K (by k_in) rfl (by k_is) rfl rfl rfl); (case c5 => decide); (case kB => exact locs rfl); (case c2 => exact rfl); (case c3 => exact rfl); (case c4 => exact rfl); k_whole; intro g' L' h' FG' F' N' B' X' T'; (try dsimp only); (try k_lift B'); (try k_fold))
  obtain ⟨tk0, htk0, hpos0⟩ : ∃ k0, k0 = s.toks + 1 ∧ 0 < k0 := ⟨_, rfl, by omega⟩
  show wpAny _ _ _ _ _ { heap := h', gens := s.gens, drawn := s.drawn, toks := s.toks + 1, os := s.os }
  rw [← htk0]
  k_steps
  · refine Stop.mk ?_
    rw [replace_line]
    (with_reducible rename Fr _ _ _ _ => FF)
    (with_reducible rename News _ _ _ _ => NN)
    have hxr : (repS x).length ≤ 100000 := by rw [repS_len]; exact hx
    refine call_sub (h₀ := g') (by have : (repS x).cps.size = (repS x).length := rfl; omega) (X' 36 _ rfl) (X' 35 _ rfl) (X' 58 _ rfl) rfl FF NN ?_ ?_
    · intro c a2 b2 bb ee q tp news9 s9 Q9 E9 hext ha hb hm1 hm2 F9 N9 hr
      k_dflt (refine' ctr_um w (repS x) _ c a2 b2 _ bb ee (-1) q tp hxr hext ha hb _ _ _ _ _ _ _ _ _ _ _ _ _ _ _ _ _ _ _ _ _ _ _ hm1 hm2 ?B F9 ?X N9 ?T ?hk ?hd ?hu hr; (case B => k_asm); (case X => k_asm); (case T => k_asm); (case hk => first | exact rfl | assumption); (case hd => ktr_room); (case hu => ktr_units))
    · intro t9 h9 tk9 F9 N9
      rw [repS_hdec]
      (try dsimp only)
      k_steps
      exact hret _ _ _ (by k_asm) (by k_asm)
end Mine
namespace Mine
/-- a text out of pieces -/
def textL (pc : Int → Str) (ns : List Int) : List Nat := (ns.map fun x => (pc x).cps.toList).flatten
theorem textL_snoc (pc : Int → Str) (ns : List Int) (x : Int) : textL pc (ns ++ [x]) = textL pc ns ++ (pc x).cps.toList := by
  unfold textL
  rw [List.map_append, List.flatten_append]
  simp
theorem textL_len {pc : Int → Str} (h : ∀ x, (pc x).length ≤ 3) (ns : List Int) : (textL pc ns).length ≤ 3 * ns.length := by
  induction ns with
  | nil => simp [textL]
  | cons x r ih =>
    have h1 := h x
    rw [str_len] at h1
    unfold textL at ih ⊢
    simp only [List.map_cons, List.flatten_cons, List.length_append, List.length_cons]
    omega
theorem tab_len (tab : List Str) (k : Nat) (h : tab.all (fun y => decide (y.length ≤ k)) = true) (i : Nat) : (tab.getD i Str.empty).length ≤ k := by
  rw [List.getD_eq_getElem?_getD]
  by_cases hi : i < tab.length
  · rw [List.getElem?_eq_getElem hi]
    have := List.all_eq_true.mp h tab[i] (List.getElem_mem hi)
    exact of_decide_eq_true this
  · rw [List.getElem?_eq_none (by omega)]
    exact Nat.zero_le _
end Mine
namespace Mine
theorem fillT : PySem.Challenge.rw_dw5003_03.name = PySem.Challenge.rw_dw5003_03.name ∧ hd03.heap_39 = hd03.heap_39 := by
  k_fill
  exact ⟨rfl, rfl⟩
local macro_rules | `(tactic| walk_at "pyIter ref") => `(tactic| refine Stop.out ?_)
local macro_rules | `(tactic| walk_at "InvEndN") => `(tactic| refine Stop.out ?_)
local macro_rules | `(tactic| walk_at "ite") => `(tactic| first | with_reducible refine ite_tt ?_ | with_reducible refine ite_ff ?_ | (with_reducible refine split_ine ?_ ?_ <;> intro _) | (with_reducible refine split_ieq ?_ ?_ <;> intro _) | with_reducible refine split_not ?_ | (with_reducible refine split_dec ?_ ?_ <;> intro _) | (with_reducible refine split_bool ?_ ?_ <;> intro _))
local macro_rules | `(tactic| walk_at "binaryOp FloorDiv int int") => `(tactic| (refine floordiv_int (by decide) ?_ (Or.inl (PyProof.noPylong_of_log2 (by decide +kernel)))))
local macro_rules | `(tactic| walk_at "binaryOp Mod int int") => `(tactic| (refine mod_int' (by decide) ?_))
local macro_rules | `(tactic| walk_at "execs cons") => `(tactic| ((with_reducible refine wpAny_execs_cons ?_); try dsimp only))
local macro_rules | `(tactic| walk_at "execs nil") => `(tactic| refine wpAny_execs_nil ?_)
local macro_rules | `(tactic| walk_at "inplaceOp Add str str") => `(tactic| ((with_reducible show wpAny _ _ (inplaceOp _ _ (Value.str (List.getD _ _ _) _)) _ _ _); refine Stop.out ?_))
def tab01 : List Str := [Str.ofString "=", Str.ofString "3", Str.ofString "=3D", Str.ofString "D", Str.ofString "_", Str.ofString " ", Str.ofString "\t", Str.ofString "\n", Str.ofString "\r", Str.ofString "\x0b", Str.ofString "\u3000", Str.ofString "\u00a0", Str.ofString "=20", Str.ofString "\x1f", Str.ofString "\u0085", Str.ofString "4"]
def piece01 (x : Int) : Str :=
  if x.fmod 32 < 16 then tab01.getD (x.fmod 32).toNat Str.empty
  else if (x.fdiv 32).fmod 55296 = 8232 ∨ (x.fdiv 32).fmod 55296 = 8233 then Str.ofString "."
  else ⟨#[((x.fdiv 32).fmod 55296).toNat]⟩
theorem piece01_len (x : Int) : (piece01 x).length ≤ 3 := by
  unfold piece01
  split
  · exact tab_len tab01 3 (by decide +kernel) _
  · split
    · decide +kernel
    · exact (by decide : 1 ≤ 3)
def textS (ns : List Int) : Str := ⟨(textL piece01 ns).toArray⟩
theorem ctr_text (w : World) (l : Addr) (vs : List Value) (ns : List Int) (nn : Nat) (hi : IntsAre vs ns) (hlen : ns.length ≤ 63) : ∀ (p : Program) (loose : List Str) (mean : ExcName → Option Value) (mg mb : Str → Option Value) (news : List (Addr × Obj)) (dp un : Nat) (gd : Option (List Code)) (cn : Str) (cs : Scope) (a : Addr) (ccd : Value) (cl : List (Str × Addr)) (outer : List Env) (A₀ : Around) (base h₀ : Heap) (L : Addr) (m : Str → Option Value) (s : Shared) (Q E : Value → Shared → Prop),
    (l, listOf vs.toArray nn) ∈ news → Below A₀ base outer h₀ → Fr h₀ L s.heap m → (hd03.heap_39 w.params).In h₀ → News h₀ L s.heap news → Top p loose mean mg mb h₀ → cs.kind = .function →
    dp + 2 < recursionLimit → un + 8 < cLine → Ret h₀ L m news s Q (fun t => .str (textS ns) t) →
      wpAny (PySem.model PySem.Challenge.pw_dw5003_03 w) (ktrTop dp un gd cn cs L a ccd cl outer) (call (.ref 74) [.ref l]) Q E s := by
  intro p loose mean mg mb news dp un gd cn cs a ccd cl outer A₀ base h₀ L m s Q E hm1 B F X N T hk hd hu hret
  refine wpAny_call ?_
  k_dflt (refine' code_def ?k1 ?k2 ?k3 ?k4 ?k5 ?kA ?kF ?kK ?k6 ?k7 ?k8 ?k9 ?kB ?_ ?c2 ?c3 ?c4 ?c5; (case kA => exact rfl); (case kF => exact rfl); (case kK => assumption); (case k1 => k_asm); (case k2 => k_asm); (case k3 => k_asm); (case k4 => k_asm); (case k5 => k_asm); (case k6 => k_is); (case k7 => k_is); (case k8 => ktr_room); (case k9 => first | exact BindsTo.of_eq rfl | exact binds_K (by k_in) rfl (by k_is) rfl rfl rfl); (case c5 => decide); (case kB => exact locs rfl); (case c2 => exact rfl); (case c3 => exact rfl); (case c4 => exact rfl); k_whole; intro g' L' h' FG' F' N' B' X' T'; (try dsimp only); (try k_lift B'); (try k_fold))
  k_steps
  · refine Stop.mk ?_
    (with_reducible rename Fr _ _ _ _ => FF)
    (with_reducible rename News _ _ _ _ => NN)
    refine' kst_listL (σ := Str × Tok) (ns := ns) (vs := vs) (nn := nn) (fun _ => news) (fun c => [(Str.ofString "text", Value.str c.1 c.2)]) (fun _ => True) [] (fun pre c => c.1.cps.toList = textL piece01 pre) (Str.ofString "", ?tk0) (by rfl) (fun _ => hm1) (by assumption) FF NN trivial ?k1 ?k2 ?k3 ?k4
    case k1 => intro p hp; cases List.mem_singleton.mp hp; rfl
    case k2 => rfl
    case k3 =>
      intro c pre post y ty u h tk own hys hmem hoff _ hp F3 N3
      clear FF NN
      have hpre : pre.length ≤ 63 := by rw [hys] at hlen; simp at hlen; omega
      have hcl : c.1.length ≤ 189 := by rw [str_len, hp]; have := textL_len piece01_len pre; omega
      (try dsimp only)
      (try k_fold)
      k_steps
      · refine Stop.mk ?_
        refine SBL.iadd (fun t' k => ?_) (by show c.1.length + (tab01.getD _ _).length ≤ sizeLine; have := tab_len tab01 3 (by decide +kernel) (y.fmod 32).toNat; rw [sizeLine_eq]; omega)
        k_steps
        refine Stop.mk ?_
        (with_reducible rename Fr _ _ _ _ => FF)
        (with_reducible rename News _ _ _ _ => NN)
        refine' kst_end (c.1 ++ tab01.getD (y.fmod 32).toNat Str.empty, ?tkq1) FF NN (fun p hp => List.mem_append_left _ hp) (fun p hp => List.mem_append_right _ hp) rfl trivial ?ksq1 ?krq1 ?kpq1
        case ksq1 => intro p hp; cases List.mem_singleton.mp hp; rfl
        case krq1 =>
          intro z h1 h2 h3
          simp only [List.forall_mem_cons, List.not_mem_nil, false_implies, implies_true, and_true, ne_eq] at h2
          simp [h1, h2, kstB]
        case kpq1 => 
                show (c.1 ++ tab01.getD (y.fmod 32).toNat Str.empty).cps.toList = textL piece01 (pre ++ [y])
                rw [textL_snoc, str_app, hp]
                unfold piece01
                rw [if_pos (by assumption)]
      · refine Stop.mk ?_
        (with_reducible rename Fr _ _ _ _ => FF)
        (with_reducible rename News _ _ _ _ => NN)
        refine' kst_end (c.1 ++ Str.ofString ".", ?tkq2) FF NN (fun p hp => List.mem_append_left _ hp) (fun p hp => List.mem_append_right _ hp) rfl trivial ?ksq2 ?krq2 ?kpq2
        case ksq2 => intro p hp; cases List.mem_singleton.mp hp; rfl
        case krq2 =>
          intro z h1 h2 h3
          simp only [List.forall_mem_cons, List.not_mem_nil, false_implies, implies_true, and_true, ne_eq] at h2
          simp [h1, h2, kstB]
        case kpq2 => 
                show (c.1 ++ Str.ofString ".").cps.toList = textL piece01 (pre ++ [y])
                rw [textL_snoc, str_app, hp]
                unfold piece01
                rw [if_neg (by assumption), if_pos (.inl (by assumption))]
      · refine Stop.mk ?_
        (with_reducible rename Fr _ _ _ _ => FF)
        (with_reducible rename News _ _ _ _ => NN)
        refine' kst_end (c.1 ++ Str.ofString ".", ?tkq3) FF NN (fun p hp => List.mem_append_left _ hp) (fun p hp => List.mem_append_right _ hp) rfl trivial ?ksq3 ?krq3 ?kpq3
        case ksq3 => intro p hp; cases List.mem_singleton.mp hp; rfl
        case krq3 =>
          intro z h1 h2 h3
          simp only [List.forall_mem_cons, List.not_mem_nil, false_implies, implies_true, and_true, ne_eq] at h2
          simp [h1, h2, kstB]
        case kpq3 => 
                show (c.1 ++ Str.ofString ".").cps.toList = textL piece01 (pre ++ [y])
                rw [textL_snoc, str_app, hp]
                unfold piece01
                rw [if_neg (by assumption), if_pos (.inr (by assumption))]
      · refine Stop.mk ?_
        (with_reducible rename Fr _ _ _ _ => FF)
        (with_reducible rename News _ _ _ _ => NN)
        refine' kst_end (c.1 ++ ⟨#[((y.fdiv 32).fmod 55296).toNat]⟩, ?tkq4) FF NN (fun p hp => List.mem_append_left _ hp) (fun p hp => List.mem_append_right _ hp) rfl trivial ?ksq4 ?krq4 ?kpq4
        case ksq4 => intro p hp; cases List.mem_singleton.mp hp; rfl
        case krq4 =>
          intro z h1 h2 h3
          simp only [List.forall_mem_cons, List.not_mem_nil, false_implies, implies_true, and_true, ne_eq] at h2
          simp [h1, h2, kstB]
        case kpq4 => 
                show (c.1 ++ ⟨#[((y.fdiv 32).fmod 55296).toNat]⟩).cps.toList = textL piece01 (pre ++ [y])
                rw [textL_snoc, str_app, hp]
                unfold piece01
                rw [if_neg (by assumption), if_neg (by omega)]
    case k4 =>
      intro c u h tk _ hp F3 N3
      clear FF NN
      k_steps
      have hz : c.1 = textS ns := str_eq hp
      rw [hz]
      exact hret _ _ _ (by k_asm) (by k_asm)
end Mine
namespace Mine
def hexC (k : Nat) : Nat := [48, 49, 50, 51, 52, 53, 54, 55, 56, 57, 65, 66, 67, 68, 69, 70].getD k 0
def endc (n : Nat) : Bool := [61, 13, 10, 11, 12, 28, 29, 30, 133].contains n
/-- the law's own spelling, a sign -/
def spell1 (n : Nat) : List Nat := if endc n then [61, hexC (n / 16), hexC (n % 16)] else [n]
def spellL (l : List Nat) : List Nat := (l.map spell1).flatten
def spellS (x : Str) : Str := ⟨(spellL x.cps.toList ++ [61, 10]).toArray⟩
theorem spellL_append (a b : List Nat) : spellL (a ++ b) = spellL a ++ spellL b := by
  unfold spellL
  rw [List.map_append, List.flatten_append]
theorem spellL_one (n : Nat) : spellL [n] = spell1 n := by simp [spellL]
theorem spell1_len (n : Nat) : (spell1 n).length ≤ 3 := by
  unfold spell1
  split <;> simp
theorem spellL_len (l : List Nat) : (spellL l).length ≤ 3 * l.length := by
  induction l with
  | nil => simp [spellL]
  | cons x r ih =>
    have h1 := spell1_len x
    unfold spellL at ih ⊢
    simp only [List.map_cons, List.flatten_cons, List.length_append, List.length_cons]
    omega
theorem ends_in {n : Nat} {b : Bool} (h : (Builtin.Str.occurrences (Str.ofString "=\r\n\x0b\x0c\x1c\x1d\x1e\u0085") ⟨#[n]⟩ 0 (Str.ofString "=\r\n\x0b\x0c\x1c\x1d\x1e\u0085").length 1).isEmpty = b) : endc n = !b := by
  have e := StrLaws.found_one (Str.ofString "=\r\n\x0b\x0c\x1c\x1d\x1e\u0085") n
  rw [h] at e
  rw [e]
  have : (Str.ofString "=\r\n\x0b\x0c\x1c\x1d\x1e\u0085").cps.toList = [61, 13, 10, 11, 12, 28, 29, 30, 133] := by decide +kernel
  rw [this]
  unfold endc
  rw [Bool.eq_iff_iff]
  simp
theorem endc_lt {n : Nat} (h : endc n = true) : n < 256 := by
  unfold endc at h
  simp at h
  omega
theorem fdiv16 (n : Nat) : ((n : Int).fdiv 16) = ((n / 16 : Nat) : Int) := by
  rw [Int.fdiv_eq_ediv_of_nonneg _ (by decide)]
  omega
theorem fmod16 (n : Nat) : ((n : Int).fmod 16) = ((n % 16 : Nat) : Int) := by
  rw [Int.fmod_eq_emod_of_nonneg _ (by decide)]
  omega
theorem hex_item {k : Nat} (h : k < 16) : Txt.item (Str.ofString "0123456789ABCDEF") (k : Int) = ⟨#[hexC k]⟩ := by
  have key : (List.range 16).all (fun k => Txt.item (Str.ofString "0123456789ABCDEF") (k : Int) == ⟨#[hexC k]⟩) = true := by decide +kernel
  exact beq_iff_eq.mp (List.all_eq_true.mp key k (List.mem_range.mpr h))
theorem txt_pre (pre : List Int) (n : Nat) : (pre ++ [(n : Int)]).map Int.toNat = pre.map Int.toNat ++ [n] := by
  rw [List.map_append]
  simp
theorem codes_nat (x : Str) : (KStt.codes x).map Int.toNat = x.cps.toList := by
  unfold KStt.codes
  rw [List.map_map]
  exact (List.map_congr_left (g := _root_.id) fun c _ => Int.toNat_natCast c).trans (List.map_id _)
end Mine
namespace Mine
def whiteB (n : Int) : Bool := decide (9 ≤ n ∧ n ≤ 13) || decide (28 ≤ n ∧ n ≤ 32) || decide (n = 133) || decide (8192 ≤ n ∧ n ≤ 8202) || decide (n = 160 ∨ n = 5760 ∨ n = 8239 ∨ n = 8287 ∨ n = 12288)
def endx (c : Nat) : Bool := [13, 11, 12, 28, 29, 30, 133].contains c
def looseB (c : Nat) : Bool := decide (c = 61) || (decide (c ≠ 10) && !endx c && whiteB (c : Int))
/-- two figures ahead -/
def hh : List Nat → Bool
  | a :: b :: _ => hexd a && hexd b
  | _ => false
def esc : List Nat → Bool
  | 61 :: r => hh r
  | _ => false
theorem sgl (c d : Nat) : ((⟨#[c]⟩ : Str) == ⟨#[d]⟩) = decide (c = d) := by
  by_cases h : c = d
  · subst h; simp
  · have ne : (⟨#[c]⟩ : Str) ≠ ⟨#[d]⟩ := by
      intro q
      injection q with q
      exact h (by simpa using q)
    rw [decide_eq_false h]
    exact beq_eq_false_iff_ne.mpr ne
theorem sg61 (c : Nat) : ((⟨#[c]⟩ : Str) == Str.ofString "=") = decide (c = 61) := by
  have e : Str.ofString "=" = ⟨#[61]⟩ := by decide +kernel
  rw [e, sgl]
theorem sg95 (c : Nat) : ((⟨#[c]⟩ : Str) == Str.ofString "_") = decide (c = 95) := by
  have e : Str.ofString "_" = ⟨#[95]⟩ := by decide +kernel
  rw [e, sgl]
theorem sg10' (c : Nat) : ((⟨#[c]⟩ : Str) == Str.ofString "\n") = decide (c = 10) := by
  have e : Str.ofString "\n" = ⟨#[10]⟩ := by decide +kernel
  rw [e, sgl]
theorem sg10 (c : Nat) : ((⟨#[c]⟩ : Str) != Str.ofString "\n") = decide (c ≠ 10) := by
  have e : Str.ofString "\n" = ⟨#[10]⟩ := by decide +kernel
  show (!((⟨#[c]⟩ : Str) == Str.ofString "\n")) = _
  rw [e, sgl, decide_not]
theorem ends7 {n : Nat} {b : Bool} (h : (Builtin.Str.occurrences (Str.ofString "\r\x0b\x0c\x1c\x1d\x1e\u0085") ⟨#[n]⟩ 0 (Str.ofString "\r\x0b\x0c\x1c\x1d\x1e\u0085").length 1).isEmpty = b) : endx n = !b := by
  have e := StrLaws.found_one (Str.ofString "\r\x0b\x0c\x1c\x1d\x1e\u0085") n
  rw [h] at e
  rw [e]
  have : (Str.ofString "\r\x0b\x0c\x1c\x1d\x1e\u0085").cps.toList = [13, 11, 12, 28, 29, 30, 133] := by decide +kernel
  rw [this]
  unfold endx
  rw [Bool.eq_iff_iff]
  simp
theorem loose_t1 {c : Nat} (h1 : ((⟨#[c]⟩ : Str) == Str.ofString "=") = true) : ((⟨#[c]⟩ : Str) == Str.ofString "=") = looseB c := by
  rw [h1]
  rw [sg61] at h1
  unfold looseB
  rw [h1]
  rfl
theorem loose_t2 {c : Nat} (h1 : ((⟨#[c]⟩ : Str) == Str.ofString "=") = false) (h2 : ((⟨#[c]⟩ : Str) != Str.ofString "\n") = false) : ((⟨#[c]⟩ : Str) != Str.ofString "\n") = looseB c := by
  rw [h2]
  rw [sg61] at h1
  rw [sg10] at h2
  unfold looseB
  rw [h1, h2]
  rfl
theorem loose_t3 {c : Nat} (h1 : ((⟨#[c]⟩ : Str) == Str.ofString "=") = false) (h2 : ((⟨#[c]⟩ : Str) != Str.ofString "\n") = true) (h3 : (Builtin.Str.occurrences (Str.ofString "\r\x0b\x0c\x1c\x1d\x1e\u0085") ⟨#[c]⟩ 0 (Str.ofString "\r\x0b\x0c\x1c\x1d\x1e\u0085").length 1).isEmpty = false) : (!!(Builtin.Str.occurrences (Str.ofString "\r\x0b\x0c\x1c\x1d\x1e\u0085") ⟨#[c]⟩ 0 (Str.ofString "\r\x0b\x0c\x1c\x1d\x1e\u0085").length 1).isEmpty) = looseB c := by
  rw [h3]
  have h3 := ends7 h3
  rw [sg61] at h1
  rw [sg10] at h2
  unfold looseB
  rw [h1, h2, h3]
  rfl
theorem loose_t4 {c : Nat} (h1 : ((⟨#[c]⟩ : Str) == Str.ofString "=") = false) (h2 : ((⟨#[c]⟩ : Str) != Str.ofString "\n") = true) (h3 : (Builtin.Str.occurrences (Str.ofString "\r\x0b\x0c\x1c\x1d\x1e\u0085") ⟨#[c]⟩ 0 (Str.ofString "\r\x0b\x0c\x1c\x1d\x1e\u0085").length 1).isEmpty = true) : whiteB (c : Int) = looseB c := by
  have h3 := ends7 h3
  rw [sg61] at h1
  rw [sg10] at h2
  unfold looseB
  rw [h1, h2, h3]
  simp
theorem q_bool {Q : Value → Shared → Prop} {s : Shared} {b b' : Bool} (h : b' = b) (hq : Q (.bool b) s) : Q (.bool b') s := h ▸ hq
end Mine
namespace Mine
open PySem.StrLaws PySem.Builtin PySem.Builtin.Str
theorem slice_past {x : Str} {i j : Int} (h0 : (x.length : Int) ≤ i) (h1 : (x.length : Int) ≤ j) : Txt.slice x (some i) (some j) = ⟨#[]⟩ := by
  have e : sliceText x (some i) (some j) = sliceText x (some (x.length : Int)) (some (x.length : Int)) := by
    have a : max (0 : Int) (min i (x.length : Int)) = x.length := by omega
    have b : max (0 : Int) (min j (x.length : Int)) = x.length := by omega
    have c : max (0 : Int) (min (x.length : Int) (x.length : Int)) = x.length := by omega
    have d1 : ¬ i < 0 := by omega
    have d2 : ¬ j < 0 := by omega
    have d3 : ¬ (x.length : Int) < 0 := by omega
    have : strSliceIndices (some i) (some j) 1 x.length = strSliceIndices (some (x.length : Int)) (some (x.length : Int)) 1 x.length := by
      simp only [strSliceIndices, if_neg d1, if_neg d2, if_neg d3]
      simp [a, b]
    unfold sliceText
    rw [this]
  show sliceText x (some i) (some j) = _
  have hl := str_len x
  rw [e, sliceText_plain ⟨by omega, by omega, by omega⟩]
  simp
theorem slice_one {x : Str} {i j : Int} (h0 : 0 ≤ i) (hj : j = i + 1) : (Txt.slice x (some i) (some j) != Str.ofString "") = decide (i < (x.length : Int)) := by
  subst hj
  have e0 : Str.ofString "" = ⟨#[]⟩ := by decide +kernel
  have hl := str_len x
  rw [e0]
  by_cases h : i < (x.length : Int)
  · rw [decide_eq_true h]
    have hp : Txt.slice x (some i) (some (i + 1)) = ⟨((x.cps.toList.drop i.toNat).take (i + 1 - i).toNat).toArray⟩ := sliceText_plain ⟨h0, by omega, by omega⟩
    obtain ⟨c, hd, _⟩ := item_drop h0 h
    rw [hp, hd, show (i + 1 - i).toNat = 1 by omega]
    rfl
  · rw [decide_eq_false h, slice_past (by omega) (by omega)]
    rfl
theorem hex22 {c : Nat} {b : Bool} (h : (occurrences (Str.ofString "0123456789ABCDEFabcdef") ⟨#[c]⟩ 0 (Str.ofString "0123456789ABCDEFabcdef").length 1).isEmpty = b) : hexd c = !b := by
  have e := StrLaws.found_one (Str.ofString "0123456789ABCDEFabcdef") c
  rw [h] at e
  have e2 := StrLaws.found_one hexText c
  have hm : decide (c ∈ hexText.cps.toList) = decide (c ∈ (Str.ofString "0123456789ABCDEFabcdef").cps.toList) := by
    have a1 : ∀ d ∈ hexText.cps.toList, d ∈ (Str.ofString "0123456789ABCDEFabcdef").cps.toList := by decide +kernel
    have a2 : ∀ d ∈ (Str.ofString "0123456789ABCDEFabcdef").cps.toList, d ∈ hexText.cps.toList := by decide +kernel
    exact decide_eq_decide.mpr ⟨a1 c, a2 c⟩
  rw [hexText_mem] at e2
  rw [e, ← hm, ← hexText_mem]
section
variable {x : Str} {k : Int} (h0 : 0 ≤ k) (hk : k < (x.length : Int))
include h0 hk
theorem esc_no1 (h : (Txt.item x k == Str.ofString "=") = false) : (Txt.item x k == Str.ofString "=") = esc (x.cps.toList.drop k.toNat) := by
  obtain ⟨c, hd, hi⟩ := item_drop h0 hk
  rw [h, hd]
  rw [hi, sg61] at h
  have h : c ≠ 61 := of_decide_eq_false h
  rw [esc]
  intro r q
  injection q with q
  exact absurd q h
theorem esc_yes (h : (Txt.item x k == Str.ofString "=") = true) : esc (x.cps.toList.drop k.toNat) = hh (x.cps.toList.drop (k + 1).toNat) := by
  obtain ⟨c, hd, hi⟩ := item_drop h0 hk
  rw [hd]
  rw [hi, sg61] at h
  have h : c = 61 := of_decide_eq_true h
  rw [h, esc]
theorem hh_no2 (h : (Txt.slice x (some (k + 1)) (some (k + 2)) != Str.ofString "") = false) : hh (x.cps.toList.drop (k + 1).toNat) = false := by
  rw [slice_one (by omega) (by omega)] at h
  have h := of_decide_eq_false h
  have hl := str_len x
  rw [List.drop_of_length_le (by omega), hh]
  intro a b r q
  cases q
theorem hh_no3 (h2 : k + 1 < (x.length : Int)) (h : (occurrences (Str.ofString "0123456789ABCDEFabcdef") (Txt.item x (k + 1)) 0 (Str.ofString "0123456789ABCDEFabcdef").length 1).isEmpty = true) : hh (x.cps.toList.drop (k + 1).toNat) = false := by
  obtain ⟨c, hd, hi⟩ := item_drop (ln := x) (i := k + 1) (by omega) h2
  rw [hi] at h
  have h := hex22 h
  rw [hd]
  unfold hh
  split
  · rename_i q; injection q with q _; subst q; rw [h]; rfl
  · rfl
theorem hh_no4 (h2 : k + 1 < (x.length : Int)) (h : (Txt.slice x (some (k + 2)) (some (k + 3)) != Str.ofString "") = false) : hh (x.cps.toList.drop (k + 1).toNat) = false := by
  rw [slice_one (by omega) (by omega)] at h
  have h := of_decide_eq_false h
  have hl := str_len x
  obtain ⟨c, hd, hi⟩ := item_drop (ln := x) (i := k + 1) (by omega) h2
  rw [hd, List.drop_of_length_le (by omega), hh]
  intro a b r q
  cases q
theorem hh_yes5 (h3 : k + 2 < (x.length : Int)) (h : (occurrences (Str.ofString "0123456789ABCDEFabcdef") (Txt.item x (k + 1)) 0 (Str.ofString "0123456789ABCDEFabcdef").length 1).isEmpty = false) : hh (x.cps.toList.drop (k + 1).toNat) = !(occurrences (Str.ofString "0123456789ABCDEFabcdef") (Txt.item x (k + 2)) 0 (Str.ofString "0123456789ABCDEFabcdef").length 1).isEmpty := by
  obtain ⟨c, hd, hi⟩ := item_drop (ln := x) (i := k + 1) (by omega) (by omega)
  obtain ⟨d, hd2, hi2⟩ := item_drop (ln := x) (i := k + 1 + 1) (by omega) (by omega)
  rw [hi] at h
  have h := hex22 h
  have e : k + 2 = k + 1 + 1 := by omega
  have h' := hex22 (c := d) rfl
  rw [hd, hd2, hh, h, h', e, hi2]
  rfl
end
end Mine
namespace Mine
/-- what a text costs beyond its length -/
def suD : Bool → List Nat → Nat
  | lp, [] => if lp then 1 else 0
  | lp, c :: r => (if esc (c :: r) || endx c then 2 else 0) + (if decide (c = 10) && lp then 2 else 0) + suD (looseB c) r
def suH : List Nat → Nat
  | [] => 0
  | c :: r => (if esc (c :: r) || decide (c = 95) then 2 else 0) + suH r
/-- is the sign ahead of place i a loose one -/
def lpA (l : List Nat) : Nat → Bool
  | 0 => false
  | i + 1 => looseB (l.getD i 0)
theorem suD_le (lp : Bool) (l : List Nat) : suD lp l ≤ 4 * l.length + 1 := by
  induction l generalizing lp with
  | nil => rw [suD]; split <;> simp
  | cons c r ih =>
    have := ih (looseB c)
    rw [suD, List.length_cons]
    split <;> split <;> omega
theorem suH_le (l : List Nat) : suH l ≤ 2 * l.length := by
  induction l with
  | nil => simp [suH]
  | cons c r ih =>
    rw [suH, List.length_cons]
    split <;> omega
theorem item_at {x : Str} {i : Nat} (h : (i : Int) < (x.length : Int)) : ∃ c, x.cps.toList.drop i = c :: x.cps.toList.drop (i + 1) ∧ Txt.item x (i : Int) = ⟨#[c]⟩ ∧ x.cps.toList.getD i 0 = c ∧ lpA x.cps.toList (i + 1) = looseB c := by
  obtain ⟨c, h1, h2⟩ := item_drop (ln := x) (i := (i : Int)) (by omega) h
  have e1 : ((i : Int)).toNat = i := by omega
  have e2 : ((i : Int) + 1).toNat = i + 1 := by omega
  rw [e1, e2] at h1
  have hg : x.cps.toList.getD i 0 = c := by
    have := congrArg (fun l => l.getD 0 0) h1
    simpa using this
  exact ⟨c, h1, h2, hg, by rw [lpA, hg]⟩
theorem item_prev {x : Str} {i : Nat} {k : Int} (hk : k = (i : Int)) (h0 : k > 0) (h : (i : Int) < (x.length : Int)) : ∃ d, Txt.item x (k - 1) = ⟨#[d]⟩ ∧ lpA x.cps.toList i = looseB d := by
  obtain ⟨j, rfl⟩ : ∃ j, i = j + 1 := ⟨i - 1, by omega⟩
  obtain ⟨c, _, h2, _, h4⟩ := item_at (x := x) (i := j) (by omega)
  refine ⟨c, ?_, h4⟩
  rw [← h2]
  congr 1
  omega
theorem item_end {x : Str} (h : (x.length : Int) ≠ 0) : ∃ d, Txt.item x (-1) = ⟨#[d]⟩ ∧ lpA x.cps.toList x.length = looseB d := by
  obtain ⟨c, h1, h2⟩ := item_last h
  refine ⟨c, h2, ?_⟩
  have hl := str_len x
  obtain ⟨j, hj⟩ : ∃ j, x.length = j + 1 := ⟨x.length - 1, by omega⟩
  rw [hj, lpA]
  congr 1
  rw [List.getLast?_eq_getElem?] at h1
  rw [List.getD_eq_getElem?_getD, show j = x.cps.toList.length - 1 by omega, h1]
  rfl
theorem q_int {Q : Value → Shared → Prop} {s : Shared} {b b' : Int} {t : Tok} (h : b' = b) (hq : Q (.int b t) s) : Q (.int b' t) s := h ▸ hq
theorem q_str {Q : Value → Shared → Prop} {s : Shared} {b b' : Str} {t : Tok} (h : b' = b) (hq : Q (.str b t) s) : Q (.str b' t) s := h ▸ hq
theorem str_none {x : Str} (h : (x != Str.ofString "") = false) : x.length = 0 := by
  have h : x = Str.ofString "" := by simpa using h
  rw [h]
  decide +kernel
end Mine
namespace Mine
/-- the law's own spelling -/
def pc1 (e lp : Bool) (c : Nat) : List Nat := if e then [61, 51, 68] else if endx c then [61, hexC (c / 16), hexC (c % 16)] else if decide (c = 10) && lp then [61, 10, 10] else [c]
def spD : Bool → List Nat → List Nat
  | lp, [] => if lp then [61] else []
  | lp, c :: r => pc1 (esc (c :: r)) lp c ++ spD (looseB c) r
def pcH (e : Bool) (c : Nat) : List Nat := if e then [61, 51, 68] else if decide (c = 95) then [61, 53, 70] else [c]
def spH : List Nat → List Nat
  | [] => []
  | c :: r => pcH (esc (c :: r)) c ++ spH r
theorem pc1_len (e lp : Bool) (c : Nat) : (pc1 e lp c).length ≤ 3 := by
  unfold pc1
  split
  · simp
  · split
    · simp
    · split <;> simp
theorem pcH_len (e : Bool) (c : Nat) : (pcH e c).length ≤ 3 := by
  unfold pcH
  split
  · simp
  · split <;> simp
def spSD (x : Str) : Str := ⟨(spD false x.cps.toList).toArray⟩
def spSH (x : Str) : Str := ⟨(spH x.cps.toList).toArray⟩
theorem spD_len (lp : Bool) (l : List Nat) : (spD lp l).length = l.length + suD lp l := by
  induction l generalizing lp with
  | nil => rw [spD, suD]; split <;> rfl
  | cons c r ih =>
    rw [spD, suD, List.length_append, ih, List.length_cons]
    have : (pc1 (esc (c :: r)) lp c).length = 1 + ((if esc (c :: r) || endx c then 2 else 0) + (if decide (c = 10) && lp then 2 else 0)) := by
      unfold pc1
      by_cases h1 : esc (c :: r) = true
      · have hc : c = 61 := by
          unfold esc at h1
          split at h1
          · rename_i q; injection q
          · cases h1
        subst hc
        rw [h1]
        rfl
      · have h1 : esc (c :: r) = false := by simpa using h1
        rw [h1]
        by_cases h2 : endx c = true
        · have hc : c ≠ 10 := by rintro rfl; revert h2; decide
          rw [h2, decide_eq_false hc]
          rfl
        · have h2 : endx c = false := by simpa using h2
          rw [h2]
          by_cases h3 : (decide (c = 10) && lp) = true
          · rw [h3]; rfl
          · have h3 : (decide (c = 10) && lp) = false := by simpa using h3
            rw [h3]; rfl
    omega
theorem spH_len (l : List Nat) : (spH l).length = l.length + suH l := by
  induction l with
  | nil => rfl
  | cons c r ih =>
    rw [spH, suH, List.length_append, ih, List.length_cons]
    have : (pcH (esc (c :: r)) c).length = 1 + (if esc (c :: r) || decide (c = 95) then 2 else 0) := by
      unfold pcH
      by_cases h1 : esc (c :: r) = true
      · rw [h1]; rfl
      · have h1 : esc (c :: r) = false := by simpa using h1
        rw [h1]
        by_cases h2 : decide (c = 95) = true
        · rw [h2]; rfl
        · have h2 : decide (c = 95) = false := by simpa using h2
          rw [h2]; rfl
    omega
theorem sp_next {c P : Str} {tot pc rest : List Nat} {n : Nat} (h0 : c.length ≤ 3 * n) (hp : c.cps.toList ++ (pc ++ rest) = tot) (hP : P.cps.toList = pc) (hl : pc.length ≤ 3) : (c ++ P).length ≤ 3 * (n + 1) ∧ (c ++ P).cps.toList ++ rest = tot := by
  rw [str_len, str_app, List.length_append, hP, List.append_assoc]
  rw [str_len] at h0
  exact ⟨by omega, hp⟩
theorem s3D : (Str.ofString "=3D").cps.toList = [61, 51, 68] := by decide +kernel
theorem s5F : (Str.ofString "=5F").cps.toList = [61, 53, 70] := by decide +kernel
theorem sLL : (Str.ofString "=\n\n").cps.toList = [61, 10, 10] := by decide +kernel
theorem s61 : (Str.ofString "=").cps.toList = [61] := by decide +kernel
theorem endx_lt {n : Nat} (h : endx n = true) : n < 256 := by
  unfold endx at h
  simp at h
  omega
theorem getD_one {x : Str} {k : Int} {c : Nat} (h : Txt.item x k = ⟨#[c]⟩) : (Txt.item x k).cps.getD 0 0 = c := by rw [h]; rfl
theorem hexpair {c : Nat} (h : c < 256) : (Str.ofString "=" ++ Txt.item (Str.ofString "0123456789ABCDEF") ((c : Int).fdiv 16) ++ Txt.item (Str.ofString "0123456789ABCDEF") ((c : Int).fmod 16)).cps.toList = [61, hexC (c / 16), hexC (c % 16)] := by
  rw [str_app, str_app, fdiv16, fmod16, hex_item (by omega), hex_item (by omega), s61]
  rfl
end Mine
namespace Mine
open PySem.StrLaws PySem.Builtin.Str
abbrev brk (c : Nat) : Bool := Unicode.isLineBreak c
/-- splitlines, on lists; acc: the line so far -/
def linesA : List Nat → List Nat → List (List Nat)
  | acc, [] => if acc = [] then [] else [acc]
  | acc, 13 :: 10 :: r => acc :: linesA [] r
  | acc, c :: r => if brk c then acc :: linesA [] r else linesA (acc ++ [c]) r
theorem linesA_crlf (acc r : List Nat) : linesA acc (13 :: 10 :: r) = acc :: linesA [] r := by rw [linesA]
theorem linesA_brk {acc r : List Nat} {c : Nat} (h : brk c = true) (hn : c = 13 → r.head? ≠ some 10) : linesA acc (c :: r) = acc :: linesA [] r := by
  rw [linesA, if_pos h]
  intro r' h1 h2
  exact hn h1 (by rw [h2]; rfl)
theorem linesA_not {acc r : List Nat} {c : Nat} (h : brk c = false) : linesA acc (c :: r) = linesA (acc ++ [c]) r := by
  have h13 : brk 13 = true := by decide +kernel
  rw [linesA, if_neg (by rw [h]; decide)]
  intro r' h1 h2
  subst h1
  rw [h13] at h
  cases h
def sub (s : Str) (i j : Nat) : List Nat := (s.cps.toList.drop i).take (j - i)
def lsLists (s : Str) (l : List (Nat × Nat × Nat)) : List (List Nat) := l.map fun p => sub s p.1 p.2.1
def V (s : Str) (st : LsSt) (cur : Nat) : List (List Nat) := lsLists s st.fst.toList ++ linesA (sub s st.snd (max cur st.snd)) (s.cps.toList.drop (max cur st.snd))
theorem sub_snoc {s : Str} {i j : Nat} (hij : i ≤ j) (hj : j < s.cps.size) : sub s i (j + 1) = sub s i j ++ [s.cps.getD j 0] := by
  unfold sub
  have hl : j - i < (s.cps.toList.drop i).length := by rw [List.length_drop, Array.length_toList]; omega
  rw [show j + 1 - i = (j - i) + 1 by omega, List.take_succ_eq_append_getElem hl]
  congr 2
  rw [List.getElem_drop]
  simp [Array.getD, show i + (j - i) = j by omega, hj]
theorem drop_at' {s : Str} {j : Nat} (h : j < s.cps.size) : s.cps.toList.drop j = s.cps.getD j 0 :: s.cps.toList.drop (j + 1) := by
  have hl : j < s.cps.toList.length := by simpa using h
  rw [List.drop_eq_getElem_cons hl]
  congr 1
  simp [Array.getD, h]
theorem ls_view (s : Str) : ∀ (m cur : Nat) (st : LsSt), cur + m = s.cps.size → st.snd ≤ cur + 1 →
    lsLists s (lsEnd s (Id.run (forIn (m := Id) (List.range' cur m) st (lsBody s)))) = V s st cur
  | 0, cur, (lines, start), hm, hs => by
    show lsLists s (lsEnd s (lines, start)) = _
    unfold lsEnd V
    dsimp only
    have hlen : s.length = s.cps.size := rfl
    rw [List.drop_of_length_le (i := max cur start) (by rw [Array.length_toList]; omega)]
    by_cases hlt : start < s.length
    · rw [if_pos hlt, Array.toList_push]
      unfold lsLists
      rw [List.map_append]
      congr 1
      have e : max cur start = s.cps.size := by omega
      rw [e, linesA, if_neg]
      · rfl
      · unfold sub
        intro h
        have := congrArg List.length h
        rw [List.length_take, List.length_drop, Array.length_toList] at this
        simp at this
        omega
    · rw [if_neg hlt, linesA, if_pos]
      · simp
      · unfold sub
        rw [List.drop_of_length_le (by rw [Array.length_toList]; omega)]
        simp
  | m + 1, cur, (lines, start), hm, hs => by
    rw [List.range'_succ, List.forIn_cons]
    have hcur : cur < s.cps.size := by omega
    have a3 : start ≤ cur + 1 := hs
    by_cases hle : start ≤ cur
    · by_cases hb : Unicode.isLineBreak (s.cps.getD cur 0) = true
      · have hstep : lsBody s cur (lines, start) = pure (ForInStep.yield (lines.push (start, cur, lsNext s cur), lsNext s cur)) := by
          unfold lsBody
          rw [if_pos (by rw [decide_eq_true hle, hb]; rfl)]
        rw [hstep]
        have hnb := lsNext_bounds s cur
        refine (ls_view s m (cur + 1) (lines.push (start, cur, lsNext s cur), lsNext s cur) (by omega) (by show lsNext s cur ≤ cur + 1 + 1; omega)).trans ?_
        unfold V
        dsimp only
        have e1 : max (cur + 1) (lsNext s cur) = lsNext s cur := by omega
        have e2 : max cur start = cur := by omega
        rw [e1, e2, Array.toList_push]
        unfold lsLists
        rw [List.map_append, List.append_assoc]
        congr 1
        show [sub s start cur] ++ linesA (sub s (lsNext s cur) (lsNext s cur)) _ = _
        have e3 : sub s (lsNext s cur) (lsNext s cur) = [] := by unfold sub; simp
        rw [e3, drop_at' hcur]
        unfold lsNext
        by_cases hc : (s.cps.getD cur 0 == 13 && s.cps[cur + 1]? == some 10) = true
        · rw [if_pos hc]
          simp only [Bool.and_eq_true, beq_iff_eq] at hc
          obtain ⟨h13, h10⟩ := hc
          have hlt : cur + 1 < s.cps.size := by
            by_cases h : cur + 1 < s.cps.size
            · exact h
            · rw [Array.getElem?_eq_none (by omega)] at h10; cases h10
          have h10' : s.cps.getD (cur + 1) 0 = 10 := by simp [Array.getD_eq_getD_getElem?, h10]
          rw [h13, drop_at' hlt, h10', linesA_crlf]
          rfl
        · rw [if_neg hc, linesA_brk hb]
          · rfl
          · intro h13 hh
            refine hc ?_
            rw [h13]
            have : s.cps[cur + 1]? = some 10 := by
              rw [List.head?_drop] at hh
              rw [← Array.getElem?_toList]
              exact hh
            rw [this]
            rfl
      · have hb' : brk (s.cps.getD cur 0) = false := by simpa using hb
        have hstep : lsBody s cur (lines, start) = pure (ForInStep.yield (lines, start)) := by
          unfold lsBody
          rw [show Unicode.isLineBreak (s.cps.getD cur 0) = false from hb']; simp
        rw [hstep]
        refine (ls_view s m (cur + 1) (lines, start) (by omega) (by show start ≤ cur + 1 + 1; omega)).trans ?_
        unfold V
        dsimp only
        have e1 : max (cur + 1) start = cur + 1 := by omega
        have e2 : max cur start = cur := by omega
        rw [e1, e2, drop_at' hcur, linesA_not hb', sub_snoc hle hcur]
    · have hstep : lsBody s cur (lines, start) = pure (ForInStep.yield (lines, start)) := by
        unfold lsBody
        rw [if_neg (by rw [decide_eq_false hle]; simp)]
      rw [hstep]
      refine (ls_view s m (cur + 1) (lines, start) (by omega) (by show start ≤ cur + 1 + 1; omega)).trans ?_
      unfold V
      dsimp only
      have e1 : max (cur + 1) start = max cur start := by omega
      rw [e1]
theorem lines_eq (x : Str) : (Txt.lines x).map (·.cps.toList) = linesA [] x.cps.toList := by
  have h := ls_view x x.length 0 ((#[], 0) : LsSt) (by show 0 + x.cps.size = _; omega) (by show 0 ≤ _; omega)
  rw [← ls_eq] at h
  have hV : V x ((#[], 0) : LsSt) 0 = linesA [] x.cps.toList := by
    unfold V sub lsLists
    simp
  rw [hV] at h
  have hof : (linesOf x).map (·.cps.toList) = lsLists x (lineSpans x) := by
    unfold linesOf lineCuts lsLists
    rw [List.map_map, List.map_map]
    apply List.map_congr_left
    intro p _
    exact StrLaws.strSub_toList x p.1 p.2.1
  unfold Txt.lines
  split
  · rename_i hc
    rw [← h, ← hof]
    have : lineCuts x = [(0, x.length)] := by simpa using hc
    unfold linesOf
    rw [this]
    simp only [List.map_cons, List.map_nil]
    rw [StrLaws.strSub_toList]
    simp [Str.length]
    exact (List.take_of_length_le (by simp)).symm
  · rw [hof, h]
end Mine
namespace Mine
def noSep (l : List Nat) : Prop := 8232 ∉ l ∧ 8233 ∉ l
theorem brk_cases (c : Nat) : brk c = true ↔ c = 10 ∨ c = 11 ∨ c = 12 ∨ c = 13 ∨ c = 28 ∨ c = 29 ∨ c = 30 ∨ c = 133 ∨ c = 8232 ∨ c = 8233 := by
  have e : brk c = Unicode.within UnicodeData.lineBreak c := rfl
  rw [e]
  simp only [UnicodeData.lineBreak, UnicodeData.lineBreak0, Unicode.within]
  repeat' split
  all_goals try simp only [Bool.or_eq_true, decide_eq_true_eq, Bool.or_false, Bool.false_eq_true, false_iff]
  all_goals omega
theorem linesA_one : ∀ (l acc : List Nat), (∀ c ∈ l, brk c = false) → linesA acc (l ++ [10]) = [acc ++ l]
  | [], acc, _ => by
    rw [List.nil_append, linesA_brk (by decide +kernel) (by decide)]
    simp [linesA]
  | c :: r, acc, h => by
    rw [List.cons_append, linesA_not (h c (List.mem_cons_self ..)), linesA_one r (acc ++ [c]) fun x hx => h x (List.mem_cons_of_mem _ hx)]
    simp
theorem linesA_free : ∀ (n : Nat) (l acc : List Nat), l.length ≤ n → (∀ c ∈ acc, brk c = false) → ∀ y ∈ linesA acc l, ∀ c ∈ y, brk c = false
  | n, [], acc, _, ha, y, hy => by
    rw [linesA] at hy
    split at hy
    · cases hy
    · cases List.mem_singleton.mp hy; exact ha
  | 0, c :: r, acc, hl, _, _, _ => by simp at hl
  | n + 1, c :: r, acc, hl, ha, y, hy => by
    simp only [List.length_cons] at hl
    by_cases hb : brk c = true
    · by_cases hc : c = 13 ∧ r.head? = some 10
      · obtain ⟨h1, h2⟩ := hc
        obtain ⟨r', rfl⟩ : ∃ r', r = 10 :: r' := by
          cases r with
          | nil => simp at h2
          | cons a b => simp at h2; exact ⟨b, by rw [h2]⟩
        rw [h1, linesA_crlf] at hy
        simp only [List.length_cons] at hl
        rcases List.mem_cons.mp hy with rfl | hy
        · exact ha
        · exact linesA_free n r' [] (by omega) (by simp) y hy
      · rw [linesA_brk hb (fun h1 h2 => hc ⟨h1, h2⟩)] at hy
        rcases List.mem_cons.mp hy with rfl | hy
        · exact ha
        · exact linesA_free n r [] (by omega) (by simp) y hy
    · have hb' : brk c = false := by simpa using hb
      rw [linesA_not hb'] at hy
      refine linesA_free n r (acc ++ [c]) (by omega) ?_ y hy
      intro x hx
      rcases List.mem_append.mp hx with hx | hx
      · exact ha x hx
      · cases List.mem_singleton.mp hx; exact hb'
/-- a sign that is no break stands in a line -/
theorem linesA_keep : ∀ (n : Nat) (l acc : List Nat) (c : Nat), l.length ≤ n → brk c = false → c ∈ acc ∨ c ∈ l → ∃ y ∈ linesA acc l, c ∈ y
  | n, [], acc, c, _, _, hc => by
    have hc : c ∈ acc := by simpa using hc
    rw [linesA, if_neg (by rintro rfl; cases hc)]
    exact ⟨acc, List.mem_singleton.mpr rfl, hc⟩
  | 0, c :: r, acc, _, hl, _, _ => by simp at hl
  | n + 1, d :: r, acc, c, hl, hb0, hc => by
    simp only [List.length_cons] at hl
    by_cases hb : brk d = true
    · have hdc : c ≠ d := by rintro rfl; rw [hb] at hb0; cases hb0
      by_cases hcr : d = 13 ∧ r.head? = some 10
      · obtain ⟨h1, h2⟩ := hcr
        obtain ⟨r', rfl⟩ : ∃ r', r = 10 :: r' := by
          cases r with
          | nil => simp at h2
          | cons a b => simp at h2; exact ⟨b, by rw [h2]⟩
        rw [h1, linesA_crlf]
        simp only [List.length_cons] at hl
        by_cases hca : c ∈ acc
        · exact ⟨acc, List.mem_cons_self .., hca⟩
        · have hc10 : c ≠ 10 := by rintro rfl; revert hb0; decide +kernel
          have hr : c ∈ r' := by
            rcases hc with h | h
            · exact absurd h hca
            · simpa [hdc, hc10] using h
          obtain ⟨y, hy, hcy⟩ := linesA_keep n r' [] c (by omega) hb0 (.inr hr)
          exact ⟨y, List.mem_cons_of_mem _ hy, hcy⟩
      · rw [linesA_brk hb (fun h1 h2 => hcr ⟨h1, h2⟩)]
        by_cases hca : c ∈ acc
        · exact ⟨acc, List.mem_cons_self .., hca⟩
        · have hr : c ∈ r := by
            rcases hc with h | h
            · exact absurd h hca
            · simpa [hdc] using h
          obtain ⟨y, hy, hcy⟩ := linesA_keep n r [] c (by omega) hb0 (.inr hr)
          exact ⟨y, List.mem_cons_of_mem _ hy, hcy⟩
    · have hb' : brk d = false := by simpa using hb
      rw [linesA_not hb']
      refine linesA_keep n r (acc ++ [d]) c (by omega) hb0 ?_
      rcases hc with h | h
      · exact .inl (List.mem_append_left _ h)
      · rcases List.mem_cons.mp h with rfl | h
        · exact .inl (List.mem_append_right _ (List.mem_singleton.mpr rfl))
        · exact .inr h
/-- rstrip, on lists -/
def rsL (l : List Nat) : List Nat := (Txt.rstrip ⟨l.toArray⟩).cps.toList
theorem rsL_facts (l : List Nat) : ∃ hi, hi ≤ l.length ∧ rsL l = l.take hi ∧ (∀ k, hi ≤ k → k < l.length → Unicode.isSpace (l.getD k 0) = true) ∧ (hi = 0 ∨ Unicode.isSpace (l.getD (hi - 1) 0) = false) := by
  have h := hi_facts Unicode.isSpace ⟨l.toArray⟩ 0 (Nat.zero_le _)
  have hlen : (⟨l.toArray⟩ : Str).length = l.length := by simp [Str.length]
  have hg : ∀ k, (⟨l.toArray⟩ : Str).cps.getD k 0 = l.getD k 0 := fun k => by rw [← getD_list]
  rw [hlen] at h
  obtain ⟨_, h1, h2, h3⟩ := h
  refine ⟨_, h1, ?_, fun k hk hk2 => by rw [← hg]; exact h2 k hk hk2, by rw [← hg]; exact h3⟩
  unfold rsL Txt.rstrip
  rw [PyProof.Rows.stripBy_eq]
  show (Builtin.Str.strSub ⟨l.toArray⟩ 0 (stripHi Unicode.isSpace true ⟨l.toArray⟩ 0)).cps.toList = _
  rw [StrLaws.strSub_toList]
  simp
theorem rsL_sub {l : List Nat} {c : Nat} (h : c ∈ rsL l) : c ∈ l := by
  obtain ⟨hi, _, e, _, _⟩ := rsL_facts l
  rw [e] at h
  exact List.mem_of_mem_take h
theorem rsL_keep {l : List Nat} {c : Nat} (h : c ∈ l) (hs : Unicode.isSpace c = false) : c ∈ rsL l := by
  obtain ⟨hi, _, e, h2, _⟩ := rsL_facts l
  rw [e]
  obtain ⟨k, hk, hkc⟩ := List.getElem_of_mem h
  by_cases hlt : k < hi
  · rw [← hkc]
    exact List.mem_take_iff_getElem.mpr ⟨k, by omega, rfl⟩
  · have := h2 k (by omega) hk
    rw [List.getD_eq_getElem?_getD, List.getElem?_eq_getElem hk, Option.getD_some, hkc, hs] at this
    cases this
theorem rsL_end {l : List Nat} {c : Nat} (hs : Unicode.isSpace c = false) : rsL (l ++ [c]) = l ++ [c] := by
  obtain ⟨hi, h1, e, h2, _⟩ := rsL_facts (l ++ [c])
  rw [e]
  refine List.take_of_length_le ?_
  by_cases hlt : hi ≤ l.length
  · have := h2 l.length hlt (by simp)
    rw [List.getD_eq_getElem?_getD] at this
    simp [hs] at this
  · simp; omega
theorem decLines_map (e : Str) (ls : List Str) : decLines e ls = ((ls.map (·.cps.toList)).map fun l => decLine e.cps.toList (rsL l)).flatten := by
  unfold decLines
  rw [List.map_map]
  rfl
theorem decLines_lines (e x : Str) : decLines e (Txt.lines x) = ((linesA [] x.cps.toList).map fun l => decLine e.cps.toList (rsL l)).flatten := by
  rw [decLines_map, lines_eq]
theorem hexC_ok {k : Nat} (h : k < 16) : hexd (hexC k) = true ∧ hexn (hexC k) = k := by
  have key : (List.range 16).all (fun k => hexd (hexC k) && hexn (hexC k) == k) = true := by decide +kernel
  have := List.all_eq_true.mp key k (List.mem_range.mpr h)
  simpa using this
theorem decLine_spell (e : List Nat) : ∀ l : List Nat, decLine e (spellL l ++ [61]) = l
  | [] => rfl
  | n :: r => by
    have ih := decLine_spell e r
    have e1 : spellL (n :: r) = spell1 n ++ spellL r := by simp [spellL]
    rw [e1]
    unfold spell1
    by_cases h : endc n = true
    · rw [if_pos h]
      have hn := endc_lt h
      obtain ⟨a1, a2⟩ := hexC_ok (k := n / 16) (by omega)
      obtain ⟨b1, b2⟩ := hexC_ok (k := n % 16) (by omega)
      show decLine e (61 :: hexC (n / 16) :: hexC (n % 16) :: (spellL r ++ [61])) = _
      rw [decLine_eq2 (by rw [a1, b1]; rfl), ih, a2, b2]
      congr 1
      omega
    · rw [if_neg h]
      show decLine e (n :: (spellL r ++ [61])) = _
      rw [decLine_cons (by rintro rfl; exact h (by decide)), ih]
theorem spell_nobrk {l : List Nat} (h : noSep l) : ∀ c ∈ spellL l ++ [61], brk c = false := by
  intro c hc
  rcases List.mem_append.mp hc with hc | hc
  · unfold spellL at hc
    obtain ⟨y, hy, hcy⟩ := List.mem_flatten.mp hc
    obtain ⟨n, hn, rfl⟩ := List.mem_map.mp hy
    unfold spell1 at hcy
    have hk : ∀ k, k < 16 → brk (hexC k) = false := by
      intro k hk
      have key : (List.range 16).all (fun k => brk (hexC k) == false) = true := by decide +kernel
      simpa using List.all_eq_true.mp key k (List.mem_range.mpr hk)
    by_cases h1 : endc n = true
    · rw [if_pos h1] at hcy
      have hn := endc_lt h1
      simp only [List.mem_cons, List.not_mem_nil, or_false] at hcy
      rcases hcy with rfl | rfl | rfl
      · decide +kernel
      · exact hk _ (by omega)
      · exact hk _ (by omega)
    · rw [if_neg h1] at hcy
      have hcn := List.mem_singleton.mp hcy
      subst hcn
      rw [← Bool.not_eq_true, brk_cases]
      have hno : endc c = false := by simpa using h1
      unfold endc at hno
      simp at hno
      have : c ≠ 8232 := by rintro rfl; exact h.1 hn
      have : c ≠ 8233 := by rintro rfl; exact h.2 hn
      omega
  · cases List.mem_singleton.mp hc
    decide +kernel
theorem decS_spell {x : Str} (h : noSep x.cps.toList) (e : Str) : decS (spellS x) e = x := by
  have hl : (spellS x).cps.toList = spellL x.cps.toList ++ [61, 10] := rfl
  have hl' : (spellS x).cps.toList = (spellL x.cps.toList ++ [61]) ++ [10] := by rw [hl]; simp
  unfold decS
  rw [if_neg (by rw [hl]; simp)]
  have hlast : lastIn (spellS x) = true := by
    unfold lastIn
    rw [hl', List.getLast?_concat]
    rfl
  rw [hlast]
  show (⟨(decLines e (Txt.lines (spellS x))).toArray⟩ : Str) = x
  rw [decLines_lines, hl', linesA_one _ [] (spell_nobrk h), List.nil_append]
  simp only [List.map_cons, List.map_nil, List.flatten_cons, List.flatten_nil, List.append_nil]
  rw [rsL_end (by decide +kernel), decLine_spell]
end Mine
namespace Mine
def nlS : Str := Str.ofString "\n"
/-- the rounds of a reader -/
def roundsD (D : Str → Str) (bad : Str → Str → Bool) : Nat → Str → Int → Int
  | 0, _, _ => -1
  | n + 1, x, r => if D x = x then r else if bad x (D x) then -1 else roundsD D bad n (D x) (r + 1)
def badD (D : Str → Str) (x y : Str) : Bool := decide (x.length < y.length) || (decide (y.length = x.length) && decide (D y ≠ y))
def badH (D : Str → Str) (x y : Str) : Bool := decide ((x.length : Int) - 2 < (y.length : Int)) && decide (D y ≠ y)
abbrev decN (x : Str) : Str := decS x (Str.ofString "\n")
theorem rounds_stop {D : Str → Str} {bad : Str → Str → Bool} {n : Nat} {x : Str} {r : Int} (h : D x = x) : roundsD D bad (n + 1) x r = r := by rw [roundsD, if_pos h]
theorem rounds_bad {D : Str → Str} {bad : Str → Str → Bool} {n : Nat} {x : Str} {r : Int} (h : D x ≠ x) (hb : bad x (D x) = true) : roundsD D bad (n + 1) x r = -1 := by rw [roundsD, if_neg h, if_pos hb]
theorem rounds_on {D : Str → Str} {bad : Str → Str → Bool} {n : Nat} {x : Str} {r : Int} (h : D x ≠ x) (hb : bad x (D x) = false) : roundsD D bad (n + 1) x r = roundsD D bad n (D x) (r + 1) := by rw [roundsD, if_neg h, hb]; rfl
theorem badD_t {D : Str → Str} {x y : Str} (h1 : (y.length : Int) = (x.length : Int)) (h2 : (D y != y) = true) : badD D x y = true := by
  have h1 : y.length = x.length := by omega
  unfold badD
  rw [decide_eq_true h1, decide_eq_true (by simpa using h2 : D y ≠ y)]
  simp
theorem badD_f1 {D : Str → Str} {x y : Str} (hle : y.length ≤ x.length) (h2 : (D y != y) = false) : badD D x y = false := by
  unfold badD
  have h2 : D y = y := by simpa using h2
  simp [h2, hle]
theorem badD_f2 {D : Str → Str} {x y : Str} (hle : y.length ≤ x.length) (h1 : (y.length : Int) ≠ (x.length : Int)) : badD D x y = false := by
  unfold badD
  have h1 : y.length ≠ x.length := by omega
  simp [h1, hle]
theorem badH_t {D : Str → Str} {x y : Str} (h1 : (x.length : Int) - 2 < (y.length : Int)) (h2 : (D y != y) = true) : badH D x y = true := by
  unfold badH
  rw [decide_eq_true h1, decide_eq_true (by simpa using h2 : D y ≠ y)]
  rfl
theorem badH_f1 {D : Str → Str} {x y : Str} (h2 : (D y != y) = false) : badH D x y = false := by
  unfold badH
  have h2 : D y = y := by simpa using h2
  simp [h2]
theorem badH_f2 {D : Str → Str} {x y : Str} (h1 : ¬ (x.length : Int) - 2 < (y.length : Int)) : badH D x y = false := by
  unfold badH
  rw [decide_eq_false h1]
  rfl
theorem hdrS_le (x : Str) : (hdrS x).length ≤ x.length := by
  rw [str_len, str_len]
  show (hdec (x.cps.toList.map unline)).length ≤ _
  have := hdec_length _ (x.cps.toList.map unline) (Nat.le_refl _)
  rw [List.length_map] at this
  exact this
theorem mul_le (x : Str) (n : Int) (h : n ≤ 30) (hx : x.length ≤ 2) : (Txt.mul x n).length ≤ 60 := len_mul_leN (L := 2) (N := 30) hx (by omega)
end Mine
namespace Mine
theorem hdec_less : ∀ (n : Nat) (l : List Nat), l.length ≤ n → hdec l = l ∨ (hdec l).length + 2 ≤ l.length
  | n, [], _ => .inl (by rw [hdec])
  | 0, a :: r, hl => by simp at hl
  | n + 1, a :: r, hl => by
    simp only [List.length_cons] at hl
    by_cases ha : a = 61
    · subst ha
      match r, hl with
      | [], _ => exact .inl hdec_one
      | [b], _ => exact .inl hdec_two
      | b :: d :: r, hl =>
        by_cases hh : (hexd b && hexd d) = true
        · simp only [Bool.and_eq_true] at hh
          rw [hdec_yes hh.1 hh.2]
          have := hdec_length _ r (Nat.le_refl _)
          exact .inr (by simp only [List.length_cons]; omega)
        · rw [hdec_no (by simpa using hh)]
          rcases hdec_less n (b :: d :: r) (by omega) with h | h
          · exact .inl (by rw [h])
          · exact .inr (by simp only [List.length_cons] at h ⊢; omega)
    · rw [hdec_ne ha]
      rcases hdec_less n r (by omega) with h | h
      · exact .inl (by rw [h])
      · exact .inr (by simp only [List.length_cons]; omega)
theorem unline_idem (l : List Nat) : (l.map unline).map unline = l.map unline := by
  rw [List.map_map]
  apply List.map_congr_left
  intro c _
  show unline (unline c) = unline c
  unfold unline
  by_cases h : c = 95
  · rw [if_pos h, if_neg (by decide)]
  · rw [if_neg h, if_neg h]
theorem hdrS_list (x : Str) : (hdrS x).cps.toList = hdec (x.cps.toList.map unline) := rfl
theorem hdrS_less (x : Str) : hdrS (hdrS x) = hdrS x ∨ (hdrS x).length + 2 ≤ x.length := by
  rcases hdec_less _ (x.cps.toList.map unline) (Nat.le_refl _) with h | h
  · refine .inl (str_eq ?_)
    rw [hdrS_list, hdrS_list, h, unline_idem, h]
  · refine .inr ?_
    rw [str_len, str_len, hdrS_list]
    rw [List.length_map] at h
    exact h
theorem hdrS_nil {x : Str} (h : x.length = 0) : hdrS x = x := by
  rw [str_len] at h
  have h := List.length_eq_zero_iff.mp h
  refine str_eq ?_
  rw [hdrS_list, h, List.map_nil, hdec]
theorem hrounds_t : ∀ (n : Nat) (x : Str) (r : Int), x.length + 1 ≤ n → ∃ t : Nat, 2 * t ≤ x.length + 1 ∧ roundsD hdrS (badH hdrS) n x r = r + t
  | 0, x, r, h => by omega
  | n + 1, x, r, h => by
    by_cases h0 : hdrS x = x
    · exact ⟨0, by omega, by rw [rounds_stop h0]; simp⟩
    · have hne : x.length ≠ 0 := fun q => h0 (hdrS_nil q)
      rcases hdrS_less x with h1 | h1
      · obtain ⟨m, rfl⟩ : ∃ m, n = m + 1 := ⟨n - 1, by omega⟩
        refine ⟨1, by omega, ?_⟩
        rw [rounds_on h0 (badH_f1 (by simpa using h1)), rounds_stop h1]
        rfl
      · obtain ⟨t, ht, e⟩ := hrounds_t n (hdrS x) (r + 1) (by omega)
        refine ⟨t + 1, by omega, ?_⟩
        rw [rounds_on h0 (badH_f2 (by omega)), e]
        omega
end Mine
namespace Mine
def LineOK (l d : List Nat) : Prop := (∃ p, d = p ++ [10] ∧ p.length ≤ l.length ∧ (p.length = l.length → p = l)) ∨ d.length + 1 ≤ l.length
theorem LineOK.cons {l d : List Nat} {c : Nat} (h : LineOK l d) : LineOK (c :: l) (c :: d) := by
  rcases h with ⟨p, e, h1, h2⟩ | h
  · refine .inl ⟨c :: p, by rw [e]; rfl, by simp only [List.length_cons]; omega, fun q => ?_⟩
    simp only [List.length_cons] at q
    rw [h2 (by omega)]
  · exact .inr (by simp only [List.length_cons]; omega)
theorem decLine_ok : ∀ (n : Nat) (l : List Nat), l.length ≤ n → LineOK l (decLine [10] l)
  | n, [], _ => .inl ⟨[], rfl, Nat.le_refl _, fun _ => rfl⟩
  | 0, a :: r, hl => by simp at hl
  | n + 1, a :: r, hl => by
    simp only [List.length_cons] at hl
    by_cases ha : a = 61
    · subst ha
      match r, hl with
      | [], _ => exact .inr (by rw [decLine_eq1]; simp)
      | [b], hl => rw [decLine_eq4]; exact (decLine_ok n [b] (by simp only [List.length_cons, List.length_nil] at hl ⊢; omega)).cons
      | b :: d :: r, hl =>
        by_cases hh : (hexd b && hexd d) = true
        · rw [decLine_eq2 hh]
          simp only [List.length_cons] at hl
          rcases decLine_ok n r (by omega) with ⟨p, e, h1, h2⟩ | h
          · exact .inl ⟨_ :: p, by rw [e]; rfl, by simp only [List.length_cons]; omega, fun q => by simp only [List.length_cons] at q; omega⟩
          · exact .inr (by simp only [List.length_cons]; omega)
        · rw [decLine_eq3 (by simpa using hh)]
          exact (decLine_ok n (b :: d :: r) (by omega)).cons
    · rw [decLine_cons ha]
      exact (decLine_ok n r (by omega)).cons
theorem rsL_len (l : List Nat) : (rsL l).length ≤ l.length ∧ ((rsL l).length = l.length → rsL l = l) := by
  obtain ⟨hi, h1, e, _, _⟩ := rsL_facts l
  rw [e]
  refine ⟨List.length_take_le' _ _, fun q => ?_⟩
  rw [List.length_take] at q
  exact List.take_of_length_le (by omega)
theorem line_ok (l : List Nat) : LineOK l (decLine [10] (rsL l)) := by
  obtain ⟨h1, h2⟩ := rsL_len l
  rcases decLine_ok _ (rsL l) (Nat.le_refl _) with ⟨p, e, a, b⟩ | h
  · exact .inl ⟨p, e, by omega, fun q => by rw [b (by omega), h2 (by omega)]⟩
  · exact .inr (by omega)
end Mine
namespace Mine
def FL (ls : List (List Nat)) : List Nat := (ls.map fun l => decLine [10] (rsL l)).flatten
def JL (ls : List (List Nat)) : List Nat := (ls.map fun l => l ++ [10]).flatten
theorem FL_cons (l : List Nat) (ls : List (List Nat)) : FL (l :: ls) = decLine [10] (rsL l) ++ FL ls := rfl
theorem JL_cons (l : List Nat) (ls : List (List Nat)) : JL (l :: ls) = (l ++ [10]) ++ JL ls := rfl
theorem line_le (l : List Nat) : (decLine [10] (rsL l)).length ≤ l.length + 1 ∧ ((decLine [10] (rsL l)).length = l.length + 1 → decLine [10] (rsL l) = l ++ [10]) := by
  rcases line_ok l with ⟨p, e, a, b⟩ | h
  · rw [e]
    simp only [List.length_append, List.length_singleton]
    exact ⟨by omega, fun q => by rw [b (by omega)]⟩
  · exact ⟨by omega, fun q => by omega⟩
/-- no unfinished line at the end -/
def linesE : List Nat → List Nat → Bool
  | acc, [] => decide (acc = [])
  | _, 13 :: 10 :: r => linesE [] r
  | acc, c :: r => if brk c then linesE [] r else linesE (acc ++ [c]) r
theorem linesE_crlf (acc r : List Nat) : linesE acc (13 :: 10 :: r) = linesE [] r := by rw [linesE]
theorem linesE_brk {acc r : List Nat} {c : Nat} (h : brk c = true) (hn : c = 13 → r.head? ≠ some 10) : linesE acc (c :: r) = linesE [] r := by
  rw [linesE, if_pos h]
  intro r' h1 h2
  exact hn h1 (by rw [h2]; rfl)
theorem linesE_not {acc r : List Nat} {c : Nat} (h : brk c = false) : linesE acc (c :: r) = linesE (acc ++ [c]) r := by
  have h13 : brk 13 = true := by decide +kernel
  rw [linesE, if_neg (by rw [h]; decide)]
  intro r' h1 h2
  subst h1
  rw [h13] at h
  cases h
def FOK (acc x : List Nat) (T : Nat) : Prop :=
  (linesE acc x = true → (FL (linesA acc x)).length ≤ T ∧ ((FL (linesA acc x)).length = T → FL (linesA acc x) = JL (linesA acc x))) ∧
  (linesE acc x = false → (∃ p, FL (linesA acc x) = p ++ [10] ∧ p.length ≤ T ∧ (p.length = T → FL (linesA acc x) = JL (linesA acc x))) ∨ (FL (linesA acc x)).length + 1 ≤ T)
theorem FL_ok : ∀ (n : Nat) (x acc : List Nat), x.length ≤ n → FOK acc x (acc.length + x.length)
  | n, [], acc, _ => by
    unfold FOK
    by_cases h : acc = []
    · subst h
      refine ⟨fun _ => by simp [linesA, FL, JL], fun q => ?_⟩
      simp [linesE] at q
    · have e : linesA acc [] = [acc] := by rw [linesA, if_neg h]
      rw [e]
      refine ⟨fun q => absurd (by simpa [linesE] using q) h, fun _ => ?_⟩
      have eF : FL [acc] = decLine [10] (rsL acc) := by simp [FL]
      have eJ : JL [acc] = acc ++ [10] := by simp [JL]
      rw [eF, eJ]
      rcases line_ok acc with ⟨p, e, a, b⟩ | h
      · exact .inl ⟨p, e, by simpa using a, fun q => by rw [e, b (by simpa using q)]⟩
      · exact .inr (by simpa using h)
  | 0, c :: r, acc, hl => by simp at hl
  | n + 1, c :: r, acc, hl => by
    simp only [List.length_cons] at hl
    by_cases hb : brk c = true
    · by_cases hc : c = 13 ∧ r.head? = some 10
      · obtain ⟨h1, h2⟩ := hc
        obtain ⟨r', rfl⟩ : ∃ r', r = 10 :: r' := by
          cases r with
          | nil => simp at h2
          | cons a b => simp at h2; exact ⟨b, by rw [h2]⟩
        simp only [List.length_cons] at hl
        obtain ⟨i1, i2⟩ := FL_ok n r' [] (by omega)
        have hle := (line_le acc).1
        unfold FOK
        rw [h1, linesA_crlf, linesE_crlf, FL_cons, JL_cons, List.length_append]
        simp only [List.length_cons, List.length_nil] at i1 i2 ⊢
        refine ⟨fun q => ?_, fun q => ?_⟩
        · have := (i1 q).1
          exact ⟨by omega, fun q => by omega⟩
        · rcases i2 q with ⟨p, e, a, b⟩ | h
          · refine .inl ⟨decLine [10] (rsL acc) ++ p, by rw [e, List.append_assoc], by rw [List.length_append]; omega, fun q => ?_⟩
            rw [List.length_append] at q
            omega
          · exact .inr (by omega)
      · obtain ⟨i1, i2⟩ := FL_ok n r [] (by omega)
        have hle := (line_le acc).1
        have hl2 := (line_le acc).2
        unfold FOK
        have hn : c = 13 → r.head? ≠ some 10 := fun h1 h2 => hc ⟨h1, h2⟩
        rw [linesA_brk hb hn, linesE_brk hb hn, FL_cons, JL_cons, List.length_append]
        simp only [List.length_cons, List.length_nil] at i1 i2 ⊢
        refine ⟨fun q => ?_, fun q => ?_⟩
        · obtain ⟨j1, j2⟩ := i1 q
          exact ⟨by omega, fun q => by rw [hl2 (by omega), j2 (by omega)]⟩
        · rcases i2 q with ⟨p, e, a, b⟩ | h
          · refine .inl ⟨decLine [10] (rsL acc) ++ p, by rw [e, List.append_assoc], by rw [List.length_append]; omega, fun q => ?_⟩
            rw [List.length_append] at q
            rw [hl2 (by omega), b (by omega)]
          · exact .inr (by omega)
    · have hb' : brk c = false := by simpa using hb
      have ih := FL_ok n r (acc ++ [c]) (by omega)
      unfold FOK at ih ⊢
      rw [linesA_not hb', linesE_not hb']
      simp only [List.length_append, List.length_cons, List.length_nil] at ih ⊢
      rw [show acc.length + (r.length + 1) = acc.length + (0 + 1) + r.length by omega]
      exact ih
end Mine
namespace Mine
theorem linesA_run : ∀ (l acc r : List Nat), (∀ c ∈ l, brk c = false) → linesA acc (l ++ r) = linesA (acc ++ l) r
  | [], acc, r, _ => by simp
  | c :: l, acc, r, h => by
    rw [List.cons_append, linesA_not (h c (List.mem_cons_self ..)), linesA_run l _ r fun d hd => h d (List.mem_cons_of_mem _ hd)]
    simp
theorem linesA_JL : ∀ (ls : List (List Nat)) (z : List Nat), (∀ l ∈ ls, ∀ c ∈ l, brk c = false) → linesA [] (JL ls ++ z) = ls ++ linesA [] z
  | [], z, _ => by simp [JL]
  | l :: ls, z, h => by
    rw [JL_cons, List.append_assoc, List.append_assoc, linesA_run l [] _ (h l (List.mem_cons_self ..)), List.singleton_append, linesA_brk (by decide +kernel) (fun q => absurd q (by decide)), linesA_JL ls z fun y hy => h y (List.mem_cons_of_mem _ hy)]
    rfl
theorem linesA_whole {l : List Nat} (h : ∀ c ∈ l, brk c = false) (hne : l ≠ []) : linesA [] l = [l] := by
  have := linesA_run l [] [] h
  rw [List.append_nil] at this
  rw [this, List.nil_append, linesA, if_neg hne]
theorem linesE_last : ∀ (n : Nat) (x acc : List Nat) (c : Nat), x.length ≤ n → brk c = true → x.getLast? = some c → linesE acc x = true
  | n, [], acc, c, _, _, h => by simp at h
  | 0, d :: r, acc, c, hl, _, _ => by simp at hl
  | n + 1, d :: r, acc, c, hl, hc, h => by
    simp only [List.length_cons] at hl
    have hr : ∀ a, r ≠ [] → linesE a r = true := fun a hne => linesE_last n r a c (by omega) hc (by
      cases r with
      | nil => exact absurd rfl hne
      | cons e r => rw [List.getLast?_cons_cons] at h; exact h)
    have nil_ok : linesE [] [] = true := by simp [linesE]
    by_cases hb : brk d = true
    · by_cases hcr : d = 13 ∧ r.head? = some 10
      · obtain ⟨h1, h2⟩ := hcr
        obtain ⟨r', rfl⟩ : ∃ r', r = 10 :: r' := by
          cases r with
          | nil => simp at h2
          | cons a b => simp at h2; exact ⟨b, by rw [h2]⟩
        rw [h1, linesE_crlf]
        simp only [List.length_cons] at hl
        by_cases hne : r' = []
        · rw [hne]; exact nil_ok
        · refine linesE_last n r' [] c (by omega) hc ?_
          cases r' with
          | nil => exact absurd rfl hne
          | cons e r => rw [List.getLast?_cons_cons, List.getLast?_cons_cons] at h; exact h
      · rw [linesE_brk hb (fun h1 h2 => hcr ⟨h1, h2⟩)]
        by_cases hne : r = []
        · rw [hne]; exact nil_ok
        · exact hr _ hne
    · have hb' : brk d = false := by simpa using hb
      rw [linesE_not hb']
      refine hr _ ?_
      rintro rfl
      simp at h
      rw [h] at hb'
      rw [hb'] at hc
      cases hc
theorem trim_cases (d : List Nat) : (∃ p, d = p ++ [10] ∧ trimEnd d [10] = p) ∨ (trimEnd d [10] = d ∧ d.getLast? ≠ some 10) := by
  rcases List.eq_nil_or_concat d with rfl | ⟨p, c, rfl⟩
  · exact .inr ⟨rfl, by simp⟩
  · unfold trimEnd
    simp only [List.concat_eq_append, List.length_append, List.length_singleton, Nat.add_sub_cancel, List.drop_left]
    by_cases hc : c = 10
    · subst hc
      refine .inl ⟨p, rfl, ?_⟩
      rw [if_pos (by simp), if_neg (by decide)]
      simp
    · refine .inr ⟨?_, by simpa using hc⟩
      rw [if_neg (by simpa using hc)]
theorem trim_snoc (p : List Nat) : trimEnd (p ++ [10]) [10] = p := by
  rcases trim_cases (p ++ [10]) with ⟨q, h1, h2⟩ | ⟨_, h⟩
  · rw [h2]; exact (List.append_inj' h1 rfl).1.symm
  · simp at h
theorem trim_le (d : List Nat) : (trimEnd d [10]).length ≤ d.length := by
  rcases trim_cases d with ⟨p, h1, h2⟩ | ⟨h, _⟩
  · rw [h2, h1, List.length_append]; omega
  · rw [h]; exact Nat.le_refl _
def lastL (l : List Nat) : Bool := l.getLast? == some 13 || l.getLast? == some 10
def decA (l : List Nat) : List Nat := if l = [] then [] else if lastL l then FL (linesA [] l) else trimEnd (FL (linesA [] l)) [10]
theorem JL_last {ls : List (List Nat)} (h : JL ls ≠ []) : lastL (JL ls) = true := by
  rcases List.eq_nil_or_concat ls with rfl | ⟨i, l, rfl⟩
  · exact absurd rfl h
  · unfold lastL JL
    simp
theorem FL_snoc (i : List (List Nat)) (l : List Nat) : FL (i ++ [l]) = FL i ++ decLine [10] (rsL l) := by simp [FL]
theorem JL_snoc (i : List (List Nat)) (l : List Nat) : JL (i ++ [l]) = JL i ++ (l ++ [10]) := by simp [JL]
theorem rsL_nil : rsL [] = [] := by decide +kernel
/-- a text whose lines stand as they stood is its own answer -/
theorem decA_JL {ls : List (List Nat)} (hf : ∀ l ∈ ls, ∀ c ∈ l, brk c = false) (h : FL ls = JL ls) : decA (JL ls) = JL ls := by
  unfold decA
  by_cases h0 : JL ls = []
  · rw [if_pos h0, h0]
  · rw [if_neg h0, if_pos (JL_last h0)]
    have := linesA_JL ls [] hf
    rw [List.append_nil] at this
    rw [this, linesA, if_pos rfl, List.append_nil, h]
theorem decA_part {ls : List (List Nat)} {p : List Nat} (hf : ∀ l ∈ ls, ∀ c ∈ l, brk c = false) (h : FL ls = JL ls) (hp : JL ls = p ++ [10]) : decA p = p := by
  rcases List.eq_nil_or_concat ls with rfl | ⟨i, l, rfl⟩
  · simp [JL] at hp
  · rw [List.concat_eq_append] at *
    rw [FL_snoc, JL_snoc] at h
    rw [JL_snoc, ← List.append_assoc] at hp
    have hp := (List.append_inj' hp rfl).1
    have hfi : ∀ y ∈ i, ∀ c ∈ y, brk c = false := fun y hy => hf y (List.mem_append_left _ hy)
    have hfl : ∀ c ∈ l, brk c = false := hf l (List.mem_append_right _ (List.mem_singleton.mpr rfl))
    by_cases hl : l = []
    · subst hl
      rw [List.append_nil] at hp
      rw [rsL_nil] at h
      have h := (List.append_inj' h rfl).1
      rw [← hp]
      exact decA_JL hfi h
    · unfold decA
      have hb13 : brk 13 = true := by decide +kernel
      have hb10 : brk 10 = true := by decide +kernel
      obtain ⟨m, c, rfl⟩ : ∃ m c, l = m ++ [c] := by
        rcases List.eq_nil_or_concat l with q | ⟨m, c, q⟩
        · exact absurd q hl
        · exact ⟨m, c, by rw [q, List.concat_eq_append]⟩
      have hc := hfl c (by simp)
      have h1 : c ≠ 13 := by rintro rfl; rw [hb13] at hc; cases hc
      have h2 : c ≠ 10 := by rintro rfl; rw [hb10] at hc; cases hc
      rw [if_neg (by rw [← hp]; simp), if_neg (by rw [← hp]; unfold lastL; simp [h1, h2]), ← hp, linesA_JL i _ hfi, linesA_whole hfl hl, FL_snoc, h, ← List.append_assoc, trim_snoc]
theorem decA_ok (x : List Nat) : (decA x).length ≤ x.length ∧ ((decA x).length = x.length → decA (decA x) = decA x) := by
  by_cases h0 : x = []
  · subst h0; exact ⟨Nat.le_refl _, fun _ => rfl⟩
  have hpos : 0 < x.length := List.length_pos_iff.mpr h0
  have hf := linesA_free _ x [] (Nat.le_refl _) (by simp)
  obtain ⟨i1, i2⟩ := FL_ok _ x [] (Nat.le_refl _)
  simp only [List.length_nil, Nat.zero_add] at i1 i2
  have ed : decA x = if lastL x then FL (linesA [] x) else trimEnd (FL (linesA [] x)) [10] := by
    unfold decA
    rw [if_neg h0]
  by_cases hE : linesE [] x = true
  · obtain ⟨j1, j2⟩ := i1 hE
    by_cases hL : lastL x = true
    · rw [if_pos hL] at ed
      rw [ed]
      refine ⟨j1, fun q => ?_⟩
      rw [j2 q]
      exact decA_JL hf (j2 q)
    · rw [if_neg hL] at ed
      rw [ed]
      have ht := trim_le (FL (linesA [] x))
      refine ⟨by omega, fun q => ?_⟩
      have e := j2 (by omega)
      exfalso
      rcases trim_cases (FL (linesA [] x)) with ⟨p, h1, h2⟩ | ⟨h1, h2⟩
      · rw [h2] at q
        rw [h1, List.length_append] at j1
        simp at j1
        omega
      · rw [e] at h2
        have hne : JL (linesA [] x) ≠ [] := by
          intro w
          rw [e, w] at q
          simp [trimEnd] at q
          omega
        rcases List.eq_nil_or_concat (linesA [] x) with w | ⟨i, l, w⟩
        · rw [w] at hne; exact hne rfl
        · rw [w, List.concat_eq_append, JL_snoc] at h2
          simp at h2
  · have hE : linesE [] x = false := by simpa using hE
    have hL : ¬ lastL x = true := by
      intro w
      unfold lastL at w
      simp only [Bool.or_eq_true, beq_iff_eq] at w
      rcases w with w | w
      · rw [linesE_last _ x [] 13 (Nat.le_refl _) (by decide +kernel) w] at hE; cases hE
      · rw [linesE_last _ x [] 10 (Nat.le_refl _) (by decide +kernel) w] at hE; cases hE
    rw [if_neg hL] at ed
    rw [ed]
    rcases i2 hE with ⟨p, e, a, b⟩ | h
    · rw [e, trim_snoc]
      refine ⟨a, fun q => ?_⟩
      have := b q
      exact decA_part hf this (by rw [← this, e])
    · have ht := trim_le (FL (linesA [] x))
      exact ⟨by omega, fun q => by omega⟩
theorem decN_A (x : Str) : (decN x).cps.toList = decA x.cps.toList := by
  have e10 : (Str.ofString "\n").cps.toList = [10] := by decide +kernel
  unfold decN decS decA
  rw [decLines_lines, e10]
  by_cases h : x.cps.toList = []
  · rw [if_pos h, if_pos h, h]
  · rw [if_neg h, if_neg h]
    rfl
end Mine
namespace Mine
theorem decN_le (x : Str) : (decN x).length ≤ x.length := by
  rw [str_len, str_len, decN_A]
  exact (decA_ok _).1
theorem decN_fix {x : Str} (h : (decN x).length = x.length) : decN (decN x) = decN x := by
  rw [str_len, str_len, decN_A] at h
  refine str_eq ?_
  rw [decN_A, decN_A]
  exact (decA_ok _).2 h
theorem decN_nil {x : Str} (h : x.length = 0) : decN x = x := by
  rw [str_len] at h
  have h := List.length_eq_zero_iff.mp h
  refine str_eq ?_
  rw [decN_A, h]
  rfl
theorem drounds_t : ∀ (n : Nat) (x : Str) (r : Int), x.length + 1 ≤ n → ∃ t : Nat, t ≤ x.length ∧ roundsD decN (badD decN) n x r = r + t
  | 0, x, r, h => by omega
  | n + 1, x, r, h => by
    by_cases h0 : decN x = x
    · exact ⟨0, by omega, by rw [rounds_stop h0]; simp⟩
    · have hne : x.length ≠ 0 := fun q => h0 (decN_nil q)
      have hle := decN_le x
      by_cases h1 : (decN x).length = x.length
      · have h2 := decN_fix h1
        obtain ⟨m, rfl⟩ : ∃ m, n = m + 1 := ⟨n - 1, by omega⟩
        refine ⟨1, by omega, ?_⟩
        rw [rounds_on h0 (badD_f1 hle (by simpa using h2)), rounds_stop h2]
        rfl
      · obtain ⟨t, ht, e⟩ := drounds_t n (decN x) (r + 1) (by omega)
        refine ⟨t + 1, by omega, ?_⟩
        rw [rounds_on h0 (badD_f2 hle (by omega)), e]
        omega
theorem drounds_ok (x : Str) : 0 ≤ roundsD decN (badD decN) (x.length + 1) x 0 ∧ roundsD decN (badD decN) (x.length + 1) x 0 ≤ (x.length : Int) := by
  obtain ⟨t, h, e⟩ := drounds_t (x.length + 1) x 0 (Nat.le_refl _)
  rw [e]
  omega
theorem hrounds_ok (x : Str) : 0 ≤ roundsD hdrS (badH hdrS) (x.length + 1) x 0 ∧ roundsD hdrS (badH hdrS) (x.length + 1) x 0 ≤ ((x.length : Int) + 1).fdiv 2 := by
  obtain ⟨t, h, e⟩ := hrounds_t (x.length + 1) x 0 (Nat.le_refl _)
  rw [e, Int.fdiv_eq_ediv_of_nonneg _ (by decide)]
  omega
theorem decLine_eqs : ∀ k : Nat, decLine [10] (List.replicate (k + 1) 61) = List.replicate k 61
  | 0 => rfl
  | 1 => by show decLine [10] [61, 61] = _; rw [decLine_eq4]; rfl
  | k + 2 => by
    have ih := decLine_eqs (k + 1)
    show decLine [10] (61 :: 61 :: 61 :: List.replicate k 61) = _
    rw [decLine_eq3 (by decide +kernel)]
    show 61 :: decLine [10] (List.replicate (k + 1 + 1) 61) = _
    rw [ih]
    rfl
theorem decA_eqs (k : Nat) : decA (List.replicate (k + 1) 61) = List.replicate k 61 := by
  have hb : ∀ c ∈ List.replicate (k + 1) 61, brk c = false := fun c hc => by rw [List.eq_of_mem_replicate hc]; decide +kernel
  have hr : rsL (List.replicate (k + 1) 61) = List.replicate (k + 1) 61 := by
    rw [List.replicate_succ']
    exact rsL_end (by decide +kernel)
  have hl : lastL (List.replicate (k + 1) 61) = false := by
    rw [List.replicate_succ']
    unfold lastL
    simp
  unfold decA
  rw [if_neg (by simp), hl, if_neg (by decide), linesA_whole hb (by simp)]
  show trimEnd (decLine [10] (rsL (List.replicate (k + 1) 61)) ++ []) [10] = _
  rw [hr, decLine_eqs, List.append_nil]
  rcases trim_cases (List.replicate k 61) with ⟨p, h1, _⟩ | ⟨h, _⟩
  · exfalso
    have : 10 ∈ List.replicate k 61 := by rw [h1]; simp
    have := List.eq_of_mem_replicate this
    revert this; decide
  · exact h
theorem rounds_eqs : ∀ (k : Nat) (m : Str) (r : Int), m.cps.toList = List.replicate k 61 → roundsD decN (badD decN) (k + 1) m r = r + k
  | 0, m, r, h => by
    rw [rounds_stop (decN_nil (by rw [str_len, h]; rfl))]
    simp
  | k + 1, m, r, h => by
    have e := decA_eqs k
    have hl : (decN m).cps.toList = List.replicate k 61 := by rw [decN_A, h, e]
    have l1 : (decN m).length = k := by rw [str_len, hl, List.length_replicate]
    have l2 : m.length = k + 1 := by rw [str_len, h, List.length_replicate]
    rw [rounds_on (fun q => by rw [q] at l1; omega) (badD_f2 (by omega) (by omega)), rounds_eqs k _ _ hl]
    omega
theorem deq_ok {z : Int} {m : Str} (h1 : 1 ≤ z) (h2 : z ≤ 24) (hm : Txt.mul (Str.ofString "=") z = m) : m.length ≤ 24 ∧ roundsD decN (badD decN) (m.length + 1) m 0 = z := by
  have e0 : Str.ofString "=" = ⟨#[61]⟩ := by decide +kernel
  have e : m.cps.toList = List.replicate z.toNat 61 := by rw [← hm, e0, mul_one_list]
  have hl : m.length = z.toNat := by rw [str_len, e, List.length_replicate]
  rw [hl]
  refine ⟨by omega, ?_⟩
  rw [rounds_eqs _ m 0 e]
  omega
def longS (z : Int) : Str := Txt.mul (Str.ofString "k") (1 - z.fmod 2) ++ Str.ofString "=" ++ Txt.mul (Str.ofString "3D") ((z - 3 + z.fmod 2).fdiv 2) ++ Str.ofString "5F"
def shortS (z : Int) : Str := Str.ofString "_" ++ Txt.mul (Str.ofString "k") (z - 1)
theorem long_all : ∀ k < 22, (longS ((k : Nat) + 3 : Int)).length = k + 3 ∧ roundsD hdrS (badH hdrS) ((longS ((k : Nat) + 3 : Int)).length + 1) (longS ((k : Nat) + 3 : Int)) 0 = (((k : Nat) + 3 : Int) + 1).fdiv 2 := by decide +kernel
theorem short_all : ∀ k < 2, (shortS ((k : Nat) + 1 : Int)).length = k + 1 ∧ roundsD hdrS (badH hdrS) ((shortS ((k : Nat) + 1 : Int)).length + 1) (shortS ((k : Nat) + 1 : Int)) 0 = (((k : Nat) + 1 : Int) + 1).fdiv 2 := by decide +kernel
theorem long1 {z : Int} {m n L : Str} (h1 : ¬ z < 3) (h2 : z ≤ 24) (hm : Txt.mul (Str.ofString "k") (1 - z.fmod 2) = m) (hn : Txt.mul (Str.ofString "3D") ((z - 3 + z.fmod 2).fdiv 2) = n) (hL : m ++ Str.ofString "=" ++ n ++ Str.ofString "5F" = L) : L.length ≤ 24 ∧ (L.length : Int) = z ∧ roundsD hdrS (badH hdrS) (L.length + 1) L 0 = (z + 1).fdiv 2 := by
  have e : L = longS z := by rw [← hL, ← hm, ← hn]; rfl
  have hz : z = (((z - 3).toNat : Nat) : Int) + 3 := by omega
  have k := long_all (z - 3).toNat (by omega)
  rw [← hz, ← e] at k
  obtain ⟨k1, k2⟩ := k
  exact ⟨by omega, by omega, k2⟩
theorem long2 {z : Int} {m L : Str} (h0 : 1 ≤ z) (h1 : z < 3) (hm : Txt.mul (Str.ofString "k") (z - 1) = m) (hL : Str.ofString "_" ++ m = L) : L.length ≤ 24 ∧ (L.length : Int) = z ∧ roundsD hdrS (badH hdrS) (L.length + 1) L 0 = (z + 1).fdiv 2 := by
  have e : L = shortS z := by rw [← hL, ← hm]; rfl
  have hz : z = (((z - 1).toNat : Nat) : Int) + 1 := by omega
  have k := short_all (z - 1).toNat (by omega)
  rw [← hz, ← e] at k
  obtain ⟨k1, k2⟩ := k
  exact ⟨by omega, by omega, k2⟩
end Mine
namespace Mine
def hd1 : List Nat → Bool
  | a :: _ => hexd a
  | [] => false
theorem hh_cons (a : Nat) (r : List Nat) : hh (a :: r) = (hexd a && hd1 r) := by
  cases r with
  | nil => rw [hh, hd1, Bool.and_false]; intro a b r q; cases q
  | cons b r => rfl
theorem hh_nil : hh [] = false := by rw [hh]; intro a b r q; cases q
theorem esc_61 (r : List Nat) : esc (61 :: r) = hh r := rfl
theorem esc_ne {c : Nat} {r : List Nat} (h : c ≠ 61) : esc (c :: r) = false := by
  rw [esc]
  intro r q
  injection q with q
  exact absurd q h
theorem h61 : hexd 61 = false := by decide +kernel
theorem hd1_sub {a : Nat} (y : List Nat) : hd1 (a :: y) = hexd a := rfl
theorem hh_hd1 {y : List Nat} (h : hh y = true) : hd1 y = true := by
  cases y with
  | nil => rw [hh_nil] at h; cases h
  | cons a r => rw [hh_cons] at h; simp at h; exact h.1
theorem pcH_head (e : Bool) (c : Nat) : (∃ t, pcH e c = 61 :: t) ∨ pcH e c = [c] := by
  unfold pcH
  split
  · exact .inl ⟨_, rfl⟩
  · split
    · exact .inl ⟨_, rfl⟩
    · exact .inr rfl
theorem spH_hd1 {r : List Nat} (h : hd1 r = false) : hd1 (spH r) = false := by
  cases r with
  | nil => rfl
  | cons a r =>
    rw [spH]
    rcases pcH_head (esc (a :: r)) a with ⟨t, e⟩ | e
    · rw [e]; exact h61
    · rw [e]; exact h
theorem spH_hh {r : List Nat} (h : hh r = false) : hh (spH r) = false := by
  cases r with
  | nil => exact hh_nil
  | cons a r =>
    rw [spH]
    rcases pcH_head (esc (a :: r)) a with ⟨t, e⟩ | e
    · rw [e, List.cons_append, hh_cons, h61]; rfl
    · rw [e, List.singleton_append, hh_cons]
      rw [hh_cons] at h
      cases ha : hexd a
      · rfl
      · rw [ha, Bool.true_and] at h
        rw [spH_hd1 h]; rfl
theorem hdec_eq {x : List Nat} (h : hh x = false) : hdec (61 :: x) = 61 :: hdec x := by
  match x, h with
  | [], _ => rw [hdec_one, hdec]
  | [b], _ => rw [hdec_two, hdec_one]
  | b :: d :: r, h => exact hdec_no (by rw [hh_cons] at h; exact h)
theorem hx51 : hexd 51 = true ∧ hexd 68 = true ∧ hexd 53 = true ∧ hexd 70 = true := by decide +kernel
theorem hdec_sp : ∀ l : List Nat, hdec (spH l) = l
  | [] => by rw [spH, hdec]
  | c :: r => by
    have ih := hdec_sp r
    obtain ⟨x1, x2, x3, x4⟩ := hx51
    rw [spH]
    by_cases hc : c = 61
    · subst hc
      rw [esc_61]
      cases he : hh r
      · show hdec (61 :: spH r) = _
        rw [hdec_eq (spH_hh he), ih]
      · show hdec (61 :: 51 :: 68 :: spH r) = _
        rw [hdec_yes x1 x2, ih]
        rfl
    · rw [esc_ne hc]
      by_cases h95 : c = 95
      · subst h95
        show hdec (61 :: 53 :: 70 :: spH r) = _
        rw [hdec_yes x3 x4, ih]
        rfl
      · have : pcH false c = [c] := by
          unfold pcH
          rw [decide_eq_false h95]
          rfl
        rw [this, List.singleton_append, hdec_ne hc, ih]
theorem spH_95 (l : List Nat) : 95 ∉ spH l := by
  induction l with
  | nil => simp [spH]
  | cons c r ih =>
    rw [spH, List.mem_append]
    rintro (h | h)
    · unfold pcH at h
      split at h
      · revert h; decide
      · split at h
        · revert h; decide
        · rename_i q
          have := List.mem_singleton.mp h
          exact q (decide_eq_true this.symm)
    · exact ih h
theorem hdrS_sp (x : Str) : hdrS (spSH x) = x := by
  refine str_eq ?_
  show hdec ((spH x.cps.toList).map unline) = _
  rw [unline_free (spH_95 _), hdec_sp]
/-- the price of header_decode's answer -/
theorem price_h : ∀ (n : Nat) (m : List Nat), m.length ≤ n → 95 ∉ m → (hdec m).length + suH (hdec m) ≤ m.length ∧ (hh m = false → hh (hdec m) = true → (hdec m).length + suH (hdec m) + 2 ≤ m.length) ∧ (hd1 m = false → hd1 (hdec m) = true → (hdec m).length + suH (hdec m) + 2 ≤ m.length)
  | n, [], _, _ => by
    rw [hdec]
    refine ⟨by simp [suH], fun _ h => ?_, fun _ h => by cases h⟩
    rw [hh_nil] at h; cases h
  | 0, c :: r, h, _ => by simp at h
  | n + 1, c :: r, hl, h95 => by
    simp only [List.length_cons] at hl
    simp only [List.mem_cons, not_or] at h95
    by_cases hc : c = 61
    · subst hc
      cases he : hh r
      · obtain ⟨i1, i2, i3⟩ := price_h n r (by omega) h95.2
        have i2 := i2 he
        rw [hdec_eq he]
        have es : suH (61 :: hdec r) = (if hh (hdec r) then 2 else 0) + suH (hdec r) := by
          rw [suH, esc_61]
          simp
        rw [es]
        simp only [List.length_cons]
        refine ⟨?_, fun _ h => ?_, fun _ h => ?_⟩
        · cases hq : hh (hdec r)
          · simp; omega
          · have := i2 hq
            simp; omega
        · rw [hh_cons, h61] at h; cases h
        · rw [hd1_sub, h61] at h; cases h
      · obtain ⟨a, b, r', rfl⟩ : ∃ a b r', r = a :: b :: r' := by
          match r, he with
          | [], he => rw [hh_nil] at he; cases he
          | [a], he => rw [hh_cons] at he; simp [hd1] at he
          | a :: b :: r', _ => exact ⟨a, b, r', rfl⟩
        rw [hh_cons] at he
        simp only [hd1, Bool.and_eq_true] at he
        simp only [List.length_cons] at hl
        simp only [List.mem_cons, not_or] at h95
        obtain ⟨i1, -, -⟩ := price_h n r' (by omega) h95.2.2.2
        rw [hdec_yes he.1 he.2]
        generalize 16 * hexn a + hexn b = q
        simp only [List.length_cons]
        have hle : suH (q :: hdec r') ≤ 2 + suH (hdec r') := by
          rw [suH]
          split <;> omega
        have hx : hexd q = true → suH (q :: hdec r') = suH (hdec r') := by
          intro h
          have n1 : q ≠ 61 := by rintro rfl; rw [h61] at h; cases h
          have n2 : q ≠ 95 := by rintro rfl; revert h; decide +kernel
          rw [suH, esc_ne n1, decide_eq_false n2]
          simp
        refine ⟨by omega, fun _ h => ?_, fun _ h => ?_⟩
        · have := hx (hh_hd1 h)
          omega
        · have := hx h
          omega
    · obtain ⟨i1, i2, i3⟩ := price_h n r (by omega) h95.2
      rw [hdec_ne hc]
      have es : suH (c :: hdec r) = suH (hdec r) := by
        rw [suH, esc_ne hc, decide_eq_false (fun q => h95.1 q.symm)]
        simp
      rw [es]
      simp only [List.length_cons]
      refine ⟨by omega, fun h1 h2 => ?_, fun h1 h2 => ?_⟩
      · rw [hh_cons] at h1 h2
        simp only [Bool.and_eq_true] at h2
        rw [h2.1, Bool.true_and] at h1
        have := i3 h1 h2.2
        omega
      · rw [hd1_sub] at h1 h2
        rw [h1] at h2; cases h2
theorem price_hdr (x : Str) : ((hdrS x).length : Int) + (suH (hdrS x).cps.toList : Nat) ≤ (x.length : Int) := by
  have h95 : 95 ∉ x.cps.toList.map unline := by
    intro h
    obtain ⟨c, _, hc⟩ := List.mem_map.mp h
    unfold unline at hc
    split at hc
    · cases hc
    · rename_i q; exact q hc
  have h := (price_h _ (x.cps.toList.map unline) (Nat.le_refl _) h95).1
  rw [List.length_map] at h
  rw [str_len, str_len]
  show (((hdec (x.cps.toList.map unline)).length : Nat) : Int) + (suH (hdec (x.cps.toList.map unline)) : Nat) ≤ _
  omega
end Mine
namespace Mine
theorem sp_cases (c : Nat) : Unicode.isSpace c = true ↔ whiteB (c : Int) = true ∨ c = 8232 ∨ c = 8233 := by
  have e : Unicode.isSpace c = Unicode.within UnicodeData.space c := rfl
  rw [e]
  unfold whiteB
  simp only [UnicodeData.space, UnicodeData.space0, Unicode.within]
  repeat' split
  all_goals try simp only [Bool.or_eq_true, decide_eq_true_eq, Bool.or_false, Bool.false_eq_true, false_iff]
  all_goals omega
theorem endx_brk {c : Nat} (h : brk c = false) : endx c = false ∧ c ≠ 10 ∧ c ≠ 13 := by
  have hb : ¬ brk c = true := by rw [h]; decide
  rw [brk_cases] at hb
  refine ⟨?_, by omega, by omega⟩
  cases he : endx c
  · rfl
  · unfold endx at he
    simp at he
    omega
theorem brk_of {c : Nat} (h1 : endx c = false) (h2 : c ≠ 10) (h3 : c ≠ 8232) (h4 : c ≠ 8233) : brk c = false := by
  cases hb : brk c
  · rfl
  · exfalso
    rw [brk_cases] at hb
    unfold endx at h1
    simp at h1
    omega
theorem loose_not {c : Nat} (h : looseB c = false) (h10 : c ≠ 10) : c ≠ 61 ∧ (endx c = true ∨ whiteB (c : Int) = false) := by
  unfold looseB at h
  simp only [Bool.or_eq_false_iff, decide_eq_false_iff_not, Bool.and_eq_false_iff, Bool.not_eq_false', ne_eq, Decidable.not_not] at h
  obtain ⟨h1, h2⟩ := h
  refine ⟨h1, ?_⟩
  rcases h2 with (h2 | h2) | h2
  · exact absurd h2 h10
  · exact .inl h2
  · exact .inr h2
theorem loose_is {c : Nat} (h : looseB c = true) : c = 61 ∨ (c ≠ 10 ∧ endx c = false ∧ whiteB (c : Int) = true) := by
  unfold looseB at h
  simp only [Bool.or_eq_true, decide_eq_true_eq, Bool.and_eq_true, Bool.not_eq_true', ne_eq] at h
  rcases h with h | ⟨⟨a, b⟩, c⟩
  · exact .inl h
  · exact .inr ⟨a, b, c⟩
/-- a line's spelling, its end apart -/
def spL : List Nat → List Nat
  | [] => []
  | c :: r => pc1 (esc (c :: r)) false c ++ spL r
def lend : Bool → List Nat → Bool
  | lp, [] => lp
  | _, c :: r => lend (looseB c) r
theorem pc1_lp {e : Bool} {lp : Bool} {c : Nat} (h : c ≠ 10) : pc1 e lp c = pc1 e false c := by
  unfold pc1
  rw [decide_eq_false h]
  rfl
theorem hx10 : hexd 10 = false := by decide +kernel
theorem hh_app10 {r z : List Nat} : hh (r ++ 10 :: z) = hh r := by
  match r with
  | [] => rw [List.nil_append, hh_cons, hx10, hh_nil]; rfl
  | [a] => rw [List.singleton_append, hh_cons, hh_cons, hd1_sub, hx10]; rfl
  | a :: b :: r => rfl
theorem esc_app10 {c : Nat} {r z : List Nat} : esc (c :: (r ++ 10 :: z)) = esc (c :: r) := by
  by_cases h : c = 61
  · subst h; rw [esc_61, esc_61, hh_app10]
  · rw [esc_ne h, esc_ne h]
theorem lf10 : looseB 10 = false := by decide +kernel
theorem sp_line : ∀ (l z : List Nat) (lp : Bool), 10 ∉ l → spD lp (l ++ 10 :: z) = spL l ++ (if lend lp l then [61, 10, 10] else [10]) ++ spD false z
  | [], z, lp, _ => by
    have e1 : esc (10 :: z) = false := esc_ne (by decide)
    have e2 : endx 10 = false := by decide +kernel
    rw [List.nil_append, spD, e1, lf10, lend, spL, List.nil_append]
    congr 1
  | c :: l, z, lp, h => by
    simp only [List.mem_cons, not_or] at h
    have ih := sp_line l z (looseB c) h.2
    rw [List.cons_append, spD, esc_app10, ih, pc1_lp (fun q => h.1 q.symm), spL, lend]
    simp only [List.append_assoc]
theorem sp_last : ∀ (l : List Nat) (lp : Bool), 10 ∉ l → spD lp l = spL l ++ (if lend lp l then [61] else [])
  | [], lp, _ => by rw [spD, spL, lend]; rfl
  | c :: l, lp, h => by
    simp only [List.mem_cons, not_or] at h
    rw [spD, sp_last l (looseB c) h.2, pc1_lp (fun q => h.1 q.symm), spL, lend, List.append_assoc]
theorem pc1_head (e : Bool) (c : Nat) : (∃ t, pc1 e false c = 61 :: t) ∨ pc1 e false c = [c] := by
  unfold pc1
  split
  · exact .inl ⟨_, rfl⟩
  · split
    · exact .inl ⟨_, rfl⟩
    · split
      · exact .inl ⟨_, rfl⟩
      · exact .inr rfl
theorem spL_hd1 {r z : List Nat} (h : hd1 r = false) (hz : hd1 z = false) : hd1 (spL r ++ z) = false := by
  cases r with
  | nil => exact hz
  | cons a r =>
    rw [spL]
    rcases pc1_head (esc (a :: r)) a with ⟨t, e⟩ | e
    · rw [e]; exact h61
    · rw [e]; exact h
theorem spL_hh {r z : List Nat} (h : hh r = false) (hz : hd1 z = false) : hh (spL r ++ z) = false := by
  cases r with
  | nil =>
    cases hq : hh z
    · exact hq
    · rw [hh_hd1 hq] at hz; cases hz
  | cons a r =>
    rw [spL]
    rcases pc1_head (esc (a :: r)) a with ⟨t, e⟩ | e
    · rw [e, List.cons_append, List.cons_append, hh_cons, h61]; rfl
    · rw [e, List.singleton_append, List.cons_append, hh_cons]
      rw [hh_cons] at h
      cases ha : hexd a
      · rfl
      · rw [ha, Bool.true_and] at h
        rw [spL_hd1 h hz]; rfl
theorem decLine_eq {e x : List Nat} (h : hh x = false) (hne : x ≠ []) : decLine e (61 :: x) = 61 :: decLine e x := by
  match x, h with
  | [], _ => exact absurd rfl hne
  | [b], _ => exact decLine_eq4
  | b :: d :: r, h => exact decLine_eq3 (by rw [hh_cons] at h; exact h)
/-- a line's spelling read, with anything of no figure behind it -/
theorem dec_sp (e z : List Nat) (hz : hd1 z = false) : ∀ l : List Nat, (z = [] → lend false l = false) → decLine e (spL l ++ z) = l ++ decLine e z
  | [], _ => rfl
  | c :: r, hl => by
    have ih := dec_sp e z hz r (fun q => by
      have := hl q
      cases r with
      | nil => rfl
      | cons d r => exact this)
    obtain ⟨x1, x2, x3, x4⟩ := hx51
    rw [spL]
    by_cases hc : c = 61
    · subst hc
      rw [esc_61]
      cases he : hh r
      · show decLine e (61 :: (spL r ++ z)) = _
        rw [decLine_eq (spL_hh he hz), ih]
        · rfl
        · intro q
          have q1 := (List.append_eq_nil_iff.mp q)
          have hr : r = [] := by
            cases r with
            | nil => rfl
            | cons a r =>
              have := q1.1
              rw [spL] at this
              rcases pc1_head (esc (a :: r)) a with ⟨t, e⟩ | e <;> rw [e] at this <;> simp at this
          have := hl q1.2
          rw [hr] at this
          revert this
          decide +kernel
      · show decLine e (61 :: 51 :: 68 :: (spL r ++ z)) = _
        rw [decLine_eq2 (by rw [x1, x2]; rfl), ih]
        rfl
    · rw [esc_ne hc]
      cases he : endx c
      · have : pc1 false false c = [c] := by
          unfold pc1
          rw [he]
          cases decide (c = 10) <;> rfl
        rw [this, List.singleton_append, List.cons_append, decLine_cons hc, ih]
        rfl
      · have hn := endx_lt he
        obtain ⟨a1, a2⟩ := hexC_ok (k := c / 16) (by omega)
        obtain ⟨b1, b2⟩ := hexC_ok (k := c % 16) (by omega)
        have : pc1 false false c = [61, hexC (c / 16), hexC (c % 16)] := by
          unfold pc1
          rw [he]
          rfl
        rw [this]
        show decLine e (61 :: hexC (c / 16) :: hexC (c % 16) :: (spL r ++ z)) = _
        rw [decLine_eq2 (by rw [a1, b1]; rfl), ih, a2, b2]
        show _ :: _ = c :: _
        congr 1
        omega
theorem hexC_plain {k : Nat} (h : k < 16) : brk (hexC k) = false ∧ Unicode.isSpace (hexC k) = false := by
  have key : (List.range 16).all (fun k => !brk (hexC k) && !Unicode.isSpace (hexC k)) = true := by decide +kernel
  have := List.all_eq_true.mp key k (List.mem_range.mpr h)
  simpa using this
theorem spL_free : ∀ l : List Nat, 10 ∉ l → noSep l → ∀ c ∈ spL l, brk c = false
  | [], _, _, c, hc => by cases hc
  | a :: r, h10, hs, c, hc => by
    simp only [List.mem_cons, not_or] at h10
    have hs' : (a ≠ 8232 ∧ 8232 ∉ r) ∧ (a ≠ 8233 ∧ 8233 ∉ r) := by
      obtain ⟨s1, s2⟩ := hs
      simp only [List.mem_cons, not_or] at s1 s2
      exact ⟨⟨fun q => s1.1 q.symm, s1.2⟩, ⟨fun q => s2.1 q.symm, s2.2⟩⟩
    have b61 : brk 61 = false := by decide +kernel
    rw [spL] at hc
    rcases List.mem_append.mp hc with hc | hc
    · unfold pc1 at hc
      split at hc
      · have : ∀ c ∈ [61, 51, 68], brk c = false := by decide +kernel
        exact this c hc
      · split at hc
        · rename_i he
          have hn := endx_lt he
          rcases List.mem_cons.mp hc with rfl | hc
          · exact b61
          rcases List.mem_cons.mp hc with rfl | hc
          · exact (hexC_plain (by omega)).1
          cases List.mem_singleton.mp hc
          exact (hexC_plain (by omega)).1
        · rename_i he
          rw [Bool.and_false, if_neg (by decide)] at hc
          cases List.mem_singleton.mp hc
          exact brk_of (by simpa using he) (fun q => h10.1 q.symm) hs'.1.1 hs'.2.1
    · exact spL_free r h10.2 ⟨hs'.1.2, hs'.2.2⟩ c hc
theorem spL_end : ∀ (l : List Nat) (lp : Bool), l ≠ [] → 10 ∉ l → noSep l → lend lp l = false → ∃ m c, spL l = m ++ [c] ∧ Unicode.isSpace c = false
  | [], _, h, _, _, _ => absurd rfl h
  | [a], lp, _, h10, hs, hl => by
    have h10 : a ≠ 10 := fun q => h10 (by rw [q]; simp)
    obtain ⟨n61, hw⟩ := loose_not (c := a) hl h10
    rw [spL, esc_ne n61, spL, List.append_nil]
    unfold pc1
    cases he : endx a
    · rw [decide_eq_false h10]
      refine ⟨[], a, rfl, ?_⟩
      cases hsp : Unicode.isSpace a
      · rfl
      · exfalso
        rw [sp_cases] at hsp
        rcases hsp with q | q | q
        · rcases hw with w | w
          · rw [he] at w; cases w
          · rw [q] at w; cases w
        · exact hs.1 (by rw [q]; simp)
        · exact hs.2 (by rw [q]; simp)
    · have hn := endx_lt he
      exact ⟨[61, hexC (a / 16)], hexC (a % 16), rfl, (hexC_plain (by omega)).2⟩
  | a :: b :: r, lp, _, h10, hs, hl => by
    obtain ⟨m, c, e, hc⟩ := spL_end (b :: r) (looseB a) (by simp) (fun q => h10 (List.mem_cons_of_mem _ q)) ⟨fun q => hs.1 (List.mem_cons_of_mem _ q), fun q => hs.2 (List.mem_cons_of_mem _ q)⟩ hl
    rw [spL, e]
    exact ⟨pc1 (esc (a :: b :: r)) false a ++ m, c, by rw [List.append_assoc], hc⟩
theorem line1 {l : List Nat} : decLine [10] (rsL (spL l ++ [61])) = l := by
  rw [rsL_end (by decide +kernel), dec_sp [10] [61] h61 l (fun q => by cases q), decLine_eq1, List.append_nil]
theorem line2 {l : List Nat} (h10 : 10 ∉ l) (hs : noSep l) (hl : lend false l = false) : decLine [10] (rsL (spL l)) = l ++ [10] := by
  have h2 := dec_sp [10] [] rfl l (fun _ => hl)
  rw [List.append_nil] at h2
  by_cases h0 : l = []
  · subst h0
    rw [spL, rsL_nil]
    rfl
  · obtain ⟨m, c, e, hc⟩ := spL_end l false h0 h10 hs hl
    rw [e, rsL_end hc, ← e, h2]
    rfl
theorem linesA_br {l r : List Nat} (h : ∀ c ∈ l, brk c = false) : linesA [] (l ++ 10 :: r) = l :: linesA [] r := by
  rw [linesA_run l [] _ h, linesA_brk (by decide +kernel) (fun q => absurd q (by decide))]
  rfl
def RB (x S : List Nat) : Prop :=
  (x = [] ∧ S = []) ∨ (x ≠ [] ∧ S ≠ [] ∧ lastL S = true ∧ FL (linesA [] S) = x) ∨ (S ≠ [] ∧ lastL S = false ∧ x.getLast? ≠ some 10 ∧ (FL (linesA [] S) = x ∨ FL (linesA [] S) = x ++ [10]))
theorem lastL_free {S : List Nat} (h : ∀ c ∈ S, brk c = false) : lastL S = false := by
  cases hq : lastL S
  · rfl
  · exfalso
    unfold lastL at hq
    simp only [Bool.or_eq_true, beq_iff_eq] at hq
    have k : ∀ c, S.getLast? = some c → brk c = true → False := fun c h1 h2 => by
      have := h c (List.mem_of_getLast? h1)
      rw [this] at h2; cases h2
    rcases hq with q | q
    · exact k _ q (by decide +kernel)
    · exact k _ q (by decide +kernel)
theorem getLast_app {a b : List Nat} (h : b ≠ []) : (a ++ b).getLast? = b.getLast? := by
  rw [List.getLast?_append]
  cases hb : b.getLast? with
  | none => exact absurd (List.getLast?_eq_none_iff.mp hb) h
  | some c => rfl
theorem lastL_app {a b : List Nat} (h : b ≠ []) : lastL (a ++ b) = lastL b := by
  unfold lastL
  rw [getLast_app h]
theorem rb_all : ∀ (n : Nat) (x : List Nat), x.length ≤ n → noSep x → RB x (spD false x) := by
  intro n
  induction n with
  | zero =>
    intro x hx _
    have : x = [] := List.length_eq_zero_iff.mp (by omega)
    subst this
    exact .inl ⟨rfl, rfl⟩
  | succ n ih =>
    intro x hx hs
    by_cases h10 : 10 ∈ x
    · obtain ⟨l, r, rfl, hl10⟩ := List.eq_append_cons_of_mem h10
      have hsl : noSep l := ⟨fun q => hs.1 (List.mem_append_left _ q), fun q => hs.2 (List.mem_append_left _ q)⟩
      have hsr : noSep r := ⟨fun q => hs.1 (List.mem_append_right _ (List.mem_cons_of_mem _ q)), fun q => hs.2 (List.mem_append_right _ (List.mem_cons_of_mem _ q))⟩
      rw [List.length_append, List.length_cons] at hx
      have ihr := ih r (by omega) hsr
      rw [sp_line l r false hl10]
      have hfree := spL_free l hl10 hsl
      have b61 : brk 61 = false := by decide +kernel
      have eF : FL (linesA [] (spL l ++ (if lend false l then [61, 10, 10] else [10]) ++ spD false r)) = l ++ 10 :: FL (linesA [] (spD false r)) := by
        cases hle : lend false l
        · show FL (linesA [] (spL l ++ [10] ++ spD false r)) = _
          rw [List.append_assoc, List.singleton_append, linesA_br hfree, FL_cons, line2 hl10 hsl hle, List.append_assoc]
          rfl
        · show FL (linesA [] (spL l ++ [61, 10, 10] ++ spD false r)) = _
          have : spL l ++ [61, 10, 10] ++ spD false r = (spL l ++ [61]) ++ 10 :: ([] ++ 10 :: spD false r) := by simp
          rw [this, linesA_br (l := spL l ++ [61]), linesA_br (l := []), FL_cons, FL_cons, line1, rsL_nil]
          · rfl
          · simp
          · intro c hc
            rcases List.mem_append.mp hc with hc | hc
            · exact hfree c hc
            · cases List.mem_singleton.mp hc; exact b61
      have hlast : ∀ z, lastL (spL l ++ (if lend false l then [61, 10, 10] else [10]) ++ z) = if z = [] then true else lastL z := by
        intro z
        by_cases hz : z = []
        · subst hz
          rw [if_pos rfl, List.append_nil, lastL_app (by split <;> simp)]
          split <;> rfl
        · rw [if_neg hz, lastL_app hz]
      have hne : spL l ++ (if lend false l then [61, 10, 10] else [10]) ++ spD false r ≠ [] := by
        intro q
        have := (List.append_eq_nil_iff.mp (List.append_eq_nil_iff.mp q).1).2
        revert this
        split <;> simp
      rcases ihr with ⟨r0, S0⟩ | ⟨r1, S1, l1, f1⟩ | ⟨S2, l2, g2, f2⟩
      · refine .inr (.inl ⟨by simp, hne, ?_, ?_⟩)
        · rw [hlast, if_pos S0]
        · rw [eF, S0, r0]
          rfl
      · refine .inr (.inl ⟨by simp, hne, ?_, ?_⟩)
        · rw [hlast, if_neg S1, l1]
        · rw [eF, f1]
      · refine .inr (.inr ⟨hne, ?_, ?_, ?_⟩)
        · rw [hlast, if_neg S2, l2]
        · intro q
          have hr : r ≠ [] := by
            rintro rfl
            exact S2 rfl
          rw [getLast_app (by simp)] at q
          cases r with
          | nil => exact hr rfl
          | cons d r => rw [List.getLast?_cons_cons] at q; exact g2 q
        · rcases f2 with f | f
          · exact .inl (by rw [eF, f])
          · exact .inr (by rw [eF, f]; simp)
    · by_cases h0 : x = []
      · subst h0
        exact .inl ⟨rfl, rfl⟩
      · rw [sp_last x false h10]
        have hfree := spL_free x h10 hs
        have b61 : brk 61 = false := by decide +kernel
        have hg : x.getLast? ≠ some 10 := fun q => h10 (List.mem_of_getLast? q)
        cases hle : lend false x
        · show RB x (spL x ++ [])
          rw [List.append_nil]
          have hne : spL x ≠ [] := by
            obtain ⟨m, c, e, _⟩ := spL_end x false h0 h10 hs hle
            rw [e]; simp
          refine .inr (.inr ⟨hne, lastL_free hfree, hg, .inr ?_⟩)
          rw [linesA_whole hfree hne, FL_cons, line2 h10 hs hle]
          simp [FL]
        · show RB x (spL x ++ [61])
          have hf2 : ∀ c ∈ spL x ++ [61], brk c = false := by
            intro c hc
            rcases List.mem_append.mp hc with hc | hc
            · exact hfree c hc
            · cases List.mem_singleton.mp hc; exact b61
          refine .inr (.inr ⟨by simp, lastL_free hf2, hg, .inl ?_⟩)
          rw [linesA_whole hf2 (by simp), FL_cons, line1]
          simp [FL]
theorem decA_sp {x : List Nat} (hs : noSep x) : decA (spD false x) = x := by
  unfold decA
  rcases rb_all _ x (Nat.le_refl _) hs with ⟨h1, h2⟩ | ⟨_, h1, h2, h3⟩ | ⟨h1, h2, h3, h4⟩
  · rw [h2, h1, if_pos rfl]
  · rw [if_neg h1, if_pos h2, h3]
  · rw [if_neg h1, h2, if_neg (by decide)]
    rcases h4 with h | h
    · rw [h]
      rcases trim_cases x with ⟨p, e, _⟩ | ⟨e, _⟩
      · exfalso
        rw [e] at h3
        simp at h3
      · exact e
    · rw [h, trim_snoc]
theorem decS_sp {x : Str} (hs : noSep x.cps.toList) : decS (spSD x) (Str.ofString "\n") = x := by
  refine str_eq ?_
  have := decN_A (spSD x)
  rw [show decN (spSD x) = decS (spSD x) (Str.ofString "\n") from rfl] at this
  rw [this]
  exact decA_sp hs
end Mine
namespace Mine
/-- the price for decode -/
def pD (y : List Nat) : Nat := y.length + suD false y
def uu : List Nat → Nat
  | [] => 1
  | c :: _ => if c = 10 then 2 else 0
theorem uu_le (y : List Nat) : uu y ≤ 2 := by
  cases y with
  | nil => decide
  | cons c r => rw [uu]; split <;> decide
theorem uu_hex {y : List Nat} (h : hd1 y = true) : uu y = 0 := by
  cases y with
  | nil => cases h
  | cons c r =>
    rw [uu, if_neg]
    rintro rfl
    rw [hd1_sub, hx10] at h; cases h
theorem suD_lp (lp : Bool) (y : List Nat) : suD lp y = suD false y + (if lp then uu y else 0) := by
  cases y with
  | nil => cases lp <;> rfl
  | cons c r =>
    rw [suD, suD, uu]
    cases lp
    · simp
    · by_cases h : c = 10
      · rw [if_pos h, decide_eq_true h]; simp; omega
      · rw [if_neg h, decide_eq_false h]; simp
theorem pD_nil : pD [] = 0 := rfl
theorem pD_cons (c : Nat) (y : List Nat) : pD (c :: y) = 1 + (if esc (c :: y) || endx c then 2 else 0) + pD y + (if looseB c then uu y else 0) := by
  unfold pD
  rw [suD, suD_lp (looseB c), List.length_cons, Bool.and_false]
  simp
  omega
theorem loose61 : looseB 61 = true := by decide +kernel
theorem endx61 : endx 61 = false := by decide +kernel
theorem endx10 : endx 10 = false := by decide +kernel
/-- a sign of its own price 1 -/
theorem pD_hex {c : Nat} {y : List Nat} (h : hexd c = true) : pD (c :: y) = 1 + pD y ∧ uu (c :: y) = 0 := by
  have n61 : c ≠ 61 := by rintro rfl; rw [h61] at h; cases h
  have n10 : c ≠ 10 := by rintro rfl; rw [hx10] at h; cases h
  have hr : (48 ≤ c ∧ c ≤ 57) ∨ (97 ≤ c ∧ c ≤ 102) ∨ (65 ≤ c ∧ c ≤ 70) := by
    unfold hexd at h
    simp only [Bool.or_eq_true, Bool.and_eq_true, decide_eq_true_eq] at h
    omega
  have he : endx c = false := by
    cases q : endx c
    · rfl
    · unfold endx at q
      simp at q
      omega
  have hl : looseB c = false := by
    cases q : looseB c
    · rfl
    · rcases loose_is q with w | ⟨_, _, w⟩
      · exact absurd w n61
      · exfalso
        unfold whiteB at w
        simp only [Bool.or_eq_true, decide_eq_true_eq] at w
        omega
  rw [pD_cons, esc_ne n61, he, hl, uu, if_neg n10]
  simp
theorem pD_esc (n : Nat) (y : List Nat) : pD (n :: y) + uu (n :: y) ≤ 3 + pD y := by
  have hu := uu_le y
  rw [pD_cons, uu]
  by_cases h10 : n = 10
  · subst h10
    rw [esc_ne (by decide), endx10, lf10]
    simp
    omega
  · rw [if_neg h10]
    by_cases h : n = 61
    · subst h
      rw [esc_61, endx61, loose61]
      cases hq : hh y
      · simp; omega
      · rw [uu_hex (hh_hd1 hq)]; simp; try omega
    · rw [esc_ne h]
      cases he : endx n
      · cases hl : looseB n
        · simp; try omega
        · simp; omega
      · have hl : looseB n = false := by
          cases q : looseB n
          · rfl
          · rcases loose_is q with w | ⟨_, w, _⟩
            · exact absurd w h
            · rw [he] at w; cases w
        rw [hl]
        simp; try omega
def endOK (s : List Nat) : Prop := ∀ c, s.getLast? = some c → Unicode.isSpace c = false
theorem endOK.tail {c : Nat} {r : List Nat} (h : endOK (c :: r)) : endOK r := by
  intro d hd
  cases r with
  | nil => simp at hd
  | cons a r => exact h d (by rw [List.getLast?_cons_cons]; exact hd)
theorem line_pr {e R : List Nat} {K : Nat} (H1 : pD (e ++ R) ≤ K) (H2 : pD R + uu R ≤ 1 + K) (H3 : hd1 R = true → pD R + 2 ≤ 1 + K) (H4 : hd1 (e ++ R) = false) : ∀ (n : Nat) (s : List Nat), s.length ≤ n → (∀ c ∈ s, brk c = false) → endOK s →
    pD (decLine e s ++ R) ≤ s.length + K ∧ (s ≠ [] → pD (decLine e s ++ R) + uu (decLine e s ++ R) ≤ s.length + K) ∧ (hh s = false → hh (decLine e s ++ R) = true → pD (decLine e s ++ R) + 2 ≤ s.length + K) ∧ (hd1 s = false → hd1 (decLine e s ++ R) = true → pD (decLine e s ++ R) + 2 ≤ s.length + K)
  | n, [], _, _, _ => by
    show pD (e ++ R) ≤ 0 + K ∧ ([] ≠ [] → pD (e ++ R) + uu (e ++ R) ≤ 0 + K) ∧ (hh [] = false → hh (e ++ R) = true → pD (e ++ R) + 2 ≤ 0 + K) ∧ (hd1 [] = false → hd1 (e ++ R) = true → pD (e ++ R) + 2 ≤ 0 + K)
    refine ⟨by omega, fun h => absurd rfl h, fun _ h => ?_, fun _ h => ?_⟩
    · rw [hh_hd1 h] at H4; cases H4
    · rw [h] at H4; cases H4
  | 0, c :: r, h, _, _ => by simp at h
  | n + 1, c :: r, hl, hf, he => by
    simp only [List.length_cons] at hl
    have hfr : ∀ d ∈ r, brk d = false := fun d hd => hf d (List.mem_cons_of_mem _ hd)
    by_cases hc : c = 61
    · subst hc
      by_cases hr : r = []
      · subst hr
        rw [decLine_eq1]
        show pD R ≤ 1 + K ∧ _
        refine ⟨by omega, fun _ => H2, fun _ h => H3 (hh_hd1 h), fun _ h => H3 h⟩
      · cases hq : hh r
        · obtain ⟨i1, i2, i3, i4⟩ := line_pr H1 H2 H3 H4 n r (by omega) hfr he.tail
          have i2 := i2 hr
          have i3 := i3 hq
          rw [decLine_eq hq hr, List.cons_append]
          generalize decLine e r ++ R = A at i1 i2 i3 i4 ⊢
          have e1 : pD (61 :: A) = 1 + (if hh A then 2 else 0) + pD A + uu A := by
            rw [pD_cons, esc_61, endx61, loose61]
            simp
          have key : pD (61 :: A) ≤ r.length + 1 + K := by
            rw [e1]
            cases ha : hh A
            · simp; omega
            · have := i3 ha
              rw [uu_hex (hh_hd1 ha)]
              simp; omega
          have hu : uu (61 :: A) = 0 := by rw [uu, if_neg (by decide)]
          simp only [List.length_cons]
          refine ⟨by omega, fun _ => by omega, fun _ h => ?_, fun _ h => ?_⟩
          · rw [hh_cons, h61] at h; cases h
          · rw [hd1_sub, h61] at h; cases h
        · obtain ⟨a, b, r', rfl⟩ : ∃ a b r', r = a :: b :: r' := by
            match r, hq with
            | [], hq => rw [hh_nil] at hq; cases hq
            | [a], hq => rw [hh_cons] at hq; simp [hd1] at hq
            | a :: b :: r', _ => exact ⟨a, b, r', rfl⟩
          rw [hh_cons] at hq
          simp only [List.length_cons] at hl
          obtain ⟨i1, -, -, -⟩ := line_pr H1 H2 H3 H4 n r' (by omega) (fun d hd => hfr d (List.mem_cons_of_mem _ (List.mem_cons_of_mem _ hd))) he.tail.tail.tail
          rw [decLine_eq2 hq, List.cons_append]
          generalize 16 * hexn a + hexn b = q
          generalize decLine e r' ++ R = A at i1 ⊢
          have k := pD_esc q A
          simp only [List.length_cons]
          refine ⟨by omega, fun _ => by omega, fun _ h => ?_, fun _ h => ?_⟩
          · have := (pD_hex (y := A) (hh_hd1 h : hexd q = true)).1
            omega
          · have := (pD_hex (y := A) (h : hexd q = true)).1
            omega
    · obtain ⟨i1, i2, i3, i4⟩ := line_pr H1 H2 H3 H4 n r (by omega) hfr he.tail
      have hb := hf c (List.mem_cons_self ..)
      obtain ⟨hx, h10, _⟩ := endx_brk hb
      rw [decLine_cons hc, List.cons_append]
      have hA : looseB c = true → r ≠ [] := by
        rintro q rfl
        rcases loose_is q with w | ⟨_, _, w⟩
        · exact hc w
        · have h1 := he c rfl
          have h2 := (sp_cases c).mpr (.inl w)
          rw [h1] at h2; cases h2
      generalize decLine e r ++ R = A at i1 i2 i3 i4 ⊢
      have e1 : pD (c :: A) = 1 + pD A + (if looseB c then uu A else 0) := by
        rw [pD_cons, esc_ne hc, hx]
        simp
      have hu : uu (c :: A) = 0 := by rw [uu, if_neg h10]
      have key : pD (c :: A) ≤ r.length + 1 + K := by
        rw [e1]
        cases hlo : looseB c
        · simp; omega
        · have := i2 (hA hlo)
          simp; omega
      simp only [List.length_cons]
      refine ⟨by omega, fun _ => by omega, fun h1 h2 => ?_, fun h1 h2 => ?_⟩
      · rw [hh_cons] at h1 h2
        simp only [Bool.and_eq_true] at h2
        rw [h2.1, Bool.true_and] at h1
        have := i4 h1 h2.2
        have := (pD_hex (y := A) h2.1).1
        omega
      · rw [hd1_sub] at h1 h2
        rw [h1] at h2; cases h2
theorem rsL_end_ok (l : List Nat) : endOK (rsL l) := by
  obtain ⟨hi, h1, e, _, h3⟩ := rsL_facts l
  intro c hc
  rw [e] at hc
  rcases h3 with h | h
  · subst h; simp at hc
  · by_cases h0 : hi = 0
    · subst h0; simp at hc
    · rw [List.getLast?_eq_getElem?, List.length_take, Nat.min_eq_left h1, List.getElem?_take_of_lt (by omega)] at hc
      rw [List.getD_eq_getElem?_getD, hc] at h
      exact h
theorem line_pr10 {l R : List Nat} (hf : ∀ c ∈ l, brk c = false) : pD (decLine [10] (rsL l) ++ R) ≤ l.length + 1 + pD R := by
  have hu := uu_le R
  have e10 : pD ([10] ++ R) = 1 + pD R := by
    rw [List.singleton_append, pD_cons, esc_ne (by decide), endx10, lf10]
    simp
  have := (line_pr (e := [10]) (R := R) (K := 1 + pD R) (by rw [e10]; exact Nat.le_refl _) (by omega) (fun _ => by omega) rfl _ (rsL l) (Nat.le_refl _) (fun c hc => hf c (rsL_sub hc)) (rsL_end_ok l)).1
  have := (rsL_len l).1
  omega
theorem line_pr0 {l : List Nat} (hf : ∀ c ∈ l, brk c = false) : pD (decLine [] (rsL l)) ≤ l.length := by
  have := (line_pr (e := []) (R := []) (K := 0) (Nat.le_refl _) (Nat.le_refl _) (fun h => by cases h) rfl _ (rsL l) (Nat.le_refl _) (fun c hc => hf c (rsL_sub hc)) (rsL_end_ok l)).1
  rw [List.append_nil] at this
  have := (rsL_len l).1
  omega
/-- the lines read, without the last line end -/
def FX : List (List Nat) → List Nat
  | [] => []
  | [l] => decLine [] (rsL l)
  | l :: ls => decLine [10] (rsL l) ++ FX ls
theorem FX_cons {l : List Nat} {ls : List (List Nat)} (h : ls ≠ []) : FX (l :: ls) = decLine [10] (rsL l) ++ FX ls := by
  cases ls with
  | nil => exact absurd rfl h
  | cons a r => rfl
theorem dec_e : ∀ (n : Nat) (s : List Nat), s.length ≤ n → decLine [10] s = decLine [] s ++ [10] ∨ decLine [10] s = decLine [] s
  | n, [], _ => .inl rfl
  | 0, c :: r, h => by simp at h
  | n + 1, c :: r, h => by
    simp only [List.length_cons] at h
    by_cases hc : c = 61
    · subst hc
      by_cases hr : r = []
      · subst hr; exact .inr rfl
      · cases hq : hh r
        · rw [decLine_eq hq hr, decLine_eq hq hr]
          rcases dec_e n r (by omega) with e | e
          · exact .inl (by rw [e]; rfl)
          · exact .inr (by rw [e])
        · obtain ⟨a, b, r', rfl⟩ : ∃ a b r', r = a :: b :: r' := by
            match r, hq with
            | [], hq => rw [hh_nil] at hq; cases hq
            | [a], hq => rw [hh_cons] at hq; simp [hd1] at hq
            | a :: b :: r', _ => exact ⟨a, b, r', rfl⟩
          rw [hh_cons] at hq
          simp only [List.length_cons] at h
          rw [decLine_eq2 hq, decLine_eq2 hq]
          rcases dec_e n r' (by omega) with e | e
          · exact .inl (by rw [e]; rfl)
          · exact .inr (by rw [e])
    · rw [decLine_cons hc, decLine_cons hc]
      rcases dec_e n r (by omega) with e | e
      · exact .inl (by rw [e]; rfl)
      · exact .inr (by rw [e])
theorem FL_FX : ∀ ls : List (List Nat), ls ≠ [] → FL ls = FX ls ++ [10] ∨ FL ls = FX ls
  | [], h => absurd rfl h
  | [l], _ => by
    have : FL [l] = decLine [10] (rsL l) := by simp [FL]
    rw [this]
    exact dec_e _ _ (Nat.le_refl _)
  | l :: a :: r, _ => by
    rw [FL_cons, FX_cons (by simp)]
    rcases FL_FX (a :: r) (by simp) with e | e
    · exact .inl (by rw [e, List.append_assoc])
    · exact .inr (by rw [e])
def PRK (acc x : List Nat) (T : Nat) : Prop :=
  (linesE acc x = true → pD (FL (linesA acc x)) ≤ T) ∧ (linesE acc x = false → linesA acc x ≠ [] ∧ pD (FX (linesA acc x)) ≤ T)
theorem pr_all : ∀ (n : Nat) (x acc : List Nat), x.length ≤ n → (∀ c ∈ acc, brk c = false) → PRK acc x (acc.length + x.length)
  | n, [], acc, _, hf => by
    unfold PRK
    by_cases h : acc = []
    · subst h
      refine ⟨fun _ => by simp [linesA, FL, pD_nil], fun q => ?_⟩
      simp [linesE] at q
    · have e : linesA acc [] = [acc] := by rw [linesA, if_neg h]
      rw [e]
      refine ⟨fun q => absurd (by simpa [linesE] using q) h, fun _ => ⟨by simp, ?_⟩⟩
      exact line_pr0 hf
  | 0, c :: r, acc, hl, _ => by simp at hl
  | n + 1, c :: r, acc, hl, hf => by
    simp only [List.length_cons] at hl
    by_cases hb : brk c = true
    · have hle := fun R => line_pr10 (l := acc) (R := R) hf
      by_cases hc : c = 13 ∧ r.head? = some 10
      · obtain ⟨h1, h2⟩ := hc
        obtain ⟨r', rfl⟩ : ∃ r', r = 10 :: r' := by
          cases r with
          | nil => simp at h2
          | cons a b => simp at h2; exact ⟨b, by rw [h2]⟩
        simp only [List.length_cons] at hl
        obtain ⟨i1, i2⟩ := pr_all n r' [] (by omega) (by simp)
        unfold PRK
        rw [h1, linesA_crlf, linesE_crlf, FL_cons]
        simp only [List.length_cons, List.length_nil] at i1 i2 ⊢
        refine ⟨fun q => ?_, fun q => ⟨by simp, ?_⟩⟩
        · have := i1 q
          have := hle (FL (linesA [] r'))
          omega
        · obtain ⟨j1, j2⟩ := i2 q
          rw [FX_cons j1]
          have := hle (FX (linesA [] r'))
          omega
      · obtain ⟨i1, i2⟩ := pr_all n r [] (by omega) (by simp)
        unfold PRK
        have hn : c = 13 → r.head? ≠ some 10 := fun h1 h2 => hc ⟨h1, h2⟩
        rw [linesA_brk hb hn, linesE_brk hb hn, FL_cons]
        simp only [List.length_cons, List.length_nil] at i1 i2 ⊢
        refine ⟨fun q => ?_, fun q => ⟨by simp, ?_⟩⟩
        · have := i1 q
          have := hle (FL (linesA [] r))
          omega
        · obtain ⟨j1, j2⟩ := i2 q
          rw [FX_cons j1]
          have := hle (FX (linesA [] r))
          omega
    · have hb' : brk c = false := by simpa using hb
      have ih := pr_all n r (acc ++ [c]) (by omega) (by
        intro d hd
        rcases List.mem_append.mp hd with hd | hd
        · exact hf d hd
        · cases List.mem_singleton.mp hd; exact hb')
      unfold PRK at ih ⊢
      rw [linesA_not hb', linesE_not hb']
      simp only [List.length_append, List.length_cons, List.length_nil] at ih ⊢
      rw [show acc.length + (r.length + 1) = acc.length + (0 + 1) + r.length by omega]
      exact ih
theorem hh_mono {r : List Nat} (z : List Nat) (h : hh r = true) : hh (r ++ z) = true := by
  match r, h with
  | [], h => rw [hh_nil] at h; cases h
  | [a], h => rw [hh_cons] at h; simp [hd1] at h
  | a :: b :: r, h => exact h
theorem su_app : ∀ (p : List Nat) (lp : Bool), suD lp p ≤ suD lp (p ++ [10]) + 1
  | [], lp => by rw [suD]; split <;> omega
  | c :: p, lp => by
    have ih := su_app p (looseB c)
    rw [List.cons_append, suD, suD]
    have : (if esc (c :: p) || endx c then 2 else 0) ≤ (if esc (c :: (p ++ [10])) || endx c then 2 else 0) := by
      by_cases hc : c = 61
      · subst hc
        rw [esc_61, esc_61, endx61]
        cases hq : hh p
        · simp
        · rw [hh_mono _ hq]; simp
      · rw [esc_ne hc, esc_ne hc]; exact Nat.le_refl _
    omega
theorem pD_trim (y : List Nat) : pD (trimEnd y [10]) ≤ pD y := by
  rcases trim_cases y with ⟨p, h1, h2⟩ | ⟨h, _⟩
  · rw [h2, h1]
    have := su_app p false
    unfold pD
    rw [List.length_append, List.length_singleton]
    omega
  · rw [h]; exact Nat.le_refl _
theorem price_A (x : List Nat) : pD (decA x) ≤ x.length := by
  by_cases h0 : x = []
  · subst h0; exact Nat.le_refl _
  obtain ⟨i1, i2⟩ := pr_all _ x [] (Nat.le_refl _) (by simp)
  simp only [List.length_nil, Nat.zero_add] at i1 i2
  unfold decA
  rw [if_neg h0]
  cases hE : linesE [] x
  · obtain ⟨j1, j2⟩ := i2 hE
    have hL : ¬ lastL x = true := by
      intro w
      unfold lastL at w
      simp only [Bool.or_eq_true, beq_iff_eq] at w
      rcases w with w | w
      · rw [linesE_last _ x [] 13 (Nat.le_refl _) (by decide +kernel) w] at hE; cases hE
      · rw [linesE_last _ x [] 10 (Nat.le_refl _) (by decide +kernel) w] at hE; cases hE
    rw [if_neg hL]
    rcases FL_FX _ j1 with e | e
    · rw [e, trim_snoc]; exact j2
    · rw [e]; exact Nat.le_trans (pD_trim _) j2
  · have k := i1 hE
    by_cases hL : lastL x = true
    · rw [if_pos hL]; exact k
    · rw [if_neg hL]; exact Nat.le_trans (pD_trim _) k
theorem price_dec (x : Str) : ((decN x).length : Int) + (suD false (decN x).cps.toList : Nat) ≤ (x.length : Int) := by
  have h := price_A x.cps.toList
  rw [str_len, str_len, decN_A]
  unfold pD at h
  omega
end Mine
namespace Mine
theorem textS_len {ns : List Int} (h : ns.length ≤ 63) : (textS ns).length ≤ 189 := by
  have := textL_len piece01_len ns
  rw [str_len]
  show (textL piece01 ns).toArray.toList.length ≤ _
  simp
  omega
theorem piece01_free (x : Int) : noSep (piece01 x).cps.toList := by
  have hall : ∀ y ∈ Str.empty :: tab01, noSep y.cps.toList := by
    have : (Str.empty :: tab01).all (fun y => (!y.cps.toList.contains 8232 && !y.cps.toList.contains 8233)) = true := by decide +kernel
    intro y hy
    have := List.all_eq_true.mp this y hy
    simp only [Bool.and_eq_true, Bool.not_eq_true'] at this
    exact ⟨fun h => by simpa [h] using this.1, fun h => by simpa [h] using this.2⟩
  unfold piece01
  split
  · refine hall _ ?_
    rw [List.getD_eq_getElem?_getD]
    by_cases hi : (x.fmod 32).toNat < tab01.length
    · rw [List.getElem?_eq_getElem hi]; exact List.mem_cons_of_mem _ (List.getElem_mem hi)
    · rw [List.getElem?_eq_none (by omega)]; exact List.mem_cons_self ..
  · split
    · have : (Str.ofString ".").cps.toList = [46] := by decide +kernel
      rw [this]
      exact ⟨by decide, by decide⟩
    · have h0 : 0 ≤ (x.fdiv 32).fmod 55296 := Int.fmod_nonneg_of_pos _ (by decide)
      constructor
      · intro h
        have := List.mem_singleton.mp h
        omega
      · intro h
        have := List.mem_singleton.mp h
        omega
theorem textS_free (ns : List Int) : noSep (textS ns).cps.toList := by
  have key : ∀ c ∈ textL piece01 ns, ∃ x, c ∈ (piece01 x).cps.toList := by
    intro c hc
    unfold textL at hc
    obtain ⟨y, hy, hcy⟩ := List.mem_flatten.mp hc
    obtain ⟨n, _, rfl⟩ := List.mem_map.mp hy
    exact ⟨n, hcy⟩
  exact ⟨fun h => (key _ h).elim fun x hx => (piece01_free x).1 hx, fun h => (key _ h).elim fun x hx => (piece01_free x).2 hx⟩
theorem nl_free : noSep (Str.ofString "\n").cps.toList := by
  have : (Str.ofString "\n").cps.toList = [10] := by decide +kernel
  rw [this]
  exact ⟨by decide, by decide⟩
theorem decLine_mem {e : List Nat} : ∀ (n : Nat) (l : List Nat) (c : Nat), l.length ≤ n → c ∈ decLine e l → c ∈ e ∨ c ∈ l ∨ c < 256
  | n, [], c, _, h => .inl h
  | 0, a :: r, c, hl, h => by simp at hl
  | n + 1, a :: r, c, hl, h => by
    simp only [List.length_cons] at hl
    by_cases ha : a = 61
    · subst ha
      match r, hl, h with
      | [], _, h => cases h
      | [b], hl, h =>
        rw [decLine_eq4] at h
        rcases List.mem_cons.mp h with rfl | h
        · exact .inr (.inr (by decide))
        · rcases decLine_mem n [b] c (by simp only [List.length_cons, List.length_nil] at hl ⊢; omega) h with h | h | h
          · exact .inl h
          · exact .inr (.inl (List.mem_cons_of_mem _ h))
          · exact .inr (.inr h)
      | b :: d :: r, hl, h =>
        by_cases hh : (hexd b && hexd d) = true
        · rw [decLine_eq2 hh] at h
          simp only [Bool.and_eq_true] at hh
          have h1 := hexn_lt hh.1
          have h2 := hexn_lt hh.2
          simp only [List.length_cons] at hl
          rcases List.mem_cons.mp h with rfl | h
          · exact .inr (.inr (by omega))
          · rcases decLine_mem n r c (by omega) h with h | h | h
            · exact .inl h
            · exact .inr (.inl (List.mem_cons_of_mem _ (List.mem_cons_of_mem _ (List.mem_cons_of_mem _ h))))
            · exact .inr (.inr h)
        · rw [decLine_eq3 (by simpa using hh)] at h
          rcases List.mem_cons.mp h with rfl | h
          · exact .inr (.inr (by decide))
          · rcases decLine_mem n (b :: d :: r) c (by omega) h with h | h | h
            · exact .inl h
            · exact .inr (.inl (List.mem_cons_of_mem _ h))
            · exact .inr (.inr h)
    · rw [decLine_cons ha] at h
      rcases List.mem_cons.mp h with rfl | h
      · exact .inr (.inl (List.mem_cons_self ..))
      · rcases decLine_mem n r c (by omega) h with h | h | h
        · exact .inl h
        · exact .inr (.inl (List.mem_cons_of_mem _ h))
        · exact .inr (.inr h)
theorem trimEnd_sub {d e : List Nat} {c : Nat} (h : c ∈ trimEnd d e) : c ∈ d := by
  unfold trimEnd at h
  split at h
  · exact List.mem_of_mem_take h
  · exact h
theorem decLines_free {x e : Str} (he : noSep e.cps.toList) : noSep (decLines e (Txt.lines x)) := by
  have key : ∀ c ∈ decLines e (Txt.lines x), c ∈ e.cps.toList ∨ brk c = false ∨ c < 256 := by
    intro c hc
    rw [decLines_lines] at hc
    obtain ⟨y, hy, hcy⟩ := List.mem_flatten.mp hc
    obtain ⟨l, hl, rfl⟩ := List.mem_map.mp hy
    rcases decLine_mem _ _ c (Nat.le_refl _) hcy with h | h | h
    · exact .inl h
    · exact .inr (.inl (linesA_free _ _ [] (Nat.le_refl _) (by simp) l hl c (rsL_sub h)))
    · exact .inr (.inr h)
  constructor
  · intro h
    rcases key _ h with h | h | h
    · exact he.1 h
    · revert h; decide +kernel
    · omega
  · intro h
    rcases key _ h with h | h | h
    · exact he.2 h
    · revert h; decide +kernel
    · omega
theorem read_free (x : Str) : noSep (decS x (Str.ofString "\n")).cps.toList := by
  have hf := decLines_free (x := x) nl_free
  unfold decS
  by_cases h0 : x.cps.toList = []
  · rw [if_pos h0, h0]
    exact ⟨by simp, by simp⟩
  · rw [if_neg h0]
    dsimp only
    split
    · exact hf
    · exact ⟨fun q => hf.1 (trimEnd_sub q), fun q => hf.2 (trimEnd_sub q)⟩
theorem read_facts (x : Str) {y : Str} (h : decS x (Str.ofString "\n") = y) : noSep y.cps.toList ∧ y.length ≤ x.length ∧ (y.length : Int) + (suD false y.cps.toList : Nat) ≤ (x.length : Int) := by
  subst h
  exact ⟨read_free x, decN_le x, price_dec x⟩
theorem hdrS_len (x : Str) : (hdrS x).length ≤ x.length := by
  rw [str_len, str_len]
  show (hdec (x.cps.toList.map unline)).length ≤ _
  have := hdec_length _ (x.cps.toList.map unline) (Nat.le_refl _)
  rw [List.length_map] at this
  exact this
theorem heard_facts (x : Str) {y : Str} (h : hdrS x = y) : y.length ≤ x.length ∧ (y.length : Int) + (suH y.cps.toList : Nat) ≤ (x.length : Int) := by
  subst h
  exact ⟨hdrS_len x, price_hdr x⟩
theorem spSD_facts (x : Str) {P : Int} (h : (x.length : Int) + (suD false x.cps.toList : Nat) = P) (hx : x.length ≤ 189) : ((spSD x).length : Int) = P ∧ (spSD x).length ≤ 1000 := by
  have h1 := spD_len false x.cps.toList
  have h2 := suD_le false x.cps.toList
  have h3 : (spSD x).length = x.length + suD false x.cps.toList := by
    rw [str_len, str_len]
    exact h1
  rw [← str_len] at h2
  omega
theorem spSH_facts (x : Str) {P : Int} (h : (x.length : Int) + (suH x.cps.toList : Nat) = P) (hx : x.length ≤ 189) : ((spSH x).length : Int) = P ∧ (spSH x).length ≤ 1000 := by
  have h1 := spH_len x.cps.toList
  have h2 := suH_le x.cps.toList
  have h3 : (spSH x).length = x.length + suH x.cps.toList := by
    rw [str_len, str_len]
    exact h1
  rw [← str_len] at h2
  omega
end Mine
namespace Mine
theorem fillW : PySem.Challenge.rw_dw5003_03.name = PySem.Challenge.rw_dw5003_03.name ∧ hd03.heap_39 = hd03.heap_39 := by
  k_fill
  exact ⟨rfl, rfl⟩
local macro_rules | `(tactic| walk_at "pad 0") => `(tactic| skip)
local macro_rules | `(tactic| walk_at "pad 1") => `(tactic| skip)
local macro_rules | `(tactic| walk_at "ite") => `(tactic| first | with_reducible refine ite_tt ?_ | with_reducible refine ite_ff ?_ | (with_reducible refine split_ine ?_ ?_ <;> intro _) | (with_reducible refine split_ieq ?_ ?_ <;> intro _) | with_reducible refine split_not ?_ | (with_reducible refine split_dec ?_ ?_ <;> intro _) | (with_reducible refine split_bool ?_ ?_ <;> intro _))
local macro_rules | `(tactic| walk_at "execs cons") => `(tactic| ((with_reducible refine wpAny_execs_cons ?_); try dsimp only))
local macro_rules | `(tactic| walk_at "execs nil") => `(tactic| refine wpAny_execs_nil ?_)
theorem in_ints_K {prog : Program} {w : World} {A : Around} {E : Value → Shared → Prop} {s : Shared} {h₀ : Heap} {L a : Addr} {m : Str → Option Value} {K : Frag} {l : List Value} {ns : List Int} {dd : Option Addr} {n : Nat} {sl : Array (Option Value)} {k : Int} {t : Tok} {Q : Value → Shared → Prop}
    (F : Fr h₀ L s.heap m) (X₀ : K.In h₀) (hl : K.lookup a = some ⟨.type "tuple", dd, .seq l.toArray n, sl⟩) (hi : IntsAre l ns) (h : Q (.bool (ns.any (· == k))) s) : wpAny (model prog w) A (compareOp .In (.int k t) (.ref a)) Q E s := by
  have hT : s.heap.IsTuple a l.toArray := kun_topT F X₀ hl
  let e : Value → Bool := fun v => match v with | .int j _ => j == k | _ => false
  have key : ∀ (l : List Value) (ns : List Int), IntsAre l ns → l.any e = ns.any (· == k) ∧ ∀ y ∈ l, SeqAt.EqAt A.in1 s y (.int k t) (e y) := by
    intro l ns h
    induction h with
    | nil => exact ⟨rfl, fun y hy => by cases hy⟩
    | cons x t' _ ih =>
      refine ⟨by rw [List.any_cons, List.any_cons, ih.1], fun y hy => ?_⟩
      rcases List.mem_cons.mp hy with rfl | hy
      · exact (MeetsSeq.EqGives.int _ _ _ _).at _ _
      · exact ih.2 y hy
  obtain ⟨k1, k2⟩ := key l ns hi
  refine SeqAt.in_tupleAt e hT (fun y hy => k2 y (by simpa using hy)) ?_
  rw [List.any_toArray, k1]
  exact h
local macro_rules | `(tactic| walk_at "compareOp In int ref") => `(tactic| (k_dflt (refine' in_ints_K (ns := [160, 5760, 8239, 8287, 12288]) ?F ?X ?l ?k ?_; (case F => k_asm); (case X => k_asm); (case l => exact rfl); (case k => exact .cons _ _ (.cons _ _ (.cons _ _ (.cons _ _ (.cons _ _ .nil))))))))
theorem ctr_white (w : World) (c : Nat) (t : Tok) : Ctr w 81 1 8 [.str ⟨#[c]⟩ t] (fun t => .bool (whiteB c)) := by
  intro p loose mean mg mb news dp un gd cn cs a ccd cl outer A₀ base h₀ L m s Q E B F X N T hk hd hu hret
  refine wpAny_call ?_
  k_dflt (refine' code_def ?k1 ?k2 ?k3 ?k4 ?k5 ?kA ?kF ?kK ?k6 ?k7 ?k8 ?k9 ?kB ?_ ?c2 ?c3 ?c4 ?c5; (case kA => exact rfl); (case kF => exact rfl); (case kK => assumption); (case k1 => k_asm); (case k2 => k_asm); (case k3 => k_asm); (case k4 => k_asm); (case k5 => k_asm); (case k6 => k_is); (case k7 => k_is); (case k8 => ktr_room); (case k9 => first | exact BindsTo.of_eq rfl | exact binds_K (by k_in) rfl (by k_is) rfl rfl rfl); (case c5 => decide); (case kB => exact locs rfl); (case c2 => exact rfl); (case c3 => exact rfl); (case c4 => exact rfl); k_whole; intro g' L' h' FG' F' N' B' X' T'; (try dsimp only); (try k_lift B'); (try k_fold))
  k_steps
  all_goals try (exfalso; omega)
  all_goals refine q_bool (b := whiteB (c : Int)) ?_ (hret t _ _ (by k_asm) (by k_asm))
  all_goals rw [Bool.eq_iff_iff]
  all_goals unfold whiteB
  all_goals simp only [List.any_cons, List.any_nil, Bool.or_eq_true, beq_iff_eq, decide_eq_true_eq, Bool.or_false]
  all_goals omega
end Mine
namespace Mine
theorem fillLo : PySem.Challenge.rw_dw5003_03.name = PySem.Challenge.rw_dw5003_03.name ∧ hd03.heap_39 = hd03.heap_39 := by
  k_fill
  exact ⟨rfl, rfl⟩
local macro_rules | `(tactic| walk_at "pad 0") => `(tactic| skip)
local macro_rules | `(tactic| walk_at "pad 1") => `(tactic| skip)
local macro_rules | `(tactic| walk_at "pad 2") => `(tactic| skip)
local macro_rules | `(tactic| walk_at "call ref") => `(tactic| refine Stop.out ?_)
local macro_rules | `(tactic| walk_at "ite") => `(tactic| first | with_reducible refine ite_tt ?_ | with_reducible refine ite_ff ?_ | (with_reducible refine split_ine ?_ ?_ <;> intro _) | (with_reducible refine split_ieq ?_ ?_ <;> intro _) | with_reducible refine split_not ?_ | (with_reducible refine split_dec ?_ ?_ <;> intro _) | (with_reducible refine split_bool ?_ ?_ <;> intro _))
local macro_rules | `(tactic| walk_at "execs cons") => `(tactic| ((with_reducible refine wpAny_execs_cons ?_); try dsimp only))
local macro_rules | `(tactic| walk_at "execs nil") => `(tactic| refine wpAny_execs_nil ?_)
theorem ctr_loose (w : World) (c : Nat) (t : Tok) : Ctr w 102 2 16 [.str ⟨#[c]⟩ t] (fun t => .bool (looseB c)) := by
  intro p loose mean mg mb news dp un gd cn cs a ccd cl outer A₀ base h₀ L m s Q E B F X N T hk hd hu hret
  refine wpAny_call ?_
  k_dflt (refine' code_def ?k1 ?k2 ?k3 ?k4 ?k5 ?kA ?kF ?kK ?k6 ?k7 ?k8 ?k9 ?kB ?_ ?c2 ?c3 ?c4 ?c5; (case kA => exact rfl); (case kF => exact rfl); (case kK => assumption); (case k1 => k_asm); (case k2 => k_asm); (case k3 => k_asm); (case k4 => k_asm); (case k5 => k_asm); (case k6 => k_is); (case k7 => k_is); (case k8 => ktr_room); (case k9 => first | exact BindsTo.of_eq rfl | exact binds_K (by k_in) rfl (by k_is) rfl rfl rfl); (case c5 => decide); (case kB => exact locs rfl); (case c2 => exact rfl); (case c3 => exact rfl); (case c4 => exact rfl); k_whole; intro g' L' h' FG' F' N' B' X' T'; (try dsimp only); (try k_lift B'); (try k_fold))
  k_steps
  · exact q_bool (loose_t1 (by assumption)) (hret t _ _ (by k_asm) (by k_asm))
  · refine Stop.mk ?_
    k_dflt (refine' Ctr.use (ctr_white w c _) ?B ?F ?X ?N ?T ?hk ?hd ?hu ?_; (case B => k_asm); (case F => k_asm); (case X => k_asm); (case N => k_asm); (case T => k_asm); (case hk => first | exact rfl | assumption); (case hd => ktr_room); (case hu => ktr_units))
    intro t9 h9 tk9 F9 N9
    (try dsimp only)
    (try k_fold)
    rw [loose_t4 (c := c) (by assumption) (by assumption) (by assumption)]
    k_steps
    exact hret t _ _ (by k_asm) (by k_asm)
  · exact q_bool (loose_t3 (by assumption) (by assumption) (by assumption)) (hret t _ _ (by k_asm) (by k_asm))
  · exact q_bool (loose_t2 (by assumption) (by assumption)) (hret t _ _ (by k_asm) (by k_asm))
end Mine
namespace Mine
theorem fillEs : PySem.Challenge.rw_dw5003_03.name = PySem.Challenge.rw_dw5003_03.name ∧ hd03.heap_39 = hd03.heap_39 := by
  k_fill
  exact ⟨rfl, rfl⟩
local macro_rules | `(tactic| walk_at "pad 0") => `(tactic| skip)
local macro_rules | `(tactic| walk_at "pad 1") => `(tactic| skip)
local macro_rules | `(tactic| walk_at "pad 2") => `(tactic| skip)
local macro_rules | `(tactic| walk_at "pad 3") => `(tactic| skip)
local macro_rules | `(tactic| walk_at "pad 4") => `(tactic| skip)
local macro_rules | `(tactic| walk_at "pad 5") => `(tactic| skip)
local macro_rules | `(tactic| walk_at "ite") => `(tactic| first | with_reducible refine ite_tt ?_ | with_reducible refine ite_ff ?_ | (with_reducible refine split_ine ?_ ?_ <;> intro _) | (with_reducible refine split_ieq ?_ ?_ <;> intro _) | with_reducible refine split_not ?_ | (with_reducible refine split_dec ?_ ?_ <;> intro _) | (with_reducible refine split_bool ?_ ?_ <;> intro _))
local macro_rules | `(tactic| walk_at "execs cons") => `(tactic| ((with_reducible refine wpAny_execs_cons ?_); try dsimp only))
local macro_rules | `(tactic| walk_at "execs nil") => `(tactic| refine wpAny_execs_nil ?_)
theorem ctr_escape (w : World) (x : Str) (k : Int) (t u : Tok) (hx : x.length ≤ 400) (h0 : 0 ≤ k) (hk1 : k < (x.length : Int)) : Ctr w 88 1 12 [.str x t, .int k u] (fun t => .bool (esc (x.cps.toList.drop k.toNat))) := by
  intro p loose mean mg mb news dp un gd cn cs a ccd cl outer A₀ base h₀ L m s Q E B F X N T hk hd hu hret
  refine wpAny_call ?_
  k_dflt (refine' code_def ?k1 ?k2 ?k3 ?k4 ?k5 ?kA ?kF ?kK ?k6 ?k7 ?k8 ?k9 ?kB ?_ ?c2 ?c3 ?c4 ?c5; (case kA => exact rfl); (case kF => exact rfl); (case kK => assumption); (case k1 => k_asm); (case k2 => k_asm); (case k3 => k_asm); (case k4 => k_asm); (case k5 => k_asm); (case k6 => k_is); (case k7 => k_is); (case k8 => ktr_room); (case k9 => first | exact BindsTo.of_eq rfl | exact binds_K (by k_in) rfl (by k_is) rfl rfl rfl); (case c5 => decide); (case kB => exact locs rfl); (case c2 => exact rfl); (case c3 => exact rfl); (case c4 => exact rfl); k_whole; intro g' L' h' FG' F' N' B' X' T'; (try dsimp only); (try k_lift B'); (try k_fold))
  k_steps
  · have hk2 : k + 1 < (x.length : Int) := of_decide_eq_true ((slice_one (x := x) (i := k + 1) (j := k + 2) (by omega) (by omega)).symm.trans (by assumption))
    k_steps
    · refine q_bool (b := esc (x.cps.toList.drop k.toNat)) ?_ (hret t _ _ (by k_asm) (by k_asm))
      rw [esc_yes h0 hk1 (by assumption), hh_no3 h0 hk1 hk2 (by assumption)]
      exact congrArg (fun b => !b) (by assumption)
    · have hk3 : k + 2 < (x.length : Int) := of_decide_eq_true ((slice_one (x := x) (i := k + 2) (j := k + 3) (by omega) (by omega)).symm.trans (by assumption))
      k_steps
      all_goals refine q_bool (b := esc (x.cps.toList.drop k.toNat)) ?_ (hret t _ _ (by k_asm) (by k_asm))
      all_goals rw [esc_yes h0 hk1 (by assumption), hh_yes5 h0 hk1 hk3 (by assumption)]
    · refine q_bool (b := esc (x.cps.toList.drop k.toNat)) ?_ (hret t _ _ (by k_asm) (by k_asm))
      rw [esc_yes h0 hk1 (by assumption), hh_no4 h0 hk1 hk2 (by assumption)]
      assumption
  · refine q_bool (b := esc (x.cps.toList.drop k.toNat)) ?_ (hret t _ _ (by k_asm) (by k_asm))
    rw [esc_yes h0 hk1 (by assumption), hh_no2 h0 hk1 (by assumption)]
    assumption
  · exact q_bool (esc_no1 h0 hk1 (by assumption)) (hret t _ _ (by k_asm) (by k_asm))
end Mine
namespace Mine
theorem fillPr : PySem.Challenge.rw_dw5003_03.name = PySem.Challenge.rw_dw5003_03.name ∧ hd03.heap_39 = hd03.heap_39 := by
  k_fill
  exact ⟨rfl, rfl⟩
local macro_rules | `(tactic| walk_at "pad 0") => `(tactic| skip)
local macro_rules | `(tactic| walk_at "pyIter ref") => `(tactic| refine Stop.out ?_)
local macro_rules | `(tactic| walk_at "InvEndN") => `(tactic| refine Stop.out ?_)
local macro_rules | `(tactic| walk_at "call ref") => `(tactic| refine Stop.out ?_)
local macro_rules | `(tactic| walk_at "ite") => `(tactic| first | with_reducible refine ite_tt ?_ | with_reducible refine ite_ff ?_ | (with_reducible refine split_ine ?_ ?_ <;> intro _) | (with_reducible refine split_ieq ?_ ?_ <;> intro _) | with_reducible refine split_not ?_ | (with_reducible refine split_dec ?_ ?_ <;> intro _) | (with_reducible refine split_bool ?_ ?_ <;> intro _))
local macro_rules | `(tactic| walk_at "binaryOp FloorDiv int int") => `(tactic| (refine floordiv_int (by decide) ?_ (Or.inl (PyProof.noPylong_of_log2 (by decide +kernel)))))
local macro_rules | `(tactic| walk_at "binaryOp Mod int int") => `(tactic| (refine mod_int' (by decide) ?_))
local macro_rules | `(tactic| walk_at "execs cons") => `(tactic| ((with_reducible refine wpAny_execs_cons ?_); try dsimp only))
local macro_rules | `(tactic| walk_at "execs nil") => `(tactic| refine wpAny_execs_nil ?_)
local macro_rules | `(tactic| walk_at "exec For Name Call cons nil") => `(tactic| ((with_reducible rename Fr _ _ _ _ => lF'); (with_unfolding_all refine' For_invVF lF' ?k1 ?k2 ?_; (case k1 => exact rfl); (case k2 => exact rfl); k_whole)))
theorem ctr_priceD (w : World) (x : Str) (t : Tok) (hx : x.length ≤ 400) : Ctr w 109 4 30 [.str x t, .bool false] (fun t => .int ((x.length : Int) + (suD false x.cps.toList : Nat)) t) := by
  intro p loose mean mg mb news dp un gd cn cs a ccd cl outer A₀ base h₀ L m s Q E B F X N T hk hd hu hret
  refine wpAny_call ?_
  k_dflt (refine' code_def ?k1 ?k2 ?k3 ?k4 ?k5 ?kA ?kF ?kK ?k6 ?k7 ?k8 ?k9 ?kB ?_ ?c2 ?c3 ?c4 ?c5; (case kA => exact rfl); (case kF => exact rfl); (case kK => assumption); (case k1 => k_asm); (case k2 => k_asm); (case k3 => k_asm); (case k4 => k_asm); (case k5 => k_asm); (case k6 => k_is); (case k7 => k_is); (case k8 => ktr_room); (case k9 => first | exact BindsTo.of_eq rfl | exact binds_K (by k_in) rfl (by k_is) rfl rfl rfl); (case c5 => decide); (case kB => exact locs rfl); (case c2 => exact rfl); (case c3 => exact rfl); (case c4 => exact rfl); k_whole; intro g' L' h' FG' F' N' B' X' T'; (try dsimp only); (try k_lift B'); (try k_fold))
  k_steps
  · refine Stop.mk ?_
    (with_reducible rename IsRange _ _ _ _ _ _ _ _ => RR)
    (with_reducible rename Fr _ _ _ _ => FF)
    (with_reducible rename News _ _ _ _ => NN)
    refine' kst_range (σ := Int × Tok) (n := x.length) (fun _ => news) (fun c => [(Str.ofString "price", Value.int c.1 c.2)]) (fun _ => True) [] (fun pre c => (x.length : Int) ≤ c.1 ∧ c.1 + (suD (lpA x.cps.toList pre.length) (x.cps.toList.drop pre.length) : Nat) = (x.length : Int) + (suD false x.cps.toList : Nat)) (x.length, ?tk0) (by rfl) RR ?ksm ?knn FF NN trivial ?k1 ?k2 ?k3 ?k4
    case ksm => exact small_one (by omega) (by omega) (by omega) (by omega)
    case knn => rw [rangeSize_one]; first | (rw [if_pos (by omega)]; omega) | (split <;> omega)
    case k1 => intro p hp; cases List.mem_singleton.mp hp; rfl
    case k2 => exact ⟨Int.le_refl _, rfl⟩
    case k3 =>
      intro c pre k ty u h tk own hys hlt hoff _ hp F3 N3
      obtain ⟨hp0, hp⟩ := hp
      clear FF NN RR
      (try dsimp only)
      (try k_fold)
      k_steps
      have hk' : k = (pre.length : Int) := by omega
      obtain ⟨c0, hd0, hi0, _, hl0⟩ := item_at (x := x) (i := pre.length) (by omega)
      rw [← hk'] at hi0
      have hkn : k.toNat = pre.length := by omega
      rw [hd0, suD, ← hd0] at hp
      have hE : endx c0 = !(Builtin.Str.occurrences (Str.ofString "\r\x0b\x0c\x1c\x1d\x1e\u0085") (Txt.item x k) 0 (Str.ofString "\r\x0b\x0c\x1c\x1d\x1e\u0085").length 1).isEmpty := by rw [hi0]; exact ends7 rfl
      have hL : decide (c0 = 10) = (Txt.item x k == Str.ofString "\n") := by rw [hi0, sg10']
      rw [hE, hL] at hp
      refine Stop.mk ?_
      k_dflt (refine' Ctr.use (ctr_escape w x k _ _ hx (by omega) (by omega)) ?Bn1 ?Fn1 ?Xn1 ?Nn1 ?Tn1 ?hkn1 ?hdn1 ?hun1 ?_; (case Bn1 => k_asm); (case Fn1 => k_asm); (case Xn1 => k_asm); (case Nn1 => k_asm); (case Tn1 => k_asm); (case hkn1 => first | exact rfl | assumption); (case hdn1 => ktr_room); (case hun1 => ktr_units))
      intro t9 h9 tk9 F9 N9
      (try dsimp only)
      (try k_fold)
      rw [hkn]
      generalize he : esc (x.cps.toList.drop pre.length) = ee at hp ⊢
      k_steps
      · skip
        refine Stop.mk ?_
        obtain ⟨d, hd1, hd2⟩ := item_prev (x := x) (i := pre.length) hk' (by omega) (by omega)
        rw [hd1]
        k_dflt (refine' Ctr.use (ctr_loose w d _) ?Bn2 ?Fn2 ?Xn2 ?Nn2 ?Tn2 ?hkn2 ?hdn2 ?hun2 ?_; (case Bn2 => k_asm); (case Fn2 => k_asm); (case Xn2 => k_asm); (case Nn2 => k_asm); (case Tn2 => k_asm); (case hkn2 => first | exact rfl | assumption); (case hdn2 => ktr_room); (case hun2 => ktr_units))
        intro t9 h9 tk9 F9 N9
        (try dsimp only)
        (try k_fold)
        rw [hd2] at hp
        generalize hlo : looseB d = lo at hp ⊢
        k_steps
        · skip
          refine Stop.mk ?_
          first
            | (
                (with_reducible rename Fr _ _ _ _ => FF)
                (with_reducible rename News _ _ _ _ => NN)
                refine' kst_end (c.1, ?tkn3) FF NN (fun p hp => List.mem_append_left _ hp) (fun p hp => List.mem_append_right _ hp) rfl trivial ?ksn3 ?krn3 ?kpn3
                case ksn3 => intro p hp; cases List.mem_singleton.mp hp; rfl
                case krn3 =>
                  intro z h1 h2 h3
                  simp only [List.forall_mem_cons, List.not_mem_nil, false_implies, implies_true, and_true, ne_eq] at h2
                  simp [h1, h2, kstB]
                case kpn3 =>
                  show (x.length : Int) ≤ (c.1) ∧ (c.1) + (suD (lpA x.cps.toList (pre ++ [_]).length) (x.cps.toList.drop (pre ++ [_]).length) : Nat) = _
                  rw [List.length_append, List.length_singleton, hl0]
                  (first | rw [(by assumption : ee = true)] at hp | rw [(by assumption : ee = false)] at hp)
                  (try first | rw [(by assumption : (Builtin.Str.occurrences (Str.ofString "\r\x0b\x0c\x1c\x1d\x1e\u0085") (Txt.item x k) 0 (Str.ofString "\r\x0b\x0c\x1c\x1d\x1e\u0085").length 1).isEmpty = true)] at hp | rw [(by assumption : (Builtin.Str.occurrences (Str.ofString "\r\x0b\x0c\x1c\x1d\x1e\u0085") (Txt.item x k) 0 (Str.ofString "\r\x0b\x0c\x1c\x1d\x1e\u0085").length 1).isEmpty = false)] at hp)
                  (first | rw [(by assumption : (Txt.item x k == Str.ofString "\n") = true)] at hp | rw [(by assumption : (Txt.item x k == Str.ofString "\n") = false)] at hp)
                  (try first | rw [(by assumption : lo = true)] at hp | rw [(by assumption : lo = false)] at hp | (have hz : lpA x.cps.toList pre.length = false := by (rw [show pre.length = 0 by omega]; rfl)); rw [hz] at hp)
                  simp only [Bool.or_true, Bool.true_or, Bool.or_false, Bool.false_or, Bool.not_true, Bool.not_false, Bool.and_true, Bool.and_false, Bool.true_and, Bool.false_and, if_true, if_false, Bool.false_eq_true, reduceIte] at hp
                  exact ⟨by omega, by omega⟩)
            | (
                (with_reducible rename Fr _ _ _ _ => FF)
                (with_reducible rename News _ _ _ _ => NN)
                refine' kst_end (c.1 + 2, ?tkn4) FF NN (fun p hp => List.mem_append_left _ hp) (fun p hp => List.mem_append_right _ hp) rfl trivial ?ksn4 ?krn4 ?kpn4
                case ksn4 => intro p hp; cases List.mem_singleton.mp hp; rfl
                case krn4 =>
                  intro z h1 h2 h3
                  simp only [List.forall_mem_cons, List.not_mem_nil, false_implies, implies_true, and_true, ne_eq] at h2
                  simp [h1, h2, kstB]
                case kpn4 =>
                  show (x.length : Int) ≤ (c.1 + 2) ∧ (c.1 + 2) + (suD (lpA x.cps.toList (pre ++ [_]).length) (x.cps.toList.drop (pre ++ [_]).length) : Nat) = _
                  rw [List.length_append, List.length_singleton, hl0]
                  (first | rw [(by assumption : ee = true)] at hp | rw [(by assumption : ee = false)] at hp)
                  (try first | rw [(by assumption : (Builtin.Str.occurrences (Str.ofString "\r\x0b\x0c\x1c\x1d\x1e\u0085") (Txt.item x k) 0 (Str.ofString "\r\x0b\x0c\x1c\x1d\x1e\u0085").length 1).isEmpty = true)] at hp | rw [(by assumption : (Builtin.Str.occurrences (Str.ofString "\r\x0b\x0c\x1c\x1d\x1e\u0085") (Txt.item x k) 0 (Str.ofString "\r\x0b\x0c\x1c\x1d\x1e\u0085").length 1).isEmpty = false)] at hp)
                  (first | rw [(by assumption : (Txt.item x k == Str.ofString "\n") = true)] at hp | rw [(by assumption : (Txt.item x k == Str.ofString "\n") = false)] at hp)
                  (try first | rw [(by assumption : lo = true)] at hp | rw [(by assumption : lo = false)] at hp | (have hz : lpA x.cps.toList pre.length = false := by (rw [show pre.length = 0 by omega]; rfl)); rw [hz] at hp)
                  simp only [Bool.or_true, Bool.true_or, Bool.or_false, Bool.false_or, Bool.not_true, Bool.not_false, Bool.and_true, Bool.and_false, Bool.true_and, Bool.false_and, if_true, if_false, Bool.false_eq_true, reduceIte] at hp
                  exact ⟨by omega, by omega⟩)
            | (
                (with_reducible rename Fr _ _ _ _ => FF)
                (with_reducible rename News _ _ _ _ => NN)
                refine' kst_end (c.1 + 2 + 2, ?tkn5) FF NN (fun p hp => List.mem_append_left _ hp) (fun p hp => List.mem_append_right _ hp) rfl trivial ?ksn5 ?krn5 ?kpn5
                case ksn5 => intro p hp; cases List.mem_singleton.mp hp; rfl
                case krn5 =>
                  intro z h1 h2 h3
                  simp only [List.forall_mem_cons, List.not_mem_nil, false_implies, implies_true, and_true, ne_eq] at h2
                  simp [h1, h2, kstB]
                case kpn5 =>
                  show (x.length : Int) ≤ (c.1 + 2 + 2) ∧ (c.1 + 2 + 2) + (suD (lpA x.cps.toList (pre ++ [_]).length) (x.cps.toList.drop (pre ++ [_]).length) : Nat) = _
                  rw [List.length_append, List.length_singleton, hl0]
                  (first | rw [(by assumption : ee = true)] at hp | rw [(by assumption : ee = false)] at hp)
                  (try first | rw [(by assumption : (Builtin.Str.occurrences (Str.ofString "\r\x0b\x0c\x1c\x1d\x1e\u0085") (Txt.item x k) 0 (Str.ofString "\r\x0b\x0c\x1c\x1d\x1e\u0085").length 1).isEmpty = true)] at hp | rw [(by assumption : (Builtin.Str.occurrences (Str.ofString "\r\x0b\x0c\x1c\x1d\x1e\u0085") (Txt.item x k) 0 (Str.ofString "\r\x0b\x0c\x1c\x1d\x1e\u0085").length 1).isEmpty = false)] at hp)
                  (first | rw [(by assumption : (Txt.item x k == Str.ofString "\n") = true)] at hp | rw [(by assumption : (Txt.item x k == Str.ofString "\n") = false)] at hp)
                  (try first | rw [(by assumption : lo = true)] at hp | rw [(by assumption : lo = false)] at hp | (have hz : lpA x.cps.toList pre.length = false := by (rw [show pre.length = 0 by omega]; rfl)); rw [hz] at hp)
                  simp only [Bool.or_true, Bool.true_or, Bool.or_false, Bool.false_or, Bool.not_true, Bool.not_false, Bool.and_true, Bool.and_false, Bool.true_and, Bool.false_and, if_true, if_false, Bool.false_eq_true, reduceIte] at hp
                  exact ⟨by omega, by omega⟩)
        · skip
          refine Stop.mk ?_
          first
            | (
                (with_reducible rename Fr _ _ _ _ => FF)
                (with_reducible rename News _ _ _ _ => NN)
                refine' kst_end (c.1, ?tkn6) FF NN (fun p hp => List.mem_append_left _ hp) (fun p hp => List.mem_append_right _ hp) rfl trivial ?ksn6 ?krn6 ?kpn6
                case ksn6 => intro p hp; cases List.mem_singleton.mp hp; rfl
                case krn6 =>
                  intro z h1 h2 h3
                  simp only [List.forall_mem_cons, List.not_mem_nil, false_implies, implies_true, and_true, ne_eq] at h2
                  simp [h1, h2, kstB]
                case kpn6 =>
                  show (x.length : Int) ≤ (c.1) ∧ (c.1) + (suD (lpA x.cps.toList (pre ++ [_]).length) (x.cps.toList.drop (pre ++ [_]).length) : Nat) = _
                  rw [List.length_append, List.length_singleton, hl0]
                  (first | rw [(by assumption : ee = true)] at hp | rw [(by assumption : ee = false)] at hp)
                  (try first | rw [(by assumption : (Builtin.Str.occurrences (Str.ofString "\r\x0b\x0c\x1c\x1d\x1e\u0085") (Txt.item x k) 0 (Str.ofString "\r\x0b\x0c\x1c\x1d\x1e\u0085").length 1).isEmpty = true)] at hp | rw [(by assumption : (Builtin.Str.occurrences (Str.ofString "\r\x0b\x0c\x1c\x1d\x1e\u0085") (Txt.item x k) 0 (Str.ofString "\r\x0b\x0c\x1c\x1d\x1e\u0085").length 1).isEmpty = false)] at hp)
                  (first | rw [(by assumption : (Txt.item x k == Str.ofString "\n") = true)] at hp | rw [(by assumption : (Txt.item x k == Str.ofString "\n") = false)] at hp)
                  (try first | rw [(by assumption : lo = true)] at hp | rw [(by assumption : lo = false)] at hp | (have hz : lpA x.cps.toList pre.length = false := by (rw [show pre.length = 0 by omega]; rfl)); rw [hz] at hp)
                  simp only [Bool.or_true, Bool.true_or, Bool.or_false, Bool.false_or, Bool.not_true, Bool.not_false, Bool.and_true, Bool.and_false, Bool.true_and, Bool.false_and, if_true, if_false, Bool.false_eq_true, reduceIte] at hp
                  exact ⟨by omega, by omega⟩)
            | (
                (with_reducible rename Fr _ _ _ _ => FF)
                (with_reducible rename News _ _ _ _ => NN)
                refine' kst_end (c.1 + 2, ?tkn7) FF NN (fun p hp => List.mem_append_left _ hp) (fun p hp => List.mem_append_right _ hp) rfl trivial ?ksn7 ?krn7 ?kpn7
                case ksn7 => intro p hp; cases List.mem_singleton.mp hp; rfl
                case krn7 =>
                  intro z h1 h2 h3
                  simp only [List.forall_mem_cons, List.not_mem_nil, false_implies, implies_true, and_true, ne_eq] at h2
                  simp [h1, h2, kstB]
                case kpn7 =>
                  show (x.length : Int) ≤ (c.1 + 2) ∧ (c.1 + 2) + (suD (lpA x.cps.toList (pre ++ [_]).length) (x.cps.toList.drop (pre ++ [_]).length) : Nat) = _
                  rw [List.length_append, List.length_singleton, hl0]
                  (first | rw [(by assumption : ee = true)] at hp | rw [(by assumption : ee = false)] at hp)
                  (try first | rw [(by assumption : (Builtin.Str.occurrences (Str.ofString "\r\x0b\x0c\x1c\x1d\x1e\u0085") (Txt.item x k) 0 (Str.ofString "\r\x0b\x0c\x1c\x1d\x1e\u0085").length 1).isEmpty = true)] at hp | rw [(by assumption : (Builtin.Str.occurrences (Str.ofString "\r\x0b\x0c\x1c\x1d\x1e\u0085") (Txt.item x k) 0 (Str.ofString "\r\x0b\x0c\x1c\x1d\x1e\u0085").length 1).isEmpty = false)] at hp)
                  (first | rw [(by assumption : (Txt.item x k == Str.ofString "\n") = true)] at hp | rw [(by assumption : (Txt.item x k == Str.ofString "\n") = false)] at hp)
                  (try first | rw [(by assumption : lo = true)] at hp | rw [(by assumption : lo = false)] at hp | (have hz : lpA x.cps.toList pre.length = false := by (rw [show pre.length = 0 by omega]; rfl)); rw [hz] at hp)
                  simp only [Bool.or_true, Bool.true_or, Bool.or_false, Bool.false_or, Bool.not_true, Bool.not_false, Bool.and_true, Bool.and_false, Bool.true_and, Bool.false_and, if_true, if_false, Bool.false_eq_true, reduceIte] at hp
                  exact ⟨by omega, by omega⟩)
            | (
                (with_reducible rename Fr _ _ _ _ => FF)
                (with_reducible rename News _ _ _ _ => NN)
                refine' kst_end (c.1 + 2 + 2, ?tkn8) FF NN (fun p hp => List.mem_append_left _ hp) (fun p hp => List.mem_append_right _ hp) rfl trivial ?ksn8 ?krn8 ?kpn8
                case ksn8 => intro p hp; cases List.mem_singleton.mp hp; rfl
                case krn8 =>
                  intro z h1 h2 h3
                  simp only [List.forall_mem_cons, List.not_mem_nil, false_implies, implies_true, and_true, ne_eq] at h2
                  simp [h1, h2, kstB]
                case kpn8 =>
                  show (x.length : Int) ≤ (c.1 + 2 + 2) ∧ (c.1 + 2 + 2) + (suD (lpA x.cps.toList (pre ++ [_]).length) (x.cps.toList.drop (pre ++ [_]).length) : Nat) = _
                  rw [List.length_append, List.length_singleton, hl0]
                  (first | rw [(by assumption : ee = true)] at hp | rw [(by assumption : ee = false)] at hp)
                  (try first | rw [(by assumption : (Builtin.Str.occurrences (Str.ofString "\r\x0b\x0c\x1c\x1d\x1e\u0085") (Txt.item x k) 0 (Str.ofString "\r\x0b\x0c\x1c\x1d\x1e\u0085").length 1).isEmpty = true)] at hp | rw [(by assumption : (Builtin.Str.occurrences (Str.ofString "\r\x0b\x0c\x1c\x1d\x1e\u0085") (Txt.item x k) 0 (Str.ofString "\r\x0b\x0c\x1c\x1d\x1e\u0085").length 1).isEmpty = false)] at hp)
                  (first | rw [(by assumption : (Txt.item x k == Str.ofString "\n") = true)] at hp | rw [(by assumption : (Txt.item x k == Str.ofString "\n") = false)] at hp)
                  (try first | rw [(by assumption : lo = true)] at hp | rw [(by assumption : lo = false)] at hp | (have hz : lpA x.cps.toList pre.length = false := by (rw [show pre.length = 0 by omega]; rfl)); rw [hz] at hp)
                  simp only [Bool.or_true, Bool.true_or, Bool.or_false, Bool.false_or, Bool.not_true, Bool.not_false, Bool.and_true, Bool.and_false, Bool.true_and, Bool.false_and, if_true, if_false, Bool.false_eq_true, reduceIte] at hp
                  exact ⟨by omega, by omega⟩)
      · skip
        refine Stop.mk ?_
        first
          | (
              (with_reducible rename Fr _ _ _ _ => FF)
              (with_reducible rename News _ _ _ _ => NN)
              refine' kst_end (c.1, ?tkn9) FF NN (fun p hp => List.mem_append_left _ hp) (fun p hp => List.mem_append_right _ hp) rfl trivial ?ksn9 ?krn9 ?kpn9
              case ksn9 => intro p hp; cases List.mem_singleton.mp hp; rfl
              case krn9 =>
                intro z h1 h2 h3
                simp only [List.forall_mem_cons, List.not_mem_nil, false_implies, implies_true, and_true, ne_eq] at h2
                simp [h1, h2, kstB]
              case kpn9 =>
                show (x.length : Int) ≤ (c.1) ∧ (c.1) + (suD (lpA x.cps.toList (pre ++ [_]).length) (x.cps.toList.drop (pre ++ [_]).length) : Nat) = _
                rw [List.length_append, List.length_singleton, hl0]
                (first | rw [(by assumption : ee = true)] at hp | rw [(by assumption : ee = false)] at hp)
                (try first | rw [(by assumption : (Builtin.Str.occurrences (Str.ofString "\r\x0b\x0c\x1c\x1d\x1e\u0085") (Txt.item x k) 0 (Str.ofString "\r\x0b\x0c\x1c\x1d\x1e\u0085").length 1).isEmpty = true)] at hp | rw [(by assumption : (Builtin.Str.occurrences (Str.ofString "\r\x0b\x0c\x1c\x1d\x1e\u0085") (Txt.item x k) 0 (Str.ofString "\r\x0b\x0c\x1c\x1d\x1e\u0085").length 1).isEmpty = false)] at hp)
                (first | rw [(by assumption : (Txt.item x k == Str.ofString "\n") = true)] at hp | rw [(by assumption : (Txt.item x k == Str.ofString "\n") = false)] at hp)
                (try first | rw [(by assumption : lo = true)] at hp | rw [(by assumption : lo = false)] at hp | (have hz : lpA x.cps.toList pre.length = false := by (rw [show pre.length = 0 by omega]; rfl)); rw [hz] at hp)
                simp only [Bool.or_true, Bool.true_or, Bool.or_false, Bool.false_or, Bool.not_true, Bool.not_false, Bool.and_true, Bool.and_false, Bool.true_and, Bool.false_and, if_true, if_false, Bool.false_eq_true, reduceIte] at hp
                exact ⟨by omega, by omega⟩)
          | (
              (with_reducible rename Fr _ _ _ _ => FF)
              (with_reducible rename News _ _ _ _ => NN)
              refine' kst_end (c.1 + 2, ?tkn10) FF NN (fun p hp => List.mem_append_left _ hp) (fun p hp => List.mem_append_right _ hp) rfl trivial ?ksn10 ?krn10 ?kpn10
              case ksn10 => intro p hp; cases List.mem_singleton.mp hp; rfl
              case krn10 =>
                intro z h1 h2 h3
                simp only [List.forall_mem_cons, List.not_mem_nil, false_implies, implies_true, and_true, ne_eq] at h2
                simp [h1, h2, kstB]
              case kpn10 =>
                show (x.length : Int) ≤ (c.1 + 2) ∧ (c.1 + 2) + (suD (lpA x.cps.toList (pre ++ [_]).length) (x.cps.toList.drop (pre ++ [_]).length) : Nat) = _
                rw [List.length_append, List.length_singleton, hl0]
                (first | rw [(by assumption : ee = true)] at hp | rw [(by assumption : ee = false)] at hp)
                (try first | rw [(by assumption : (Builtin.Str.occurrences (Str.ofString "\r\x0b\x0c\x1c\x1d\x1e\u0085") (Txt.item x k) 0 (Str.ofString "\r\x0b\x0c\x1c\x1d\x1e\u0085").length 1).isEmpty = true)] at hp | rw [(by assumption : (Builtin.Str.occurrences (Str.ofString "\r\x0b\x0c\x1c\x1d\x1e\u0085") (Txt.item x k) 0 (Str.ofString "\r\x0b\x0c\x1c\x1d\x1e\u0085").length 1).isEmpty = false)] at hp)
                (first | rw [(by assumption : (Txt.item x k == Str.ofString "\n") = true)] at hp | rw [(by assumption : (Txt.item x k == Str.ofString "\n") = false)] at hp)
                (try first | rw [(by assumption : lo = true)] at hp | rw [(by assumption : lo = false)] at hp | (have hz : lpA x.cps.toList pre.length = false := by (rw [show pre.length = 0 by omega]; rfl)); rw [hz] at hp)
                simp only [Bool.or_true, Bool.true_or, Bool.or_false, Bool.false_or, Bool.not_true, Bool.not_false, Bool.and_true, Bool.and_false, Bool.true_and, Bool.false_and, if_true, if_false, Bool.false_eq_true, reduceIte] at hp
                exact ⟨by omega, by omega⟩)
          | (
              (with_reducible rename Fr _ _ _ _ => FF)
              (with_reducible rename News _ _ _ _ => NN)
              refine' kst_end (c.1 + 2 + 2, ?tkn11) FF NN (fun p hp => List.mem_append_left _ hp) (fun p hp => List.mem_append_right _ hp) rfl trivial ?ksn11 ?krn11 ?kpn11
              case ksn11 => intro p hp; cases List.mem_singleton.mp hp; rfl
              case krn11 =>
                intro z h1 h2 h3
                simp only [List.forall_mem_cons, List.not_mem_nil, false_implies, implies_true, and_true, ne_eq] at h2
                simp [h1, h2, kstB]
              case kpn11 =>
                show (x.length : Int) ≤ (c.1 + 2 + 2) ∧ (c.1 + 2 + 2) + (suD (lpA x.cps.toList (pre ++ [_]).length) (x.cps.toList.drop (pre ++ [_]).length) : Nat) = _
                rw [List.length_append, List.length_singleton, hl0]
                (first | rw [(by assumption : ee = true)] at hp | rw [(by assumption : ee = false)] at hp)
                (try first | rw [(by assumption : (Builtin.Str.occurrences (Str.ofString "\r\x0b\x0c\x1c\x1d\x1e\u0085") (Txt.item x k) 0 (Str.ofString "\r\x0b\x0c\x1c\x1d\x1e\u0085").length 1).isEmpty = true)] at hp | rw [(by assumption : (Builtin.Str.occurrences (Str.ofString "\r\x0b\x0c\x1c\x1d\x1e\u0085") (Txt.item x k) 0 (Str.ofString "\r\x0b\x0c\x1c\x1d\x1e\u0085").length 1).isEmpty = false)] at hp)
                (first | rw [(by assumption : (Txt.item x k == Str.ofString "\n") = true)] at hp | rw [(by assumption : (Txt.item x k == Str.ofString "\n") = false)] at hp)
                (try first | rw [(by assumption : lo = true)] at hp | rw [(by assumption : lo = false)] at hp | (have hz : lpA x.cps.toList pre.length = false := by (rw [show pre.length = 0 by omega]; rfl)); rw [hz] at hp)
                simp only [Bool.or_true, Bool.true_or, Bool.or_false, Bool.false_or, Bool.not_true, Bool.not_false, Bool.and_true, Bool.and_false, Bool.true_and, Bool.false_and, if_true, if_false, Bool.false_eq_true, reduceIte] at hp
                exact ⟨by omega, by omega⟩)
      · skip
        refine Stop.mk ?_
        first
          | (
              (with_reducible rename Fr _ _ _ _ => FF)
              (with_reducible rename News _ _ _ _ => NN)
              refine' kst_end (c.1, ?tkn12) FF NN (fun p hp => List.mem_append_left _ hp) (fun p hp => List.mem_append_right _ hp) rfl trivial ?ksn12 ?krn12 ?kpn12
              case ksn12 => intro p hp; cases List.mem_singleton.mp hp; rfl
              case krn12 =>
                intro z h1 h2 h3
                simp only [List.forall_mem_cons, List.not_mem_nil, false_implies, implies_true, and_true, ne_eq] at h2
                simp [h1, h2, kstB]
              case kpn12 =>
                show (x.length : Int) ≤ (c.1) ∧ (c.1) + (suD (lpA x.cps.toList (pre ++ [_]).length) (x.cps.toList.drop (pre ++ [_]).length) : Nat) = _
                rw [List.length_append, List.length_singleton, hl0]
                (first | rw [(by assumption : ee = true)] at hp | rw [(by assumption : ee = false)] at hp)
                (try first | rw [(by assumption : (Builtin.Str.occurrences (Str.ofString "\r\x0b\x0c\x1c\x1d\x1e\u0085") (Txt.item x k) 0 (Str.ofString "\r\x0b\x0c\x1c\x1d\x1e\u0085").length 1).isEmpty = true)] at hp | rw [(by assumption : (Builtin.Str.occurrences (Str.ofString "\r\x0b\x0c\x1c\x1d\x1e\u0085") (Txt.item x k) 0 (Str.ofString "\r\x0b\x0c\x1c\x1d\x1e\u0085").length 1).isEmpty = false)] at hp)
                (first | rw [(by assumption : (Txt.item x k == Str.ofString "\n") = true)] at hp | rw [(by assumption : (Txt.item x k == Str.ofString "\n") = false)] at hp)
                (try first | rw [(by assumption : lo = true)] at hp | rw [(by assumption : lo = false)] at hp | (have hz : lpA x.cps.toList pre.length = false := by (rw [show pre.length = 0 by omega]; rfl)); rw [hz] at hp)
                simp only [Bool.or_true, Bool.true_or, Bool.or_false, Bool.false_or, Bool.not_true, Bool.not_false, Bool.and_true, Bool.and_false, Bool.true_and, Bool.false_and, if_true, if_false, Bool.false_eq_true, reduceIte] at hp
                exact ⟨by omega, by omega⟩)
          | (
              (with_reducible rename Fr _ _ _ _ => FF)
              (with_reducible rename News _ _ _ _ => NN)
              refine' kst_end (c.1 + 2, ?tkn13) FF NN (fun p hp => List.mem_append_left _ hp) (fun p hp => List.mem_append_right _ hp) rfl trivial ?ksn13 ?krn13 ?kpn13
              case ksn13 => intro p hp; cases List.mem_singleton.mp hp; rfl
              case krn13 =>
                intro z h1 h2 h3
                simp only [List.forall_mem_cons, List.not_mem_nil, false_implies, implies_true, and_true, ne_eq] at h2
                simp [h1, h2, kstB]
              case kpn13 =>
                show (x.length : Int) ≤ (c.1 + 2) ∧ (c.1 + 2) + (suD (lpA x.cps.toList (pre ++ [_]).length) (x.cps.toList.drop (pre ++ [_]).length) : Nat) = _
                rw [List.length_append, List.length_singleton, hl0]
                (first | rw [(by assumption : ee = true)] at hp | rw [(by assumption : ee = false)] at hp)
                (try first | rw [(by assumption : (Builtin.Str.occurrences (Str.ofString "\r\x0b\x0c\x1c\x1d\x1e\u0085") (Txt.item x k) 0 (Str.ofString "\r\x0b\x0c\x1c\x1d\x1e\u0085").length 1).isEmpty = true)] at hp | rw [(by assumption : (Builtin.Str.occurrences (Str.ofString "\r\x0b\x0c\x1c\x1d\x1e\u0085") (Txt.item x k) 0 (Str.ofString "\r\x0b\x0c\x1c\x1d\x1e\u0085").length 1).isEmpty = false)] at hp)
                (first | rw [(by assumption : (Txt.item x k == Str.ofString "\n") = true)] at hp | rw [(by assumption : (Txt.item x k == Str.ofString "\n") = false)] at hp)
                (try first | rw [(by assumption : lo = true)] at hp | rw [(by assumption : lo = false)] at hp | (have hz : lpA x.cps.toList pre.length = false := by (rw [show pre.length = 0 by omega]; rfl)); rw [hz] at hp)
                simp only [Bool.or_true, Bool.true_or, Bool.or_false, Bool.false_or, Bool.not_true, Bool.not_false, Bool.and_true, Bool.and_false, Bool.true_and, Bool.false_and, if_true, if_false, Bool.false_eq_true, reduceIte] at hp
                exact ⟨by omega, by omega⟩)
          | (
              (with_reducible rename Fr _ _ _ _ => FF)
              (with_reducible rename News _ _ _ _ => NN)
              refine' kst_end (c.1 + 2 + 2, ?tkn14) FF NN (fun p hp => List.mem_append_left _ hp) (fun p hp => List.mem_append_right _ hp) rfl trivial ?ksn14 ?krn14 ?kpn14
              case ksn14 => intro p hp; cases List.mem_singleton.mp hp; rfl
              case krn14 =>
                intro z h1 h2 h3
                simp only [List.forall_mem_cons, List.not_mem_nil, false_implies, implies_true, and_true, ne_eq] at h2
                simp [h1, h2, kstB]
              case kpn14 =>
                show (x.length : Int) ≤ (c.1 + 2 + 2) ∧ (c.1 + 2 + 2) + (suD (lpA x.cps.toList (pre ++ [_]).length) (x.cps.toList.drop (pre ++ [_]).length) : Nat) = _
                rw [List.length_append, List.length_singleton, hl0]
                (first | rw [(by assumption : ee = true)] at hp | rw [(by assumption : ee = false)] at hp)
                (try first | rw [(by assumption : (Builtin.Str.occurrences (Str.ofString "\r\x0b\x0c\x1c\x1d\x1e\u0085") (Txt.item x k) 0 (Str.ofString "\r\x0b\x0c\x1c\x1d\x1e\u0085").length 1).isEmpty = true)] at hp | rw [(by assumption : (Builtin.Str.occurrences (Str.ofString "\r\x0b\x0c\x1c\x1d\x1e\u0085") (Txt.item x k) 0 (Str.ofString "\r\x0b\x0c\x1c\x1d\x1e\u0085").length 1).isEmpty = false)] at hp)
                (first | rw [(by assumption : (Txt.item x k == Str.ofString "\n") = true)] at hp | rw [(by assumption : (Txt.item x k == Str.ofString "\n") = false)] at hp)
                (try first | rw [(by assumption : lo = true)] at hp | rw [(by assumption : lo = false)] at hp | (have hz : lpA x.cps.toList pre.length = false := by (rw [show pre.length = 0 by omega]; rfl)); rw [hz] at hp)
                simp only [Bool.or_true, Bool.true_or, Bool.or_false, Bool.false_or, Bool.not_true, Bool.not_false, Bool.and_true, Bool.and_false, Bool.true_and, Bool.false_and, if_true, if_false, Bool.false_eq_true, reduceIte] at hp
                exact ⟨by omega, by omega⟩)
      · skip
        refine Stop.mk ?_
        obtain ⟨d, hd1, hd2⟩ := item_prev (x := x) (i := pre.length) hk' (by omega) (by omega)
        rw [hd1]
        k_dflt (refine' Ctr.use (ctr_loose w d _) ?Bn15 ?Fn15 ?Xn15 ?Nn15 ?Tn15 ?hkn15 ?hdn15 ?hun15 ?_; (case Bn15 => k_asm); (case Fn15 => k_asm); (case Xn15 => k_asm); (case Nn15 => k_asm); (case Tn15 => k_asm); (case hkn15 => first | exact rfl | assumption); (case hdn15 => ktr_room); (case hun15 => ktr_units))
        intro t9 h9 tk9 F9 N9
        (try dsimp only)
        (try k_fold)
        rw [hd2] at hp
        generalize hlo : looseB d = lo at hp ⊢
        k_steps
        · skip
          refine Stop.mk ?_
          first
            | (
                (with_reducible rename Fr _ _ _ _ => FF)
                (with_reducible rename News _ _ _ _ => NN)
                refine' kst_end (c.1, ?tkn16) FF NN (fun p hp => List.mem_append_left _ hp) (fun p hp => List.mem_append_right _ hp) rfl trivial ?ksn16 ?krn16 ?kpn16
                case ksn16 => intro p hp; cases List.mem_singleton.mp hp; rfl
                case krn16 =>
                  intro z h1 h2 h3
                  simp only [List.forall_mem_cons, List.not_mem_nil, false_implies, implies_true, and_true, ne_eq] at h2
                  simp [h1, h2, kstB]
                case kpn16 =>
                  show (x.length : Int) ≤ (c.1) ∧ (c.1) + (suD (lpA x.cps.toList (pre ++ [_]).length) (x.cps.toList.drop (pre ++ [_]).length) : Nat) = _
                  rw [List.length_append, List.length_singleton, hl0]
                  (first | rw [(by assumption : ee = true)] at hp | rw [(by assumption : ee = false)] at hp)
                  (try first | rw [(by assumption : (Builtin.Str.occurrences (Str.ofString "\r\x0b\x0c\x1c\x1d\x1e\u0085") (Txt.item x k) 0 (Str.ofString "\r\x0b\x0c\x1c\x1d\x1e\u0085").length 1).isEmpty = true)] at hp | rw [(by assumption : (Builtin.Str.occurrences (Str.ofString "\r\x0b\x0c\x1c\x1d\x1e\u0085") (Txt.item x k) 0 (Str.ofString "\r\x0b\x0c\x1c\x1d\x1e\u0085").length 1).isEmpty = false)] at hp)
                  (first | rw [(by assumption : (Txt.item x k == Str.ofString "\n") = true)] at hp | rw [(by assumption : (Txt.item x k == Str.ofString "\n") = false)] at hp)
                  (try first | rw [(by assumption : lo = true)] at hp | rw [(by assumption : lo = false)] at hp | (have hz : lpA x.cps.toList pre.length = false := by (rw [show pre.length = 0 by omega]; rfl)); rw [hz] at hp)
                  simp only [Bool.or_true, Bool.true_or, Bool.or_false, Bool.false_or, Bool.not_true, Bool.not_false, Bool.and_true, Bool.and_false, Bool.true_and, Bool.false_and, if_true, if_false, Bool.false_eq_true, reduceIte] at hp
                  exact ⟨by omega, by omega⟩)
            | (
                (with_reducible rename Fr _ _ _ _ => FF)
                (with_reducible rename News _ _ _ _ => NN)
                refine' kst_end (c.1 + 2, ?tkn17) FF NN (fun p hp => List.mem_append_left _ hp) (fun p hp => List.mem_append_right _ hp) rfl trivial ?ksn17 ?krn17 ?kpn17
                case ksn17 => intro p hp; cases List.mem_singleton.mp hp; rfl
                case krn17 =>
                  intro z h1 h2 h3
                  simp only [List.forall_mem_cons, List.not_mem_nil, false_implies, implies_true, and_true, ne_eq] at h2
                  simp [h1, h2, kstB]
                case kpn17 =>
                  show (x.length : Int) ≤ (c.1 + 2) ∧ (c.1 + 2) + (suD (lpA x.cps.toList (pre ++ [_]).length) (x.cps.toList.drop (pre ++ [_]).length) : Nat) = _
                  rw [List.length_append, List.length_singleton, hl0]
                  (first | rw [(by assumption : ee = true)] at hp | rw [(by assumption : ee = false)] at hp)
                  (try first | rw [(by assumption : (Builtin.Str.occurrences (Str.ofString "\r\x0b\x0c\x1c\x1d\x1e\u0085") (Txt.item x k) 0 (Str.ofString "\r\x0b\x0c\x1c\x1d\x1e\u0085").length 1).isEmpty = true)] at hp | rw [(by assumption : (Builtin.Str.occurrences (Str.ofString "\r\x0b\x0c\x1c\x1d\x1e\u0085") (Txt.item x k) 0 (Str.ofString "\r\x0b\x0c\x1c\x1d\x1e\u0085").length 1).isEmpty = false)] at hp)
                  (first | rw [(by assumption : (Txt.item x k == Str.ofString "\n") = true)] at hp | rw [(by assumption : (Txt.item x k == Str.ofString "\n") = false)] at hp)
                  (try first | rw [(by assumption : lo = true)] at hp | rw [(by assumption : lo = false)] at hp | (have hz : lpA x.cps.toList pre.length = false := by (rw [show pre.length = 0 by omega]; rfl)); rw [hz] at hp)
                  simp only [Bool.or_true, Bool.true_or, Bool.or_false, Bool.false_or, Bool.not_true, Bool.not_false, Bool.and_true, Bool.and_false, Bool.true_and, Bool.false_and, if_true, if_false, Bool.false_eq_true, reduceIte] at hp
                  exact ⟨by omega, by omega⟩)
            | (
                (with_reducible rename Fr _ _ _ _ => FF)
                (with_reducible rename News _ _ _ _ => NN)
                refine' kst_end (c.1 + 2 + 2, ?tkn18) FF NN (fun p hp => List.mem_append_left _ hp) (fun p hp => List.mem_append_right _ hp) rfl trivial ?ksn18 ?krn18 ?kpn18
                case ksn18 => intro p hp; cases List.mem_singleton.mp hp; rfl
                case krn18 =>
                  intro z h1 h2 h3
                  simp only [List.forall_mem_cons, List.not_mem_nil, false_implies, implies_true, and_true, ne_eq] at h2
                  simp [h1, h2, kstB]
                case kpn18 =>
                  show (x.length : Int) ≤ (c.1 + 2 + 2) ∧ (c.1 + 2 + 2) + (suD (lpA x.cps.toList (pre ++ [_]).length) (x.cps.toList.drop (pre ++ [_]).length) : Nat) = _
                  rw [List.length_append, List.length_singleton, hl0]
                  (first | rw [(by assumption : ee = true)] at hp | rw [(by assumption : ee = false)] at hp)
                  (try first | rw [(by assumption : (Builtin.Str.occurrences (Str.ofString "\r\x0b\x0c\x1c\x1d\x1e\u0085") (Txt.item x k) 0 (Str.ofString "\r\x0b\x0c\x1c\x1d\x1e\u0085").length 1).isEmpty = true)] at hp | rw [(by assumption : (Builtin.Str.occurrences (Str.ofString "\r\x0b\x0c\x1c\x1d\x1e\u0085") (Txt.item x k) 0 (Str.ofString "\r\x0b\x0c\x1c\x1d\x1e\u0085").length 1).isEmpty = false)] at hp)
                  (first | rw [(by assumption : (Txt.item x k == Str.ofString "\n") = true)] at hp | rw [(by assumption : (Txt.item x k == Str.ofString "\n") = false)] at hp)
                  (try first | rw [(by assumption : lo = true)] at hp | rw [(by assumption : lo = false)] at hp | (have hz : lpA x.cps.toList pre.length = false := by (rw [show pre.length = 0 by omega]; rfl)); rw [hz] at hp)
                  simp only [Bool.or_true, Bool.true_or, Bool.or_false, Bool.false_or, Bool.not_true, Bool.not_false, Bool.and_true, Bool.and_false, Bool.true_and, Bool.false_and, if_true, if_false, Bool.false_eq_true, reduceIte] at hp
                  exact ⟨by omega, by omega⟩)
        · skip
          refine Stop.mk ?_
          first
            | (
                (with_reducible rename Fr _ _ _ _ => FF)
                (with_reducible rename News _ _ _ _ => NN)
                refine' kst_end (c.1, ?tkn19) FF NN (fun p hp => List.mem_append_left _ hp) (fun p hp => List.mem_append_right _ hp) rfl trivial ?ksn19 ?krn19 ?kpn19
                case ksn19 => intro p hp; cases List.mem_singleton.mp hp; rfl
                case krn19 =>
                  intro z h1 h2 h3
                  simp only [List.forall_mem_cons, List.not_mem_nil, false_implies, implies_true, and_true, ne_eq] at h2
                  simp [h1, h2, kstB]
                case kpn19 =>
                  show (x.length : Int) ≤ (c.1) ∧ (c.1) + (suD (lpA x.cps.toList (pre ++ [_]).length) (x.cps.toList.drop (pre ++ [_]).length) : Nat) = _
                  rw [List.length_append, List.length_singleton, hl0]
                  (first | rw [(by assumption : ee = true)] at hp | rw [(by assumption : ee = false)] at hp)
                  (try first | rw [(by assumption : (Builtin.Str.occurrences (Str.ofString "\r\x0b\x0c\x1c\x1d\x1e\u0085") (Txt.item x k) 0 (Str.ofString "\r\x0b\x0c\x1c\x1d\x1e\u0085").length 1).isEmpty = true)] at hp | rw [(by assumption : (Builtin.Str.occurrences (Str.ofString "\r\x0b\x0c\x1c\x1d\x1e\u0085") (Txt.item x k) 0 (Str.ofString "\r\x0b\x0c\x1c\x1d\x1e\u0085").length 1).isEmpty = false)] at hp)
                  (first | rw [(by assumption : (Txt.item x k == Str.ofString "\n") = true)] at hp | rw [(by assumption : (Txt.item x k == Str.ofString "\n") = false)] at hp)
                  (try first | rw [(by assumption : lo = true)] at hp | rw [(by assumption : lo = false)] at hp | (have hz : lpA x.cps.toList pre.length = false := by (rw [show pre.length = 0 by omega]; rfl)); rw [hz] at hp)
                  simp only [Bool.or_true, Bool.true_or, Bool.or_false, Bool.false_or, Bool.not_true, Bool.not_false, Bool.and_true, Bool.and_false, Bool.true_and, Bool.false_and, if_true, if_false, Bool.false_eq_true, reduceIte] at hp
                  exact ⟨by omega, by omega⟩)
            | (
                (with_reducible rename Fr _ _ _ _ => FF)
                (with_reducible rename News _ _ _ _ => NN)
                refine' kst_end (c.1 + 2, ?tkn20) FF NN (fun p hp => List.mem_append_left _ hp) (fun p hp => List.mem_append_right _ hp) rfl trivial ?ksn20 ?krn20 ?kpn20
                case ksn20 => intro p hp; cases List.mem_singleton.mp hp; rfl
                case krn20 =>
                  intro z h1 h2 h3
                  simp only [List.forall_mem_cons, List.not_mem_nil, false_implies, implies_true, and_true, ne_eq] at h2
                  simp [h1, h2, kstB]
                case kpn20 =>
                  show (x.length : Int) ≤ (c.1 + 2) ∧ (c.1 + 2) + (suD (lpA x.cps.toList (pre ++ [_]).length) (x.cps.toList.drop (pre ++ [_]).length) : Nat) = _
                  rw [List.length_append, List.length_singleton, hl0]
                  (first | rw [(by assumption : ee = true)] at hp | rw [(by assumption : ee = false)] at hp)
                  (try first | rw [(by assumption : (Builtin.Str.occurrences (Str.ofString "\r\x0b\x0c\x1c\x1d\x1e\u0085") (Txt.item x k) 0 (Str.ofString "\r\x0b\x0c\x1c\x1d\x1e\u0085").length 1).isEmpty = true)] at hp | rw [(by assumption : (Builtin.Str.occurrences (Str.ofString "\r\x0b\x0c\x1c\x1d\x1e\u0085") (Txt.item x k) 0 (Str.ofString "\r\x0b\x0c\x1c\x1d\x1e\u0085").length 1).isEmpty = false)] at hp)
                  (first | rw [(by assumption : (Txt.item x k == Str.ofString "\n") = true)] at hp | rw [(by assumption : (Txt.item x k == Str.ofString "\n") = false)] at hp)
                  (try first | rw [(by assumption : lo = true)] at hp | rw [(by assumption : lo = false)] at hp | (have hz : lpA x.cps.toList pre.length = false := by (rw [show pre.length = 0 by omega]; rfl)); rw [hz] at hp)
                  simp only [Bool.or_true, Bool.true_or, Bool.or_false, Bool.false_or, Bool.not_true, Bool.not_false, Bool.and_true, Bool.and_false, Bool.true_and, Bool.false_and, if_true, if_false, Bool.false_eq_true, reduceIte] at hp
                  exact ⟨by omega, by omega⟩)
            | (
                (with_reducible rename Fr _ _ _ _ => FF)
                (with_reducible rename News _ _ _ _ => NN)
                refine' kst_end (c.1 + 2 + 2, ?tkn21) FF NN (fun p hp => List.mem_append_left _ hp) (fun p hp => List.mem_append_right _ hp) rfl trivial ?ksn21 ?krn21 ?kpn21
                case ksn21 => intro p hp; cases List.mem_singleton.mp hp; rfl
                case krn21 =>
                  intro z h1 h2 h3
                  simp only [List.forall_mem_cons, List.not_mem_nil, false_implies, implies_true, and_true, ne_eq] at h2
                  simp [h1, h2, kstB]
                case kpn21 =>
                  show (x.length : Int) ≤ (c.1 + 2 + 2) ∧ (c.1 + 2 + 2) + (suD (lpA x.cps.toList (pre ++ [_]).length) (x.cps.toList.drop (pre ++ [_]).length) : Nat) = _
                  rw [List.length_append, List.length_singleton, hl0]
                  (first | rw [(by assumption : ee = true)] at hp | rw [(by assumption : ee = false)] at hp)
                  (try first | rw [(by assumption : (Builtin.Str.occurrences (Str.ofString "\r\x0b\x0c\x1c\x1d\x1e\u0085") (Txt.item x k) 0 (Str.ofString "\r\x0b\x0c\x1c\x1d\x1e\u0085").length 1).isEmpty = true)] at hp | rw [(by assumption : (Builtin.Str.occurrences (Str.ofString "\r\x0b\x0c\x1c\x1d\x1e\u0085") (Txt.item x k) 0 (Str.ofString "\r\x0b\x0c\x1c\x1d\x1e\u0085").length 1).isEmpty = false)] at hp)
                  (first | rw [(by assumption : (Txt.item x k == Str.ofString "\n") = true)] at hp | rw [(by assumption : (Txt.item x k == Str.ofString "\n") = false)] at hp)
                  (try first | rw [(by assumption : lo = true)] at hp | rw [(by assumption : lo = false)] at hp | (have hz : lpA x.cps.toList pre.length = false := by (rw [show pre.length = 0 by omega]; rfl)); rw [hz] at hp)
                  simp only [Bool.or_true, Bool.true_or, Bool.or_false, Bool.false_or, Bool.not_true, Bool.not_false, Bool.and_true, Bool.and_false, Bool.true_and, Bool.false_and, if_true, if_false, Bool.false_eq_true, reduceIte] at hp
                  exact ⟨by omega, by omega⟩)
      · skip
        refine Stop.mk ?_
        first
          | (
              (with_reducible rename Fr _ _ _ _ => FF)
              (with_reducible rename News _ _ _ _ => NN)
              refine' kst_end (c.1, ?tkn22) FF NN (fun p hp => List.mem_append_left _ hp) (fun p hp => List.mem_append_right _ hp) rfl trivial ?ksn22 ?krn22 ?kpn22
              case ksn22 => intro p hp; cases List.mem_singleton.mp hp; rfl
              case krn22 =>
                intro z h1 h2 h3
                simp only [List.forall_mem_cons, List.not_mem_nil, false_implies, implies_true, and_true, ne_eq] at h2
                simp [h1, h2, kstB]
              case kpn22 =>
                show (x.length : Int) ≤ (c.1) ∧ (c.1) + (suD (lpA x.cps.toList (pre ++ [_]).length) (x.cps.toList.drop (pre ++ [_]).length) : Nat) = _
                rw [List.length_append, List.length_singleton, hl0]
                (first | rw [(by assumption : ee = true)] at hp | rw [(by assumption : ee = false)] at hp)
                (try first | rw [(by assumption : (Builtin.Str.occurrences (Str.ofString "\r\x0b\x0c\x1c\x1d\x1e\u0085") (Txt.item x k) 0 (Str.ofString "\r\x0b\x0c\x1c\x1d\x1e\u0085").length 1).isEmpty = true)] at hp | rw [(by assumption : (Builtin.Str.occurrences (Str.ofString "\r\x0b\x0c\x1c\x1d\x1e\u0085") (Txt.item x k) 0 (Str.ofString "\r\x0b\x0c\x1c\x1d\x1e\u0085").length 1).isEmpty = false)] at hp)
                (first | rw [(by assumption : (Txt.item x k == Str.ofString "\n") = true)] at hp | rw [(by assumption : (Txt.item x k == Str.ofString "\n") = false)] at hp)
                (try first | rw [(by assumption : lo = true)] at hp | rw [(by assumption : lo = false)] at hp | (have hz : lpA x.cps.toList pre.length = false := by (rw [show pre.length = 0 by omega]; rfl)); rw [hz] at hp)
                simp only [Bool.or_true, Bool.true_or, Bool.or_false, Bool.false_or, Bool.not_true, Bool.not_false, Bool.and_true, Bool.and_false, Bool.true_and, Bool.false_and, if_true, if_false, Bool.false_eq_true, reduceIte] at hp
                exact ⟨by omega, by omega⟩)
          | (
              (with_reducible rename Fr _ _ _ _ => FF)
              (with_reducible rename News _ _ _ _ => NN)
              refine' kst_end (c.1 + 2, ?tkn23) FF NN (fun p hp => List.mem_append_left _ hp) (fun p hp => List.mem_append_right _ hp) rfl trivial ?ksn23 ?krn23 ?kpn23
              case ksn23 => intro p hp; cases List.mem_singleton.mp hp; rfl
              case krn23 =>
                intro z h1 h2 h3
                simp only [List.forall_mem_cons, List.not_mem_nil, false_implies, implies_true, and_true, ne_eq] at h2
                simp [h1, h2, kstB]
              case kpn23 =>
                show (x.length : Int) ≤ (c.1 + 2) ∧ (c.1 + 2) + (suD (lpA x.cps.toList (pre ++ [_]).length) (x.cps.toList.drop (pre ++ [_]).length) : Nat) = _
                rw [List.length_append, List.length_singleton, hl0]
                (first | rw [(by assumption : ee = true)] at hp | rw [(by assumption : ee = false)] at hp)
                (try first | rw [(by assumption : (Builtin.Str.occurrences (Str.ofString "\r\x0b\x0c\x1c\x1d\x1e\u0085") (Txt.item x k) 0 (Str.ofString "\r\x0b\x0c\x1c\x1d\x1e\u0085").length 1).isEmpty = true)] at hp | rw [(by assumption : (Builtin.Str.occurrences (Str.ofString "\r\x0b\x0c\x1c\x1d\x1e\u0085") (Txt.item x k) 0 (Str.ofString "\r\x0b\x0c\x1c\x1d\x1e\u0085").length 1).isEmpty = false)] at hp)
                (first | rw [(by assumption : (Txt.item x k == Str.ofString "\n") = true)] at hp | rw [(by assumption : (Txt.item x k == Str.ofString "\n") = false)] at hp)
                (try first | rw [(by assumption : lo = true)] at hp | rw [(by assumption : lo = false)] at hp | (have hz : lpA x.cps.toList pre.length = false := by (rw [show pre.length = 0 by omega]; rfl)); rw [hz] at hp)
                simp only [Bool.or_true, Bool.true_or, Bool.or_false, Bool.false_or, Bool.not_true, Bool.not_false, Bool.and_true, Bool.and_false, Bool.true_and, Bool.false_and, if_true, if_false, Bool.false_eq_true, reduceIte] at hp
                exact ⟨by omega, by omega⟩)
          | (
              (with_reducible rename Fr _ _ _ _ => FF)
              (with_reducible rename News _ _ _ _ => NN)
              refine' kst_end (c.1 + 2 + 2, ?tkn24) FF NN (fun p hp => List.mem_append_left _ hp) (fun p hp => List.mem_append_right _ hp) rfl trivial ?ksn24 ?krn24 ?kpn24
              case ksn24 => intro p hp; cases List.mem_singleton.mp hp; rfl
              case krn24 =>
                intro z h1 h2 h3
                simp only [List.forall_mem_cons, List.not_mem_nil, false_implies, implies_true, and_true, ne_eq] at h2
                simp [h1, h2, kstB]
              case kpn24 =>
                show (x.length : Int) ≤ (c.1 + 2 + 2) ∧ (c.1 + 2 + 2) + (suD (lpA x.cps.toList (pre ++ [_]).length) (x.cps.toList.drop (pre ++ [_]).length) : Nat) = _
                rw [List.length_append, List.length_singleton, hl0]
                (first | rw [(by assumption : ee = true)] at hp | rw [(by assumption : ee = false)] at hp)
                (try first | rw [(by assumption : (Builtin.Str.occurrences (Str.ofString "\r\x0b\x0c\x1c\x1d\x1e\u0085") (Txt.item x k) 0 (Str.ofString "\r\x0b\x0c\x1c\x1d\x1e\u0085").length 1).isEmpty = true)] at hp | rw [(by assumption : (Builtin.Str.occurrences (Str.ofString "\r\x0b\x0c\x1c\x1d\x1e\u0085") (Txt.item x k) 0 (Str.ofString "\r\x0b\x0c\x1c\x1d\x1e\u0085").length 1).isEmpty = false)] at hp)
                (first | rw [(by assumption : (Txt.item x k == Str.ofString "\n") = true)] at hp | rw [(by assumption : (Txt.item x k == Str.ofString "\n") = false)] at hp)
                (try first | rw [(by assumption : lo = true)] at hp | rw [(by assumption : lo = false)] at hp | (have hz : lpA x.cps.toList pre.length = false := by (rw [show pre.length = 0 by omega]; rfl)); rw [hz] at hp)
                simp only [Bool.or_true, Bool.true_or, Bool.or_false, Bool.false_or, Bool.not_true, Bool.not_false, Bool.and_true, Bool.and_false, Bool.true_and, Bool.false_and, if_true, if_false, Bool.false_eq_true, reduceIte] at hp
                exact ⟨by omega, by omega⟩)
      · skip
        refine Stop.mk ?_
        first
          | (
              (with_reducible rename Fr _ _ _ _ => FF)
              (with_reducible rename News _ _ _ _ => NN)
              refine' kst_end (c.1, ?tkn25) FF NN (fun p hp => List.mem_append_left _ hp) (fun p hp => List.mem_append_right _ hp) rfl trivial ?ksn25 ?krn25 ?kpn25
              case ksn25 => intro p hp; cases List.mem_singleton.mp hp; rfl
              case krn25 =>
                intro z h1 h2 h3
                simp only [List.forall_mem_cons, List.not_mem_nil, false_implies, implies_true, and_true, ne_eq] at h2
                simp [h1, h2, kstB]
              case kpn25 =>
                show (x.length : Int) ≤ (c.1) ∧ (c.1) + (suD (lpA x.cps.toList (pre ++ [_]).length) (x.cps.toList.drop (pre ++ [_]).length) : Nat) = _
                rw [List.length_append, List.length_singleton, hl0]
                (first | rw [(by assumption : ee = true)] at hp | rw [(by assumption : ee = false)] at hp)
                (try first | rw [(by assumption : (Builtin.Str.occurrences (Str.ofString "\r\x0b\x0c\x1c\x1d\x1e\u0085") (Txt.item x k) 0 (Str.ofString "\r\x0b\x0c\x1c\x1d\x1e\u0085").length 1).isEmpty = true)] at hp | rw [(by assumption : (Builtin.Str.occurrences (Str.ofString "\r\x0b\x0c\x1c\x1d\x1e\u0085") (Txt.item x k) 0 (Str.ofString "\r\x0b\x0c\x1c\x1d\x1e\u0085").length 1).isEmpty = false)] at hp)
                (first | rw [(by assumption : (Txt.item x k == Str.ofString "\n") = true)] at hp | rw [(by assumption : (Txt.item x k == Str.ofString "\n") = false)] at hp)
                (try first | rw [(by assumption : lo = true)] at hp | rw [(by assumption : lo = false)] at hp | (have hz : lpA x.cps.toList pre.length = false := by (rw [show pre.length = 0 by omega]; rfl)); rw [hz] at hp)
                simp only [Bool.or_true, Bool.true_or, Bool.or_false, Bool.false_or, Bool.not_true, Bool.not_false, Bool.and_true, Bool.and_false, Bool.true_and, Bool.false_and, if_true, if_false, Bool.false_eq_true, reduceIte] at hp
                exact ⟨by omega, by omega⟩)
          | (
              (with_reducible rename Fr _ _ _ _ => FF)
              (with_reducible rename News _ _ _ _ => NN)
              refine' kst_end (c.1 + 2, ?tkn26) FF NN (fun p hp => List.mem_append_left _ hp) (fun p hp => List.mem_append_right _ hp) rfl trivial ?ksn26 ?krn26 ?kpn26
              case ksn26 => intro p hp; cases List.mem_singleton.mp hp; rfl
              case krn26 =>
                intro z h1 h2 h3
                simp only [List.forall_mem_cons, List.not_mem_nil, false_implies, implies_true, and_true, ne_eq] at h2
                simp [h1, h2, kstB]
              case kpn26 =>
                show (x.length : Int) ≤ (c.1 + 2) ∧ (c.1 + 2) + (suD (lpA x.cps.toList (pre ++ [_]).length) (x.cps.toList.drop (pre ++ [_]).length) : Nat) = _
                rw [List.length_append, List.length_singleton, hl0]
                (first | rw [(by assumption : ee = true)] at hp | rw [(by assumption : ee = false)] at hp)
                (try first | rw [(by assumption : (Builtin.Str.occurrences (Str.ofString "\r\x0b\x0c\x1c\x1d\x1e\u0085") (Txt.item x k) 0 (Str.ofString "\r\x0b\x0c\x1c\x1d\x1e\u0085").length 1).isEmpty = true)] at hp | rw [(by assumption : (Builtin.Str.occurrences (Str.ofString "\r\x0b\x0c\x1c\x1d\x1e\u0085") (Txt.item x k) 0 (Str.ofString "\r\x0b\x0c\x1c\x1d\x1e\u0085").length 1).isEmpty = false)] at hp)
                (first | rw [(by assumption : (Txt.item x k == Str.ofString "\n") = true)] at hp | rw [(by assumption : (Txt.item x k == Str.ofString "\n") = false)] at hp)
                (try first | rw [(by assumption : lo = true)] at hp | rw [(by assumption : lo = false)] at hp | (have hz : lpA x.cps.toList pre.length = false := by (rw [show pre.length = 0 by omega]; rfl)); rw [hz] at hp)
                simp only [Bool.or_true, Bool.true_or, Bool.or_false, Bool.false_or, Bool.not_true, Bool.not_false, Bool.and_true, Bool.and_false, Bool.true_and, Bool.false_and, if_true, if_false, Bool.false_eq_true, reduceIte] at hp
                exact ⟨by omega, by omega⟩)
          | (
              (with_reducible rename Fr _ _ _ _ => FF)
              (with_reducible rename News _ _ _ _ => NN)
              refine' kst_end (c.1 + 2 + 2, ?tkn27) FF NN (fun p hp => List.mem_append_left _ hp) (fun p hp => List.mem_append_right _ hp) rfl trivial ?ksn27 ?krn27 ?kpn27
              case ksn27 => intro p hp; cases List.mem_singleton.mp hp; rfl
              case krn27 =>
                intro z h1 h2 h3
                simp only [List.forall_mem_cons, List.not_mem_nil, false_implies, implies_true, and_true, ne_eq] at h2
                simp [h1, h2, kstB]
              case kpn27 =>
                show (x.length : Int) ≤ (c.1 + 2 + 2) ∧ (c.1 + 2 + 2) + (suD (lpA x.cps.toList (pre ++ [_]).length) (x.cps.toList.drop (pre ++ [_]).length) : Nat) = _
                rw [List.length_append, List.length_singleton, hl0]
                (first | rw [(by assumption : ee = true)] at hp | rw [(by assumption : ee = false)] at hp)
                (try first | rw [(by assumption : (Builtin.Str.occurrences (Str.ofString "\r\x0b\x0c\x1c\x1d\x1e\u0085") (Txt.item x k) 0 (Str.ofString "\r\x0b\x0c\x1c\x1d\x1e\u0085").length 1).isEmpty = true)] at hp | rw [(by assumption : (Builtin.Str.occurrences (Str.ofString "\r\x0b\x0c\x1c\x1d\x1e\u0085") (Txt.item x k) 0 (Str.ofString "\r\x0b\x0c\x1c\x1d\x1e\u0085").length 1).isEmpty = false)] at hp)
                (first | rw [(by assumption : (Txt.item x k == Str.ofString "\n") = true)] at hp | rw [(by assumption : (Txt.item x k == Str.ofString "\n") = false)] at hp)
                (try first | rw [(by assumption : lo = true)] at hp | rw [(by assumption : lo = false)] at hp | (have hz : lpA x.cps.toList pre.length = false := by (rw [show pre.length = 0 by omega]; rfl)); rw [hz] at hp)
                simp only [Bool.or_true, Bool.true_or, Bool.or_false, Bool.false_or, Bool.not_true, Bool.not_false, Bool.and_true, Bool.and_false, Bool.true_and, Bool.false_and, if_true, if_false, Bool.false_eq_true, reduceIte] at hp
                exact ⟨by omega, by omega⟩)
      · skip
        refine Stop.mk ?_
        obtain ⟨d, hd1, hd2⟩ := item_prev (x := x) (i := pre.length) hk' (by omega) (by omega)
        rw [hd1]
        k_dflt (refine' Ctr.use (ctr_loose w d _) ?Bn28 ?Fn28 ?Xn28 ?Nn28 ?Tn28 ?hkn28 ?hdn28 ?hun28 ?_; (case Bn28 => k_asm); (case Fn28 => k_asm); (case Xn28 => k_asm); (case Nn28 => k_asm); (case Tn28 => k_asm); (case hkn28 => first | exact rfl | assumption); (case hdn28 => ktr_room); (case hun28 => ktr_units))
        intro t9 h9 tk9 F9 N9
        (try dsimp only)
        (try k_fold)
        rw [hd2] at hp
        generalize hlo : looseB d = lo at hp ⊢
        k_steps
        · skip
          refine Stop.mk ?_
          first
            | (
                (with_reducible rename Fr _ _ _ _ => FF)
                (with_reducible rename News _ _ _ _ => NN)
                refine' kst_end (c.1, ?tkn29) FF NN (fun p hp => List.mem_append_left _ hp) (fun p hp => List.mem_append_right _ hp) rfl trivial ?ksn29 ?krn29 ?kpn29
                case ksn29 => intro p hp; cases List.mem_singleton.mp hp; rfl
                case krn29 =>
                  intro z h1 h2 h3
                  simp only [List.forall_mem_cons, List.not_mem_nil, false_implies, implies_true, and_true, ne_eq] at h2
                  simp [h1, h2, kstB]
                case kpn29 =>
                  show (x.length : Int) ≤ (c.1) ∧ (c.1) + (suD (lpA x.cps.toList (pre ++ [_]).length) (x.cps.toList.drop (pre ++ [_]).length) : Nat) = _
                  rw [List.length_append, List.length_singleton, hl0]
                  (first | rw [(by assumption : ee = true)] at hp | rw [(by assumption : ee = false)] at hp)
                  (try first | rw [(by assumption : (Builtin.Str.occurrences (Str.ofString "\r\x0b\x0c\x1c\x1d\x1e\u0085") (Txt.item x k) 0 (Str.ofString "\r\x0b\x0c\x1c\x1d\x1e\u0085").length 1).isEmpty = true)] at hp | rw [(by assumption : (Builtin.Str.occurrences (Str.ofString "\r\x0b\x0c\x1c\x1d\x1e\u0085") (Txt.item x k) 0 (Str.ofString "\r\x0b\x0c\x1c\x1d\x1e\u0085").length 1).isEmpty = false)] at hp)
                  (first | rw [(by assumption : (Txt.item x k == Str.ofString "\n") = true)] at hp | rw [(by assumption : (Txt.item x k == Str.ofString "\n") = false)] at hp)
                  (try first | rw [(by assumption : lo = true)] at hp | rw [(by assumption : lo = false)] at hp | (have hz : lpA x.cps.toList pre.length = false := by (rw [show pre.length = 0 by omega]; rfl)); rw [hz] at hp)
                  simp only [Bool.or_true, Bool.true_or, Bool.or_false, Bool.false_or, Bool.not_true, Bool.not_false, Bool.and_true, Bool.and_false, Bool.true_and, Bool.false_and, if_true, if_false, Bool.false_eq_true, reduceIte] at hp
                  exact ⟨by omega, by omega⟩)
            | (
                (with_reducible rename Fr _ _ _ _ => FF)
                (with_reducible rename News _ _ _ _ => NN)
                refine' kst_end (c.1 + 2, ?tkn30) FF NN (fun p hp => List.mem_append_left _ hp) (fun p hp => List.mem_append_right _ hp) rfl trivial ?ksn30 ?krn30 ?kpn30
                case ksn30 => intro p hp; cases List.mem_singleton.mp hp; rfl
                case krn30 =>
                  intro z h1 h2 h3
                  simp only [List.forall_mem_cons, List.not_mem_nil, false_implies, implies_true, and_true, ne_eq] at h2
                  simp [h1, h2, kstB]
                case kpn30 =>
                  show (x.length : Int) ≤ (c.1 + 2) ∧ (c.1 + 2) + (suD (lpA x.cps.toList (pre ++ [_]).length) (x.cps.toList.drop (pre ++ [_]).length) : Nat) = _
                  rw [List.length_append, List.length_singleton, hl0]
                  (first | rw [(by assumption : ee = true)] at hp | rw [(by assumption : ee = false)] at hp)
                  (try first | rw [(by assumption : (Builtin.Str.occurrences (Str.ofString "\r\x0b\x0c\x1c\x1d\x1e\u0085") (Txt.item x k) 0 (Str.ofString "\r\x0b\x0c\x1c\x1d\x1e\u0085").length 1).isEmpty = true)] at hp | rw [(by assumption : (Builtin.Str.occurrences (Str.ofString "\r\x0b\x0c\x1c\x1d\x1e\u0085") (Txt.item x k) 0 (Str.ofString "\r\x0b\x0c\x1c\x1d\x1e\u0085").length 1).isEmpty = false)] at hp)
                  (first | rw [(by assumption : (Txt.item x k == Str.ofString "\n") = true)] at hp | rw [(by assumption : (Txt.item x k == Str.ofString "\n") = false)] at hp)
                  (try first | rw [(by assumption : lo = true)] at hp | rw [(by assumption : lo = false)] at hp | (have hz : lpA x.cps.toList pre.length = false := by (rw [show pre.length = 0 by omega]; rfl)); rw [hz] at hp)
                  simp only [Bool.or_true, Bool.true_or, Bool.or_false, Bool.false_or, Bool.not_true, Bool.not_false, Bool.and_true, Bool.and_false, Bool.true_and, Bool.false_and, if_true, if_false, Bool.false_eq_true, reduceIte] at hp
                  exact ⟨by omega, by omega⟩)
            | (
                (with_reducible rename Fr _ _ _ _ => FF)
                (with_reducible rename News _ _ _ _ => NN)
                refine' kst_end (c.1 + 2 + 2, ?tkn31) FF NN (fun p hp => List.mem_append_left _ hp) (fun p hp => List.mem_append_right _ hp) rfl trivial ?ksn31 ?krn31 ?kpn31
                case ksn31 => intro p hp; cases List.mem_singleton.mp hp; rfl
                case krn31 =>
                  intro z h1 h2 h3
                  simp only [List.forall_mem_cons, List.not_mem_nil, false_implies, implies_true, and_true, ne_eq] at h2
                  simp [h1, h2, kstB]
                case kpn31 =>
                  show (x.length : Int) ≤ (c.1 + 2 + 2) ∧ (c.1 + 2 + 2) + (suD (lpA x.cps.toList (pre ++ [_]).length) (x.cps.toList.drop (pre ++ [_]).length) : Nat) = _
                  rw [List.length_append, List.length_singleton, hl0]
                  (first | rw [(by assumption : ee = true)] at hp | rw [(by assumption : ee = false)] at hp)
                  (try first | rw [(by assumption : (Builtin.Str.occurrences (Str.ofString "\r\x0b\x0c\x1c\x1d\x1e\u0085") (Txt.item x k) 0 (Str.ofString "\r\x0b\x0c\x1c\x1d\x1e\u0085").length 1).isEmpty = true)] at hp | rw [(by assumption : (Builtin.Str.occurrences (Str.ofString "\r\x0b\x0c\x1c\x1d\x1e\u0085") (Txt.item x k) 0 (Str.ofString "\r\x0b\x0c\x1c\x1d\x1e\u0085").length 1).isEmpty = false)] at hp)
                  (first | rw [(by assumption : (Txt.item x k == Str.ofString "\n") = true)] at hp | rw [(by assumption : (Txt.item x k == Str.ofString "\n") = false)] at hp)
                  (try first | rw [(by assumption : lo = true)] at hp | rw [(by assumption : lo = false)] at hp | (have hz : lpA x.cps.toList pre.length = false := by (rw [show pre.length = 0 by omega]; rfl)); rw [hz] at hp)
                  simp only [Bool.or_true, Bool.true_or, Bool.or_false, Bool.false_or, Bool.not_true, Bool.not_false, Bool.and_true, Bool.and_false, Bool.true_and, Bool.false_and, if_true, if_false, Bool.false_eq_true, reduceIte] at hp
                  exact ⟨by omega, by omega⟩)
        · skip
          refine Stop.mk ?_
          first
            | (
                (with_reducible rename Fr _ _ _ _ => FF)
                (with_reducible rename News _ _ _ _ => NN)
                refine' kst_end (c.1, ?tkn32) FF NN (fun p hp => List.mem_append_left _ hp) (fun p hp => List.mem_append_right _ hp) rfl trivial ?ksn32 ?krn32 ?kpn32
                case ksn32 => intro p hp; cases List.mem_singleton.mp hp; rfl
                case krn32 =>
                  intro z h1 h2 h3
                  simp only [List.forall_mem_cons, List.not_mem_nil, false_implies, implies_true, and_true, ne_eq] at h2
                  simp [h1, h2, kstB]
                case kpn32 =>
                  show (x.length : Int) ≤ (c.1) ∧ (c.1) + (suD (lpA x.cps.toList (pre ++ [_]).length) (x.cps.toList.drop (pre ++ [_]).length) : Nat) = _
                  rw [List.length_append, List.length_singleton, hl0]
                  (first | rw [(by assumption : ee = true)] at hp | rw [(by assumption : ee = false)] at hp)
                  (try first | rw [(by assumption : (Builtin.Str.occurrences (Str.ofString "\r\x0b\x0c\x1c\x1d\x1e\u0085") (Txt.item x k) 0 (Str.ofString "\r\x0b\x0c\x1c\x1d\x1e\u0085").length 1).isEmpty = true)] at hp | rw [(by assumption : (Builtin.Str.occurrences (Str.ofString "\r\x0b\x0c\x1c\x1d\x1e\u0085") (Txt.item x k) 0 (Str.ofString "\r\x0b\x0c\x1c\x1d\x1e\u0085").length 1).isEmpty = false)] at hp)
                  (first | rw [(by assumption : (Txt.item x k == Str.ofString "\n") = true)] at hp | rw [(by assumption : (Txt.item x k == Str.ofString "\n") = false)] at hp)
                  (try first | rw [(by assumption : lo = true)] at hp | rw [(by assumption : lo = false)] at hp | (have hz : lpA x.cps.toList pre.length = false := by (rw [show pre.length = 0 by omega]; rfl)); rw [hz] at hp)
                  simp only [Bool.or_true, Bool.true_or, Bool.or_false, Bool.false_or, Bool.not_true, Bool.not_false, Bool.and_true, Bool.and_false, Bool.true_and, Bool.false_and, if_true, if_false, Bool.false_eq_true, reduceIte] at hp
                  exact ⟨by omega, by omega⟩)
            | (
                (with_reducible rename Fr _ _ _ _ => FF)
                (with_reducible rename News _ _ _ _ => NN)
                refine' kst_end (c.1 + 2, ?tkn33) FF NN (fun p hp => List.mem_append_left _ hp) (fun p hp => List.mem_append_right _ hp) rfl trivial ?ksn33 ?krn33 ?kpn33
                case ksn33 => intro p hp; cases List.mem_singleton.mp hp; rfl
                case krn33 =>
                  intro z h1 h2 h3
                  simp only [List.forall_mem_cons, List.not_mem_nil, false_implies, implies_true, and_true, ne_eq] at h2
                  simp [h1, h2, kstB]
                case kpn33 =>
                  show (x.length : Int) ≤ (c.1 + 2) ∧ (c.1 + 2) + (suD (lpA x.cps.toList (pre ++ [_]).length) (x.cps.toList.drop (pre ++ [_]).length) : Nat) = _
                  rw [List.length_append, List.length_singleton, hl0]
                  (first | rw [(by assumption : ee = true)] at hp | rw [(by assumption : ee = false)] at hp)
                  (try first | rw [(by assumption : (Builtin.Str.occurrences (Str.ofString "\r\x0b\x0c\x1c\x1d\x1e\u0085") (Txt.item x k) 0 (Str.ofString "\r\x0b\x0c\x1c\x1d\x1e\u0085").length 1).isEmpty = true)] at hp | rw [(by assumption : (Builtin.Str.occurrences (Str.ofString "\r\x0b\x0c\x1c\x1d\x1e\u0085") (Txt.item x k) 0 (Str.ofString "\r\x0b\x0c\x1c\x1d\x1e\u0085").length 1).isEmpty = false)] at hp)
                  (first | rw [(by assumption : (Txt.item x k == Str.ofString "\n") = true)] at hp | rw [(by assumption : (Txt.item x k == Str.ofString "\n") = false)] at hp)
                  (try first | rw [(by assumption : lo = true)] at hp | rw [(by assumption : lo = false)] at hp | (have hz : lpA x.cps.toList pre.length = false := by (rw [show pre.length = 0 by omega]; rfl)); rw [hz] at hp)
                  simp only [Bool.or_true, Bool.true_or, Bool.or_false, Bool.false_or, Bool.not_true, Bool.not_false, Bool.and_true, Bool.and_false, Bool.true_and, Bool.false_and, if_true, if_false, Bool.false_eq_true, reduceIte] at hp
                  exact ⟨by omega, by omega⟩)
            | (
                (with_reducible rename Fr _ _ _ _ => FF)
                (with_reducible rename News _ _ _ _ => NN)
                refine' kst_end (c.1 + 2 + 2, ?tkn34) FF NN (fun p hp => List.mem_append_left _ hp) (fun p hp => List.mem_append_right _ hp) rfl trivial ?ksn34 ?krn34 ?kpn34
                case ksn34 => intro p hp; cases List.mem_singleton.mp hp; rfl
                case krn34 =>
                  intro z h1 h2 h3
                  simp only [List.forall_mem_cons, List.not_mem_nil, false_implies, implies_true, and_true, ne_eq] at h2
                  simp [h1, h2, kstB]
                case kpn34 =>
                  show (x.length : Int) ≤ (c.1 + 2 + 2) ∧ (c.1 + 2 + 2) + (suD (lpA x.cps.toList (pre ++ [_]).length) (x.cps.toList.drop (pre ++ [_]).length) : Nat) = _
                  rw [List.length_append, List.length_singleton, hl0]
                  (first | rw [(by assumption : ee = true)] at hp | rw [(by assumption : ee = false)] at hp)
                  (try first | rw [(by assumption : (Builtin.Str.occurrences (Str.ofString "\r\x0b\x0c\x1c\x1d\x1e\u0085") (Txt.item x k) 0 (Str.ofString "\r\x0b\x0c\x1c\x1d\x1e\u0085").length 1).isEmpty = true)] at hp | rw [(by assumption : (Builtin.Str.occurrences (Str.ofString "\r\x0b\x0c\x1c\x1d\x1e\u0085") (Txt.item x k) 0 (Str.ofString "\r\x0b\x0c\x1c\x1d\x1e\u0085").length 1).isEmpty = false)] at hp)
                  (first | rw [(by assumption : (Txt.item x k == Str.ofString "\n") = true)] at hp | rw [(by assumption : (Txt.item x k == Str.ofString "\n") = false)] at hp)
                  (try first | rw [(by assumption : lo = true)] at hp | rw [(by assumption : lo = false)] at hp | (have hz : lpA x.cps.toList pre.length = false := by (rw [show pre.length = 0 by omega]; rfl)); rw [hz] at hp)
                  simp only [Bool.or_true, Bool.true_or, Bool.or_false, Bool.false_or, Bool.not_true, Bool.not_false, Bool.and_true, Bool.and_false, Bool.true_and, Bool.false_and, if_true, if_false, Bool.false_eq_true, reduceIte] at hp
                  exact ⟨by omega, by omega⟩)
      · skip
        refine Stop.mk ?_
        first
          | (
              (with_reducible rename Fr _ _ _ _ => FF)
              (with_reducible rename News _ _ _ _ => NN)
              refine' kst_end (c.1, ?tkn35) FF NN (fun p hp => List.mem_append_left _ hp) (fun p hp => List.mem_append_right _ hp) rfl trivial ?ksn35 ?krn35 ?kpn35
              case ksn35 => intro p hp; cases List.mem_singleton.mp hp; rfl
              case krn35 =>
                intro z h1 h2 h3
                simp only [List.forall_mem_cons, List.not_mem_nil, false_implies, implies_true, and_true, ne_eq] at h2
                simp [h1, h2, kstB]
              case kpn35 =>
                show (x.length : Int) ≤ (c.1) ∧ (c.1) + (suD (lpA x.cps.toList (pre ++ [_]).length) (x.cps.toList.drop (pre ++ [_]).length) : Nat) = _
                rw [List.length_append, List.length_singleton, hl0]
                (first | rw [(by assumption : ee = true)] at hp | rw [(by assumption : ee = false)] at hp)
                (try first | rw [(by assumption : (Builtin.Str.occurrences (Str.ofString "\r\x0b\x0c\x1c\x1d\x1e\u0085") (Txt.item x k) 0 (Str.ofString "\r\x0b\x0c\x1c\x1d\x1e\u0085").length 1).isEmpty = true)] at hp | rw [(by assumption : (Builtin.Str.occurrences (Str.ofString "\r\x0b\x0c\x1c\x1d\x1e\u0085") (Txt.item x k) 0 (Str.ofString "\r\x0b\x0c\x1c\x1d\x1e\u0085").length 1).isEmpty = false)] at hp)
                (first | rw [(by assumption : (Txt.item x k == Str.ofString "\n") = true)] at hp | rw [(by assumption : (Txt.item x k == Str.ofString "\n") = false)] at hp)
                (try first | rw [(by assumption : lo = true)] at hp | rw [(by assumption : lo = false)] at hp | (have hz : lpA x.cps.toList pre.length = false := by (rw [show pre.length = 0 by omega]; rfl)); rw [hz] at hp)
                simp only [Bool.or_true, Bool.true_or, Bool.or_false, Bool.false_or, Bool.not_true, Bool.not_false, Bool.and_true, Bool.and_false, Bool.true_and, Bool.false_and, if_true, if_false, Bool.false_eq_true, reduceIte] at hp
                exact ⟨by omega, by omega⟩)
          | (
              (with_reducible rename Fr _ _ _ _ => FF)
              (with_reducible rename News _ _ _ _ => NN)
              refine' kst_end (c.1 + 2, ?tkn36) FF NN (fun p hp => List.mem_append_left _ hp) (fun p hp => List.mem_append_right _ hp) rfl trivial ?ksn36 ?krn36 ?kpn36
              case ksn36 => intro p hp; cases List.mem_singleton.mp hp; rfl
              case krn36 =>
                intro z h1 h2 h3
                simp only [List.forall_mem_cons, List.not_mem_nil, false_implies, implies_true, and_true, ne_eq] at h2
                simp [h1, h2, kstB]
              case kpn36 =>
                show (x.length : Int) ≤ (c.1 + 2) ∧ (c.1 + 2) + (suD (lpA x.cps.toList (pre ++ [_]).length) (x.cps.toList.drop (pre ++ [_]).length) : Nat) = _
                rw [List.length_append, List.length_singleton, hl0]
                (first | rw [(by assumption : ee = true)] at hp | rw [(by assumption : ee = false)] at hp)
                (try first | rw [(by assumption : (Builtin.Str.occurrences (Str.ofString "\r\x0b\x0c\x1c\x1d\x1e\u0085") (Txt.item x k) 0 (Str.ofString "\r\x0b\x0c\x1c\x1d\x1e\u0085").length 1).isEmpty = true)] at hp | rw [(by assumption : (Builtin.Str.occurrences (Str.ofString "\r\x0b\x0c\x1c\x1d\x1e\u0085") (Txt.item x k) 0 (Str.ofString "\r\x0b\x0c\x1c\x1d\x1e\u0085").length 1).isEmpty = false)] at hp)
                (first | rw [(by assumption : (Txt.item x k == Str.ofString "\n") = true)] at hp | rw [(by assumption : (Txt.item x k == Str.ofString "\n") = false)] at hp)
                (try first | rw [(by assumption : lo = true)] at hp | rw [(by assumption : lo = false)] at hp | (have hz : lpA x.cps.toList pre.length = false := by (rw [show pre.length = 0 by omega]; rfl)); rw [hz] at hp)
                simp only [Bool.or_true, Bool.true_or, Bool.or_false, Bool.false_or, Bool.not_true, Bool.not_false, Bool.and_true, Bool.and_false, Bool.true_and, Bool.false_and, if_true, if_false, Bool.false_eq_true, reduceIte] at hp
                exact ⟨by omega, by omega⟩)
          | (
              (with_reducible rename Fr _ _ _ _ => FF)
              (with_reducible rename News _ _ _ _ => NN)
              refine' kst_end (c.1 + 2 + 2, ?tkn37) FF NN (fun p hp => List.mem_append_left _ hp) (fun p hp => List.mem_append_right _ hp) rfl trivial ?ksn37 ?krn37 ?kpn37
              case ksn37 => intro p hp; cases List.mem_singleton.mp hp; rfl
              case krn37 =>
                intro z h1 h2 h3
                simp only [List.forall_mem_cons, List.not_mem_nil, false_implies, implies_true, and_true, ne_eq] at h2
                simp [h1, h2, kstB]
              case kpn37 =>
                show (x.length : Int) ≤ (c.1 + 2 + 2) ∧ (c.1 + 2 + 2) + (suD (lpA x.cps.toList (pre ++ [_]).length) (x.cps.toList.drop (pre ++ [_]).length) : Nat) = _
                rw [List.length_append, List.length_singleton, hl0]
                (first | rw [(by assumption : ee = true)] at hp | rw [(by assumption : ee = false)] at hp)
                (try first | rw [(by assumption : (Builtin.Str.occurrences (Str.ofString "\r\x0b\x0c\x1c\x1d\x1e\u0085") (Txt.item x k) 0 (Str.ofString "\r\x0b\x0c\x1c\x1d\x1e\u0085").length 1).isEmpty = true)] at hp | rw [(by assumption : (Builtin.Str.occurrences (Str.ofString "\r\x0b\x0c\x1c\x1d\x1e\u0085") (Txt.item x k) 0 (Str.ofString "\r\x0b\x0c\x1c\x1d\x1e\u0085").length 1).isEmpty = false)] at hp)
                (first | rw [(by assumption : (Txt.item x k == Str.ofString "\n") = true)] at hp | rw [(by assumption : (Txt.item x k == Str.ofString "\n") = false)] at hp)
                (try first | rw [(by assumption : lo = true)] at hp | rw [(by assumption : lo = false)] at hp | (have hz : lpA x.cps.toList pre.length = false := by (rw [show pre.length = 0 by omega]; rfl)); rw [hz] at hp)
                simp only [Bool.or_true, Bool.true_or, Bool.or_false, Bool.false_or, Bool.not_true, Bool.not_false, Bool.and_true, Bool.and_false, Bool.true_and, Bool.false_and, if_true, if_false, Bool.false_eq_true, reduceIte] at hp
                exact ⟨by omega, by omega⟩)
      · skip
        refine Stop.mk ?_
        first
          | (
              (with_reducible rename Fr _ _ _ _ => FF)
              (with_reducible rename News _ _ _ _ => NN)
              refine' kst_end (c.1, ?tkn38) FF NN (fun p hp => List.mem_append_left _ hp) (fun p hp => List.mem_append_right _ hp) rfl trivial ?ksn38 ?krn38 ?kpn38
              case ksn38 => intro p hp; cases List.mem_singleton.mp hp; rfl
              case krn38 =>
                intro z h1 h2 h3
                simp only [List.forall_mem_cons, List.not_mem_nil, false_implies, implies_true, and_true, ne_eq] at h2
                simp [h1, h2, kstB]
              case kpn38 =>
                show (x.length : Int) ≤ (c.1) ∧ (c.1) + (suD (lpA x.cps.toList (pre ++ [_]).length) (x.cps.toList.drop (pre ++ [_]).length) : Nat) = _
                rw [List.length_append, List.length_singleton, hl0]
                (first | rw [(by assumption : ee = true)] at hp | rw [(by assumption : ee = false)] at hp)
                (try first | rw [(by assumption : (Builtin.Str.occurrences (Str.ofString "\r\x0b\x0c\x1c\x1d\x1e\u0085") (Txt.item x k) 0 (Str.ofString "\r\x0b\x0c\x1c\x1d\x1e\u0085").length 1).isEmpty = true)] at hp | rw [(by assumption : (Builtin.Str.occurrences (Str.ofString "\r\x0b\x0c\x1c\x1d\x1e\u0085") (Txt.item x k) 0 (Str.ofString "\r\x0b\x0c\x1c\x1d\x1e\u0085").length 1).isEmpty = false)] at hp)
                (first | rw [(by assumption : (Txt.item x k == Str.ofString "\n") = true)] at hp | rw [(by assumption : (Txt.item x k == Str.ofString "\n") = false)] at hp)
                (try first | rw [(by assumption : lo = true)] at hp | rw [(by assumption : lo = false)] at hp | (have hz : lpA x.cps.toList pre.length = false := by (rw [show pre.length = 0 by omega]; rfl)); rw [hz] at hp)
                simp only [Bool.or_true, Bool.true_or, Bool.or_false, Bool.false_or, Bool.not_true, Bool.not_false, Bool.and_true, Bool.and_false, Bool.true_and, Bool.false_and, if_true, if_false, Bool.false_eq_true, reduceIte] at hp
                exact ⟨by omega, by omega⟩)
          | (
              (with_reducible rename Fr _ _ _ _ => FF)
              (with_reducible rename News _ _ _ _ => NN)
              refine' kst_end (c.1 + 2, ?tkn39) FF NN (fun p hp => List.mem_append_left _ hp) (fun p hp => List.mem_append_right _ hp) rfl trivial ?ksn39 ?krn39 ?kpn39
              case ksn39 => intro p hp; cases List.mem_singleton.mp hp; rfl
              case krn39 =>
                intro z h1 h2 h3
                simp only [List.forall_mem_cons, List.not_mem_nil, false_implies, implies_true, and_true, ne_eq] at h2
                simp [h1, h2, kstB]
              case kpn39 =>
                show (x.length : Int) ≤ (c.1 + 2) ∧ (c.1 + 2) + (suD (lpA x.cps.toList (pre ++ [_]).length) (x.cps.toList.drop (pre ++ [_]).length) : Nat) = _
                rw [List.length_append, List.length_singleton, hl0]
                (first | rw [(by assumption : ee = true)] at hp | rw [(by assumption : ee = false)] at hp)
                (try first | rw [(by assumption : (Builtin.Str.occurrences (Str.ofString "\r\x0b\x0c\x1c\x1d\x1e\u0085") (Txt.item x k) 0 (Str.ofString "\r\x0b\x0c\x1c\x1d\x1e\u0085").length 1).isEmpty = true)] at hp | rw [(by assumption : (Builtin.Str.occurrences (Str.ofString "\r\x0b\x0c\x1c\x1d\x1e\u0085") (Txt.item x k) 0 (Str.ofString "\r\x0b\x0c\x1c\x1d\x1e\u0085").length 1).isEmpty = false)] at hp)
                (first | rw [(by assumption : (Txt.item x k == Str.ofString "\n") = true)] at hp | rw [(by assumption : (Txt.item x k == Str.ofString "\n") = false)] at hp)
                (try first | rw [(by assumption : lo = true)] at hp | rw [(by assumption : lo = false)] at hp | (have hz : lpA x.cps.toList pre.length = false := by (rw [show pre.length = 0 by omega]; rfl)); rw [hz] at hp)
                simp only [Bool.or_true, Bool.true_or, Bool.or_false, Bool.false_or, Bool.not_true, Bool.not_false, Bool.and_true, Bool.and_false, Bool.true_and, Bool.false_and, if_true, if_false, Bool.false_eq_true, reduceIte] at hp
                exact ⟨by omega, by omega⟩)
          | (
              (with_reducible rename Fr _ _ _ _ => FF)
              (with_reducible rename News _ _ _ _ => NN)
              refine' kst_end (c.1 + 2 + 2, ?tkn40) FF NN (fun p hp => List.mem_append_left _ hp) (fun p hp => List.mem_append_right _ hp) rfl trivial ?ksn40 ?krn40 ?kpn40
              case ksn40 => intro p hp; cases List.mem_singleton.mp hp; rfl
              case krn40 =>
                intro z h1 h2 h3
                simp only [List.forall_mem_cons, List.not_mem_nil, false_implies, implies_true, and_true, ne_eq] at h2
                simp [h1, h2, kstB]
              case kpn40 =>
                show (x.length : Int) ≤ (c.1 + 2 + 2) ∧ (c.1 + 2 + 2) + (suD (lpA x.cps.toList (pre ++ [_]).length) (x.cps.toList.drop (pre ++ [_]).length) : Nat) = _
                rw [List.length_append, List.length_singleton, hl0]
                (first | rw [(by assumption : ee = true)] at hp | rw [(by assumption : ee = false)] at hp)
                (try first | rw [(by assumption : (Builtin.Str.occurrences (Str.ofString "\r\x0b\x0c\x1c\x1d\x1e\u0085") (Txt.item x k) 0 (Str.ofString "\r\x0b\x0c\x1c\x1d\x1e\u0085").length 1).isEmpty = true)] at hp | rw [(by assumption : (Builtin.Str.occurrences (Str.ofString "\r\x0b\x0c\x1c\x1d\x1e\u0085") (Txt.item x k) 0 (Str.ofString "\r\x0b\x0c\x1c\x1d\x1e\u0085").length 1).isEmpty = false)] at hp)
                (first | rw [(by assumption : (Txt.item x k == Str.ofString "\n") = true)] at hp | rw [(by assumption : (Txt.item x k == Str.ofString "\n") = false)] at hp)
                (try first | rw [(by assumption : lo = true)] at hp | rw [(by assumption : lo = false)] at hp | (have hz : lpA x.cps.toList pre.length = false := by (rw [show pre.length = 0 by omega]; rfl)); rw [hz] at hp)
                simp only [Bool.or_true, Bool.true_or, Bool.or_false, Bool.false_or, Bool.not_true, Bool.not_false, Bool.and_true, Bool.and_false, Bool.true_and, Bool.false_and, if_true, if_false, Bool.false_eq_true, reduceIte] at hp
                exact ⟨by omega, by omega⟩)
    case k4 =>
      intro c u h tk _ hp F3 N3
      obtain ⟨hp0, hp⟩ := hp
      clear FF NN
      rw [rangeKs_length, List.drop_of_length_le (by rw [← str_len]; exact Nat.le_refl _), suD] at hp
      k_steps
      · skip
        refine Stop.mk ?_
        obtain ⟨d, hd1, hd2⟩ := item_end (x := x) (by omega)
        rw [hd1]
        k_dflt (refine' Ctr.use (ctr_loose w d _) ?Bn41 ?Fn41 ?Xn41 ?Nn41 ?Tn41 ?hkn41 ?hdn41 ?hun41 ?_; (case Bn41 => k_asm); (case Fn41 => k_asm); (case Xn41 => k_asm); (case Nn41 => k_asm); (case Tn41 => k_asm); (case hkn41 => first | exact rfl | assumption); (case hdn41 => ktr_room); (case hun41 => ktr_units))
        intro t9 h9 tk9 F9 N9
        (try dsimp only)
        (try k_fold)
        rw [hd2] at hp
        generalize hlo : looseB d = lo at hp ⊢
        k_steps
        · skip
          rw [(by assumption : lo = true)] at hp
          simp only [Bool.or_true, Bool.true_or, Bool.or_false, Bool.false_or, Bool.not_true, Bool.not_false, Bool.and_true, Bool.and_false, Bool.true_and, Bool.false_and, if_true, if_false, Bool.false_eq_true, reduceIte] at hp
          exact q_int (by push_cast at hp ⊢; omega) (hret _ _ _ (by k_asm) (by k_asm))
        · skip
          rw [(by assumption : lo = false)] at hp
          simp only [Bool.or_true, Bool.true_or, Bool.or_false, Bool.false_or, Bool.not_true, Bool.not_false, Bool.and_true, Bool.and_false, Bool.true_and, Bool.false_and, if_true, if_false, Bool.false_eq_true, reduceIte] at hp
          exact q_int (by push_cast at hp ⊢; omega) (hret _ _ _ (by k_asm) (by k_asm))
      · skip
        have hz : lpA x.cps.toList x.length = false := by rw [str_none (by assumption)]; rfl
        rw [hz] at hp
        simp only [Bool.or_true, Bool.true_or, Bool.or_false, Bool.false_or, Bool.not_true, Bool.not_false, Bool.and_true, Bool.and_false, Bool.true_and, Bool.false_and, if_true, if_false, Bool.false_eq_true, reduceIte] at hp
        exact q_int (by push_cast at hp ⊢; omega) (hret _ _ _ (by k_asm) (by k_asm))
theorem ctr_priceH (w : World) (x : Str) (t : Tok) (hx : x.length ≤ 400) : Ctr w 109 4 30 [.str x t, .bool true] (fun t => .int ((x.length : Int) + (suH x.cps.toList : Nat)) t) := by
  intro p loose mean mg mb news dp un gd cn cs a ccd cl outer A₀ base h₀ L m s Q E B F X N T hk hd hu hret
  refine wpAny_call ?_
  k_dflt (refine' code_def ?k1 ?k2 ?k3 ?k4 ?k5 ?kA ?kF ?kK ?k6 ?k7 ?k8 ?k9 ?kB ?_ ?c2 ?c3 ?c4 ?c5; (case kA => exact rfl); (case kF => exact rfl); (case kK => assumption); (case k1 => k_asm); (case k2 => k_asm); (case k3 => k_asm); (case k4 => k_asm); (case k5 => k_asm); (case k6 => k_is); (case k7 => k_is); (case k8 => ktr_room); (case k9 => first | exact BindsTo.of_eq rfl | exact binds_K (by k_in) rfl (by k_is) rfl rfl rfl); (case c5 => decide); (case kB => exact locs rfl); (case c2 => exact rfl); (case c3 => exact rfl); (case c4 => exact rfl); k_whole; intro g' L' h' FG' F' N' B' X' T'; (try dsimp only); (try k_lift B'); (try k_fold))
  k_steps
  · refine Stop.mk ?_
    (with_reducible rename IsRange _ _ _ _ _ _ _ _ => RR)
    (with_reducible rename Fr _ _ _ _ => FF)
    (with_reducible rename News _ _ _ _ => NN)
    refine' kst_range (σ := Int × Tok) (n := x.length) (fun _ => news) (fun c => [(Str.ofString "price", Value.int c.1 c.2)]) (fun _ => True) [] (fun pre c => (x.length : Int) ≤ c.1 ∧ c.1 + (suH (x.cps.toList.drop pre.length) : Nat) = (x.length : Int) + (suH x.cps.toList : Nat)) (x.length, ?tk0) (by rfl) RR ?ksm ?knn FF NN trivial ?k1 ?k2 ?k3 ?k4
    case ksm => exact small_one (by omega) (by omega) (by omega) (by omega)
    case knn => rw [rangeSize_one]; first | (rw [if_pos (by omega)]; omega) | (split <;> omega)
    case k1 => intro p hp; cases List.mem_singleton.mp hp; rfl
    case k2 => exact ⟨Int.le_refl _, rfl⟩
    case k3 =>
      intro c pre k ty u h tk own hys hlt hoff _ hp F3 N3
      obtain ⟨hp0, hp⟩ := hp
      clear FF NN RR
      (try dsimp only)
      (try k_fold)
      k_steps
      have hk' : k = (pre.length : Int) := by omega
      obtain ⟨c0, hd0, hi0, _, hl0⟩ := item_at (x := x) (i := pre.length) (by omega)
      rw [← hk'] at hi0
      have hkn : k.toNat = pre.length := by omega
      rw [hd0, suH, ← hd0] at hp
      have hL : decide (c0 = 95) = (Txt.item x k == Str.ofString "_") := by rw [hi0, sg95]
      rw [hL] at hp
      refine Stop.mk ?_
      k_dflt (refine' Ctr.use (ctr_escape w x k _ _ hx (by omega) (by omega)) ?Bn42 ?Fn42 ?Xn42 ?Nn42 ?Tn42 ?hkn42 ?hdn42 ?hun42 ?_; (case Bn42 => k_asm); (case Fn42 => k_asm); (case Xn42 => k_asm); (case Nn42 => k_asm); (case Tn42 => k_asm); (case hkn42 => first | exact rfl | assumption); (case hdn42 => ktr_room); (case hun42 => ktr_units))
      intro t9 h9 tk9 F9 N9
      (try dsimp only)
      (try k_fold)
      rw [hkn]
      generalize he : esc (x.cps.toList.drop pre.length) = ee at hp ⊢
      k_steps
      · skip
        refine Stop.mk ?_
        first
          | (
              (with_reducible rename Fr _ _ _ _ => FF)
              (with_reducible rename News _ _ _ _ => NN)
              refine' kst_end (c.1, ?tkn43) FF NN (fun p hp => List.mem_append_left _ hp) (fun p hp => List.mem_append_right _ hp) rfl trivial ?ksn43 ?krn43 ?kpn43
              case ksn43 => intro p hp; cases List.mem_singleton.mp hp; rfl
              case krn43 =>
                intro z h1 h2 h3
                simp only [List.forall_mem_cons, List.not_mem_nil, false_implies, implies_true, and_true, ne_eq] at h2
                simp [h1, h2, kstB]
              case kpn43 =>
                show (x.length : Int) ≤ (c.1) ∧ (c.1) + (suH (x.cps.toList.drop (pre ++ [_]).length) : Nat) = _
                rw [List.length_append, List.length_singleton]
                (first | rw [(by assumption : ee = true)] at hp | rw [(by assumption : ee = false)] at hp)
                (try first | rw [(by assumption : (Txt.item x k == Str.ofString "_") = true)] at hp | rw [(by assumption : (Txt.item x k == Str.ofString "_") = false)] at hp)
                simp only [Bool.or_true, Bool.true_or, Bool.or_false, Bool.false_or, Bool.not_true, Bool.not_false, Bool.and_true, Bool.and_false, Bool.true_and, Bool.false_and, if_true, if_false, Bool.false_eq_true, reduceIte] at hp
                exact ⟨by omega, by omega⟩)
          | (
              (with_reducible rename Fr _ _ _ _ => FF)
              (with_reducible rename News _ _ _ _ => NN)
              refine' kst_end (c.1 + 2, ?tkn44) FF NN (fun p hp => List.mem_append_left _ hp) (fun p hp => List.mem_append_right _ hp) rfl trivial ?ksn44 ?krn44 ?kpn44
              case ksn44 => intro p hp; cases List.mem_singleton.mp hp; rfl
              case krn44 =>
                intro z h1 h2 h3
                simp only [List.forall_mem_cons, List.not_mem_nil, false_implies, implies_true, and_true, ne_eq] at h2
                simp [h1, h2, kstB]
              case kpn44 =>
                show (x.length : Int) ≤ (c.1 + 2) ∧ (c.1 + 2) + (suH (x.cps.toList.drop (pre ++ [_]).length) : Nat) = _
                rw [List.length_append, List.length_singleton]
                (first | rw [(by assumption : ee = true)] at hp | rw [(by assumption : ee = false)] at hp)
                (try first | rw [(by assumption : (Txt.item x k == Str.ofString "_") = true)] at hp | rw [(by assumption : (Txt.item x k == Str.ofString "_") = false)] at hp)
                simp only [Bool.or_true, Bool.true_or, Bool.or_false, Bool.false_or, Bool.not_true, Bool.not_false, Bool.and_true, Bool.and_false, Bool.true_and, Bool.false_and, if_true, if_false, Bool.false_eq_true, reduceIte] at hp
                exact ⟨by omega, by omega⟩)
      · skip
        refine Stop.mk ?_
        first
          | (
              (with_reducible rename Fr _ _ _ _ => FF)
              (with_reducible rename News _ _ _ _ => NN)
              refine' kst_end (c.1, ?tkn45) FF NN (fun p hp => List.mem_append_left _ hp) (fun p hp => List.mem_append_right _ hp) rfl trivial ?ksn45 ?krn45 ?kpn45
              case ksn45 => intro p hp; cases List.mem_singleton.mp hp; rfl
              case krn45 =>
                intro z h1 h2 h3
                simp only [List.forall_mem_cons, List.not_mem_nil, false_implies, implies_true, and_true, ne_eq] at h2
                simp [h1, h2, kstB]
              case kpn45 =>
                show (x.length : Int) ≤ (c.1) ∧ (c.1) + (suH (x.cps.toList.drop (pre ++ [_]).length) : Nat) = _
                rw [List.length_append, List.length_singleton]
                (first | rw [(by assumption : ee = true)] at hp | rw [(by assumption : ee = false)] at hp)
                (try first | rw [(by assumption : (Txt.item x k == Str.ofString "_") = true)] at hp | rw [(by assumption : (Txt.item x k == Str.ofString "_") = false)] at hp)
                simp only [Bool.or_true, Bool.true_or, Bool.or_false, Bool.false_or, Bool.not_true, Bool.not_false, Bool.and_true, Bool.and_false, Bool.true_and, Bool.false_and, if_true, if_false, Bool.false_eq_true, reduceIte] at hp
                exact ⟨by omega, by omega⟩)
          | (
              (with_reducible rename Fr _ _ _ _ => FF)
              (with_reducible rename News _ _ _ _ => NN)
              refine' kst_end (c.1 + 2, ?tkn46) FF NN (fun p hp => List.mem_append_left _ hp) (fun p hp => List.mem_append_right _ hp) rfl trivial ?ksn46 ?krn46 ?kpn46
              case ksn46 => intro p hp; cases List.mem_singleton.mp hp; rfl
              case krn46 =>
                intro z h1 h2 h3
                simp only [List.forall_mem_cons, List.not_mem_nil, false_implies, implies_true, and_true, ne_eq] at h2
                simp [h1, h2, kstB]
              case kpn46 =>
                show (x.length : Int) ≤ (c.1 + 2) ∧ (c.1 + 2) + (suH (x.cps.toList.drop (pre ++ [_]).length) : Nat) = _
                rw [List.length_append, List.length_singleton]
                (first | rw [(by assumption : ee = true)] at hp | rw [(by assumption : ee = false)] at hp)
                (try first | rw [(by assumption : (Txt.item x k == Str.ofString "_") = true)] at hp | rw [(by assumption : (Txt.item x k == Str.ofString "_") = false)] at hp)
                simp only [Bool.or_true, Bool.true_or, Bool.or_false, Bool.false_or, Bool.not_true, Bool.not_false, Bool.and_true, Bool.and_false, Bool.true_and, Bool.false_and, if_true, if_false, Bool.false_eq_true, reduceIte] at hp
                exact ⟨by omega, by omega⟩)
      · skip
        refine Stop.mk ?_
        first
          | (
              (with_reducible rename Fr _ _ _ _ => FF)
              (with_reducible rename News _ _ _ _ => NN)
              refine' kst_end (c.1, ?tkn47) FF NN (fun p hp => List.mem_append_left _ hp) (fun p hp => List.mem_append_right _ hp) rfl trivial ?ksn47 ?krn47 ?kpn47
              case ksn47 => intro p hp; cases List.mem_singleton.mp hp; rfl
              case krn47 =>
                intro z h1 h2 h3
                simp only [List.forall_mem_cons, List.not_mem_nil, false_implies, implies_true, and_true, ne_eq] at h2
                simp [h1, h2, kstB]
              case kpn47 =>
                show (x.length : Int) ≤ (c.1) ∧ (c.1) + (suH (x.cps.toList.drop (pre ++ [_]).length) : Nat) = _
                rw [List.length_append, List.length_singleton]
                (first | rw [(by assumption : ee = true)] at hp | rw [(by assumption : ee = false)] at hp)
                (try first | rw [(by assumption : (Txt.item x k == Str.ofString "_") = true)] at hp | rw [(by assumption : (Txt.item x k == Str.ofString "_") = false)] at hp)
                simp only [Bool.or_true, Bool.true_or, Bool.or_false, Bool.false_or, Bool.not_true, Bool.not_false, Bool.and_true, Bool.and_false, Bool.true_and, Bool.false_and, if_true, if_false, Bool.false_eq_true, reduceIte] at hp
                exact ⟨by omega, by omega⟩)
          | (
              (with_reducible rename Fr _ _ _ _ => FF)
              (with_reducible rename News _ _ _ _ => NN)
              refine' kst_end (c.1 + 2, ?tkn48) FF NN (fun p hp => List.mem_append_left _ hp) (fun p hp => List.mem_append_right _ hp) rfl trivial ?ksn48 ?krn48 ?kpn48
              case ksn48 => intro p hp; cases List.mem_singleton.mp hp; rfl
              case krn48 =>
                intro z h1 h2 h3
                simp only [List.forall_mem_cons, List.not_mem_nil, false_implies, implies_true, and_true, ne_eq] at h2
                simp [h1, h2, kstB]
              case kpn48 =>
                show (x.length : Int) ≤ (c.1 + 2) ∧ (c.1 + 2) + (suH (x.cps.toList.drop (pre ++ [_]).length) : Nat) = _
                rw [List.length_append, List.length_singleton]
                (first | rw [(by assumption : ee = true)] at hp | rw [(by assumption : ee = false)] at hp)
                (try first | rw [(by assumption : (Txt.item x k == Str.ofString "_") = true)] at hp | rw [(by assumption : (Txt.item x k == Str.ofString "_") = false)] at hp)
                simp only [Bool.or_true, Bool.true_or, Bool.or_false, Bool.false_or, Bool.not_true, Bool.not_false, Bool.and_true, Bool.and_false, Bool.true_and, Bool.false_and, if_true, if_false, Bool.false_eq_true, reduceIte] at hp
                exact ⟨by omega, by omega⟩)
    case k4 =>
      intro c u h tk _ hp F3 N3
      obtain ⟨hp0, hp⟩ := hp
      clear FF NN
      rw [rangeKs_length, List.drop_of_length_le (by rw [← str_len]; exact Nat.le_refl _), suH] at hp
      k_steps
      exact q_int (by push_cast at hp ⊢; omega) (hret _ _ _ (by k_asm) (by k_asm))
end Mine
namespace Mine
theorem fillSe : PySem.Challenge.rw_dw5003_03.name = PySem.Challenge.rw_dw5003_03.name ∧ hd03.heap_39 = hd03.heap_39 := by
  k_fill
  exact ⟨rfl, rfl⟩
local macro_rules | `(tactic| walk_at "pad 0") => `(tactic| skip)
local macro_rules | `(tactic| walk_at "pyIter ref") => `(tactic| refine Stop.out ?_)
local macro_rules | `(tactic| walk_at "InvEndN") => `(tactic| refine Stop.out ?_)
local macro_rules | `(tactic| walk_at "call ref") => `(tactic| refine Stop.out ?_)
local macro_rules | `(tactic| walk_at "subscriptTail Constant BinOp str int") => `(tactic| refine Stop.out ?_)
local macro_rules | `(tactic| walk_at "ite") => `(tactic| first | with_reducible refine ite_tt ?_ | with_reducible refine ite_ff ?_ | (with_reducible refine split_ine ?_ ?_ <;> intro _) | (with_reducible refine split_ieq ?_ ?_ <;> intro _) | with_reducible refine split_not ?_ | (with_reducible refine split_dec ?_ ?_ <;> intro _) | (with_reducible refine split_bool ?_ ?_ <;> intro _))
local macro_rules | `(tactic| walk_at "binaryOp FloorDiv int int") => `(tactic| (refine floordiv_int (by decide) ?_ (Or.inl (PyProof.noPylong_of_log2 (by decide +kernel)))))
local macro_rules | `(tactic| walk_at "binaryOp Mod int int") => `(tactic| (refine mod_int' (by decide) ?_))
local macro_rules | `(tactic| walk_at "execs cons") => `(tactic| ((with_reducible refine wpAny_execs_cons ?_); try dsimp only))
local macro_rules | `(tactic| walk_at "execs nil") => `(tactic| refine wpAny_execs_nil ?_)
local macro_rules | `(tactic| walk_at "exec For Name Call cons nil") => `(tactic| ((with_reducible rename Fr _ _ _ _ => lF'); (with_unfolding_all refine' For_invVF lF' ?k1 ?k2 ?_; (case k1 => exact rfl); (case k2 => exact rfl); k_whole)))
theorem ctr_spellD (w : World) (x : Str) (t : Tok) (hx : x.length ≤ 400) : Ctr w 95 4 30 [.str x t, .bool false] (fun t => .str (spSD x) t) := by
  intro p loose mean mg mb news dp un gd cn cs a ccd cl outer A₀ base h₀ L m s Q E B F X N T hk hd hu hret
  refine wpAny_call ?_
  k_dflt (refine' code_def ?k1 ?k2 ?k3 ?k4 ?k5 ?kA ?kF ?kK ?k6 ?k7 ?k8 ?k9 ?kB ?_ ?c2 ?c3 ?c4 ?c5; (case kA => exact rfl); (case kF => exact rfl); (case kK => assumption); (case k1 => k_asm); (case k2 => k_asm); (case k3 => k_asm); (case k4 => k_asm); (case k5 => k_asm); (case k6 => k_is); (case k7 => k_is); (case k8 => ktr_room); (case k9 => first | exact BindsTo.of_eq rfl | exact binds_K (by k_in) rfl (by k_is) rfl rfl rfl); (case c5 => decide); (case kB => exact locs rfl); (case c2 => exact rfl); (case c3 => exact rfl); (case c4 => exact rfl); k_whole; intro g' L' h' FG' F' N' B' X' T'; (try dsimp only); (try k_lift B'); (try k_fold))
  k_steps
  · refine Stop.mk ?_
    (with_reducible rename IsRange _ _ _ _ _ _ _ _ => RR)
    (with_reducible rename Fr _ _ _ _ => FF)
    (with_reducible rename News _ _ _ _ => NN)
    refine' kst_range (σ := Str × Tok) (n := x.length) (fun _ => news) (fun c => [(Str.ofString "spelling", Value.str c.1 c.2)]) (fun _ => True) [] (fun pre c => c.1.length ≤ 3 * pre.length ∧ c.1.cps.toList ++ spD (lpA x.cps.toList pre.length) (x.cps.toList.drop pre.length) = (spSD x).cps.toList) (Str.ofString "", ?tk0) (by rfl) RR ?ksm ?knn FF NN trivial ?k1 ?k2 ?k3 ?k4
    case ksm => exact small_one (by omega) (by omega) (by omega) (by omega)
    case knn => rw [rangeSize_one]; first | (rw [if_pos (by omega)]; omega) | (split <;> omega)
    case k1 => intro p hp; cases List.mem_singleton.mp hp; rfl
    case k2 => exact ⟨Nat.le_refl _, rfl⟩
    case k3 =>
      intro c pre k ty u h tk own hys hlt hoff _ hp F3 N3
      obtain ⟨hp0, hp⟩ := hp
      have hcl : c.1.length ≤ 1200 := by omega
      clear FF NN RR
      (try dsimp only)
      (try k_fold)
      k_steps
      have hk' : k = (pre.length : Int) := by omega
      obtain ⟨c0, hd0, hi0, _, hl0⟩ := item_at (x := x) (i := pre.length) (by omega)
      rw [← hk'] at hi0
      have hkn : k.toNat = pre.length := by omega
      rw [hd0, spD, ← hd0] at hp
      have hE : endx c0 = !(Builtin.Str.occurrences (Str.ofString "\r\x0b\x0c\x1c\x1d\x1e\u0085") (Txt.item x k) 0 (Str.ofString "\r\x0b\x0c\x1c\x1d\x1e\u0085").length 1).isEmpty := by rw [hi0]; exact ends7 rfl
      have hL : decide (c0 = 10) = (Txt.item x k == Str.ofString "\n") := by rw [hi0, sg10']
      refine Stop.mk ?_
      k_dflt (refine' Ctr.use (ctr_escape w x k _ _ hx (by omega) (by omega)) ?Bn49 ?Fn49 ?Xn49 ?Nn49 ?Tn49 ?hkn49 ?hdn49 ?hun49 ?_; (case Bn49 => k_asm); (case Fn49 => k_asm); (case Xn49 => k_asm); (case Nn49 => k_asm); (case Tn49 => k_asm); (case hkn49 => first | exact rfl | assumption); (case hdn49 => ktr_room); (case hun49 => ktr_units))
      intro t9 h9 tk9 F9 N9
      (try dsimp only)
      (try k_fold)
      rw [hkn]
      generalize he : esc (x.cps.toList.drop pre.length) = ee at hp ⊢
      k_steps
      · skip
        refine Stop.mk ?_
        (with_reducible rename Fr _ _ _ _ => FF)
        (with_reducible rename News _ _ _ _ => NN)
        refine' kst_end (c.1 ++ Str.ofString "=3D", ?tkn51) FF NN (fun p hp => List.mem_append_left _ hp) (fun p hp => List.mem_append_right _ hp) rfl trivial ?ksn51 ?krn51 ?kpn51
        case ksn51 => intro p hp; cases List.mem_singleton.mp hp; rfl
        case krn51 =>
          intro z h1 h2 h3
          simp only [List.forall_mem_cons, List.not_mem_nil, false_implies, implies_true, and_true, ne_eq] at h2
          simp [h1, h2, kstB]
        case kpn51 =>
          show (c.1 ++ Str.ofString "=3D" : Str).length ≤ 3 * (pre ++ [_]).length ∧ (c.1 ++ Str.ofString "=3D" : Str).cps.toList ++ spD (lpA x.cps.toList (pre ++ [_]).length) (x.cps.toList.drop (pre ++ [_]).length) = _
          rw [List.length_append, List.length_singleton]
          rw [hl0]
          refine sp_next hp0 hp ?_ (pc1_len _ _ _)
          unfold pc1
          (first | rw [(by assumption : ee = true)] | rw [(by assumption : ee = false)])
          rw [hE, hL]
          (try first | rw [(by assumption : (Builtin.Str.occurrences (Str.ofString "\r\x0b\x0c\x1c\x1d\x1e\u0085") (Txt.item x k) 0 (Str.ofString "\r\x0b\x0c\x1c\x1d\x1e\u0085").length 1).isEmpty = true)] | rw [(by assumption : (Builtin.Str.occurrences (Str.ofString "\r\x0b\x0c\x1c\x1d\x1e\u0085") (Txt.item x k) 0 (Str.ofString "\r\x0b\x0c\x1c\x1d\x1e\u0085").length 1).isEmpty = false)])
          (try first | rw [(by assumption : (Txt.item x k == Str.ofString "\n") = true)] | rw [(by assumption : (Txt.item x k == Str.ofString "\n") = false)])
          (try first | rw [(by assumption : lo = true)] | rw [(by assumption : lo = false)] | (have hz : lpA x.cps.toList pre.length = false := by (rw [show pre.length = 0 by omega]; rfl)); rw [hz])
          simp only [Bool.or_true, Bool.true_or, Bool.or_false, Bool.false_or, Bool.not_true, Bool.not_false, Bool.and_true, Bool.and_false, Bool.true_and, Bool.false_and, if_true, if_false, Bool.false_eq_true, reduceIte]
          first | exact s3D | exact sLL | exact hexpair hn | (rw [hi0])
      · skip
        refine Stop.mk ?_
        obtain ⟨d, hd1, hd2⟩ := item_prev (x := x) (i := pre.length) hk' (by omega) (by omega)
        rw [hd1]
        k_dflt (refine' Ctr.use (ctr_loose w d _) ?Bn52 ?Fn52 ?Xn52 ?Nn52 ?Tn52 ?hkn52 ?hdn52 ?hun52 ?_; (case Bn52 => k_asm); (case Fn52 => k_asm); (case Xn52 => k_asm); (case Nn52 => k_asm); (case Tn52 => k_asm); (case hkn52 => first | exact rfl | assumption); (case hdn52 => ktr_room); (case hun52 => ktr_units))
        intro t9 h9 tk9 F9 N9
        (try dsimp only)
        (try k_fold)
        rw [hd2] at hp
        generalize hlo : looseB d = lo at hp ⊢
        k_steps
        · skip
          refine Stop.mk ?_
          (with_reducible rename Fr _ _ _ _ => FF)
          (with_reducible rename News _ _ _ _ => NN)
          refine' kst_end (c.1 ++ Str.ofString "=\n\n", ?tkn53) FF NN (fun p hp => List.mem_append_left _ hp) (fun p hp => List.mem_append_right _ hp) rfl trivial ?ksn53 ?krn53 ?kpn53
          case ksn53 => intro p hp; cases List.mem_singleton.mp hp; rfl
          case krn53 =>
            intro z h1 h2 h3
            simp only [List.forall_mem_cons, List.not_mem_nil, false_implies, implies_true, and_true, ne_eq] at h2
            simp [h1, h2, kstB]
          case kpn53 =>
            show (c.1 ++ Str.ofString "=\n\n" : Str).length ≤ 3 * (pre ++ [_]).length ∧ (c.1 ++ Str.ofString "=\n\n" : Str).cps.toList ++ spD (lpA x.cps.toList (pre ++ [_]).length) (x.cps.toList.drop (pre ++ [_]).length) = _
            rw [List.length_append, List.length_singleton]
            rw [hl0]
            refine sp_next hp0 hp ?_ (pc1_len _ _ _)
            unfold pc1
            (first | rw [(by assumption : ee = true)] | rw [(by assumption : ee = false)])
            rw [hE, hL]
            (try first | rw [(by assumption : (Builtin.Str.occurrences (Str.ofString "\r\x0b\x0c\x1c\x1d\x1e\u0085") (Txt.item x k) 0 (Str.ofString "\r\x0b\x0c\x1c\x1d\x1e\u0085").length 1).isEmpty = true)] | rw [(by assumption : (Builtin.Str.occurrences (Str.ofString "\r\x0b\x0c\x1c\x1d\x1e\u0085") (Txt.item x k) 0 (Str.ofString "\r\x0b\x0c\x1c\x1d\x1e\u0085").length 1).isEmpty = false)])
            (try first | rw [(by assumption : (Txt.item x k == Str.ofString "\n") = true)] | rw [(by assumption : (Txt.item x k == Str.ofString "\n") = false)])
            (try first | rw [(by assumption : lo = true)] | rw [(by assumption : lo = false)] | (have hz : lpA x.cps.toList pre.length = false := by (rw [show pre.length = 0 by omega]; rfl)); rw [hz])
            simp only [Bool.or_true, Bool.true_or, Bool.or_false, Bool.false_or, Bool.not_true, Bool.not_false, Bool.and_true, Bool.and_false, Bool.true_and, Bool.false_and, if_true, if_false, Bool.false_eq_true, reduceIte]
            first | exact s3D | exact sLL | exact hexpair hn | (rw [hi0])
        · skip
          refine Stop.mk ?_
          (with_reducible rename Fr _ _ _ _ => FF)
          (with_reducible rename News _ _ _ _ => NN)
          refine' kst_end (c.1 ++ Txt.item x k, ?tkn54) FF NN (fun p hp => List.mem_append_left _ hp) (fun p hp => List.mem_append_right _ hp) rfl trivial ?ksn54 ?krn54 ?kpn54
          case ksn54 => intro p hp; cases List.mem_singleton.mp hp; rfl
          case krn54 =>
            intro z h1 h2 h3
            simp only [List.forall_mem_cons, List.not_mem_nil, false_implies, implies_true, and_true, ne_eq] at h2
            simp [h1, h2, kstB]
          case kpn54 =>
            show (c.1 ++ Txt.item x k : Str).length ≤ 3 * (pre ++ [_]).length ∧ (c.1 ++ Txt.item x k : Str).cps.toList ++ spD (lpA x.cps.toList (pre ++ [_]).length) (x.cps.toList.drop (pre ++ [_]).length) = _
            rw [List.length_append, List.length_singleton]
            rw [hl0]
            refine sp_next hp0 hp ?_ (pc1_len _ _ _)
            unfold pc1
            (first | rw [(by assumption : ee = true)] | rw [(by assumption : ee = false)])
            rw [hE, hL]
            (try first | rw [(by assumption : (Builtin.Str.occurrences (Str.ofString "\r\x0b\x0c\x1c\x1d\x1e\u0085") (Txt.item x k) 0 (Str.ofString "\r\x0b\x0c\x1c\x1d\x1e\u0085").length 1).isEmpty = true)] | rw [(by assumption : (Builtin.Str.occurrences (Str.ofString "\r\x0b\x0c\x1c\x1d\x1e\u0085") (Txt.item x k) 0 (Str.ofString "\r\x0b\x0c\x1c\x1d\x1e\u0085").length 1).isEmpty = false)])
            (try first | rw [(by assumption : (Txt.item x k == Str.ofString "\n") = true)] | rw [(by assumption : (Txt.item x k == Str.ofString "\n") = false)])
            (try first | rw [(by assumption : lo = true)] | rw [(by assumption : lo = false)] | (have hz : lpA x.cps.toList pre.length = false := by (rw [show pre.length = 0 by omega]; rfl)); rw [hz])
            simp only [Bool.or_true, Bool.true_or, Bool.or_false, Bool.false_or, Bool.not_true, Bool.not_false, Bool.and_true, Bool.and_false, Bool.true_and, Bool.false_and, if_true, if_false, Bool.false_eq_true, reduceIte]
            first | exact s3D | exact sLL | exact hexpair hn | (rw [hi0])
      · skip
        refine Stop.mk ?_
        (with_reducible rename Fr _ _ _ _ => FF)
        (with_reducible rename News _ _ _ _ => NN)
        refine' kst_end (c.1 ++ Txt.item x k, ?tkn55) FF NN (fun p hp => List.mem_append_left _ hp) (fun p hp => List.mem_append_right _ hp) rfl trivial ?ksn55 ?krn55 ?kpn55
        case ksn55 => intro p hp; cases List.mem_singleton.mp hp; rfl
        case krn55 =>
          intro z h1 h2 h3
          simp only [List.forall_mem_cons, List.not_mem_nil, false_implies, implies_true, and_true, ne_eq] at h2
          simp [h1, h2, kstB]
        case kpn55 =>
          show (c.1 ++ Txt.item x k : Str).length ≤ 3 * (pre ++ [_]).length ∧ (c.1 ++ Txt.item x k : Str).cps.toList ++ spD (lpA x.cps.toList (pre ++ [_]).length) (x.cps.toList.drop (pre ++ [_]).length) = _
          rw [List.length_append, List.length_singleton]
          rw [hl0]
          refine sp_next hp0 hp ?_ (pc1_len _ _ _)
          unfold pc1
          (first | rw [(by assumption : ee = true)] | rw [(by assumption : ee = false)])
          rw [hE, hL]
          (try first | rw [(by assumption : (Builtin.Str.occurrences (Str.ofString "\r\x0b\x0c\x1c\x1d\x1e\u0085") (Txt.item x k) 0 (Str.ofString "\r\x0b\x0c\x1c\x1d\x1e\u0085").length 1).isEmpty = true)] | rw [(by assumption : (Builtin.Str.occurrences (Str.ofString "\r\x0b\x0c\x1c\x1d\x1e\u0085") (Txt.item x k) 0 (Str.ofString "\r\x0b\x0c\x1c\x1d\x1e\u0085").length 1).isEmpty = false)])
          (try first | rw [(by assumption : (Txt.item x k == Str.ofString "\n") = true)] | rw [(by assumption : (Txt.item x k == Str.ofString "\n") = false)])
          (try first | rw [(by assumption : lo = true)] | rw [(by assumption : lo = false)] | (have hz : lpA x.cps.toList pre.length = false := by (rw [show pre.length = 0 by omega]; rfl)); rw [hz])
          simp only [Bool.or_true, Bool.true_or, Bool.or_false, Bool.false_or, Bool.not_true, Bool.not_false, Bool.and_true, Bool.and_false, Bool.true_and, Bool.false_and, if_true, if_false, Bool.false_eq_true, reduceIte]
          first | exact s3D | exact sLL | exact hexpair hn | (rw [hi0])
      · skip
        refine Stop.mk ?_
        (with_reducible rename Fr _ _ _ _ => FF)
        (with_reducible rename News _ _ _ _ => NN)
        refine' kst_end (c.1 ++ Txt.item x k, ?tkn56) FF NN (fun p hp => List.mem_append_left _ hp) (fun p hp => List.mem_append_right _ hp) rfl trivial ?ksn56 ?krn56 ?kpn56
        case ksn56 => intro p hp; cases List.mem_singleton.mp hp; rfl
        case krn56 =>
          intro z h1 h2 h3
          simp only [List.forall_mem_cons, List.not_mem_nil, false_implies, implies_true, and_true, ne_eq] at h2
          simp [h1, h2, kstB]
        case kpn56 =>
          show (c.1 ++ Txt.item x k : Str).length ≤ 3 * (pre ++ [_]).length ∧ (c.1 ++ Txt.item x k : Str).cps.toList ++ spD (lpA x.cps.toList (pre ++ [_]).length) (x.cps.toList.drop (pre ++ [_]).length) = _
          rw [List.length_append, List.length_singleton]
          rw [hl0]
          refine sp_next hp0 hp ?_ (pc1_len _ _ _)
          unfold pc1
          (first | rw [(by assumption : ee = true)] | rw [(by assumption : ee = false)])
          rw [hE, hL]
          (try first | rw [(by assumption : (Builtin.Str.occurrences (Str.ofString "\r\x0b\x0c\x1c\x1d\x1e\u0085") (Txt.item x k) 0 (Str.ofString "\r\x0b\x0c\x1c\x1d\x1e\u0085").length 1).isEmpty = true)] | rw [(by assumption : (Builtin.Str.occurrences (Str.ofString "\r\x0b\x0c\x1c\x1d\x1e\u0085") (Txt.item x k) 0 (Str.ofString "\r\x0b\x0c\x1c\x1d\x1e\u0085").length 1).isEmpty = false)])
          (try first | rw [(by assumption : (Txt.item x k == Str.ofString "\n") = true)] | rw [(by assumption : (Txt.item x k == Str.ofString "\n") = false)])
          (try first | rw [(by assumption : lo = true)] | rw [(by assumption : lo = false)] | (have hz : lpA x.cps.toList pre.length = false := by (rw [show pre.length = 0 by omega]; rfl)); rw [hz])
          simp only [Bool.or_true, Bool.true_or, Bool.or_false, Bool.false_or, Bool.not_true, Bool.not_false, Bool.and_true, Bool.and_false, Bool.true_and, Bool.false_and, if_true, if_false, Bool.false_eq_true, reduceIte]
          first | exact s3D | exact sLL | exact hexpair hn | (rw [hi0])
      · skip
        refine Stop.mk ?_
        obtain ⟨d, hd1, hd2⟩ := item_prev (x := x) (i := pre.length) hk' (by omega) (by omega)
        rw [hd1]
        k_dflt (refine' Ctr.use (ctr_loose w d _) ?Bn57 ?Fn57 ?Xn57 ?Nn57 ?Tn57 ?hkn57 ?hdn57 ?hun57 ?_; (case Bn57 => k_asm); (case Fn57 => k_asm); (case Xn57 => k_asm); (case Nn57 => k_asm); (case Tn57 => k_asm); (case hkn57 => first | exact rfl | assumption); (case hdn57 => ktr_room); (case hun57 => ktr_units))
        intro t9 h9 tk9 F9 N9
        (try dsimp only)
        (try k_fold)
        rw [hd2] at hp
        generalize hlo : looseB d = lo at hp ⊢
        k_steps
        · skip
          refine Stop.mk ?_
          (with_reducible rename Fr _ _ _ _ => FF)
          (with_reducible rename News _ _ _ _ => NN)
          refine' kst_end (c.1 ++ Str.ofString "=\n\n", ?tkn58) FF NN (fun p hp => List.mem_append_left _ hp) (fun p hp => List.mem_append_right _ hp) rfl trivial ?ksn58 ?krn58 ?kpn58
          case ksn58 => intro p hp; cases List.mem_singleton.mp hp; rfl
          case krn58 =>
            intro z h1 h2 h3
            simp only [List.forall_mem_cons, List.not_mem_nil, false_implies, implies_true, and_true, ne_eq] at h2
            simp [h1, h2, kstB]
          case kpn58 =>
            show (c.1 ++ Str.ofString "=\n\n" : Str).length ≤ 3 * (pre ++ [_]).length ∧ (c.1 ++ Str.ofString "=\n\n" : Str).cps.toList ++ spD (lpA x.cps.toList (pre ++ [_]).length) (x.cps.toList.drop (pre ++ [_]).length) = _
            rw [List.length_append, List.length_singleton]
            rw [hl0]
            refine sp_next hp0 hp ?_ (pc1_len _ _ _)
            unfold pc1
            (first | rw [(by assumption : ee = true)] | rw [(by assumption : ee = false)])
            rw [hE, hL]
            (try first | rw [(by assumption : (Builtin.Str.occurrences (Str.ofString "\r\x0b\x0c\x1c\x1d\x1e\u0085") (Txt.item x k) 0 (Str.ofString "\r\x0b\x0c\x1c\x1d\x1e\u0085").length 1).isEmpty = true)] | rw [(by assumption : (Builtin.Str.occurrences (Str.ofString "\r\x0b\x0c\x1c\x1d\x1e\u0085") (Txt.item x k) 0 (Str.ofString "\r\x0b\x0c\x1c\x1d\x1e\u0085").length 1).isEmpty = false)])
            (try first | rw [(by assumption : (Txt.item x k == Str.ofString "\n") = true)] | rw [(by assumption : (Txt.item x k == Str.ofString "\n") = false)])
            (try first | rw [(by assumption : lo = true)] | rw [(by assumption : lo = false)] | (have hz : lpA x.cps.toList pre.length = false := by (rw [show pre.length = 0 by omega]; rfl)); rw [hz])
            simp only [Bool.or_true, Bool.true_or, Bool.or_false, Bool.false_or, Bool.not_true, Bool.not_false, Bool.and_true, Bool.and_false, Bool.true_and, Bool.false_and, if_true, if_false, Bool.false_eq_true, reduceIte]
            first | exact s3D | exact sLL | exact hexpair hn | (rw [hi0])
        · skip
          refine Stop.mk ?_
          (with_reducible rename Fr _ _ _ _ => FF)
          (with_reducible rename News _ _ _ _ => NN)
          refine' kst_end (c.1 ++ Txt.item x k, ?tkn59) FF NN (fun p hp => List.mem_append_left _ hp) (fun p hp => List.mem_append_right _ hp) rfl trivial ?ksn59 ?krn59 ?kpn59
          case ksn59 => intro p hp; cases List.mem_singleton.mp hp; rfl
          case krn59 =>
            intro z h1 h2 h3
            simp only [List.forall_mem_cons, List.not_mem_nil, false_implies, implies_true, and_true, ne_eq] at h2
            simp [h1, h2, kstB]
          case kpn59 =>
            show (c.1 ++ Txt.item x k : Str).length ≤ 3 * (pre ++ [_]).length ∧ (c.1 ++ Txt.item x k : Str).cps.toList ++ spD (lpA x.cps.toList (pre ++ [_]).length) (x.cps.toList.drop (pre ++ [_]).length) = _
            rw [List.length_append, List.length_singleton]
            rw [hl0]
            refine sp_next hp0 hp ?_ (pc1_len _ _ _)
            unfold pc1
            (first | rw [(by assumption : ee = true)] | rw [(by assumption : ee = false)])
            rw [hE, hL]
            (try first | rw [(by assumption : (Builtin.Str.occurrences (Str.ofString "\r\x0b\x0c\x1c\x1d\x1e\u0085") (Txt.item x k) 0 (Str.ofString "\r\x0b\x0c\x1c\x1d\x1e\u0085").length 1).isEmpty = true)] | rw [(by assumption : (Builtin.Str.occurrences (Str.ofString "\r\x0b\x0c\x1c\x1d\x1e\u0085") (Txt.item x k) 0 (Str.ofString "\r\x0b\x0c\x1c\x1d\x1e\u0085").length 1).isEmpty = false)])
            (try first | rw [(by assumption : (Txt.item x k == Str.ofString "\n") = true)] | rw [(by assumption : (Txt.item x k == Str.ofString "\n") = false)])
            (try first | rw [(by assumption : lo = true)] | rw [(by assumption : lo = false)] | (have hz : lpA x.cps.toList pre.length = false := by (rw [show pre.length = 0 by omega]; rfl)); rw [hz])
            simp only [Bool.or_true, Bool.true_or, Bool.or_false, Bool.false_or, Bool.not_true, Bool.not_false, Bool.and_true, Bool.and_false, Bool.true_and, Bool.false_and, if_true, if_false, Bool.false_eq_true, reduceIte]
            first | exact s3D | exact sLL | exact hexpair hn | (rw [hi0])
      · skip
        refine Stop.mk ?_
        (with_reducible rename Fr _ _ _ _ => FF)
        (with_reducible rename News _ _ _ _ => NN)
        refine' kst_end (c.1 ++ Txt.item x k, ?tkn60) FF NN (fun p hp => List.mem_append_left _ hp) (fun p hp => List.mem_append_right _ hp) rfl trivial ?ksn60 ?krn60 ?kpn60
        case ksn60 => intro p hp; cases List.mem_singleton.mp hp; rfl
        case krn60 =>
          intro z h1 h2 h3
          simp only [List.forall_mem_cons, List.not_mem_nil, false_implies, implies_true, and_true, ne_eq] at h2
          simp [h1, h2, kstB]
        case kpn60 =>
          show (c.1 ++ Txt.item x k : Str).length ≤ 3 * (pre ++ [_]).length ∧ (c.1 ++ Txt.item x k : Str).cps.toList ++ spD (lpA x.cps.toList (pre ++ [_]).length) (x.cps.toList.drop (pre ++ [_]).length) = _
          rw [List.length_append, List.length_singleton]
          rw [hl0]
          refine sp_next hp0 hp ?_ (pc1_len _ _ _)
          unfold pc1
          (first | rw [(by assumption : ee = true)] | rw [(by assumption : ee = false)])
          rw [hE, hL]
          (try first | rw [(by assumption : (Builtin.Str.occurrences (Str.ofString "\r\x0b\x0c\x1c\x1d\x1e\u0085") (Txt.item x k) 0 (Str.ofString "\r\x0b\x0c\x1c\x1d\x1e\u0085").length 1).isEmpty = true)] | rw [(by assumption : (Builtin.Str.occurrences (Str.ofString "\r\x0b\x0c\x1c\x1d\x1e\u0085") (Txt.item x k) 0 (Str.ofString "\r\x0b\x0c\x1c\x1d\x1e\u0085").length 1).isEmpty = false)])
          (try first | rw [(by assumption : (Txt.item x k == Str.ofString "\n") = true)] | rw [(by assumption : (Txt.item x k == Str.ofString "\n") = false)])
          (try first | rw [(by assumption : lo = true)] | rw [(by assumption : lo = false)] | (have hz : lpA x.cps.toList pre.length = false := by (rw [show pre.length = 0 by omega]; rfl)); rw [hz])
          simp only [Bool.or_true, Bool.true_or, Bool.or_false, Bool.false_or, Bool.not_true, Bool.not_false, Bool.and_true, Bool.and_false, Bool.true_and, Bool.false_and, if_true, if_false, Bool.false_eq_true, reduceIte]
          first | exact s3D | exact sLL | exact hexpair hn | (rw [hi0])
      · skip
        refine Stop.mk ?_
        (with_reducible rename Fr _ _ _ _ => FF)
        (with_reducible rename News _ _ _ _ => NN)
        refine' kst_end (c.1 ++ Txt.item x k, ?tkn61) FF NN (fun p hp => List.mem_append_left _ hp) (fun p hp => List.mem_append_right _ hp) rfl trivial ?ksn61 ?krn61 ?kpn61
        case ksn61 => intro p hp; cases List.mem_singleton.mp hp; rfl
        case krn61 =>
          intro z h1 h2 h3
          simp only [List.forall_mem_cons, List.not_mem_nil, false_implies, implies_true, and_true, ne_eq] at h2
          simp [h1, h2, kstB]
        case kpn61 =>
          show (c.1 ++ Txt.item x k : Str).length ≤ 3 * (pre ++ [_]).length ∧ (c.1 ++ Txt.item x k : Str).cps.toList ++ spD (lpA x.cps.toList (pre ++ [_]).length) (x.cps.toList.drop (pre ++ [_]).length) = _
          rw [List.length_append, List.length_singleton]
          rw [hl0]
          refine sp_next hp0 hp ?_ (pc1_len _ _ _)
          unfold pc1
          (first | rw [(by assumption : ee = true)] | rw [(by assumption : ee = false)])
          rw [hE, hL]
          (try first | rw [(by assumption : (Builtin.Str.occurrences (Str.ofString "\r\x0b\x0c\x1c\x1d\x1e\u0085") (Txt.item x k) 0 (Str.ofString "\r\x0b\x0c\x1c\x1d\x1e\u0085").length 1).isEmpty = true)] | rw [(by assumption : (Builtin.Str.occurrences (Str.ofString "\r\x0b\x0c\x1c\x1d\x1e\u0085") (Txt.item x k) 0 (Str.ofString "\r\x0b\x0c\x1c\x1d\x1e\u0085").length 1).isEmpty = false)])
          (try first | rw [(by assumption : (Txt.item x k == Str.ofString "\n") = true)] | rw [(by assumption : (Txt.item x k == Str.ofString "\n") = false)])
          (try first | rw [(by assumption : lo = true)] | rw [(by assumption : lo = false)] | (have hz : lpA x.cps.toList pre.length = false := by (rw [show pre.length = 0 by omega]; rfl)); rw [hz])
          simp only [Bool.or_true, Bool.true_or, Bool.or_false, Bool.false_or, Bool.not_true, Bool.not_false, Bool.and_true, Bool.and_false, Bool.true_and, Bool.false_and, if_true, if_false, Bool.false_eq_true, reduceIte]
          first | exact s3D | exact sLL | exact hexpair hn | (rw [hi0])
      · skip
        have hno : endx c0 = true := hE.trans (congrArg (fun b => !b) (by assumption))
        have hn := endx_lt hno
        rw [getD_one hi0]
        refine KXi.item (n := 16) (by decide +kernel) (by rw [fdiv16]; omega) (by rw [fdiv16]; omega) (by decide) (fun _ => ?_)
        k_steps
        refine Stop.mk ?_
        (with_reducible rename Fr _ _ _ _ => FF)
        (with_reducible rename News _ _ _ _ => NN)
        refine' kst_end (c.1 ++ (Str.ofString "=" ++ Txt.item (Str.ofString "0123456789ABCDEF") ((c0 : Int).fdiv 16) ++ Txt.item (Str.ofString "0123456789ABCDEF") (((((Txt.item x k).cps.getD 0 0 : Nat) : Int)).fmod 16)), ?tkn50) FF NN (fun p hp => List.mem_append_left _ hp) (fun p hp => List.mem_append_right _ hp) rfl trivial ?ksn50 ?krn50 ?kpn50
        case ksn50 => intro p hp; cases List.mem_singleton.mp hp; rfl
        case krn50 =>
          intro z h1 h2 h3
          simp only [List.forall_mem_cons, List.not_mem_nil, false_implies, implies_true, and_true, ne_eq] at h2
          simp [h1, h2, kstB]
        case kpn50 =>
          show (c.1 ++ (Str.ofString "=" ++ Txt.item (Str.ofString "0123456789ABCDEF") ((c0 : Int).fdiv 16) ++ Txt.item (Str.ofString "0123456789ABCDEF") (((((Txt.item x k).cps.getD 0 0 : Nat) : Int)).fmod 16)) : Str).length ≤ 3 * (pre ++ [_]).length ∧ (c.1 ++ (Str.ofString "=" ++ Txt.item (Str.ofString "0123456789ABCDEF") ((c0 : Int).fdiv 16) ++ Txt.item (Str.ofString "0123456789ABCDEF") (((((Txt.item x k).cps.getD 0 0 : Nat) : Int)).fmod 16)) : Str).cps.toList ++ spD (lpA x.cps.toList (pre ++ [_]).length) (x.cps.toList.drop (pre ++ [_]).length) = _
          rw [List.length_append, List.length_singleton]
          rw [hl0]
          rw [getD_one hi0]
          refine sp_next hp0 hp ?_ (pc1_len _ _ _)
          unfold pc1
          (first | rw [(by assumption : ee = true)] | rw [(by assumption : ee = false)])
          rw [hE, hL]
          (try first | rw [(by assumption : (Builtin.Str.occurrences (Str.ofString "\r\x0b\x0c\x1c\x1d\x1e\u0085") (Txt.item x k) 0 (Str.ofString "\r\x0b\x0c\x1c\x1d\x1e\u0085").length 1).isEmpty = true)] | rw [(by assumption : (Builtin.Str.occurrences (Str.ofString "\r\x0b\x0c\x1c\x1d\x1e\u0085") (Txt.item x k) 0 (Str.ofString "\r\x0b\x0c\x1c\x1d\x1e\u0085").length 1).isEmpty = false)])
          (try first | rw [(by assumption : (Txt.item x k == Str.ofString "\n") = true)] | rw [(by assumption : (Txt.item x k == Str.ofString "\n") = false)])
          (try first | rw [(by assumption : lo = true)] | rw [(by assumption : lo = false)] | (have hz : lpA x.cps.toList pre.length = false := by (rw [show pre.length = 0 by omega]; rfl)); rw [hz])
          simp only [Bool.or_true, Bool.true_or, Bool.or_false, Bool.false_or, Bool.not_true, Bool.not_false, Bool.and_true, Bool.and_false, Bool.true_and, Bool.false_and, if_true, if_false, Bool.false_eq_true, reduceIte]
          first | exact s3D | exact sLL | exact hexpair hn | (rw [hi0])
    case k4 =>
      intro c u h tk _ hp F3 N3
      obtain ⟨hp0, hp⟩ := hp
      rw [rangeKs_length] at hp0
      have hcl : c.1.length ≤ 1200 := by omega
      clear FF NN
      rw [rangeKs_length, List.drop_of_length_le (by rw [← str_len]; exact Nat.le_refl _), spD] at hp
      k_steps
      · skip
        refine Stop.mk ?_
        obtain ⟨d, hd1, hd2⟩ := item_end (x := x) (by omega)
        rw [hd1]
        k_dflt (refine' Ctr.use (ctr_loose w d _) ?Bn62 ?Fn62 ?Xn62 ?Nn62 ?Tn62 ?hkn62 ?hdn62 ?hun62 ?_; (case Bn62 => k_asm); (case Fn62 => k_asm); (case Xn62 => k_asm); (case Nn62 => k_asm); (case Tn62 => k_asm); (case hkn62 => first | exact rfl | assumption); (case hdn62 => ktr_room); (case hun62 => ktr_units))
        intro t9 h9 tk9 F9 N9
        (try dsimp only)
        (try k_fold)
        rw [hd2] at hp
        generalize hlo : looseB d = lo at hp ⊢
        k_steps
        · skip
          rw [(by assumption : lo = true)] at hp
          simp only [Bool.or_true, Bool.true_or, Bool.or_false, Bool.false_or, Bool.not_true, Bool.not_false, Bool.and_true, Bool.and_false, Bool.true_and, Bool.false_and, if_true, if_false, Bool.false_eq_true, reduceIte] at hp
          exact q_str (str_eq (by rw [str_app, s61]; exact hp)) (hret _ _ _ (by k_asm) (by k_asm))
        · skip
          rw [(by assumption : lo = false)] at hp
          simp only [Bool.or_true, Bool.true_or, Bool.or_false, Bool.false_or, Bool.not_true, Bool.not_false, Bool.and_true, Bool.and_false, Bool.true_and, Bool.false_and, if_true, if_false, Bool.false_eq_true, reduceIte] at hp
          exact q_str (str_eq (by rw [List.append_nil] at hp; exact hp)) (hret _ _ _ (by k_asm) (by k_asm))
      · skip
        have hz : lpA x.cps.toList x.length = false := by rw [str_none (by assumption)]; rfl
        rw [hz] at hp
        simp only [Bool.or_true, Bool.true_or, Bool.or_false, Bool.false_or, Bool.not_true, Bool.not_false, Bool.and_true, Bool.and_false, Bool.true_and, Bool.false_and, if_true, if_false, Bool.false_eq_true, reduceIte] at hp
        exact q_str (str_eq (by rw [List.append_nil] at hp; exact hp)) (hret _ _ _ (by k_asm) (by k_asm))
end Mine
namespace Mine
theorem fillSh : PySem.Challenge.rw_dw5003_03.name = PySem.Challenge.rw_dw5003_03.name ∧ hd03.heap_39 = hd03.heap_39 := by
  k_fill
  exact ⟨rfl, rfl⟩
local macro_rules | `(tactic| walk_at "pad 0") => `(tactic| skip)
local macro_rules | `(tactic| walk_at "pad 1") => `(tactic| skip)
local macro_rules | `(tactic| walk_at "pyIter ref") => `(tactic| refine Stop.out ?_)
local macro_rules | `(tactic| walk_at "InvEndN") => `(tactic| refine Stop.out ?_)
local macro_rules | `(tactic| walk_at "call ref") => `(tactic| refine Stop.out ?_)
local macro_rules | `(tactic| walk_at "subscriptTail Constant BinOp str int") => `(tactic| refine Stop.out ?_)
local macro_rules | `(tactic| walk_at "ite") => `(tactic| first | with_reducible refine ite_tt ?_ | with_reducible refine ite_ff ?_ | (with_reducible refine split_ine ?_ ?_ <;> intro _) | (with_reducible refine split_ieq ?_ ?_ <;> intro _) | with_reducible refine split_not ?_ | (with_reducible refine split_dec ?_ ?_ <;> intro _) | (with_reducible refine split_bool ?_ ?_ <;> intro _))
local macro_rules | `(tactic| walk_at "binaryOp FloorDiv int int") => `(tactic| (refine floordiv_int (by decide) ?_ (Or.inl (PyProof.noPylong_of_log2 (by decide +kernel)))))
local macro_rules | `(tactic| walk_at "binaryOp Mod int int") => `(tactic| (refine mod_int' (by decide) ?_))
local macro_rules | `(tactic| walk_at "execs cons") => `(tactic| ((with_reducible refine wpAny_execs_cons ?_); try dsimp only))
local macro_rules | `(tactic| walk_at "execs nil") => `(tactic| refine wpAny_execs_nil ?_)
local macro_rules | `(tactic| walk_at "exec For Name Call cons nil") => `(tactic| ((with_reducible rename Fr _ _ _ _ => lF'); (with_unfolding_all refine' For_invVF lF' ?k1 ?k2 ?_; (case k1 => exact rfl); (case k2 => exact rfl); k_whole)))
theorem ctr_spellH (w : World) (x : Str) (t : Tok) (hx : x.length ≤ 400) : Ctr w 95 4 30 [.str x t, .bool true] (fun t => .str (spSH x) t) := by
  intro p loose mean mg mb news dp un gd cn cs a ccd cl outer A₀ base h₀ L m s Q E B F X N T hk hd hu hret
  refine wpAny_call ?_
  k_dflt (refine' code_def ?k1 ?k2 ?k3 ?k4 ?k5 ?kA ?kF ?kK ?k6 ?k7 ?k8 ?k9 ?kB ?_ ?c2 ?c3 ?c4 ?c5; (case kA => exact rfl); (case kF => exact rfl); (case kK => assumption); (case k1 => k_asm); (case k2 => k_asm); (case k3 => k_asm); (case k4 => k_asm); (case k5 => k_asm); (case k6 => k_is); (case k7 => k_is); (case k8 => ktr_room); (case k9 => first | exact BindsTo.of_eq rfl | exact binds_K (by k_in) rfl (by k_is) rfl rfl rfl); (case c5 => decide); (case kB => exact locs rfl); (case c2 => exact rfl); (case c3 => exact rfl); (case c4 => exact rfl); k_whole; intro g' L' h' FG' F' N' B' X' T'; (try dsimp only); (try k_lift B'); (try k_fold))
  k_steps
  · refine Stop.mk ?_
    (with_reducible rename IsRange _ _ _ _ _ _ _ _ => RR)
    (with_reducible rename Fr _ _ _ _ => FF)
    (with_reducible rename News _ _ _ _ => NN)
    refine' kst_range (σ := Str × Tok) (n := x.length) (fun _ => news) (fun c => [(Str.ofString "spelling", Value.str c.1 c.2)]) (fun _ => True) [] (fun pre c => c.1.length ≤ 3 * pre.length ∧ c.1.cps.toList ++ spH (x.cps.toList.drop pre.length) = (spSH x).cps.toList) (Str.ofString "", ?tk0) (by rfl) RR ?ksm ?knn FF NN trivial ?k1 ?k2 ?k3 ?k4
    case ksm => exact small_one (by omega) (by omega) (by omega) (by omega)
    case knn => rw [rangeSize_one]; first | (rw [if_pos (by omega)]; omega) | (split <;> omega)
    case k1 => intro p hp; cases List.mem_singleton.mp hp; rfl
    case k2 => exact ⟨Nat.le_refl _, rfl⟩
    case k3 =>
      intro c pre k ty u h tk own hys hlt hoff _ hp F3 N3
      obtain ⟨hp0, hp⟩ := hp
      have hcl : c.1.length ≤ 1200 := by omega
      clear FF NN RR
      (try dsimp only)
      (try k_fold)
      k_steps
      have hk' : k = (pre.length : Int) := by omega
      obtain ⟨c0, hd0, hi0, _, hl0⟩ := item_at (x := x) (i := pre.length) (by omega)
      rw [← hk'] at hi0
      have hkn : k.toNat = pre.length := by omega
      rw [hd0, spH, ← hd0] at hp
      have hU : decide (c0 = 95) = (Txt.item x k == Str.ofString "_") := by rw [hi0, sg95]
      refine Stop.mk ?_
      k_dflt (refine' Ctr.use (ctr_escape w x k _ _ hx (by omega) (by omega)) ?Bn63 ?Fn63 ?Xn63 ?Nn63 ?Tn63 ?hkn63 ?hdn63 ?hun63 ?_; (case Bn63 => k_asm); (case Fn63 => k_asm); (case Xn63 => k_asm); (case Nn63 => k_asm); (case Tn63 => k_asm); (case hkn63 => first | exact rfl | assumption); (case hdn63 => ktr_room); (case hun63 => ktr_units))
      intro t9 h9 tk9 F9 N9
      (try dsimp only)
      (try k_fold)
      rw [hkn]
      generalize he : esc (x.cps.toList.drop pre.length) = ee at hp ⊢
      k_steps
      · skip
        refine Stop.mk ?_
        (with_reducible rename Fr _ _ _ _ => FF)
        (with_reducible rename News _ _ _ _ => NN)
        refine' kst_end (c.1 ++ Str.ofString "=3D", ?tkn64) FF NN (fun p hp => List.mem_append_left _ hp) (fun p hp => List.mem_append_right _ hp) rfl trivial ?ksn64 ?krn64 ?kpn64
        case ksn64 => intro p hp; cases List.mem_singleton.mp hp; rfl
        case krn64 =>
          intro z h1 h2 h3
          simp only [List.forall_mem_cons, List.not_mem_nil, false_implies, implies_true, and_true, ne_eq] at h2
          simp [h1, h2, kstB]
        case kpn64 =>
          show (c.1 ++ Str.ofString "=3D" : Str).length ≤ 3 * (pre ++ [_]).length ∧ (c.1 ++ Str.ofString "=3D" : Str).cps.toList ++ spH (x.cps.toList.drop (pre ++ [_]).length) = _
          rw [List.length_append, List.length_singleton]
          refine sp_next hp0 hp ?_ (pcH_len _ _)
          unfold pcH
          (first | rw [(by assumption : ee = true)] | rw [(by assumption : ee = false)])
          rw [hU]
          (try first | rw [(by assumption : (Txt.item x k == Str.ofString "_") = true)] | rw [(by assumption : (Txt.item x k == Str.ofString "_") = false)])
          simp only [Bool.or_true, Bool.true_or, Bool.or_false, Bool.false_or, Bool.not_true, Bool.not_false, Bool.and_true, Bool.and_false, Bool.true_and, Bool.false_and, if_true, if_false, Bool.false_eq_true, reduceIte]
          first | exact s3D | exact s5F | (rw [hi0])
      · skip
        refine Stop.mk ?_
        (with_reducible rename Fr _ _ _ _ => FF)
        (with_reducible rename News _ _ _ _ => NN)
        refine' kst_end (c.1 ++ Str.ofString "=5F", ?tkn65) FF NN (fun p hp => List.mem_append_left _ hp) (fun p hp => List.mem_append_right _ hp) rfl trivial ?ksn65 ?krn65 ?kpn65
        case ksn65 => intro p hp; cases List.mem_singleton.mp hp; rfl
        case krn65 =>
          intro z h1 h2 h3
          simp only [List.forall_mem_cons, List.not_mem_nil, false_implies, implies_true, and_true, ne_eq] at h2
          simp [h1, h2, kstB]
        case kpn65 =>
          show (c.1 ++ Str.ofString "=5F" : Str).length ≤ 3 * (pre ++ [_]).length ∧ (c.1 ++ Str.ofString "=5F" : Str).cps.toList ++ spH (x.cps.toList.drop (pre ++ [_]).length) = _
          rw [List.length_append, List.length_singleton]
          refine sp_next hp0 hp ?_ (pcH_len _ _)
          unfold pcH
          (first | rw [(by assumption : ee = true)] | rw [(by assumption : ee = false)])
          rw [hU]
          (try first | rw [(by assumption : (Txt.item x k == Str.ofString "_") = true)] | rw [(by assumption : (Txt.item x k == Str.ofString "_") = false)])
          simp only [Bool.or_true, Bool.true_or, Bool.or_false, Bool.false_or, Bool.not_true, Bool.not_false, Bool.and_true, Bool.and_false, Bool.true_and, Bool.false_and, if_true, if_false, Bool.false_eq_true, reduceIte]
          first | exact s3D | exact s5F | (rw [hi0])
      · skip
        refine Stop.mk ?_
        (with_reducible rename Fr _ _ _ _ => FF)
        (with_reducible rename News _ _ _ _ => NN)
        refine' kst_end (c.1 ++ Txt.item x k, ?tkn66) FF NN (fun p hp => List.mem_append_left _ hp) (fun p hp => List.mem_append_right _ hp) rfl trivial ?ksn66 ?krn66 ?kpn66
        case ksn66 => intro p hp; cases List.mem_singleton.mp hp; rfl
        case krn66 =>
          intro z h1 h2 h3
          simp only [List.forall_mem_cons, List.not_mem_nil, false_implies, implies_true, and_true, ne_eq] at h2
          simp [h1, h2, kstB]
        case kpn66 =>
          show (c.1 ++ Txt.item x k : Str).length ≤ 3 * (pre ++ [_]).length ∧ (c.1 ++ Txt.item x k : Str).cps.toList ++ spH (x.cps.toList.drop (pre ++ [_]).length) = _
          rw [List.length_append, List.length_singleton]
          refine sp_next hp0 hp ?_ (pcH_len _ _)
          unfold pcH
          (first | rw [(by assumption : ee = true)] | rw [(by assumption : ee = false)])
          rw [hU]
          (try first | rw [(by assumption : (Txt.item x k == Str.ofString "_") = true)] | rw [(by assumption : (Txt.item x k == Str.ofString "_") = false)])
          simp only [Bool.or_true, Bool.true_or, Bool.or_false, Bool.false_or, Bool.not_true, Bool.not_false, Bool.and_true, Bool.and_false, Bool.true_and, Bool.false_and, if_true, if_false, Bool.false_eq_true, reduceIte]
          first | exact s3D | exact s5F | (rw [hi0])
      · skip
        refine Stop.mk ?_
        (with_reducible rename Fr _ _ _ _ => FF)
        (with_reducible rename News _ _ _ _ => NN)
        refine' kst_end (c.1 ++ Txt.item x k, ?tkn67) FF NN (fun p hp => List.mem_append_left _ hp) (fun p hp => List.mem_append_right _ hp) rfl trivial ?ksn67 ?krn67 ?kpn67
        case ksn67 => intro p hp; cases List.mem_singleton.mp hp; rfl
        case krn67 =>
          intro z h1 h2 h3
          simp only [List.forall_mem_cons, List.not_mem_nil, false_implies, implies_true, and_true, ne_eq] at h2
          simp [h1, h2, kstB]
        case kpn67 =>
          show (c.1 ++ Txt.item x k : Str).length ≤ 3 * (pre ++ [_]).length ∧ (c.1 ++ Txt.item x k : Str).cps.toList ++ spH (x.cps.toList.drop (pre ++ [_]).length) = _
          rw [List.length_append, List.length_singleton]
          refine sp_next hp0 hp ?_ (pcH_len _ _)
          unfold pcH
          (first | rw [(by assumption : ee = true)] | rw [(by assumption : ee = false)])
          rw [hU]
          (try first | rw [(by assumption : (Txt.item x k == Str.ofString "_") = true)] | rw [(by assumption : (Txt.item x k == Str.ofString "_") = false)])
          simp only [Bool.or_true, Bool.true_or, Bool.or_false, Bool.false_or, Bool.not_true, Bool.not_false, Bool.and_true, Bool.and_false, Bool.true_and, Bool.false_and, if_true, if_false, Bool.false_eq_true, reduceIte]
          first | exact s3D | exact s5F | (rw [hi0])
      · skip
        refine Stop.mk ?_
        (with_reducible rename Fr _ _ _ _ => FF)
        (with_reducible rename News _ _ _ _ => NN)
        refine' kst_end (c.1 ++ Str.ofString "=5F", ?tkn68) FF NN (fun p hp => List.mem_append_left _ hp) (fun p hp => List.mem_append_right _ hp) rfl trivial ?ksn68 ?krn68 ?kpn68
        case ksn68 => intro p hp; cases List.mem_singleton.mp hp; rfl
        case krn68 =>
          intro z h1 h2 h3
          simp only [List.forall_mem_cons, List.not_mem_nil, false_implies, implies_true, and_true, ne_eq] at h2
          simp [h1, h2, kstB]
        case kpn68 =>
          show (c.1 ++ Str.ofString "=5F" : Str).length ≤ 3 * (pre ++ [_]).length ∧ (c.1 ++ Str.ofString "=5F" : Str).cps.toList ++ spH (x.cps.toList.drop (pre ++ [_]).length) = _
          rw [List.length_append, List.length_singleton]
          refine sp_next hp0 hp ?_ (pcH_len _ _)
          unfold pcH
          (first | rw [(by assumption : ee = true)] | rw [(by assumption : ee = false)])
          rw [hU]
          (try first | rw [(by assumption : (Txt.item x k == Str.ofString "_") = true)] | rw [(by assumption : (Txt.item x k == Str.ofString "_") = false)])
          simp only [Bool.or_true, Bool.true_or, Bool.or_false, Bool.false_or, Bool.not_true, Bool.not_false, Bool.and_true, Bool.and_false, Bool.true_and, Bool.false_and, if_true, if_false, Bool.false_eq_true, reduceIte]
          first | exact s3D | exact s5F | (rw [hi0])
      · skip
        refine Stop.mk ?_
        (with_reducible rename Fr _ _ _ _ => FF)
        (with_reducible rename News _ _ _ _ => NN)
        refine' kst_end (c.1 ++ Txt.item x k, ?tkn69) FF NN (fun p hp => List.mem_append_left _ hp) (fun p hp => List.mem_append_right _ hp) rfl trivial ?ksn69 ?krn69 ?kpn69
        case ksn69 => intro p hp; cases List.mem_singleton.mp hp; rfl
        case krn69 =>
          intro z h1 h2 h3
          simp only [List.forall_mem_cons, List.not_mem_nil, false_implies, implies_true, and_true, ne_eq] at h2
          simp [h1, h2, kstB]
        case kpn69 =>
          show (c.1 ++ Txt.item x k : Str).length ≤ 3 * (pre ++ [_]).length ∧ (c.1 ++ Txt.item x k : Str).cps.toList ++ spH (x.cps.toList.drop (pre ++ [_]).length) = _
          rw [List.length_append, List.length_singleton]
          refine sp_next hp0 hp ?_ (pcH_len _ _)
          unfold pcH
          (first | rw [(by assumption : ee = true)] | rw [(by assumption : ee = false)])
          rw [hU]
          (try first | rw [(by assumption : (Txt.item x k == Str.ofString "_") = true)] | rw [(by assumption : (Txt.item x k == Str.ofString "_") = false)])
          simp only [Bool.or_true, Bool.true_or, Bool.or_false, Bool.false_or, Bool.not_true, Bool.not_false, Bool.and_true, Bool.and_false, Bool.true_and, Bool.false_and, if_true, if_false, Bool.false_eq_true, reduceIte]
          first | exact s3D | exact s5F | (rw [hi0])
      · skip
        refine Stop.mk ?_
        (with_reducible rename Fr _ _ _ _ => FF)
        (with_reducible rename News _ _ _ _ => NN)
        refine' kst_end (c.1 ++ Txt.item x k, ?tkn70) FF NN (fun p hp => List.mem_append_left _ hp) (fun p hp => List.mem_append_right _ hp) rfl trivial ?ksn70 ?krn70 ?kpn70
        case ksn70 => intro p hp; cases List.mem_singleton.mp hp; rfl
        case krn70 =>
          intro z h1 h2 h3
          simp only [List.forall_mem_cons, List.not_mem_nil, false_implies, implies_true, and_true, ne_eq] at h2
          simp [h1, h2, kstB]
        case kpn70 =>
          show (c.1 ++ Txt.item x k : Str).length ≤ 3 * (pre ++ [_]).length ∧ (c.1 ++ Txt.item x k : Str).cps.toList ++ spH (x.cps.toList.drop (pre ++ [_]).length) = _
          rw [List.length_append, List.length_singleton]
          refine sp_next hp0 hp ?_ (pcH_len _ _)
          unfold pcH
          (first | rw [(by assumption : ee = true)] | rw [(by assumption : ee = false)])
          rw [hU]
          (try first | rw [(by assumption : (Txt.item x k == Str.ofString "_") = true)] | rw [(by assumption : (Txt.item x k == Str.ofString "_") = false)])
          simp only [Bool.or_true, Bool.true_or, Bool.or_false, Bool.false_or, Bool.not_true, Bool.not_false, Bool.and_true, Bool.and_false, Bool.true_and, Bool.false_and, if_true, if_false, Bool.false_eq_true, reduceIte]
          first | exact s3D | exact s5F | (rw [hi0])
    case k4 =>
      intro c u h tk _ hp F3 N3
      obtain ⟨hp0, hp⟩ := hp
      rw [rangeKs_length] at hp0
      have hcl : c.1.length ≤ 1200 := by omega
      clear FF NN
      rw [rangeKs_length, List.drop_of_length_le (by rw [← str_len]; exact Nat.le_refl _), spH, List.append_nil] at hp
      k_steps
      exact q_str (str_eq (hp)) (hret _ _ _ (by k_asm) (by k_asm))
end Mine
namespace Mine
local macro_rules | `(tactic| walk_at "pad 0") => `(tactic| skip)
local macro_rules | `(tactic| walk_at "pad 1") => `(tactic| skip)
local macro_rules | `(tactic| walk_at "pad 2") => `(tactic| skip)
local macro_rules | `(tactic| walk_at "pad 3") => `(tactic| skip)
local macro_rules | `(tactic| walk_at "pad 4") => `(tactic| skip)
local macro_rules | `(tactic| walk_at "pad 5") => `(tactic| skip)
local macro_rules | `(tactic| walk_at "pad 6") => `(tactic| skip)
local macro_rules | `(tactic| walk_at "pad 7") => `(tactic| skip)
local macro_rules | `(tactic| walk_at "pad 8") => `(tactic| skip)
local macro_rules | `(tactic| walk_at "call ref") => `(tactic| refine Stop.out ?_)
local macro_rules | `(tactic| walk_at "execs cons") => `(tactic| ((with_reducible refine wpAny_execs_cons ?_); try dsimp only))
local macro_rules | `(tactic| walk_at "execs nil") => `(tactic| refine wpAny_execs_nil ?_)
local macro_rules | `(tactic| walk_at "ite") => `(tactic| first | with_reducible refine ite_tt ?_ | with_reducible refine ite_ff ?_ | (with_reducible refine split_ine ?_ ?_ <;> intro _) | (with_reducible refine split_ieq ?_ ?_ <;> intro _) | with_reducible refine split_not ?_ | (with_reducible refine split_dec ?_ ?_ <;> intro _) | (with_reducible refine split_bool ?_ ?_ <;> intro _))
theorem law_walk : PySem.Challenge.rw_dw5003_03.Holds := hd03 (by
  k_go0
  all_goals try k_fold
  k_steps
  refine Stop.mk ?_
  k_dflt (refine' ctr_text _ _ _ _ _ ?hi ?hl _ _ _ _ _ _ _ _ _ _ _ _ _ _ _ _ _ _ _ _ _ _ _ ?hm ?B ?F ?X ?N ?T ?hk ?hd ?hu ?_; (case B => k_asm); (case F => k_asm); (case X => k_asm); (case N => k_asm); (case T => k_asm); (case hk => first | exact rfl | assumption); (case hd => ktr_room); (case hu => ktr_units); (case hm => first | exact List.mem_cons_self .. | exact List.mem_cons_of_mem _ (List.mem_cons_self ..)); (case hi => assumption); (case hl => omega))
  intro t9 h9 tk9 F9 N9
  (try dsimp only)
  (try k_fold)
  generalize httx : textS _ = tx
  have hltx : tx.length ≤ 189 := by rw [← httx]; exact textS_len (by omega)
  have hftx : noSep tx.cps.toList := by rw [← httx]; exact textS_free _
  clear httx
  k_steps
  · skip
    refine Stop.mk ?_
    k_dflt (refine' ctr_text _ _ _ _ _ ?hi ?hl _ _ _ _ _ _ _ _ _ _ _ _ _ _ _ _ _ _ _ _ _ _ _ ?hm ?B ?F ?X ?N ?T ?hk ?hd ?hu ?_; (case B => k_asm); (case F => k_asm); (case X => k_asm); (case N => k_asm); (case T => k_asm); (case hk => first | exact rfl | assumption); (case hd => ktr_room); (case hu => ktr_units); (case hm => first | exact List.mem_cons_self .. | exact List.mem_cons_of_mem _ (List.mem_cons_self ..)); (case hi => assumption); (case hl => omega))
    intro t9 h9 tk9 F9 N9
    (try dsimp only)
    (try k_fold)
    generalize htty : textS _ = ty
    have hlty : ty.length ≤ 189 := by rw [← htty]; exact textS_len (by omega)
    have hfty : noSep ty.cps.toList := by rw [← htty]; exact textS_free _
    clear htty
    k_steps
    refine Stop.mk ?_
    k_dflt (refine' Ctr.use (ctr_decode1 _ _ _ (by omega)) ?B ?F ?X ?N ?T ?hk ?hd ?hu ?_; (case B => k_asm); (case F => k_asm); (case X => k_asm); (case N => k_asm); (case T => k_asm); (case hk => first | exact rfl | assumption); (case hd => ktr_room); (case hu => ktr_units))
    generalize hrd : decS _ (Str.ofString "\n") = rd
    obtain ⟨hfrd, hlrd, hprd⟩ := read_facts tx hrd
    intro t9 h9 tk9 F9 N9
    (try dsimp only)
    (try k_fold)
    k_steps
    refine Stop.mk ?_
    k_dflt (refine' Ctr.use (ctr_header _ _ _ (by omega)) ?B ?F ?X ?N ?T ?hk ?hd ?hu ?_; (case B => k_asm); (case F => k_asm); (case X => k_asm); (case N => k_asm); (case T => k_asm); (case hk => first | exact rfl | assumption); (case hd => ktr_room); (case hu => ktr_units))
    generalize hhd : hdrS _ = hr
    obtain ⟨hlhr, hphr⟩ := heard_facts tx hhd
    intro t9 h9 tk9 F9 N9
    (try dsimp only)
    (try k_fold)
    k_steps
    refine Stop.mk ?_
    k_dflt (refine' Ctr.use (ctr_priceD _ rd _ (by omega)) ?B ?F ?X ?N ?T ?hk ?hd ?hu ?_; (case B => k_asm); (case F => k_asm); (case X => k_asm); (case N => k_asm); (case T => k_asm); (case hk => first | exact rfl | assumption); (case hd => ktr_room); (case hu => ktr_units))
    generalize hp1 : ((rd.length : Int) + (suD false rd.cps.toList : Nat)) = p1 at hprd ⊢
    intro t9 h9 tk9 F9 N9
    (try dsimp only)
    (try k_fold)
    k_steps
    refine Stop.mk ?_
    k_dflt (refine' Ctr.use (ctr_priceH _ hr _ (by omega)) ?B ?F ?X ?N ?T ?hk ?hd ?hu ?_; (case B => k_asm); (case F => k_asm); (case X => k_asm); (case N => k_asm); (case T => k_asm); (case hk => first | exact rfl | assumption); (case hd => ktr_room); (case hu => ktr_units))
    generalize hp2 : ((hr.length : Int) + (suH hr.cps.toList : Nat)) = p2 at hphr ⊢
    intro t9 h9 tk9 F9 N9
    (try dsimp only)
    (try k_fold)
    k_steps
    obtain ⟨hsp1, hzp1⟩ := spSD_facts rd hp1 (by omega)
    refine Stop.mk ?_
    k_dflt (refine' Ctr.use (ctr_spellD _ rd _ (by omega)) ?B ?F ?X ?N ?T ?hk ?hd ?hu ?_; (case B => k_asm); (case F => k_asm); (case X => k_asm); (case N => k_asm); (case T => k_asm); (case hk => first | exact rfl | assumption); (case hd => ktr_room); (case hu => ktr_units))
    intro t9 h9 tk9 F9 N9
    (try dsimp only)
    (try k_fold)
    k_steps
    refine Stop.mk ?_
    k_dflt (refine' Ctr.use (ctr_decode1 _ _ _ (by omega)) ?B ?F ?X ?N ?T ?hk ?hd ?hu ?_; (case B => k_asm); (case F => k_asm); (case X => k_asm); (case N => k_asm); (case T => k_asm); (case hk => first | exact rfl | assumption); (case hd => ktr_room); (case hu => ktr_units))
    rw [decS_sp hfrd]
    intro t9 h9 tk9 F9 N9
    (try dsimp only)
    (try k_fold)
    k_steps
    refine Stop.mk ?_
    k_dflt (refine' Ctr.use (ctr_priceD _ rd _ (by omega)) ?B ?F ?X ?N ?T ?hk ?hd ?hu ?_; (case B => k_asm); (case F => k_asm); (case X => k_asm); (case N => k_asm); (case T => k_asm); (case hk => first | exact rfl | assumption); (case hd => ktr_room); (case hu => ktr_units))
    rw [hp1]
    intro t9 h9 tk9 F9 N9
    (try dsimp only)
    (try k_fold)
    k_steps
    obtain ⟨p3, hp3⟩ : ∃ P : Int, (ty.length : Int) + (suD false ty.cps.toList : Nat) = P := ⟨_, rfl⟩
    obtain ⟨hsp3, hzp3⟩ := spSD_facts ty hp3 (by omega)
    refine Stop.mk ?_
    k_dflt (refine' Ctr.use (ctr_spellD _ ty _ (by omega)) ?B ?F ?X ?N ?T ?hk ?hd ?hu ?_; (case B => k_asm); (case F => k_asm); (case X => k_asm); (case N => k_asm); (case T => k_asm); (case hk => first | exact rfl | assumption); (case hd => ktr_room); (case hu => ktr_units))
    intro t9 h9 tk9 F9 N9
    (try dsimp only)
    (try k_fold)
    k_steps
    refine Stop.mk ?_
    k_dflt (refine' Ctr.use (ctr_decode1 _ _ _ (by omega)) ?B ?F ?X ?N ?T ?hk ?hd ?hu ?_; (case B => k_asm); (case F => k_asm); (case X => k_asm); (case N => k_asm); (case T => k_asm); (case hk => first | exact rfl | assumption); (case hd => ktr_room); (case hu => ktr_units))
    rw [decS_sp hfty]
    intro t9 h9 tk9 F9 N9
    (try dsimp only)
    (try k_fold)
    k_steps
    refine Stop.mk ?_
    k_dflt (refine' Ctr.use (ctr_priceD _ ty _ (by omega)) ?B ?F ?X ?N ?T ?hk ?hd ?hu ?_; (case B => k_asm); (case F => k_asm); (case X => k_asm); (case N => k_asm); (case T => k_asm); (case hk => first | exact rfl | assumption); (case hd => ktr_room); (case hu => ktr_units))
    rw [hp3]
    intro t9 h9 tk9 F9 N9
    (try dsimp only)
    (try k_fold)
    k_steps
    obtain ⟨hsp2, hzp2⟩ := spSH_facts hr hp2 (by omega)
    refine Stop.mk ?_
    k_dflt (refine' Ctr.use (ctr_spellH _ hr _ (by omega)) ?B ?F ?X ?N ?T ?hk ?hd ?hu ?_; (case B => k_asm); (case F => k_asm); (case X => k_asm); (case N => k_asm); (case T => k_asm); (case hk => first | exact rfl | assumption); (case hd => ktr_room); (case hu => ktr_units))
    intro t9 h9 tk9 F9 N9
    (try dsimp only)
    (try k_fold)
    k_steps
    refine Stop.mk ?_
    k_dflt (refine' Ctr.use (ctr_header _ _ _ (by omega)) ?B ?F ?X ?N ?T ?hk ?hd ?hu ?_; (case B => k_asm); (case F => k_asm); (case X => k_asm); (case N => k_asm); (case T => k_asm); (case hk => first | exact rfl | assumption); (case hd => ktr_room); (case hu => ktr_units))
    rw [hdrS_sp]
    intro t9 h9 tk9 F9 N9
    (try dsimp only)
    (try k_fold)
    k_steps
    refine Stop.mk ?_
    k_dflt (refine' Ctr.use (ctr_priceH _ hr _ (by omega)) ?B ?F ?X ?N ?T ?hk ?hd ?hu ?_; (case B => k_asm); (case F => k_asm); (case X => k_asm); (case N => k_asm); (case T => k_asm); (case hk => first | exact rfl | assumption); (case hd => ktr_room); (case hu => ktr_units))
    rw [hp2]
    intro t9 h9 tk9 F9 N9
    (try dsimp only)
    (try k_fold)
    k_steps
    obtain ⟨p4, hp4⟩ : ∃ P : Int, (ty.length : Int) + (suH ty.cps.toList : Nat) = P := ⟨_, rfl⟩
    obtain ⟨hsp4, hzp4⟩ := spSH_facts ty hp4 (by omega)
    refine Stop.mk ?_
    k_dflt (refine' Ctr.use (ctr_spellH _ ty _ (by omega)) ?B ?F ?X ?N ?T ?hk ?hd ?hu ?_; (case B => k_asm); (case F => k_asm); (case X => k_asm); (case N => k_asm); (case T => k_asm); (case hk => first | exact rfl | assumption); (case hd => ktr_room); (case hu => ktr_units))
    intro t9 h9 tk9 F9 N9
    (try dsimp only)
    (try k_fold)
    k_steps
    refine Stop.mk ?_
    k_dflt (refine' Ctr.use (ctr_header _ _ _ (by omega)) ?B ?F ?X ?N ?T ?hk ?hd ?hu ?_; (case B => k_asm); (case F => k_asm); (case X => k_asm); (case N => k_asm); (case T => k_asm); (case hk => first | exact rfl | assumption); (case hd => ktr_room); (case hu => ktr_units))
    rw [hdrS_sp]
    intro t9 h9 tk9 F9 N9
    (try dsimp only)
    (try k_fold)
    k_steps
    refine Stop.mk ?_
    k_dflt (refine' Ctr.use (ctr_priceH _ ty _ (by omega)) ?B ?F ?X ?N ?T ?hk ?hd ?hu ?_; (case B => k_asm); (case F => k_asm); (case X => k_asm); (case N => k_asm); (case T => k_asm); (case hk => first | exact rfl | assumption); (case hd => ktr_room); (case hu => ktr_units))
    rw [hp4]
    intro t9 h9 tk9 F9 N9
    (try dsimp only)
    (try k_fold)
    k_steps
  · skip
    refine Stop.mk ?_
    k_dflt (refine' ctr_text _ _ _ _ _ ?hi ?hl _ _ _ _ _ _ _ _ _ _ _ _ _ _ _ _ _ _ _ _ _ _ _ ?hm ?B ?F ?X ?N ?T ?hk ?hd ?hu ?_; (case B => k_asm); (case F => k_asm); (case X => k_asm); (case N => k_asm); (case T => k_asm); (case hk => first | exact rfl | assumption); (case hd => ktr_room); (case hu => ktr_units); (case hm => first | exact List.mem_cons_self .. | exact List.mem_cons_of_mem _ (List.mem_cons_self ..)); (case hi => assumption); (case hl => omega))
    intro t9 h9 tk9 F9 N9
    (try dsimp only)
    (try k_fold)
    generalize htty : textS _ = ty
    have hlty : ty.length ≤ 189 := by rw [← htty]; exact textS_len (by omega)
    have hfty : noSep ty.cps.toList := by rw [← htty]; exact textS_free _
    clear htty
    k_steps
    refine Stop.mk ?_
    k_dflt (refine' Ctr.use (ctr_decode1 _ _ _ (by omega)) ?B ?F ?X ?N ?T ?hk ?hd ?hu ?_; (case B => k_asm); (case F => k_asm); (case X => k_asm); (case N => k_asm); (case T => k_asm); (case hk => first | exact rfl | assumption); (case hd => ktr_room); (case hu => ktr_units))
    generalize hrd : decS _ (Str.ofString "\n") = rd
    obtain ⟨hfrd, hlrd, hprd⟩ := read_facts tx hrd
    intro t9 h9 tk9 F9 N9
    (try dsimp only)
    (try k_fold)
    k_steps
    refine Stop.mk ?_
    k_dflt (refine' Ctr.use (ctr_header _ _ _ (by omega)) ?B ?F ?X ?N ?T ?hk ?hd ?hu ?_; (case B => k_asm); (case F => k_asm); (case X => k_asm); (case N => k_asm); (case T => k_asm); (case hk => first | exact rfl | assumption); (case hd => ktr_room); (case hu => ktr_units))
    generalize hhd : hdrS _ = hr
    obtain ⟨hlhr, hphr⟩ := heard_facts tx hhd
    intro t9 h9 tk9 F9 N9
    (try dsimp only)
    (try k_fold)
    k_steps
    refine Stop.mk ?_
    k_dflt (refine' Ctr.use (ctr_priceD _ rd _ (by omega)) ?B ?F ?X ?N ?T ?hk ?hd ?hu ?_; (case B => k_asm); (case F => k_asm); (case X => k_asm); (case N => k_asm); (case T => k_asm); (case hk => first | exact rfl | assumption); (case hd => ktr_room); (case hu => ktr_units))
    generalize hp1 : ((rd.length : Int) + (suD false rd.cps.toList : Nat)) = p1 at hprd ⊢
    intro t9 h9 tk9 F9 N9
    (try dsimp only)
    (try k_fold)
    k_steps
    refine Stop.mk ?_
    k_dflt (refine' Ctr.use (ctr_priceH _ hr _ (by omega)) ?B ?F ?X ?N ?T ?hk ?hd ?hu ?_; (case B => k_asm); (case F => k_asm); (case X => k_asm); (case N => k_asm); (case T => k_asm); (case hk => first | exact rfl | assumption); (case hd => ktr_room); (case hu => ktr_units))
    generalize hp2 : ((hr.length : Int) + (suH hr.cps.toList : Nat)) = p2 at hphr ⊢
    intro t9 h9 tk9 F9 N9
    (try dsimp only)
    (try k_fold)
    k_steps
    obtain ⟨hsp1, hzp1⟩ := spSD_facts rd hp1 (by omega)
    refine Stop.mk ?_
    k_dflt (refine' Ctr.use (ctr_spellD _ rd _ (by omega)) ?B ?F ?X ?N ?T ?hk ?hd ?hu ?_; (case B => k_asm); (case F => k_asm); (case X => k_asm); (case N => k_asm); (case T => k_asm); (case hk => first | exact rfl | assumption); (case hd => ktr_room); (case hu => ktr_units))
    intro t9 h9 tk9 F9 N9
    (try dsimp only)
    (try k_fold)
    k_steps
    refine Stop.mk ?_
    k_dflt (refine' Ctr.use (ctr_decode1 _ _ _ (by omega)) ?B ?F ?X ?N ?T ?hk ?hd ?hu ?_; (case B => k_asm); (case F => k_asm); (case X => k_asm); (case N => k_asm); (case T => k_asm); (case hk => first | exact rfl | assumption); (case hd => ktr_room); (case hu => ktr_units))
    rw [decS_sp hfrd]
    intro t9 h9 tk9 F9 N9
    (try dsimp only)
    (try k_fold)
    k_steps
    refine Stop.mk ?_
    k_dflt (refine' Ctr.use (ctr_priceD _ rd _ (by omega)) ?B ?F ?X ?N ?T ?hk ?hd ?hu ?_; (case B => k_asm); (case F => k_asm); (case X => k_asm); (case N => k_asm); (case T => k_asm); (case hk => first | exact rfl | assumption); (case hd => ktr_room); (case hu => ktr_units))
    rw [hp1]
    intro t9 h9 tk9 F9 N9
    (try dsimp only)
    (try k_fold)
    k_steps
    obtain ⟨p3, hp3⟩ : ∃ P : Int, (ty.length : Int) + (suD false ty.cps.toList : Nat) = P := ⟨_, rfl⟩
    obtain ⟨hsp3, hzp3⟩ := spSD_facts ty hp3 (by omega)
    refine Stop.mk ?_
    k_dflt (refine' Ctr.use (ctr_spellD _ ty _ (by omega)) ?B ?F ?X ?N ?T ?hk ?hd ?hu ?_; (case B => k_asm); (case F => k_asm); (case X => k_asm); (case N => k_asm); (case T => k_asm); (case hk => first | exact rfl | assumption); (case hd => ktr_room); (case hu => ktr_units))
    intro t9 h9 tk9 F9 N9
    (try dsimp only)
    (try k_fold)
    k_steps
    refine Stop.mk ?_
    k_dflt (refine' Ctr.use (ctr_decode1 _ _ _ (by omega)) ?B ?F ?X ?N ?T ?hk ?hd ?hu ?_; (case B => k_asm); (case F => k_asm); (case X => k_asm); (case N => k_asm); (case T => k_asm); (case hk => first | exact rfl | assumption); (case hd => ktr_room); (case hu => ktr_units))
    rw [decS_sp hfty]
    intro t9 h9 tk9 F9 N9
    (try dsimp only)
    (try k_fold)
    k_steps
    refine Stop.mk ?_
    k_dflt (refine' Ctr.use (ctr_priceD _ ty _ (by omega)) ?B ?F ?X ?N ?T ?hk ?hd ?hu ?_; (case B => k_asm); (case F => k_asm); (case X => k_asm); (case N => k_asm); (case T => k_asm); (case hk => first | exact rfl | assumption); (case hd => ktr_room); (case hu => ktr_units))
    rw [hp3]
    intro t9 h9 tk9 F9 N9
    (try dsimp only)
    (try k_fold)
    k_steps
    obtain ⟨hsp2, hzp2⟩ := spSH_facts hr hp2 (by omega)
    refine Stop.mk ?_
    k_dflt (refine' Ctr.use (ctr_spellH _ hr _ (by omega)) ?B ?F ?X ?N ?T ?hk ?hd ?hu ?_; (case B => k_asm); (case F => k_asm); (case X => k_asm); (case N => k_asm); (case T => k_asm); (case hk => first | exact rfl | assumption); (case hd => ktr_room); (case hu => ktr_units))
    intro t9 h9 tk9 F9 N9
    (try dsimp only)
    (try k_fold)
    k_steps
    refine Stop.mk ?_
    k_dflt (refine' Ctr.use (ctr_header _ _ _ (by omega)) ?B ?F ?X ?N ?T ?hk ?hd ?hu ?_; (case B => k_asm); (case F => k_asm); (case X => k_asm); (case N => k_asm); (case T => k_asm); (case hk => first | exact rfl | assumption); (case hd => ktr_room); (case hu => ktr_units))
    rw [hdrS_sp]
    intro t9 h9 tk9 F9 N9
    (try dsimp only)
    (try k_fold)
    k_steps
    refine Stop.mk ?_
    k_dflt (refine' Ctr.use (ctr_priceH _ hr _ (by omega)) ?B ?F ?X ?N ?T ?hk ?hd ?hu ?_; (case B => k_asm); (case F => k_asm); (case X => k_asm); (case N => k_asm); (case T => k_asm); (case hk => first | exact rfl | assumption); (case hd => ktr_room); (case hu => ktr_units))
    rw [hp2]
    intro t9 h9 tk9 F9 N9
    (try dsimp only)
    (try k_fold)
    k_steps
    obtain ⟨p4, hp4⟩ : ∃ P : Int, (ty.length : Int) + (suH ty.cps.toList : Nat) = P := ⟨_, rfl⟩
    obtain ⟨hsp4, hzp4⟩ := spSH_facts ty hp4 (by omega)
    refine Stop.mk ?_
    k_dflt (refine' Ctr.use (ctr_spellH _ ty _ (by omega)) ?B ?F ?X ?N ?T ?hk ?hd ?hu ?_; (case B => k_asm); (case F => k_asm); (case X => k_asm); (case N => k_asm); (case T => k_asm); (case hk => first | exact rfl | assumption); (case hd => ktr_room); (case hu => ktr_units))
    intro t9 h9 tk9 F9 N9
    (try dsimp only)
    (try k_fold)
    k_steps
    refine Stop.mk ?_
    k_dflt (refine' Ctr.use (ctr_header _ _ _ (by omega)) ?B ?F ?X ?N ?T ?hk ?hd ?hu ?_; (case B => k_asm); (case F => k_asm); (case X => k_asm); (case N => k_asm); (case T => k_asm); (case hk => first | exact rfl | assumption); (case hd => ktr_room); (case hu => ktr_units))
    rw [hdrS_sp]
    intro t9 h9 tk9 F9 N9
    (try dsimp only)
    (try k_fold)
    k_steps
    refine Stop.mk ?_
    k_dflt (refine' Ctr.use (ctr_priceH _ ty _ (by omega)) ?B ?F ?X ?N ?T ?hk ?hd ?hu ?_; (case B => k_asm); (case F => k_asm); (case X => k_asm); (case N => k_asm); (case T => k_asm); (case hk => first | exact rfl | assumption); (case hd => ktr_room); (case hu => ktr_units))
    rw [hp4]
    intro t9 h9 tk9 F9 N9
    (try dsimp only)
    (try k_fold)
    k_steps)
end Mine
theorem PySem.Challenge.cw_dw5003_03_holds : PySem.Challenge.rw_dw5003_03.Holds := by
  exact Mine.law_walk
