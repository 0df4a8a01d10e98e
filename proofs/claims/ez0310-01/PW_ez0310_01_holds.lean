import PyProof.Rows.All
import Wide.All
import OpenK.AllK
import Wide.FinOn
import Lean
import PySem.Challenge.RW_ez0310_01
set_option Elab.async false
set_option maxRecDepth 100000

/- The head of the top, once. -/
section
set_option maxHeartbeats 8000000
namespace Mine
open PySem PySem.W PyProof.Rows
open_top hd for PySem.Challenge.rw_ez0310_01
end Mine
end

/- part: Base -/
section
namespace Mine
open PySem PySem.W PyProof.Rows

/- the signs -/
def isHex (c : Nat) : Bool := (48 ≤ c && c ≤ 57) || (65 ≤ c && c ≤ 70) || (97 ≤ c && c ≤ 102)
def hexes (n : Nat) (r : List Nat) : Bool := (r.take n).length == n && (r.take n).all isHex
def simp? (c : Nat) : Option Nat :=
  if c = 116 then some 9 else if c = 98 then some 8 else if c = 110 then some 10 else if c = 114 then some 13
  else if c = 102 then some 12 else if c = 34 then some 34 else if c = 39 then some 39 else if c = 92 then some 92 else none
def figs (l : List Nat) : Nat :=
  if l = [48, 48, 52, 49] then 65 else if l = [48, 48, 101, 57] then 233
  else if l = [48, 48, 48, 49, 70, 54, 48, 48] then 128512 else if l = [48, 48, 48, 48, 48, 48, 52, 50] then 66 else 0
def tok : List Nat → Option (Nat × Nat)
  | 92 :: c :: r => match simp? c with
    | some d => some (d, 2)
    | none => if c = 117 ∧ hexes 4 r = true then some (figs (r.take 4), 6) else if c = 85 ∧ hexes 8 r = true then some (figs (r.take 8), 10) else none
  | _ => none
def decS : Nat → List Nat → List Nat
  | _, [] => []
  | k + 1, _ :: r => decS k r
  | 0, c :: r => match tok (c :: r) with
    | some (d, n) => d :: decS (n - 1) r
    | none => c :: decS 0 r
def dec (l : List Nat) : List Nat := decS 0 l
theorem decS_drop : ∀ (k : Nat) (l : List Nat), decS k l = dec (l.drop k)
  | 0, l => rfl
  | k + 1, [] => by simp [decS, dec]
  | k + 1, c :: r => by rw [decS, decS_drop k r]; rfl
theorem dec_nil : dec [] = [] := rfl
theorem tok_pos {l : List Nat} {d n : Nat} (h : tok l = some (d, n)) : 2 ≤ n ∧ n ≤ l.length ∧ n ≤ 10 := by
  unfold tok at h
  split at h
  · rename_i c r
    split at h
    · cases h; simp
    · split at h
      · rename_i h1
        cases h
        have := h1.2
        simp only [hexes, Bool.and_eq_true, beq_iff_eq, List.length_take] at this
        simp only [List.length_cons]
        omega
      · split at h
        · rename_i h1
          cases h
          have := h1.2
          simp only [hexes, Bool.and_eq_true, beq_iff_eq, List.length_take] at this
          simp only [List.length_cons]
          omega
        · cases h
  · cases h
theorem dec_tok {l : List Nat} {d n : Nat} (h : tok l = some (d, n)) : dec l = d :: dec (l.drop n) := by
  have hp := tok_pos h
  cases l with
  | nil => cases h
  | cons c r =>
    unfold dec
    rw [decS, h]
    show d :: decS (n - 1) r = _
    rw [decS_drop]
    obtain ⟨m, rfl⟩ : ∃ m, n = m + 1 := ⟨n - 1, by omega⟩
    rfl
theorem dec_none {c : Nat} {r : List Nat} (h : tok (c :: r) = none) : dec (c :: r) = c :: dec r := by
  unfold dec
  rw [decS, h]
theorem tok_not92 {c : Nat} {r : List Nat} (h : c ≠ 92) : tok (c :: r) = none := by
  unfold tok
  split
  · rename_i e; cases e; exact absurd rfl h
  · rfl
theorem dec_no92 : ∀ {l : List Nat}, (∀ c ∈ l, c ≠ 92) → dec l = l
  | [], _ => rfl
  | c :: r, h => by
    rw [dec_none (tok_not92 (h c (.head _))), dec_no92 fun x hx => h x (.tail _ hx)]
/- signs before the next token -/
theorem dec_skip : ∀ (k : Nat) (l : List Nat), k ≤ l.length → (∀ i, i < k → tok (l.drop i) = none) → dec l = l.take k ++ dec (l.drop k)
  | 0, l, _, _ => rfl
  | k + 1, [], h, _ => by simp at h
  | k + 1, c :: r, h, hn => by
    rw [dec_none (by simpa using hn 0 (Nat.succ_pos _)), dec_skip k r (by simpa using h) fun i hi => by simpa using hn (i + 1) (by omega)]
    rfl

/- what the law's texts keep -/
def okAt : List Nat → Bool
  | [] => true
  | c :: r => if c = 117 then (!hexes 4 r || r.take 4 == [48, 48, 52, 49] || r.take 4 == [48, 48, 101, 57])
    else if c = 85 then (!hexes 8 r || r.take 8 == [48, 48, 48, 49, 70, 54, 48, 48] || r.take 8 == [48, 48, 48, 48, 48, 48, 52, 50]) else true
def goodB : List Nat → Bool
  | [] => true
  | c :: r => okAt (c :: r) && goodB r
theorem goodB_drop : ∀ (k : Nat) {l : List Nat}, goodB l = true → goodB (l.drop k) = true
  | 0, _, h => h
  | k + 1, [], _ => rfl
  | k + 1, c :: r, h => by
    rw [goodB, Bool.and_eq_true] at h
    exact goodB_drop k h.2
theorem goodB_ok {l : List Nat} (h : goodB l = true) : okAt l = true := by
  cases l with
  | nil => rfl
  | cons c r => rw [goodB, Bool.and_eq_true] at h; exact h.1

def partL : List (List Nat) := [[103], [92], [92, 92], [110], [92, 110], [92, 116], [92, 34], [92, 39], [92, 98], [92, 114], [92, 102], [92, 113],
  [92, 117, 49, 50], [92, 117, 48, 48, 101, 57], [92, 85, 48, 48, 48, 49, 70, 54, 48, 48], [92, 85, 48, 48, 48, 49], [117, 48, 48, 52, 49],
  [85, 48, 48, 48, 48, 48, 48, 52, 50], [32], [10], [116]]
abbrev parts : List Str := [Str.ofString "g", Str.ofString "\\", Str.ofString "\\\\", Str.ofString "n", Str.ofString "\\n",
  Str.ofString "\\t", Str.ofString "\\\"", Str.ofString "\\'", Str.ofString "\\b", Str.ofString "\\r",
  Str.ofString "\\f", Str.ofString "\\q", Str.ofString "\\u12", Str.ofString "\\u00e9",
  Str.ofString "\\U0001F600", Str.ofString "\\U0001", Str.ofString "u0041", Str.ofString "U00000042",
  Str.ofString " ", Str.ofString "\n", Str.ofString "t"]
theorem parts_cps : parts.map (fun x => x.cps.toList) = partL := by decide +kernel
def soft : List Nat → Bool
  | [] => true
  | c :: _ => !isHex c
theorem good_part {l : List Nat} (h : goodB l = true) (hs : soft l = true) : ∀ p ∈ partL, goodB (p ++ l) = true ∧ soft (p ++ l) = true := by
  have key : (l = [] ∨ ∃ c r, l = c :: r ∧ isHex c = false) := by
    cases l with
    | nil => exact .inl rfl
    | cons c r => exact .inr ⟨c, r, rfl, by simpa [soft] using hs⟩
  have h48 : isHex 48 = true := rfl
  have h49 : isHex 49 = true := rfl
  have h50 : isHex 50 = true := rfl
  have h52 : isHex 52 = true := rfl
  have h57 : isHex 57 = true := rfl
  have h70 : isHex 70 = true := rfl
  have h101 : isHex 101 = true := rfl
  have h54 : isHex 54 = true := rfl
  intro p hp
  rcases key with rfl | ⟨c, r, rfl, hc⟩
  · revert p; decide
  · simp only [partL, List.mem_cons, List.not_mem_nil, or_false] at hp
    rcases hp with rfl | rfl | rfl | rfl | rfl | rfl | rfl | rfl | rfl | rfl | rfl | rfl | rfl | rfl | rfl | rfl | rfl | rfl | rfl | rfl | rfl <;>
      refine ⟨?_, by rfl⟩ <;> simpa [goodB, okAt, hexes, hc, h48, h49, h50, h52, h57, h70, h101, h54] using h
theorem good_flat : ∀ {ps : List (List Nat)}, (∀ p ∈ ps, p ∈ partL) → goodB ps.flatten = true ∧ soft ps.flatten = true
  | [], _ => ⟨rfl, rfl⟩
  | p :: r, h => by
    have ih := good_flat (ps := r) fun q hq => h q (.tail _ hq)
    rw [List.flatten_cons]
    exact good_part ih.1 ih.2 p (h p (.head _))
theorem len_flat : ∀ {ps : List (List Nat)}, (∀ p ∈ ps, p ∈ partL) → ps.flatten.length ≤ 10 * ps.length
  | [], _ => Nat.le_refl _
  | p :: r, h => by
    have ih := len_flat (ps := r) fun q hq => h q (.tail _ hq)
    have : p.length ≤ 10 := by
      have : ∀ p ∈ partL, p.length ≤ 10 := by decide
      exact this p (h p (.head _))
    rw [List.flatten_cons, List.length_append, List.length_cons]
    omega

structure Good (X : Str) : Prop where
  len : X.length ≤ 200
  good : goodB X.cps.toList = true

theorem cps_join : ∀ l : List Str, (Str.join (Str.ofString "") l).cps.toList = (l.map fun x => x.cps.toList).flatten
  | [] => rfl
  | [x] => by simp [Str.join]
  | x :: y :: r => by
    have e : (Str.ofString "").cps = #[] := by decide
    rw [Str.join, KT.app_list, KT.app_list, e, cps_join (y :: r)]
    · simp
    · simp
theorem good_join {ps : List Str} (h : ∀ p ∈ ps, p ∈ parts) (hn : ps.length ≤ 20) : Good (Txt.join (Str.ofString "") ps) := by
  have e : (Txt.join (Str.ofString "") ps).cps.toList = (ps.map fun x => x.cps.toList).flatten := by
    show (Builtin.Str.glued (Str.ofString "") ps).cps.toList = _
    rw [StrLaws.glued_eq_join, cps_join]
  have hp : ∀ p ∈ (ps.map fun x => x.cps.toList), p ∈ partL := by
    intro p hp
    obtain ⟨x, hx, rfl⟩ := List.mem_map.mp hp
    rw [← parts_cps]
    exact List.mem_map.mpr ⟨x, h x hx, rfl⟩
  refine ⟨?_, by rw [e]; exact (good_flat hp).1⟩
  have : (Txt.join (Str.ofString "") ps).length = (Txt.join (Str.ofString "") ps).cps.toList.length := by simp [Str.length]
  rw [this, e]
  have := len_flat hp
  rw [List.length_map] at this
  omega
end Mine
end

/- part: Inv -/
section
namespace Mine
open PySem PySem.W PyProof.Rows
structure Inv (text due : Str) (k : Int) : Prop where
  lo : 0 ≤ k
  hi : k ≤ text.length
  good : Good text
  len : due.length ≤ k.toNat
  eq : due.cps.toList ++ dec (text.cps.toList.drop k.toNat) = dec text.cps.toList
end Mine
end

/- part: Int16 -/
section
namespace Mine
open PySem PySem.W PyProof.Rows PySem.Calls PySem.NumText
theorem typeCall_int_2 (a b : Value) : checkTypeCall "int" ⟨[a, b], []⟩ = pure () := by kernel_rfl
theorem newCall_int_2 (a b : Value) : checkBuiltinCall "int.__new__" ⟨[.type "int", a, b], []⟩ = pure () := by kernel_rfl
theorem args_object_init_3 (o a b : Value) : argsOk "object.__init__" ⟨[o, a, b], []⟩ := by unfold argsOk; kernel_rfl
theorem wp_text16 {M : Model} {A : Around} {E : Value → Shared → Prop} {s : Shared} {Q : Value → Shared → Prop} {v : Value} {text : List Nat} {n : Int}
    (hs : (text.takeWhile (· != 0)).length ≤ 640) (hr : (int_private% "readNumeral") 0 16 (text.takeWhile (· != 0)) = (int_private% "Numeral.value") n)
    (ha : ((text.takeWhile (· != 0)).length == text.length) = true) (h : Q (.int n s.toks) { s with toks := s.toks + 1 }) :
    wpAny M A ((int_private% "intFromText") v text 16) Q E s := by
  obtain ⟨hp, g, d, tk, os⟩ := s
  repeat (any_goals (first
    | assumption
    | (with_reducible refine wpAny_ite_true (decide_eq_true hs) ?_)
    | (with_reducible refine wpAny_ite_true (decide_eq_true ha) ?_)
    | wp_step))
  all_goals (try rw [hr])
  all_goals (try dsimp only)
  repeat (any_goals (first
    | assumption
    | (with_reducible refine wpAny_ite_true (decide_eq_true hs) ?_)
    | (with_reducible refine wpAny_ite_true (decide_eq_true ha) ?_)
    | wp_step))
def seen16 (x : Str) : List Nat := if (x.cps.all (· < 128)) = true then x.cps.toList else Unicode.numberText x.cps.toList
set_option maxHeartbeats 4000000 in
theorem gives16 {x : Str} {n : Int} (u v : Tok) (hk : KIN.Hid (((seen16 x).takeWhile (· != 0)).length ≤ 640 ∧ (int_private% "readNumeral") 0 16 ((seen16 x).takeWhile (· != 0)) = (int_private% "Numeral.value") n ∧ ((((seen16 x).takeWhile (· != 0)).length == (seen16 x).length) = true))) :
    Gives (Builtin.«int.__new__» ⟨[.type "int", .str x u, .int 16 v], []⟩) (.int n) :=
  .of_wp fun M A E s Q h => by
    obtain ⟨hp, g, d, tk, os⟩ := s
    have f1 := F.conv_sub_int
    have f2 := F.madeHere_int
    repeat (any_goals (first
      | assumption
      | ((with_reducible show wpAny _ _ ((int_private% "intFromText") _ _ _) _ _ _); refine wp_text16 hk.out.1 hk.out.2.1 hk.out.2.2 ?_)
      | wp_step))
    all_goals first | exact ⟨_, rfl, h⟩ | skip
theorem call_int16 {prog : Program} {w : World} {A : Around} {E : Value → Shared → Prop} {s : Shared} {Q : Value → Shared → Prop} {x : Str} {t u : Tok} {n : Int}
    (hk : KIN.Hid (((seen16 x).takeWhile (· != 0)).length ≤ 640 ∧ (int_private% "readNumeral") 0 16 ((seen16 x).takeWhile (· != 0)) = (int_private% "Numeral.value") n ∧ ((((seen16 x).takeWhile (· != 0)).length == (seen16 x).length) = true)))
    (h : Q (.int n s.toks) { s with toks := s.toks + 1 }) : wpAny (model prog w) A (call (.type "int") [.str x t, .int 16 u]) Q E s :=
  callType_new F.called_int F.newNe_int (typeCall_int_2 _ _) (newCall_int_2 _ _) (fun obj => args_object_init_3 obj _ _) F.entry_int_new (gives16 t u hk).meets (show (Made.int n).post _ s from ⟨rfl, h⟩)
theorem int_figs {prog : Program} {w : World} {A : Around} {E : Value → Shared → Prop} {s : Shared} {Q : Value → Shared → Prop} {x : Str} {t u : Tok}
    (hx : x.cps.toList = [48, 48, 52, 49] ∨ x.cps.toList = [48, 48, 101, 57] ∨ x.cps.toList = [48, 48, 48, 49, 70, 54, 48, 48] ∨ x.cps.toList = [48, 48, 48, 48, 48, 48, 52, 50])
    (h : Q (.int (figs x.cps.toList) s.toks) { s with toks := s.toks + 1 }) : wpAny (model prog w) A (call (.type "int") [.str x t, .int 16 u]) Q E s := by
  obtain ⟨⟨l⟩⟩ := x
  simp only at hx h
  have e : ∀ l : List Nat, (l.all (· < 128)) = true → seen16 ⟨⟨l⟩⟩ = l := fun l h => by
    unfold seen16
    rw [if_pos (by rw [← Array.all_toList]; exact h)]
  rcases hx with rfl | rfl | rfl | rfl
  all_goals (refine call_int16 (n := figs _) ⟨?_, ?_, ?_⟩ h <;> (rw [e _ (by rfl)]; first | rfl | decide))
theorem figs_le (l : List Nat) : figs l ≤ 1114111 := by
  unfold figs
  repeat' split
  all_goals decide
end Mine
end

/- part: Lines -/
section
namespace Mine
open PySem PySem.W PyProof.Rows PySem.Calls PyProof.V PySem.Spec

/- cuts of a text -/
theorem indices_min (i j : Int) (n : Nat) (h0 : 0 ≤ i) (h1 : 0 ≤ j) :
    Builtin.Str.strSliceIndices (some i) (some j) 1 n = Builtin.Str.strSliceIndices (some (min i n)) (some (min j n)) 1 n := by
  unfold Builtin.Str.strSliceIndices
  have e1 : ¬ i < 0 := by omega
  have e2 : ¬ j < 0 := by omega
  have e3 : ¬ min i (n : Int) < 0 := by omega
  have e4 : ¬ min j (n : Int) < 0 := by omega
  simp only [show (1 : Int) > 0 by decide, if_true, e1, e2, e3, e4, if_false]
  have f1 : min (min i (n : Int)) n = min i n := by omega
  have f2 : min (min j (n : Int)) n = min j n := by omega
  rw [f1, f2]
theorem cut_list {x : Str} {i j : Int} (h0 : 0 ≤ i) (h1 : i ≤ j) : (Txt.slice x (some i) (some j)).cps.toList = (x.cps.toList.drop i.toNat).take (j - i).toNat := by
  have hn : x.cps.toList.length = x.length := by simp [Str.length]
  have e : Txt.slice x (some i) (some j) = Txt.slice x (some (min i x.length)) (some (min j x.length)) := by
    unfold Txt.slice
    rw [indices_min i j x.length h0 (by omega)]
  rw [e, eq_of_beq (slice_closes (x := x) (i := min i x.length) (j := min j x.length) ⟨by omega, by omega, by omega⟩)]
  simp only [List.toList_toArray]
  by_cases hi : i ≤ x.length
  · rw [show min i (x.length : Int) = i by omega]
    by_cases hj : j ≤ x.length
    · rw [show min j (x.length : Int) = j by omega]
    · rw [show min j (x.length : Int) = x.length by omega]
      rw [List.take_of_length_le (by rw [List.length_drop]; omega), List.take_of_length_le (by rw [List.length_drop]; omega)]
  · rw [List.drop_eq_nil_of_le (by omega), List.drop_eq_nil_of_le (by omega)]
    simp
theorem item_list {x : Str} {k : Int} (h0 : 0 ≤ k) (h1 : k < x.length) : ∃ c r, x.cps.toList.drop k.toNat = c :: r ∧ Txt.item x k = ⟨#[c]⟩ := by
  have hn : x.cps.toList.length = x.length := by simp [Str.length]
  have hk : k.toNat < x.cps.toList.length := by omega
  refine ⟨x.cps.toList[k.toNat], x.cps.toList.drop (k.toNat + 1), List.drop_eq_getElem_cons hk, ?_⟩
  rw [item_meets ⟨h0, h1⟩]
  have : x.cps.getD k.toNat 0 = x.cps.toList[k.toNat] := by
    have hk' : k.toNat < x.cps.size := by simpa using hk
    simp [Array.getD, hk']
  rw [this]

/- the two tables -/
def sizeD : List (PyData × PyData) := [(.str (Str.ofString "u"), .int 4), (.str (Str.ofString "U"), .int 8)]
def sizeOf (x : Str) : Int := if x.cps.toList = [117] then 4 else if x.cps.toList = [85] then 8 else 0
theorem str_ext {x y : Str} : x = y ↔ x.cps.toList = y.cps.toList := ⟨fun h => by rw [h], fun h => Str.ext' (Array.toList_inj.mp h)⟩
theorem same_strs (x y : Str) : Spec.same (.str x) (.str y) = decide (x.cps.toList = y.cps.toList) := by
  rw [same_str]
  exact decide_eq_decide.mpr str_ext
theorem look_size (x : Str) : (Spec.lookup (.str x) sizeD).getD (.int 0) = .int (sizeOf x) := by
  have e1 : (Str.ofString "u").cps.toList = [117] := by decide
  have e2 : (Str.ofString "U").cps.toList = [85] := by decide
  simp only [sizeD, Spec.lookup, same_strs, e1, e2, sizeOf, decide_eq_true_eq]
  by_cases h1 : x.cps.toList = [117]
  · simp [h1]
  · by_cases h2 : x.cps.toList = [85]
    · simp [h2]
    · simp [h1, h2, Ne.symm h1, Ne.symm h2]
def meantD : List (PyData × PyData) := [(.str (Str.ofString "t"), .str (Str.ofString "\t")), (.str (Str.ofString "b"), .str (Str.ofString "\x08")), (.str (Str.ofString "n"), .str (Str.ofString "\n")),
  (.str (Str.ofString "r"), .str (Str.ofString "\x0d")), (.str (Str.ofString "f"), .str (Str.ofString "\x0c")), (.str (Str.ofString "\""), .str (Str.ofString "\"")), (.str (Str.ofString "'"), .str (Str.ofString "'")), (.str (Str.ofString "\\"), .str (Str.ofString "\\"))]
def meant? (x : Str) : Option Str := match x.cps.toList with
  | [c] => (simp? c).map fun d => ⟨#[d]⟩
  | _ => none
theorem look_meant (x : Str) : Spec.lookup (.str x) meantD = (meant? x).map .str := by
  have e1 : (Str.ofString "t").cps.toList = [116] := by decide
  have e2 : (Str.ofString "b").cps.toList = [98] := by decide
  have e3 : (Str.ofString "n").cps.toList = [110] := by decide
  have e4 : (Str.ofString "r").cps.toList = [114] := by decide
  have e5 : (Str.ofString "f").cps.toList = [102] := by decide
  have e6 : (Str.ofString "\"").cps.toList = [34] := by decide
  have e7 : (Str.ofString "'").cps.toList = [39] := by decide
  have e8 : (Str.ofString "\\").cps.toList = [92] := by decide
  have d1 : Str.ofString "\t" = ⟨#[9]⟩ := by decide
  have d2 : Str.ofString "\x08" = ⟨#[8]⟩ := by decide
  have d3 : Str.ofString "\n" = ⟨#[10]⟩ := by decide
  have d4 : Str.ofString "\x0d" = ⟨#[13]⟩ := by decide
  have d5 : Str.ofString "\x0c" = ⟨#[12]⟩ := by decide
  have d6 : Str.ofString "\"" = ⟨#[34]⟩ := by decide
  have d7 : Str.ofString "'" = ⟨#[39]⟩ := by decide
  have d8 : Str.ofString "\\" = ⟨#[92]⟩ := by decide
  simp only [meantD, Spec.lookup, same_strs, e1, e2, e3, e4, e5, e6, e7, e8, decide_eq_true_eq, d1, d2, d3, d4, d5, d6, d7, d8, meant?]
  generalize x.cps.toList = l
  match l with
  | [] => simp
  | [c] =>
    simp only [List.cons.injEq, and_true, simp?, @eq_comm _ _ c]
    repeat' split
    all_goals simp_all
  | a :: b :: r => simp

section
variable {prog : Program} {w : World} {A : Around} {E : Value → Shared → Prop} {s : Shared} {d : Addr} {x : Str} {t u : Tok} {Q : Value → Shared → Prop} {value slice : Expr}
theorem get_size (T : StrTab prog w s.heap d sizeD) (h : ∀ t', Q (.int (sizeOf x) t') { s with toks := s.toks + 1 }) :
    wpAny (model prog w) A (call (.builtin "dict.get") [.ref d, .str x t, .int 0 u]) Q E s :=
  call_get2_strTab T (Flat.int 0 u) fun v hv => by
    rw [look_size] at hv
    obtain ⟨t', rfl⟩ := hv.int_inv
    exact h t'
theorem in_meant (T : StrTab prog w s.heap d meantD) (h : Q (.bool (meant? x).isSome) { s with toks := s.toks + 1 }) : wpAny (model prog w) A (compareOp .In (.str x t) (.ref d)) Q E s :=
  in_strTab T (by rw [look_meant, Option.isSome_map]; exact h)
theorem item_meant {y : Str} (T : StrTab prog w s.heap d meantD) (hx : meant? x = some y) (h : ∀ t', Q (.str y t') { s with toks := s.toks + 1 })
    (hs : subscripted slice false (.ref d) (.str x t) = operate [.ref d, .str x t] (getItem (.ref d) (.str x t)) := by with_unfolding_all rfl) (hg : ∀ r, letTemporaryGo value (.ref d) r = pure () := by intro _; with_unfolding_all rfl) :
    wpAny (model prog w) A (subscriptTail value slice (.ref d) (.str x t)) Q E s :=
  item_strTab (dv := .str y) T (by rw [look_meant, hx]; rfl) (fun v hv => by obtain ⟨t', rfl⟩ := hv.str_inv; exact h t') hs hg
theorem len_ok (hx : x.length ≤ 200) (h : Q (.int x.length (s.toks + 1)) { s with toks := s.toks + 1 + 1 }) : wpAny (model prog w) A (call (.builtin "len") [.str x t]) Q E s := P.len_str (by omega) h
end
end Mine
end

/- part: Turn -/
section
namespace Mine
open PySem PySem.W PyProof.Rows PySem.Calls PyProof.V PySem.Spec

def hexAll (x : Str) : Bool := x.cps.toList.all isHex
abbrev bhd (X : Str) (k : Int) : Str := Txt.slice X (some (k + 1)) (some (k + 2))
abbrev fgs (X : Str) (k : Int) : Str := Txt.slice X (some (k + 2)) (some (k + 2 + sizeOf (bhd X k)))
theorem sizeOf_nonneg (x : Str) : 0 ≤ sizeOf x := by
  unfold sizeOf
  repeat' split
  all_goals decide
theorem next {X due y : Str} {k : Int} {n : Nat} (hI : Inv X due k) (hn : k + (n : Int) ≤ X.length) (h1 : 1 ≤ n) (hy : y.length = 1)
    (hd : dec (X.cps.toList.drop k.toNat) = y.cps.toList ++ dec (X.cps.toList.drop (k.toNat + n))) : Inv X (due ++ y) (k + (n : Int)) := by
  have h0 := hI.lo
  have e : (k + (n : Int)).toNat = k.toNat + n := by omega
  refine ⟨by omega, hn, hI.good, ?_, ?_⟩
  · rw [Str.length_append, hy, e]
    have := hI.len
    omega
  · rw [KT.app_list, e, List.append_assoc, ← hd]
    exact hI.eq
structure At (X : Str) (k : Int) (c : Nat) (r : List Nat) : Prop where
  eq : X.cps.toList.drop k.toNat = c :: r
  item : Txt.item X k = ⟨#[c]⟩
  bh : (bhd X k).cps.toList = r.take 1
  fg : (fgs X k).cps.toList = (r.drop 1).take (sizeOf (bhd X k)).toNat
  rest : ∀ n, X.cps.toList.drop (k.toNat + (n + 1)) = r.drop n
  len : X.length = k.toNat + 1 + r.length
theorem at_ {X due : Str} {k : Int} (hI : Inv X due k) (hk : k < X.length) : ∃ c r, At X k c r := by
  have h0 := hI.lo
  obtain ⟨c, r, e, hi⟩ := item_list h0 hk
  have hr : ∀ n, X.cps.toList.drop (k.toNat + (n + 1)) = r.drop n := fun n => by
    rw [← List.drop_drop, e]
    rfl
  have hz := sizeOf_nonneg (bhd X k)
  refine ⟨c, r, e, hi, ?_, ?_, hr, ?_⟩
  · rw [cut_list (by omega) (by omega), show (k + 1).toNat = k.toNat + (0 + 1) by omega, hr]
    rw [show (k + 2 - (k + 1)).toNat = 1 by omega]
    rfl
  · rw [cut_list (by omega) (by omega), show (k + 2).toNat = k.toNat + (1 + 1) by omega, hr]
    congr 1
    omega
  · have hn : X.cps.toList.length = X.length := by simp [Str.length]
    have := congrArg List.length e
    rw [List.length_drop, List.length_cons] at this
    omega
theorem sign_is {X : Str} {k : Int} {c : Nat} {r : List Nat} (a : At X k c r) (h : (Txt.item X k == Str.ofString "\\") = true) : c = 92 := by
  rw [a.item] at h
  have h := congrArg (fun x : Str => x.cps.toList) (eq_of_beq h)
  have e8 : (Str.ofString "\\").cps.toList = [92] := by decide
  simp only [e8] at h
  simpa using h
theorem sign_not {X : Str} {k : Int} {c : Nat} {r : List Nat} (a : At X k c r) (h : (Txt.item X k == Str.ofString "\\") = false) : c ≠ 92 := by
  intro e
  subst e
  rw [a.item] at h
  have : (⟨#[92]⟩ : Str) = Str.ofString "\\" := by decide
  rw [this] at h
  simp at h
theorem stepA {X due y : Str} {k : Int} (hI : Inv X due k) (hk : k < X.length) (hS : (Txt.item X k == Str.ofString "\\") = true) (hy : meant? (bhd X k) = some y) : Inv X (due ++ y) (k + 2) := by
  obtain ⟨c, r, a⟩ := at_ hI hk
  have hc := sign_is a hS
  subst hc
  unfold meant? at hy
  rw [a.bh] at hy
  cases r with
  | nil => simp at hy
  | cons c r =>
    simp only [List.take_succ_cons, List.take_zero, Option.map_eq_some_iff] at hy
    obtain ⟨d, hd, rfl⟩ := hy
    have ht : tok (92 :: c :: r) = some (d, 2) := by
      unfold tok
      simp [hd]
    have hl := a.len
    have h0 := hI.lo
    refine next (n := 2) hI ?_ (by decide) rfl ?_
    · simp only [List.length_cons] at hl
      omega
    · rw [a.eq, dec_tok ht, a.rest 1]
      rfl
theorem bh_u {X : Str} {k : Int} {c : Nat} {r : List Nat} (a : At X k c r) (hZ : 0 < sizeOf (bhd X k)) : ∃ q, (r = 117 :: q ∧ sizeOf (bhd X k) = 4 ∨ r = 85 :: q ∧ sizeOf (bhd X k) = 8) ∧ (fgs X k).cps.toList = q.take (sizeOf (bhd X k)).toNat := by
  have hf := a.fg
  have hb := a.bh
  unfold sizeOf at hZ
  unfold sizeOf at hf ⊢
  rw [hb] at hZ hf ⊢
  cases r with
  | nil => simp at hZ
  | cons d q =>
    simp only [List.take_succ_cons, List.take_zero, List.cons.injEq, and_true, List.drop_succ_cons, List.drop_zero] at hZ hf ⊢
    refine ⟨q, ?_, hf⟩
    by_cases h1 : d = 117
    · exact .inl ⟨⟨h1, rfl⟩, if_pos h1⟩
    · rw [if_neg h1] at hZ ⊢
      by_cases h2 : d = 85
      · exact .inr ⟨⟨h2, rfl⟩, if_pos h2⟩
      · rw [if_neg h2] at hZ
        omega
theorem hexes_iff {q : List Nat} {n : Nat} {x : Str} (hx : x.cps.toList = q.take n) : (x.length = n ∧ hexAll x = true) ↔ hexes n q = true := by
  unfold hexes hexAll
  rw [hx]
  have : x.length = (q.take n).length := by rw [← hx]; simp [Str.length]
  rw [this]
  simp
theorem tokB {X due : Str} {k : Int} (hI : Inv X due k) (hk : k < X.length) (hS : (Txt.item X k == Str.ofString "\\") = true) (hZ : 0 < sizeOf (bhd X k))
    (hL : ((fgs X k).length : Int) = sizeOf (bhd X k)) (hF : hexAll (fgs X k) = true) :
    ∃ r, At X k 92 r ∧ tok (92 :: r) = some (figs (fgs X k).cps.toList, (sizeOf (bhd X k)).toNat + 2) ∧
      ((fgs X k).cps.toList = [48, 48, 52, 49] ∨ (fgs X k).cps.toList = [48, 48, 101, 57] ∨ (fgs X k).cps.toList = [48, 48, 48, 49, 70, 54, 48, 48] ∨ (fgs X k).cps.toList = [48, 48, 48, 48, 48, 48, 52, 50]) := by
  obtain ⟨c, r, a⟩ := at_ hI hk
  have hc := sign_is a hS
  subst hc
  have hg := goodB_drop (k.toNat + (0 + 1)) hI.good.good
  rw [a.rest 0, List.drop_zero] at hg
  have ho := goodB_ok hg
  refine ⟨r, a, ?_⟩
  obtain ⟨q, hq, hf⟩ := bh_u a hZ
  rcases hq with ⟨hr, hz⟩ | ⟨hr, hz⟩
  · rw [hz] at hL hf ⊢
    have hx := (hexes_iff hf).mp ⟨by omega, hF⟩
    subst hr
    rw [hf]
    refine ⟨?_, ?_⟩
    · have hx' : hexes 4 q = true := hx
      simp [tok, simp?, hx']
    · have hx' : hexes 4 q = true := hx
      simp only [okAt, if_true, hx', Bool.not_true, Bool.false_or, Bool.or_eq_true, beq_iff_eq] at ho
      rcases ho with h | h
      · exact .inl h
      · exact .inr (.inl h)
  · rw [hz] at hL hf ⊢
    have hx := (hexes_iff hf).mp ⟨by omega, hF⟩
    subst hr
    rw [hf]
    refine ⟨?_, ?_⟩
    · have hx' : hexes 8 q = true := hx
      simp [tok, simp?, hx']
    · have hx' : hexes 8 q = true := hx
      simp [okAt, hx'] at ho
      rcases ho with h | h
      · exact .inr (.inr (.inl h))
      · exact .inr (.inr (.inr h))
theorem stepB {X due : Str} {k : Int} (hI : Inv X due k) (hk : k < X.length) (hS : (Txt.item X k == Str.ofString "\\") = true) (hZ : 0 < sizeOf (bhd X k))
    (hL : ((fgs X k).length : Int) = sizeOf (bhd X k)) (hF : hexAll (fgs X k) = true) : Inv X (due ++ ⟨#[figs (fgs X k).cps.toList]⟩) (k + 2 + sizeOf (bhd X k)) := by
  obtain ⟨r, a, ht, _⟩ := tokB hI hk hS hZ hL hF
  have h0 := hI.lo
  have hp := tok_pos ht
  have hl := a.len
  simp only [List.length_cons] at hp
  have e : k + 2 + sizeOf (bhd X k) = k + (((sizeOf (bhd X k)).toNat + 2 : Nat) : Int) := by omega
  rw [e]
  refine next hI (by omega) (by omega) rfl ?_
  rw [a.eq, dec_tok ht, a.rest ((sizeOf (bhd X k)).toNat + 1)]
  rfl
theorem stepC {X due : Str} {k : Int} (hI : Inv X due k) (hk : k < X.length) (hn : ∀ c r, At X k c r → tok (c :: r) = none) : Inv X (due ++ Txt.item X k) (k + 1) := by
  obtain ⟨c, r, a⟩ := at_ hI hk
  have h0 := hI.lo
  have hl := a.len
  rw [a.item]
  refine next (n := 1) hI (by omega) (by decide) rfl ?_
  rw [a.eq, dec_none (hn c r a), a.rest 0]
  rfl
theorem stepC1 {X due : Str} {k : Int} (hI : Inv X due k) (hk : k < X.length) (hS : (Txt.item X k == Str.ofString "\\") = false) : Inv X (due ++ Txt.item X k) (k + 1) :=
  stepC hI hk fun _ _ a => tok_not92 (sign_not a hS)
theorem simp_none {X : Str} {k : Int} {c d : Nat} {r : List Nat} (a : At X k c (d :: r)) (hM : (meant? (bhd X k)).isSome = false) : simp? d = none := by
  unfold meant? at hM
  rw [a.bh] at hM
  simpa using hM
theorem stepC2 {X due : Str} {k : Int} (hI : Inv X due k) (hk : k < X.length) (hM : (meant? (bhd X k)).isSome = false) (hZ : ¬ 0 < sizeOf (bhd X k)) : Inv X (due ++ Txt.item X k) (k + 1) :=
  stepC hI hk fun c r a => by
    by_cases hc : c = 92
    · subst hc
      cases r with
      | nil => rfl
      | cons d q =>
        have hs := simp_none a hM
        have hb := a.bh
        have h1 : d ≠ 117 := fun e => hZ (by unfold sizeOf; rw [hb, e]; simp)
        have h2 : d ≠ 85 := fun e => hZ (by unfold sizeOf; rw [hb, e]; simp)
        simp [tok, hs, h1, h2]
    · exact tok_not92 hc
theorem stepC3 {X due : Str} {k : Int} (hI : Inv X due k) (hk : k < X.length) (hM : (meant? (bhd X k)).isSome = false) (hZ : 0 < sizeOf (bhd X k))
    (hH : ¬ (((fgs X k).length : Int) = sizeOf (bhd X k) ∧ hexAll (fgs X k) = true)) : Inv X (due ++ Txt.item X k) (k + 1) :=
  stepC hI hk fun c r a => by
    by_cases hc : c = 92
    · subst hc
      obtain ⟨q, hq, hf⟩ := bh_u a hZ
      rcases hq with ⟨hr, hz⟩ | ⟨hr, hz⟩
      · subst hr
        have hs := simp_none a hM
        rw [hz] at hf hH
        have hx : ¬ hexes 4 q = true := fun h => hH (by
          have := (hexes_iff hf).mpr h
          exact ⟨by have := this.1; omega, this.2⟩)
        simp [tok, hs, hx]
      · subst hr
        have hs := simp_none a hM
        rw [hz] at hf hH
        have hx : ¬ hexes 8 q = true := fun h => hH (by
          have := (hexes_iff hf).mpr h
          exact ⟨by have := this.1; omega, this.2⟩)
        simp [tok, hs, hx]
    · exact tok_not92 hc
theorem Inv.start {X : Str} (h : Good X) : Inv X (Str.ofString "") 0 := ⟨Int.le_refl _, by omega, h, by decide, by
  have e : (Str.ofString "").cps = #[] := by decide
  rw [e]; rfl⟩
theorem Inv.done {X due : Str} {k : Int} (h : Inv X due k) (hk : ¬ k < X.length) : due.cps.toList = dec X.cps.toList := by
  have := h.eq
  have hn : X.cps.toList.length = X.length := by simp [Str.length]
  rw [List.drop_eq_nil_of_le (by omega), dec_nil, List.append_nil] at this
  exact this
section
variable {prog : Program} {w : World} {A : Around} {E : Value → Shared → Prop} {s : Shared} {x y : Str} {t u : Tok} {Q : Value → Shared → Prop}
theorem chr_figs {n : Nat} (hn : n ≤ 1114111) (h : Q (.str ⟨#[n]⟩ s.toks) { s with toks := s.toks + 1 }) : wpAny (model prog w) A (call (.builtin "chr") [.int (n : Int) t]) Q E s :=
  chr_of_range (by omega) (by omega) h
theorem meant_len {b : Str} (h : meant? b = some y) : y.length = 1 := by
  unfold meant? at h
  split at h
  · simp only [Option.map_eq_some_iff] at h
    obtain ⟨d, _, rfl⟩ := h
    rfl
  · cases h
theorem add_due {X due : Str} {k : Int} (hI : Inv X due k) (hk : k < X.length) (hy : y.length = 1) (h : ∀ t' k, Q (.str (due ++ y) t') { s with toks := k }) : wpAny (model prog w) A (binaryOp .Add (.str due t) (.str y u)) Q E s := by
  have h1 := hI.len
  have h2 := hI.good.len
  have h3 := hI.lo
  refine SB.add h ?_
  rw [hy, sizeLine_eq]
  omega
theorem item_len {X : Str} {k : Int} : (Txt.item X k).length = 1 := rfl
end
end Mine
namespace Mine
open PySem PySem.W PyProof.Rows PySem.Calls PyProof.V PySem.Spec
def hexI (l : List Int) : Bool := l.all fun i => isHex i.toNat
theorem hexI_nil : hexI [] = true := rfl
theorem hexI_snoc {l : List Int} {n : Nat} (h : hexI l = true) (hn : isHex n = true) : hexI (l ++ [(n : Int)]) = true := by
  unfold hexI at *
  simp [List.all_append, h, hn]
theorem hexI_codes (x : Str) : hexI (KStt.codes x) = hexAll x := by
  unfold hexI hexAll KStt.codes
  rw [List.all_map]
  rfl
theorem hex_no {x : Str} {pre post : List Int} {n : Nat} (he : KStt.codes x = pre ++ (n : Int) :: post) (hn : isHex n = false) : ¬ hexAll x = true := by
  intro h
  rw [← hexI_codes, he] at h
  unfold hexI at h
  simp [hn] at h
theorem hex_signs : ∀ c : Nat, Txt.contains (Str.ofString "0123456789abcdefABCDEF") ⟨#[c]⟩ = isHex c := by
  intro c
  have e : (Str.ofString "0123456789abcdefABCDEF").cps.toList = [48, 49, 50, 51, 52, 53, 54, 55, 56, 57, 97, 98, 99, 100, 101, 102, 65, 66, 67, 68, 69, 70] := by decide
  unfold Txt.contains
  rw [StrLaws.found_one, e, Bool.eq_iff_iff]
  simp only [decide_eq_true_eq, List.mem_cons, List.not_mem_nil, or_false, isHex, Bool.or_eq_true, Bool.and_eq_true]
  omega
section
variable {prog : Program} {w : World} {A : Around} {E : Value → Shared → Prop} {s : Shared} {c : Nat} {t u : Tok} {Q : Value → Shared → Prop}
theorem notin_hex (h : Q (.bool (!isHex c)) s) : wpAny (model prog w) A (compareOp .NotIn (.str ⟨#[c]⟩ u) (.str (Str.ofString "0123456789abcdefABCDEF") t)) Q E s :=
  SB.notContains (by rw [hex_signs]; exact h)
end
end Mine
namespace Mine
open PySem PySem.W PyProof.Rows PySem.Calls PyProof.V PySem.Spec
theorem stepC3a {X due : Str} {k : Int} (hI : Inv X due k) (hk : k < X.length) (hM : (meant? (bhd X k)).isSome = false) (hZ : 0 < sizeOf (bhd X k))
    (hL : ((fgs X k).length : Int) ≠ sizeOf (bhd X k)) : Inv X (due ++ Txt.item X k) (k + 1) := stepC3 hI hk hM hZ fun h => hL h.1
theorem stepC3b {X due : Str} {k : Int} (hI : Inv X due k) (hk : k < X.length) (hM : (meant? (bhd X k)).isSome = false) (hZ : 0 < sizeOf (bhd X k))
    (hF : hexAll (fgs X k) = false) : Inv X (due ++ Txt.item X k) (k + 1) := stepC3 hI hk hM hZ fun h => by rw [h.2] at hF; cases hF
end Mine
end

/- part: Fig -/
section
namespace Mine
open PySem PySem.W PySem.Calls PyProof.Rows
abbrev loose9 : List Str := [Str.ofString "_string_escape_map", Str.ofString "_turtle_escape_pattern", Str.ofString "_law_parts"]
local macro_rules | `(tactic| walk_at "compareOp NotIn str str") => `(tactic| (k_here; (with_reducible refine notin_hex ?_)))
local macro_rules | `(tactic| walk_at "exec For Name Name cons nil") => `(tactic| (k_here; kstt_name; (rename Fr _ _ _ _ => lF'); (with_unfolding_all refine' For_invVF lF' ?k1 ?k2 ?_; (case k1 => exact rfl); (case k2 => exact rfl); k_whole)))
local macro_rules | `(tactic| walk_at "pyIter str") => `(tactic| (k_here; (rename Fr _ _ _ _ => lF'); (rename News _ _ _ _ => lN'); (with_unfolding_all refine' KStt.kst_text (σ := Unit) (fun _ => _) (fun _ => []) (fun _ => True) [] (fun pre _ => hexI pre = true) () (by assumption) lF' lN' True.intro (List.forall_mem_nil _) hexI_nil ?_ ?_); (all_goals (try clear lF' lN')); (all_goals (intros; try k_fold))))
set_option maxHeartbeats 4000000 in
theorem fig_call {w : World} {A A₀ : Around} {E Q : Value → Shared → Prop} {s : Shared} {base h₀ : Heap} {L : Addr} {m mg mb : Str → Option Value} {env : Env} {outer : List Env} {news : List (Addr × Obj)} {mean : ExcName → Option Value} {x : Str} {t : Tok}
    (B : Below A₀ base outer h₀) (F : Fr h₀ L s.heap m) (X : (hd.heap_39 w.params).In h₀) (N : News h₀ L s.heap news) (T : Top hd.view_39 (looseW hd.view_39 loose9) mean mg mb h₀)
    (hA : A.frames = some (env :: outer)) (hf : env.frame = some L) (hke : env.scope.kind = .function) (hroom : A.depth < recursionLimit) (hh : A.handled = none)
    (h : ∀ h' tk b, Fr h₀ L h' m → News h₀ L h' news → b = hexAll x → Q (.bool b) { s with heap := h', toks := tk }) :
    wpAny (model Challenge.rw_ez0310_01.row.prog w) A (call (.ref 59) [.str x t]) Q E s := by
  revert X
  k_fill
  intro X
  refine wpAny_call ?_
  k_dflt (refine' code_def B F X N T hA hf hke ?k6 ?k7 hroom ?k9 ?kB ?_ ?c2 ?c3 ?c4 ?c5)
  case k6 => k_is
  case k7 => k_is
  case k9 => first | exact BindsTo.of_eq rfl | exact binds_K (by k_in) rfl (by k_is) rfl rfl rfl
  case c5 => decide
  case kB => exact locs rfl
  case c2 => exact rfl
  case c3 => exact rfl
  case c4 => exact rfl
  intro g' L' h' FG' F' N' B' X' T'
  dsimp only
  (try k_fold)
  have hh' : (A.deeper (envOf (Str.ofString "_law_figures") { kind := ScopeKind.function, names := [(Str.ofString "text", NameKind.local), (Str.ofString "sign", NameKind.local)], isGenerator := false, isCoroutine := false } L' 59 (Value.ref 58))).handled = none := hh
  k_steps
  · rename News _ _ _ _ => nE'
    refine kst_end () (by assumption) nE' (fun p hp => List.mem_append_left _ hp) (fun p hp => List.mem_append_right _ hp) rfl True.intro (List.forall_mem_nil _) (fun z hz _ _ => (if_neg hz).trans rfl) (hexI_snoc (by assumption) (by assumption))
  · rename Fr h₀ L _ m => kF
    rename News h₀ L _ _ => kN
    refine h _ _ _ kF (fun p hp => kN p (List.mem_append_left _ hp)) ?_
    have hn := hex_no (x := x) (by assumption) (by assumption)
    simpa using hn
  · rename Fr h₀ L _ m => kF
    rename News h₀ L _ _ => kN
    refine h _ _ _ kF kN ?_
    rw [← hexI_codes]
    exact Eq.symm (by assumption)
theorem fig_call' {w : World} {A A₀ : Around} {E Q : Value → Shared → Prop} {s : Shared} {base h₀ : Heap} {L : Addr} {m mg mb : Str → Option Value} {env : Env} {outer : List Env} {news : List (Addr × Obj)} {mean : ExcName → Option Value} {x : Str} {t : Tok}
    (B : Below A₀ base outer h₀) (F : Fr h₀ L s.heap m) (X : (hd.heap_39 w.params).In h₀) (N : News h₀ L s.heap news) (T : Top hd.view_39 (looseW hd.view_39 loose9) mean mg mb h₀)
    (hA : A.frames = some (env :: outer)) (hf : env.frame = some L) (hke : env.scope.kind = .function) (hroom : A.depth < recursionLimit) (hh : A.handled = none)
    (h : ∀ h' tk, Fr h₀ L h' m → News h₀ L h' news → Q (.bool (hexAll x)) { s with heap := h', toks := tk }) :
    wpAny (model Challenge.rw_ez0310_01.row.prog w) A (call (.ref 59) [.str x t]) Q E s :=
  fig_call B F X N T hA hf hke hroom hh fun h' tk b F' N' e => by subst e; exact h h' tk F' N'
end Mine
end

/- part: Eng -/
section
namespace Mine
open PySem
def CODE : Array Nat := #[14, 8, 1, 2, 10, 1, 1, 92, 0, 16, 92, 7, 19, 17, 0, 13, 11, 9, 0, 132, 268435456, 1327172, 0, 0, 0, 0, 0, 17, 1, 15, 55, 53, 17, 2, 7, 22, 16, 117, 24, 16, 4, 4, 13, 11, 9, 0, 67043328, 126, 126, 0, 0, 0, 0, 0, 1, 15, 24, 22, 16, 85, 24, 16, 8, 8, 13, 11, 9, 0, 67043328, 126, 126, 0, 0, 0, 0, 0, 1, 15, 2, 0, 17, 3, 15, 2, 0, 1]
theorem code_size : CODE.size = 86 := rfl
theorem c0 : CODE.getD 0 0 = 14 := rfl
theorem c1 : CODE.getD 1 0 = 8 := rfl
theorem c2 : CODE.getD 2 0 = 1 := rfl
theorem c3 : CODE.getD 3 0 = 2 := rfl
theorem c4 : CODE.getD 4 0 = 10 := rfl
theorem c5 : CODE.getD 5 0 = 1 := rfl
theorem c6 : CODE.getD 6 0 = 1 := rfl
theorem c7 : CODE.getD 7 0 = 92 := rfl
theorem c8 : CODE.getD 8 0 = 0 := rfl
theorem c9 : CODE.getD 9 0 = 16 := rfl
theorem c10 : CODE.getD 10 0 = 92 := rfl
theorem c11 : CODE.getD 11 0 = 7 := rfl
theorem c12 : CODE.getD 12 0 = 19 := rfl
theorem c13 : CODE.getD 13 0 = 17 := rfl
theorem c14 : CODE.getD 14 0 = 0 := rfl
theorem c15 : CODE.getD 15 0 = 13 := rfl
theorem c16 : CODE.getD 16 0 = 11 := rfl
theorem c17 : CODE.getD 17 0 = 9 := rfl
theorem c18 : CODE.getD 18 0 = 0 := rfl
theorem c19 : CODE.getD 19 0 = 132 := rfl
theorem c20 : CODE.getD 20 0 = 268435456 := rfl
theorem c21 : CODE.getD 21 0 = 1327172 := rfl
theorem c22 : CODE.getD 22 0 = 0 := rfl
theorem c23 : CODE.getD 23 0 = 0 := rfl
theorem c24 : CODE.getD 24 0 = 0 := rfl
theorem c25 : CODE.getD 25 0 = 0 := rfl
theorem c26 : CODE.getD 26 0 = 0 := rfl
theorem c27 : CODE.getD 27 0 = 17 := rfl
theorem c28 : CODE.getD 28 0 = 1 := rfl
theorem c29 : CODE.getD 29 0 = 15 := rfl
theorem c30 : CODE.getD 30 0 = 55 := rfl
theorem c31 : CODE.getD 31 0 = 53 := rfl
theorem c32 : CODE.getD 32 0 = 17 := rfl
theorem c33 : CODE.getD 33 0 = 2 := rfl
theorem c34 : CODE.getD 34 0 = 7 := rfl
theorem c35 : CODE.getD 35 0 = 22 := rfl
theorem c36 : CODE.getD 36 0 = 16 := rfl
theorem c37 : CODE.getD 37 0 = 117 := rfl
theorem c38 : CODE.getD 38 0 = 24 := rfl
theorem c39 : CODE.getD 39 0 = 16 := rfl
theorem c40 : CODE.getD 40 0 = 4 := rfl
theorem c41 : CODE.getD 41 0 = 4 := rfl
theorem c42 : CODE.getD 42 0 = 13 := rfl
theorem c43 : CODE.getD 43 0 = 11 := rfl
theorem c44 : CODE.getD 44 0 = 9 := rfl
theorem c45 : CODE.getD 45 0 = 0 := rfl
theorem c46 : CODE.getD 46 0 = 67043328 := rfl
theorem c47 : CODE.getD 47 0 = 126 := rfl
theorem c48 : CODE.getD 48 0 = 126 := rfl
theorem c49 : CODE.getD 49 0 = 0 := rfl
theorem c50 : CODE.getD 50 0 = 0 := rfl
theorem c51 : CODE.getD 51 0 = 0 := rfl
theorem c52 : CODE.getD 52 0 = 0 := rfl
theorem c53 : CODE.getD 53 0 = 0 := rfl
theorem c54 : CODE.getD 54 0 = 1 := rfl
theorem c55 : CODE.getD 55 0 = 15 := rfl
theorem c56 : CODE.getD 56 0 = 24 := rfl
theorem c57 : CODE.getD 57 0 = 22 := rfl
theorem c58 : CODE.getD 58 0 = 16 := rfl
theorem c59 : CODE.getD 59 0 = 85 := rfl
theorem c60 : CODE.getD 60 0 = 24 := rfl
theorem c61 : CODE.getD 61 0 = 16 := rfl
theorem c62 : CODE.getD 62 0 = 8 := rfl
theorem c63 : CODE.getD 63 0 = 8 := rfl
theorem c64 : CODE.getD 64 0 = 13 := rfl
theorem c65 : CODE.getD 65 0 = 11 := rfl
theorem c66 : CODE.getD 66 0 = 9 := rfl
theorem c67 : CODE.getD 67 0 = 0 := rfl
theorem c68 : CODE.getD 68 0 = 67043328 := rfl
theorem c69 : CODE.getD 69 0 = 126 := rfl
theorem c70 : CODE.getD 70 0 = 126 := rfl
theorem c71 : CODE.getD 71 0 = 0 := rfl
theorem c72 : CODE.getD 72 0 = 0 := rfl
theorem c73 : CODE.getD 73 0 = 0 := rfl
theorem c74 : CODE.getD 74 0 = 0 := rfl
theorem c75 : CODE.getD 75 0 = 0 := rfl
theorem c76 : CODE.getD 76 0 = 1 := rfl
theorem c77 : CODE.getD 77 0 = 15 := rfl
theorem c78 : CODE.getD 78 0 = 2 := rfl
theorem c79 : CODE.getD 79 0 = 0 := rfl
theorem c80 : CODE.getD 80 0 = 17 := rfl
theorem c81 : CODE.getD 81 0 = 3 := rfl
theorem c82 : CODE.getD 82 0 = 15 := rfl
theorem c83 : CODE.getD 83 0 = 2 := rfl
theorem c84 : CODE.getD 84 0 = 0 := rfl
theorem c85 : CODE.getD 85 0 = 1 := rfl
theorem o0 : Sre.ops[0]? = some Sre.Op.FAILURE := rfl
theorem o1 : Sre.ops[1]? = some Sre.Op.SUCCESS := rfl
theorem o7 : Sre.ops[7]? = some Sre.Op.BRANCH := rfl
theorem o9 : Sre.ops[9]? = some Sre.Op.CHARSET := rfl
theorem o13 : Sre.ops[13]? = some Sre.Op.IN := rfl
theorem o14 : Sre.ops[14]? = some Sre.Op.INFO := rfl
theorem o15 : Sre.ops[15]? = some Sre.Op.JUMP := rfl
theorem o16 : Sre.ops[16]? = some Sre.Op.LITERAL := rfl
theorem o17 : Sre.ops[17]? = some Sre.Op.MARK := rfl
theorem o24 : Sre.ops[24]? = some Sre.Op.REPEAT_ONE := rfl

def S (text : Array Nat) (lim : Nat) (must : Bool) (start pc pos handed : Nat) (outer : Bool) (mk : Array (Option Nat)) (lm li : Int) (frames : List Sre.Frame) (wt : Nat) (ans : Option Bool) (seen : Sre.Seen) : Sre.M :=
  { code := CODE, text, lim, start, lastStart := lim, mustAdvance := must, pc, pos, handed, outermost := outer, marks := mk, lastmark := lm, lastindex := li, frames, weight := wt, answer := ans, seen }
section
variable {text : Array Nat} {lim : Nat} {must : Bool} {start pc pos handed : Nat} {outer : Bool} {mk : Array (Option Nat)} {lm li : Int} {frames : List Sre.Frame} {wt : Nat} {seen : Sre.Seen}
theorem step9 : (S text lim must start 9 pos handed outer mk lm li frames wt none seen).step =
    if pos ≥ lim then S text lim must start 9 pos handed outer mk lm li frames wt (some false) (seen.add 16)
    else if text.getD pos 0 = 92 then S text lim must start 11 (pos + 1) handed outer mk lm li frames wt none (seen.add 16)
    else S text lim must start 9 pos handed outer mk lm li frames wt (some false) (seen.add 16) := by
  simp only [S, Sre.M.step, Sre.M.exec, Sre.M.word, Sre.M.say, Sre.accepts, Sre.itemWidth, Option.isSome_none, Bool.false_eq_true, if_false, code_size, Nat.add_zero, Nat.reduceAdd, Nat.reduceLT, if_true, c9, c10, o16]
  by_cases h : pos ≥ lim
  · simp only [h, if_true]
  · simp only [h, if_false]
    by_cases hc : text.getD pos 0 = 92
    · simp only [hc, beq_self_eq_true, if_true]
    · have : (text.getD pos 0 == 92) = false := by simpa using hc
      simp only [this, hc, if_false]
theorem step36 : (S text lim must start 36 pos handed outer mk lm li frames wt none seen).step =
    if pos ≥ lim then S text lim must start 36 pos handed outer mk lm li frames wt (some false) (seen.add 16)
    else if text.getD pos 0 = 117 then S text lim must start 38 (pos + 1) handed outer mk lm li frames wt none (seen.add 16)
    else S text lim must start 36 pos handed outer mk lm li frames wt (some false) (seen.add 16) := by
  simp only [S, Sre.M.step, Sre.M.exec, Sre.M.word, Sre.M.say, Option.isSome_none, Bool.false_eq_true, if_false, code_size, Nat.add_zero, Nat.reduceAdd, Nat.reduceLT, if_true, Sre.accepts, Sre.itemWidth, c36, c37, o16]
  by_cases h : pos ≥ lim
  · simp only [h, if_true]
  · simp only [h, if_false]
    by_cases hc : text.getD pos 0 = 117
    · simp only [hc, beq_self_eq_true, if_true]
    · have : (text.getD pos 0 == 117) = false := by simpa using hc
      simp only [this, hc, if_false]
theorem step58 : (S text lim must start 58 pos handed outer mk lm li frames wt none seen).step =
    if pos ≥ lim then S text lim must start 58 pos handed outer mk lm li frames wt (some false) (seen.add 16)
    else if text.getD pos 0 = 85 then S text lim must start 60 (pos + 1) handed outer mk lm li frames wt none (seen.add 16)
    else S text lim must start 58 pos handed outer mk lm li frames wt (some false) (seen.add 16) := by
  simp only [S, Sre.M.step, Sre.M.exec, Sre.M.word, Sre.M.say, Option.isSome_none, Bool.false_eq_true, if_false, code_size, Nat.add_zero, Nat.reduceAdd, Nat.reduceLT, if_true, Sre.accepts, Sre.itemWidth, c58, c59, o16]
  by_cases h : pos ≥ lim
  · simp only [h, if_true]
  · simp only [h, if_false]
    by_cases hc : text.getD pos 0 = 85
    · simp only [hc, beq_self_eq_true, if_true]
    · have : (text.getD pos 0 == 85) = false := by simpa using hc
      simp only [this, hc, if_false]
theorem step29 : (S text lim must start 29 pos handed outer mk lm li frames wt none seen).step = S text lim must start 85 pos handed outer mk lm li frames wt none (seen.add 15) := by
  simp only [S, Sre.M.step, Sre.M.exec, Sre.M.word, Sre.M.say, Option.isSome_none, Bool.false_eq_true, if_false, code_size, Nat.add_zero, Nat.reduceAdd, Nat.reduceLT, if_true, c29, c30, o15]
theorem step55 : (S text lim must start 55 pos handed outer mk lm li frames wt none seen).step = S text lim must start 80 pos handed outer mk lm li frames wt none (seen.add 15) := by
  simp only [S, Sre.M.step, Sre.M.exec, Sre.M.word, Sre.M.say, Option.isSome_none, Bool.false_eq_true, if_false, code_size, Nat.add_zero, Nat.reduceAdd, Nat.reduceLT, if_true, c55, c56, o15]
theorem step77 : (S text lim must start 77 pos handed outer mk lm li frames wt none seen).step = S text lim must start 80 pos handed outer mk lm li frames wt none (seen.add 15) := by
  simp only [S, Sre.M.step, Sre.M.exec, Sre.M.word, Sre.M.say, Option.isSome_none, Bool.false_eq_true, if_false, code_size, Nat.add_zero, Nat.reduceAdd, Nat.reduceLT, if_true, c77, c78, o15]
theorem step82 : (S text lim must start 82 pos handed outer mk lm li frames wt none seen).step = S text lim must start 85 pos handed outer mk lm li frames wt none (seen.add 15) := by
  simp only [S, Sre.M.step, Sre.M.exec, Sre.M.word, Sre.M.say, Option.isSome_none, Bool.false_eq_true, if_false, code_size, Nat.add_zero, Nat.reduceAdd, Nat.reduceLT, if_true, c82, c83, o15]
def kept (lm li : Int) : Sre.Kept := { lastmark := lm, lastindex := li, whole := false, marks := #[] }
def frB (pc pos : Nat) (outer : Bool) (lm li : Int) : Sre.Frame := { wait := .nextBranch, pc, pos, outermost := outer, kept := kept lm li }
def frG (pc pos : Nat) (outer : Bool) (n : Int) (lm li : Int) : Sre.Frame := { wait := .giveBack, pc, pos, outermost := outer, count := n, kept := kept lm li }
def fr0 (s : Nat) (outer : Bool) : Sre.Frame := { wait := .nextStart, pc := 9, pos := s, outermost := outer }
theorem roomy {wt : Nat} (h : wt ≤ 100) : ¬ (wt + 1 + 0 > 16777216) := by omega
theorem z19 : ((19 : Nat) == 0) = false := rfl
theorem z22 : ((22 : Nat) == 0) = false := rfl
theorem z53 : ((53 : Nat) == 0) = false := rfl
theorem z0 : ((0 : Nat) == 0) = true := rfl
theorem step11 (hw : wt ≤ 100) : (S text lim must start 11 pos handed outer mk lm li frames wt none seen).step =
    S text lim must start 13 pos pos outer mk lm li (frB 12 pos outer lm li :: frames) (wt + 1) none (seen.add 7) := by
  have hr := roomy hw
  simp only [S, Sre.M.step, Sre.M.exec, Sre.M.word, Sre.M.say, Option.isSome_none, Bool.false_eq_true, if_false, code_size, Nat.add_zero, Nat.reduceAdd, Nat.reduceLT, if_true, Sre.M.alternative, Sre.M.keep, Sre.M.attempt, Sre.M.frame, c11, c12, o7, frB, kept, Array.size_empty, hr, z19, z22]
theorem step34 (hw : wt ≤ 100) : (S text lim must start 34 pos handed outer mk lm li frames wt none seen).step =
    S text lim must start 36 pos pos outer mk lm li (frB 35 pos outer lm li :: frames) (wt + 1) none (seen.add 7) := by
  have hr := roomy hw
  simp only [S, Sre.M.step, Sre.M.exec, Sre.M.word, Sre.M.say, Option.isSome_none, Bool.false_eq_true, if_false, code_size, Nat.add_zero, Nat.reduceAdd, Nat.reduceLT, if_true, Sre.M.alternative, Sre.M.keep, Sre.M.attempt, Sre.M.frame, c34, c35, o7, frB, kept, Array.size_empty, hr, z19, z22]

/- marks -/
theorem step13 : (S text lim must start 13 pos handed outer mk (-1) li frames wt none seen).step =
    S text lim must start 15 pos handed outer (mk.setIfInBounds 0 (some pos)) 0 li frames wt none (seen.add 17) := by
  simp only [S, Sre.M.step, Sre.M.exec, Sre.M.word, Sre.M.say, Option.isSome_none, Bool.false_eq_true, if_false, code_size, Nat.add_zero, Nat.reduceAdd, Nat.reduceLT, if_true, Sre.M.mark, c13, c14, o17]
  rfl
theorem step27 : (S text lim must start 27 pos handed outer mk 0 li frames wt none seen).step =
    S text lim must start 29 pos handed outer (mk.setIfInBounds 1 (some pos)) 1 1 frames wt none (seen.add 17) := by
  simp only [S, Sre.M.step, Sre.M.exec, Sre.M.word, Sre.M.say, Option.isSome_none, Bool.false_eq_true, if_false, code_size, Nat.add_zero, Nat.reduceAdd, Nat.reduceLT, if_true, Sre.M.mark, c27, c28, o17]
  rfl
theorem step32 : (S text lim must start 32 pos handed outer mk (-1) li frames wt none seen).step =
    S text lim must start 34 pos handed outer (((mk.setIfInBounds 0 none).setIfInBounds 1 none).setIfInBounds 2 (some pos)) 2 li frames wt none (seen.add 17) := by
  simp only [S, Sre.M.step, Sre.M.exec, Sre.M.word, Sre.M.say, Option.isSome_none, Bool.false_eq_true, if_false, code_size, Nat.add_zero, Nat.reduceAdd, Nat.reduceLT, if_true, Sre.M.mark, c32, c33, o17]
  have e1 : max (-1 : Int) ((2 : Nat) : Int) = 2 := by decide
  have e2 : (((2 : Nat) : Int) ≤ -1 + 1) = False := by decide
  have e3 : ((2 % 2 == 1) = true) = False := by decide
  have e4 : (((0 : Nat) : Int) > -1) = True := by decide
  have e5 : (((1 : Nat) : Int) > -1) = True := by decide
  simp only [e1, e2, e3, if_false, List.range, List.range.loop, List.foldl, e4, e5, if_true]
theorem step80 : (S text lim must start 80 pos handed outer mk 2 li frames wt none seen).step =
    S text lim must start 82 pos handed outer (mk.setIfInBounds 3 (some pos)) 3 2 frames wt none (seen.add 17) := by
  simp only [S, Sre.M.step, Sre.M.exec, Sre.M.word, Sre.M.say, Option.isSome_none, Bool.false_eq_true, if_false, code_size, Nat.add_zero, Nat.reduceAdd, Nat.reduceLT, if_true, Sre.M.mark, c80, c81, o17]
  have e1 : max (2 : Int) ((3 : Nat) : Int) = 3 := by decide
  have e2 : (((3 : Nat) : Int) ≤ 2 + 1) = True := by decide
  have e3 : ((3 % 2 == 1) = true) = True := by decide
  simp only [e1, e2, e3, if_true]
  rfl
theorem step85 (hp : (pos == start) = false) : (S text lim must start 85 pos handed outer mk lm li frames wt none seen).step =
    S text lim must start 85 pos pos outer mk lm li frames wt (some true) (seen.add 1) := by
  simp only [S, Sre.M.step, Sre.M.exec, Sre.M.word, Sre.M.say, Option.isSome_none, Bool.false_eq_true, if_false, code_size, Nat.add_zero, Nat.reduceAdd, Nat.reduceLT, if_true, c85, o1, hp, Bool.false_and, Bool.and_false, Bool.or_false]
/- going back -/
theorem resG {n lm' li' : Int} {pc' pos' : Nat} {outer' : Bool} : (S text lim must start pc pos handed outer mk lm li (frG pc' pos' outer' n lm' li' :: frames) (wt + 1) (some true) seen).step =
    S text lim must start pc' pos' handed outer' mk lm li frames wt (some true) seen := by
  simp only [S, Sre.M.step, Sre.M.exec, Sre.M.word, Sre.M.say, Option.isSome_none, Bool.false_eq_true, if_false, code_size, Nat.add_zero, Nat.reduceAdd, Nat.reduceLT, if_true, Sre.M.resume, frG, kept, Array.size_empty, Nat.add_sub_cancel]
theorem resB {lm' li' : Int} {pc' pos' : Nat} {outer' : Bool} : (S text lim must start pc pos handed outer mk lm li (frB pc' pos' outer' lm' li' :: frames) (wt + 1) (some true) seen).step =
    S text lim must start pc' pos' handed outer' mk lm li frames wt (some true) seen := by
  simp only [S, Sre.M.step, Sre.M.exec, Sre.M.word, Sre.M.say, Option.isSome_none, Bool.false_eq_true, if_false, code_size, Nat.add_zero, Nat.reduceAdd, Nat.reduceLT, if_true, Sre.M.resume, frB, kept, Array.size_empty, Nat.add_sub_cancel]
theorem res0 {s : Nat} {outer' : Bool} : (S text lim must start pc pos handed outer mk lm li (fr0 s outer' :: frames) (wt + 1) (some true) seen).step =
    S text lim must start 9 s handed outer' mk lm li frames wt (some true) seen := by
  simp only [S, Sre.M.step, Sre.M.exec, Sre.M.word, Sre.M.say, Option.isSome_none, Bool.false_eq_true, if_false, code_size, Nat.add_zero, Nat.reduceAdd, Nat.reduceLT, if_true, Sre.M.resume, fr0, kept, Array.size_empty, Nat.add_sub_cancel]
theorem resF12 (hw : wt ≤ 100) {lm' li' : Int} {pos' : Nat} {outer' : Bool} : (S text lim must start pc pos handed outer mk lm li (frB 12 pos' outer' lm' li' :: frames) (wt + 1) (some false) seen).step =
    S text lim must start 32 pos' pos' outer' mk lm' li' (frB 31 pos' outer' lm' li' :: frames) (wt + 1) none seen := by
  have hr := roomy hw
  simp only [S, Sre.M.step, Sre.M.exec, Sre.M.word, Sre.M.say, Option.isSome_none, Bool.false_eq_true, if_false, code_size, Nat.add_zero, Nat.reduceAdd, Nat.reduceLT, if_true, Sre.M.resume, Sre.M.putBack, Sre.M.alternative, Sre.M.attempt, Sre.M.frame, frB, kept, Array.size_empty, Nat.add_sub_cancel, c12, c31, z53, hr]
theorem resF31 {lm' li' : Int} {pos' : Nat} {outer' : Bool} : (S text lim must start pc pos handed outer mk lm li (frB 31 pos' outer' lm' li' :: frames) (wt + 1) (some false) seen).step =
    S text lim must start 31 pos' handed outer' mk lm' li' frames wt (some false) seen := by
  simp only [S, Sre.M.step, Sre.M.exec, Sre.M.word, Sre.M.say, Option.isSome_none, Bool.false_eq_true, if_false, code_size, Nat.add_zero, Nat.reduceAdd, Nat.reduceLT, if_true, Sre.M.resume, Sre.M.putBack, Sre.M.alternative, Sre.M.attempt, Sre.M.frame, frB, kept, Array.size_empty, Nat.add_sub_cancel, c31, c84, z0]
theorem resF35 (hw : wt ≤ 100) {lm' li' : Int} {pos' : Nat} {outer' : Bool} : (S text lim must start pc pos handed outer mk lm li (frB 35 pos' outer' lm' li' :: frames) (wt + 1) (some false) seen).step =
    S text lim must start 58 pos' pos' outer' mk lm' li' (frB 57 pos' outer' lm' li' :: frames) (wt + 1) none seen := by
  have hr := roomy hw
  simp only [S, Sre.M.step, Sre.M.exec, Sre.M.word, Sre.M.say, Option.isSome_none, Bool.false_eq_true, if_false, code_size, Nat.add_zero, Nat.reduceAdd, Nat.reduceLT, if_true, Sre.M.resume, Sre.M.putBack, Sre.M.alternative, Sre.M.attempt, Sre.M.frame, frB, kept, Array.size_empty, Nat.add_sub_cancel, c35, c57, z22, hr]
theorem resF57 {lm' li' : Int} {pos' : Nat} {outer' : Bool} : (S text lim must start pc pos handed outer mk lm li (frB 57 pos' outer' lm' li' :: frames) (wt + 1) (some false) seen).step =
    S text lim must start 57 pos' handed outer' mk lm' li' frames wt (some false) seen := by
  simp only [S, Sre.M.step, Sre.M.exec, Sre.M.word, Sre.M.say, Option.isSome_none, Bool.false_eq_true, if_false, code_size, Nat.add_zero, Nat.reduceAdd, Nat.reduceLT, if_true, Sre.M.resume, Sre.M.putBack, Sre.M.alternative, Sre.M.attempt, Sre.M.frame, frB, kept, Array.size_empty, Nat.add_sub_cancel, c57, c79, z0]
theorem notFour : ((1 : Nat) == 4) = false := rfl
theorem resF0 {s : Nat} {outer' : Bool} : (S text lim must start pc pos handed outer mk lm li [fr0 s outer'] 1 (some false) seen).step =
    if s < lim then S text lim false (s + 1) 9 (s + 1) (s + 1) false mk (-1) (-1) [fr0 (s + 1) false] 1 none seen
    else S text lim must start 9 s handed outer' mk lm li [] 0 (some false) seen := by
  by_cases h : s < lim
  · simp only [S, Sre.M.step, Sre.M.exec, Sre.M.word, Sre.M.say, Option.isSome_none, Bool.false_eq_true, if_false, code_size, Nat.add_zero, Nat.reduceAdd, Nat.reduceLT, if_true, Sre.M.resume, Sre.M.attemptFrom, Sre.M.hasFirstSet, Sre.M.attemptAt, Sre.M.attempt, fr0, kept, Array.size_empty, Nat.add_sub_cancel, h, c0, c2, o14, notFour, Bool.and_false, Bool.not_false, Nat.reduceSub, Nat.reduceLeDiff, Nat.reduceGT]
  · simp only [S, Sre.M.step, Sre.M.exec, Sre.M.word, Sre.M.say, Option.isSome_none, Bool.false_eq_true, if_false, code_size, Nat.add_zero, Nat.reduceAdd, Nat.reduceLT, if_true, Sre.M.resume, fr0, kept, Array.size_empty, Nat.add_sub_cancel, h]
end
end Mine
end

/- part: Eng2 -/
section
namespace Mine
open PySem
theorem set_simple (c : Nat) : (decide (c < 256) && (CODE.getD (17 + (1 + c / 32)) 0).testBit (c % 32)) = (simp? c).isSome := by
  have h : ∀ c, c < 256 → (CODE.getD (17 + (1 + c / 32)) 0).testBit (c % 32) = (simp? c).isSome := by decide +kernel
  by_cases hc : c < 256
  · rw [decide_eq_true hc, Bool.true_and, h c hc]
  · rw [decide_eq_false hc, Bool.false_and]
    unfold simp?
    repeat (rw [if_neg (by omega)])
    rfl
theorem set_hex44 (c : Nat) : (decide (c < 256) && (CODE.getD (44 + (1 + c / 32)) 0).testBit (c % 32)) = isHex c := by
  have h : ∀ c, c < 256 → (CODE.getD (44 + (1 + c / 32)) 0).testBit (c % 32) = isHex c := by decide +kernel
  by_cases hc : c < 256
  · rw [decide_eq_true hc, Bool.true_and, h c hc]
  · rw [decide_eq_false hc, Bool.false_and]
    symm
    simp only [isHex, Bool.or_eq_false_iff, Bool.and_eq_false_imp, decide_eq_true_eq, decide_eq_false_iff_not]
    omega
theorem set_hex66 (c : Nat) : (decide (c < 256) && (CODE.getD (66 + (1 + c / 32)) 0).testBit (c % 32)) = isHex c := by
  have h : ∀ c, c < 256 → (CODE.getD (66 + (1 + c / 32)) 0).testBit (c % 32) = isHex c := by decide +kernel
  by_cases hc : c < 256
  · rw [decide_eq_true hc, Bool.true_and, h c hc]
  · rw [decide_eq_false hc, Bool.false_and]
    symm
    simp only [isHex, Bool.or_eq_false_iff, Bool.and_eq_false_imp, decide_eq_true_eq, decide_eq_false_iff_not]
    omega
theorem in17 (n c : Nat) (seen : Sre.Seen) : ∃ seen', Sre.inSet CODE c (n + 2) 17 true seen = .ok ((simp? c).isSome, seen') := by
  rw [← set_simple c]
  simp only [Sre.inSet, Nat.add_zero, c17, o9]
  cases (decide (c < 256) && (CODE.getD (17 + (1 + c / 32)) 0).testBit (c % 32)) with
  | true => exact ⟨_, rfl⟩
  | false => simp only [Bool.false_eq_true, if_false, Nat.reduceAdd, c26, o0, Bool.not_true]; exact ⟨_, rfl⟩
theorem in44 (n c : Nat) (seen : Sre.Seen) : ∃ seen', Sre.inSet CODE c (n + 2) 44 true seen = .ok (isHex c, seen') := by
  rw [← set_hex44 c]
  simp only [Sre.inSet, Nat.add_zero, c44, o9]
  cases (decide (c < 256) && (CODE.getD (44 + (1 + c / 32)) 0).testBit (c % 32)) with
  | true => exact ⟨_, rfl⟩
  | false => simp only [Bool.false_eq_true, if_false, Nat.reduceAdd, c53, o0, Bool.not_true]; exact ⟨_, rfl⟩
theorem in66 (n c : Nat) (seen : Sre.Seen) : ∃ seen', Sre.inSet CODE c (n + 2) 66 true seen = .ok (isHex c, seen') := by
  rw [← set_hex66 c]
  simp only [Sre.inSet, Nat.add_zero, c66, o9]
  cases (decide (c < 256) && (CODE.getD (66 + (1 + c / 32)) 0).testBit (c % 32)) with
  | true => exact ⟨_, rfl⟩
  | false => simp only [Bool.false_eq_true, if_false, Nat.reduceAdd, c75, o0, Bool.not_true]; exact ⟨_, rfl⟩
theorem acc15 (c : Nat) (seen : Sre.Seen) : ∃ seen', Sre.accepts CODE 15 c seen = .ok ((simp? c).isSome, seen') := by
  simp only [Sre.accepts, c15, o13, code_size]
  exact in17 84 c seen
theorem acc42 (c : Nat) (seen : Sre.Seen) : ∃ seen', Sre.accepts CODE 42 c seen = .ok (isHex c, seen') := by
  simp only [Sre.accepts, c42, o13, code_size]
  exact in44 84 c seen
theorem acc64 (c : Nat) (seen : Sre.Seen) : ∃ seen', Sre.accepts CODE 64 c seen = .ok (isHex c, seen') := by
  simp only [Sre.accepts, c64, o13, code_size]
  exact in66 84 c seen
theorem run_hex (text : Array Nat) (i : Nat) (hacc : ∀ c seen, ∃ seen', Sre.accepts CODE i c seen = .ok (isHex c, seen')) : ∀ (n p f : Nat) (seen : Sre.Seen),
    ∃ k seen', Sre.run CODE text i n p f seen = .ok (f + k, seen') ∧ k ≤ n ∧ (k = n ↔ ∀ j, j < n → isHex (text.getD (p + j) 0) = true)
  | 0, p, f, seen => ⟨0, seen, rfl, Nat.le_refl _, by simp⟩
  | n + 1, p, f, seen => by
    obtain ⟨sn, ha⟩ := hacc (text.getD p 0) seen
    cases hx : isHex (text.getD p 0) with
    | false =>
      rw [hx] at ha
      refine ⟨0, sn, ?_, Nat.zero_le _, ?_⟩
      · rw [Sre.run, ha]; rfl
      · constructor
        · intro h; omega
        · intro h
          have := h 0 (by omega)
          rw [Nat.add_zero, hx] at this
          cases this
    | true =>
      rw [hx] at ha
      obtain ⟨k, sn', hr, hk, hall⟩ := run_hex text i hacc n (p + 1) (f + 1) sn
      refine ⟨k + 1, sn', ?_, by omega, ?_⟩
      · rw [Sre.run, ha]
        show Sre.run CODE text i n (p + 1) (f + 1) sn = _
        rw [hr, show f + 1 + k = f + (k + 1) by omega]
      · constructor
        · intro h j hj
          cases j with
          | zero => exact hx
          | succ j =>
            have := hall.mp (by omega) j (by omega)
            rwa [show p + 1 + j = p + (j + 1) by omega] at this
        · intro h
          have : k = n := hall.mpr fun j hj => by
            have := h (j + 1) (by omega)
            rwa [show p + (j + 1) = p + 1 + j by omega] at this
          omega
section
variable {text : Array Nat} {lim : Nat} {must : Bool} {start pc pos handed : Nat} {outer : Bool} {mk : Array (Option Nat)} {lm li : Int} {frames : List Sre.Frame} {wt : Nat} {seen : Sre.Seen}
theorem step15 (h : pos < lim) (hs : (simp? (text.getD pos 0)).isSome = true) : ∃ seen', (S text lim must start 15 pos handed outer mk lm li frames wt none seen).step =
    S text lim must start 27 (pos + 1) handed outer mk lm li frames wt none seen' := by
  obtain ⟨sn, ha⟩ := acc15 (text.getD pos 0) (seen.add 13)
  rw [hs] at ha
  refine ⟨sn, ?_⟩
  have e1 : (pos ≥ lim) = False := eq_false (by omega)
  simp only [S, Sre.M.step, Sre.M.exec, Sre.M.word, Sre.M.say, Option.isSome_none, Bool.false_eq_true, if_false, code_size, Nat.add_zero, Nat.reduceAdd, Nat.reduceLT, if_true, c15, c16, o13, e1, ha, Sre.itemWidth]
theorem step15F (h : ¬ (pos < lim ∧ (simp? (text.getD pos 0)).isSome = true)) : ∃ seen', (S text lim must start 15 pos handed outer mk lm li frames wt none seen).step =
    S text lim must start 15 pos handed outer mk lm li frames wt (some false) seen' := by
  by_cases hl : pos < lim
  · obtain ⟨sn, ha⟩ := acc15 (text.getD pos 0) (seen.add 13)
    have hs : (simp? (text.getD pos 0)).isSome = false := by
      cases hx : (simp? (text.getD pos 0)).isSome with
      | false => rfl
      | true => exact absurd ⟨hl, hx⟩ h
    rw [hs] at ha
    refine ⟨sn, ?_⟩
    have e1 : (pos ≥ lim) = False := eq_false (by omega)
    simp only [S, Sre.M.step, Sre.M.exec, Sre.M.word, Sre.M.say, Option.isSome_none, Bool.false_eq_true, if_false, code_size, Nat.add_zero, Nat.reduceAdd, Nat.reduceLT, if_true, c15, o13, e1, ha]
  · refine ⟨seen.add 13, ?_⟩
    have e1 : (pos ≥ lim) = True := eq_true (by omega)
    simp only [S, Sre.M.step, Sre.M.exec, Sre.M.word, Sre.M.say, Option.isSome_none, Bool.false_eq_true, if_false, code_size, Nat.add_zero, Nat.reduceAdd, Nat.reduceLT, if_true, c15, o13, e1]

theorem step38 (hw : wt ≤ 100) (h : pos + 4 ≤ lim) (hx : ∀ j, j < 4 → isHex (text.getD (pos + j) 0) = true) : ∃ seen', (S text lim must start 38 pos handed outer mk lm li frames wt none seen).step =
    S text lim must start 55 (pos + 4) (pos + 4) outer mk lm li (frG 38 (pos + 4) outer 4 lm li :: frames) (wt + 1) none seen' := by
  have hr := roomy hw
  obtain ⟨k, sn, hrun, hk, hall⟩ := run_hex text 42 acc42 4 pos 0 ((seen.add 24).add 13)
  have hkn : k = 4 := hall.mpr hx
  subst hkn
  refine ⟨sn, ?_⟩
  have e1 : ((((4 : Nat) : Int) > ((lim : Int) - (pos : Int)))) = False := eq_false (by omega)
  have e2 : min 4 ((lim : Int) - (pos : Int)).toNat = 4 := by omega
  simp only [Nat.zero_add] at hrun
  simp only [S, Sre.M.step, Sre.M.exec, Sre.M.word, Sre.M.say, Option.isSome_none, Bool.false_eq_true, if_false, code_size, Nat.add_zero, Nat.reduceAdd, Nat.reduceLT, if_true, c38, c39, c40, c41, c42, o24, e1, e2, hrun, Sre.M.afterRun, Sre.M.keep, Sre.M.attempt, Sre.M.frame, Array.size_empty, hr, frG, kept, Nat.lt_irrefl]
  rfl
theorem step38F (h : ¬ (pos + 4 ≤ lim ∧ ∀ j, j < 4 → isHex (text.getD (pos + j) 0) = true)) : ∃ seen', (S text lim must start 38 pos handed outer mk lm li frames wt none seen).step =
    S text lim must start 38 pos handed outer mk lm li frames wt (some false) seen' := by
  by_cases hl : pos + 4 ≤ lim
  · obtain ⟨k, sn, hrun, hk, hall⟩ := run_hex text 42 acc42 4 pos 0 ((seen.add 24).add 13)
    have hkn : k < 4 := by
      rcases Nat.lt_or_ge k 4 with h1 | h1
      · exact h1
      · exact absurd ⟨hl, hall.mp (by omega)⟩ h
    refine ⟨sn, ?_⟩
    have e1 : ((((4 : Nat) : Int) > ((lim : Int) - (pos : Int)))) = False := eq_false (by omega)
    have e2 : min 4 ((lim : Int) - (pos : Int)).toNat = 4 := by omega
    simp only [Nat.zero_add] at hrun
    simp only [S, Sre.M.step, Sre.M.exec, Sre.M.word, Sre.M.say, Option.isSome_none, Bool.false_eq_true, if_false, code_size, Nat.add_zero, Nat.reduceAdd, Nat.reduceLT, if_true, c38, c39, c40, c41, c42, o24, e1, e2, hrun, hkn]
  · refine ⟨seen.add 24, ?_⟩
    have e1 : ((((4 : Nat) : Int) > ((lim : Int) - (pos : Int)))) = True := eq_true (by omega)
    simp only [S, Sre.M.step, Sre.M.exec, Sre.M.word, Sre.M.say, Option.isSome_none, Bool.false_eq_true, if_false, code_size, Nat.add_zero, Nat.reduceAdd, Nat.reduceLT, if_true, c38, c39, c40, c41, c42, o24, e1]

theorem step60 (hw : wt ≤ 100) (h : pos + 8 ≤ lim) (hx : ∀ j, j < 8 → isHex (text.getD (pos + j) 0) = true) : ∃ seen', (S text lim must start 60 pos handed outer mk lm li frames wt none seen).step =
    S text lim must start 77 (pos + 8) (pos + 8) outer mk lm li (frG 60 (pos + 8) outer 8 lm li :: frames) (wt + 1) none seen' := by
  have hr := roomy hw
  obtain ⟨k, sn, hrun, hk, hall⟩ := run_hex text 64 acc64 8 pos 0 ((seen.add 24).add 13)
  have hkn : k = 8 := hall.mpr hx
  subst hkn
  refine ⟨sn, ?_⟩
  have e1 : ((((8 : Nat) : Int) > ((lim : Int) - (pos : Int)))) = False := eq_false (by omega)
  have e2 : min 8 ((lim : Int) - (pos : Int)).toNat = 8 := by omega
  simp only [Nat.zero_add] at hrun
  simp only [S, Sre.M.step, Sre.M.exec, Sre.M.word, Sre.M.say, Option.isSome_none, Bool.false_eq_true, if_false, code_size, Nat.add_zero, Nat.reduceAdd, Nat.reduceLT, if_true, c60, c61, c62, c63, c64, o24, e1, e2, hrun, Sre.M.afterRun, Sre.M.keep, Sre.M.attempt, Sre.M.frame, Array.size_empty, hr, frG, kept, Nat.lt_irrefl]
  rfl
theorem step60F (h : ¬ (pos + 8 ≤ lim ∧ ∀ j, j < 8 → isHex (text.getD (pos + j) 0) = true)) : ∃ seen', (S text lim must start 60 pos handed outer mk lm li frames wt none seen).step =
    S text lim must start 60 pos handed outer mk lm li frames wt (some false) seen' := by
  by_cases hl : pos + 8 ≤ lim
  · obtain ⟨k, sn, hrun, hk, hall⟩ := run_hex text 64 acc64 8 pos 0 ((seen.add 24).add 13)
    have hkn : k < 8 := by
      rcases Nat.lt_or_ge k 8 with h1 | h1
      · exact h1
      · exact absurd ⟨hl, hall.mp (by omega)⟩ h
    refine ⟨sn, ?_⟩
    have e1 : ((((8 : Nat) : Int) > ((lim : Int) - (pos : Int)))) = False := eq_false (by omega)
    have e2 : min 8 ((lim : Int) - (pos : Int)).toNat = 8 := by omega
    simp only [Nat.zero_add] at hrun
    simp only [S, Sre.M.step, Sre.M.exec, Sre.M.word, Sre.M.say, Option.isSome_none, Bool.false_eq_true, if_false, code_size, Nat.add_zero, Nat.reduceAdd, Nat.reduceLT, if_true, c60, c61, c62, c63, c64, o24, e1, e2, hrun, hkn]
  · refine ⟨seen.add 24, ?_⟩
    have e1 : ((((8 : Nat) : Int) > ((lim : Int) - (pos : Int)))) = True := eq_true (by omega)
    simp only [S, Sre.M.step, Sre.M.exec, Sre.M.word, Sre.M.say, Option.isSome_none, Bool.false_eq_true, if_false, code_size, Nat.add_zero, Nat.reduceAdd, Nat.reduceLT, if_true, c60, c61, c62, c63, c64, o24, e1]
end
end Mine
end

/- part: Eng3 -/
section
namespace Mine
open PySem
def iter : Nat → Sre.M → Sre.M
  | 0, m => m
  | n + 1, m => iter n m.step
theorem step_done {m : Sre.M} (h : m.outcome.isSome = true) : m.step = m := by
  unfold Sre.M.step
  rw [if_pos h]
theorem iter_done {m : Sre.M} (h : m.outcome.isSome = true) : ∀ n, iter n m = m
  | 0 => rfl
  | n + 1 => by rw [iter, step_done h, iter_done h n]
theorem iter_add : ∀ (a b : Nat) (m : Sre.M), iter (a + b) m = iter b (iter a m)
  | 0, b, m => by rw [Nat.zero_add]; rfl
  | a + 1, b, m => by rw [show a + 1 + b = (a + b) + 1 by omega, iter, iter, iter_add a b]
theorem runFor_iter : ∀ (n : Nat) (m : Sre.M), m.runFor n = iter n m
  | 0, _ => rfl
  | n + 1, m => by
    rw [Sre.M.runFor, iter]
    by_cases h : m.outcome.isSome = true
    · rw [if_pos h, step_done h, iter_done h]
    · rw [if_neg h, runFor_iter n]
def Gets (n : Nat) (m : Sre.M) (P : Sre.M → Prop) : Prop := ∃ k, k ≤ n ∧ P (iter k m)
theorem Gets.head {n : Nat} {m m₁ : Sre.M} {P : Sre.M → Prop} (e : m.step = m₁) (h : Gets n m₁ P) : Gets (n + 1) m P := by
  obtain ⟨k, hk, hp⟩ := h
  exact ⟨k + 1, by omega, by rw [iter, e]; exact hp⟩
theorem Gets.done {n : Nat} {m : Sre.M} {P : Sre.M → Prop} (h : P m) : Gets n m P := ⟨0, Nat.zero_le _, h⟩
theorem Gets.trans {a b : Nat} {m : Sre.M} {P R : Sre.M → Prop} (h : Gets a m P) (hr : ∀ m', P m' → Gets b m' R) : Gets (a + b) m R := by
  obtain ⟨k, hk, hp⟩ := h
  obtain ⟨j, hj, hq⟩ := hr _ hp
  exact ⟨k + j, by omega, by rw [iter_add]; exact hq⟩
theorem Gets.le {a b : Nat} {m : Sre.M} {P : Sre.M → Prop} (h : Gets a m P) (hab : a ≤ b) : Gets b m P := by
  obtain ⟨k, hk, hp⟩ := h
  exact ⟨k, by omega, hp⟩

theorem drop_cons {text : Array Nat} {s c : Nat} {r : List Nat} (h : text.toList.drop s = c :: r) : s < text.size ∧ text.getD s 0 = c ∧ text.toList.drop (s + 1) = r := by
  have hs : s < text.toList.length := by
    rcases Nat.lt_or_ge s text.toList.length with h1 | h1
    · exact h1
    · rw [List.drop_eq_nil_of_le h1] at h; cases h
  rw [List.drop_eq_getElem_cons hs] at h
  injection h with h1 h2
  have hs' : s < text.size := by simpa using hs
  refine ⟨hs', ?_, h2⟩
  rw [← h1]
  simp [Array.getD, hs']
theorem hexes_at (text : Array Nat) (p n : Nat) : hexes n (text.toList.drop p) = true ↔ (p + n ≤ text.size ∨ n = 0) ∧ ∀ j, j < n → isHex (text.getD (p + j) 0) = true := by
  unfold hexes
  rw [Bool.and_eq_true, beq_iff_eq, List.all_eq_true, List.length_take, List.length_drop, Array.length_toList]
  constructor
  · rintro ⟨h1, h2⟩
    refine ⟨by omega, fun j hj => h2 _ ?_⟩
    have hp : p + j < text.size := by omega
    have e : text.getD (p + j) 0 = text.toList[p + j]'(by simpa using hp) := by simp [Array.getD, hp]
    rw [e, List.mem_take_iff_getElem]
    exact ⟨j, by rw [List.length_drop, Array.length_toList]; omega, by rw [List.getElem_drop]⟩
  · rintro ⟨h1, h2⟩
    refine ⟨by omega, fun c hc => ?_⟩
    rw [List.mem_take_iff_getElem] at hc
    obtain ⟨j, hj, rfl⟩ := hc
    rw [List.length_drop, Array.length_toList] at hj
    have hp : p + j < text.size := by omega
    have := h2 j (by omega)
    have e : text.getD (p + j) 0 = text.toList[p + j]'(by simpa using hp) := by simp [Array.getD, hp]
    rw [e] at this
    rw [List.getElem_drop]
    exact this

structure Hit (s n : Nat) (simple : Bool) (m : Sre.M) : Prop where
  out : m.outcome = some .matched
  start : m.start = s
  handed : m.handed = s + n
  last : m.lastmark = if simple then 1 else 3
  one : simple = true → m.marks.getD 0 none = some (s + 1) ∧ m.marks.getD 1 none = some (s + 2)
  two : simple = false → m.marks.getD 0 none = none ∧ m.marks.getD 2 none = some (s + 1) ∧ m.marks.getD 3 none = some (s + n)
abbrev att (text : Array Nat) (must : Bool) (s : Nat) (first : Bool) (mk : Array (Option Nat)) (seen : Sre.Seen) : Sre.M :=
  S text text.size must s 9 s s first mk (-1) (-1) [fr0 s first] 1 none seen
section
variable {text : Array Nat} {must : Bool} {s : Nat} {first : Bool} {mk : Array (Option Nat)} {seen : Sre.Seen} {P : Sre.M → Prop}
theorem last_yes {lim start pc pos handed : Nat} {outer : Bool} {lm li : Int} {wt : Nat} : (S text lim must start pc pos handed outer mk lm li [] wt (some true) seen).step = { S text lim must start pc pos handed outer mk lm li [] wt (some true) seen with outcome := some .matched } := rfl
theorem last_no {lim start pc pos handed : Nat} {outer : Bool} {lm li : Int} {wt : Nat} : (S text lim must start pc pos handed outer mk lm li [] wt (some false) seen).step = { S text lim must start pc pos handed outer mk lm li [] wt (some false) seen with outcome := some .failed } := rfl
/- the first three steps, a backslash -/
theorem at_slash (h : s < text.size) (hc : text.getD s 0 = 92) (k : Nat)
    (hn : ∀ seen', Gets k (S text text.size must s 15 (s + 1) (s + 1) first (mk.setIfInBounds 0 (some (s + 1))) 0 (-1) [frB 12 (s + 1) first (-1) (-1), fr0 s first] 2 none seen') P) : Gets (k + 3) (att text must s first mk seen) P := by
  refine Gets.head (step9.trans (by rw [if_neg (by omega), if_pos hc])) ?_
  refine Gets.head (step11 (by decide)) ?_
  exact Gets.head step13 (hn _)
theorem to_second (k : Nat) (hn : ∀ seen', Gets k (S text text.size must s 36 (s + 1) (s + 1) first ((((mk.setIfInBounds 0 (some (s + 1))).setIfInBounds 0 none).setIfInBounds 1 none).setIfInBounds 2 (some (s + 1))) 2 (-1)
      [frB 35 (s + 1) first 2 (-1), frB 31 (s + 1) first (-1) (-1), fr0 s first] 3 none seen') P)
    (hs : ¬ (s + 1 < text.size ∧ (simp? (text.getD (s + 1) 0)).isSome = true)) :
    Gets (k + 4) (S text text.size must s 15 (s + 1) (s + 1) first (mk.setIfInBounds 0 (some (s + 1))) 0 (-1) [frB 12 (s + 1) first (-1) (-1), fr0 s first] 2 none seen) P := by
  obtain ⟨sn, e⟩ := step15F (text := text) (lim := text.size) (must := must) (start := s) (pos := s + 1) (handed := s + 1) (outer := first) (mk := mk.setIfInBounds 0 (some (s + 1))) (lm := 0) (li := -1) (frames := [frB 12 (s + 1) first (-1) (-1), fr0 s first]) (wt := 2) (seen := seen) hs
  refine Gets.head e ?_
  refine Gets.head (resF12 (wt := 1) (by decide)) ?_
  refine Gets.head step32 ?_
  exact Gets.head (step34 (by decide)) (hn _)
end
end Mine
end

/- part: Eng4 -/
section
namespace Mine
open PySem
section
variable {text : Array Nat} {must : Bool} {s : Nat} {first : Bool} {mk : Array (Option Nat)} {seen : Sre.Seen} {P : Sre.M → Prop}
abbrev mk2 (mk : Array (Option Nat)) (s : Nat) : Array (Option Nat) := (((mk.setIfInBounds 0 (some (s + 1))).setIfInBounds 0 none).setIfInBounds 1 none).setIfInBounds 2 (some (s + 1))
theorem mk2_size (h : mk.size = 4) : (mk2 mk s).size = 4 := by simp [mk2, h]
theorem simple_hit (h1 : s + 1 < text.size) (hs : (simp? (text.getD (s + 1) 0)).isSome = true) (hm : mk.size = 4) :
    Gets 7 (S text text.size must s 15 (s + 1) (s + 1) first (mk.setIfInBounds 0 (some (s + 1))) 0 (-1) [frB 12 (s + 1) first (-1) (-1), fr0 s first] 2 none seen) (Hit s 2 true) := by
  obtain ⟨sn, e⟩ := step15 (text := text) (lim := text.size) (must := must) (start := s) (pos := s + 1) (handed := s + 1) (outer := first) (mk := mk.setIfInBounds 0 (some (s + 1))) (lm := 0) (li := -1) (frames := [frB 12 (s + 1) first (-1) (-1), fr0 s first]) (wt := 2) (seen := seen) h1 hs
  refine Gets.head e ?_
  refine Gets.head step27 ?_
  refine Gets.head step29 ?_
  refine Gets.head (step85 (by simp; omega)) ?_
  refine Gets.head (resB (wt := 1)) ?_
  refine Gets.head (res0 (wt := 0)) ?_
  refine Gets.head last_yes (Gets.done ⟨rfl, rfl, rfl, rfl, fun _ => ?_, fun h => by cases h⟩)
  simp [S, hm, Array.getD_eq_getD_getElem?]
/- behind u or U and the figures, all is yes -/
theorem tail_hit {pc pcB p n : Nat} {nn : Int} {lm' : Int} (hn : p = s + n) (h0 : 0 < n) (hm : mk.size = 4) :
    Gets 8 (S text text.size must s 80 p p first (mk2 mk s) 2 (-1) [frG pc p first nn 2 (-1), frB pcB (s + 1) first lm' (-1), frB 31 (s + 1) first (-1) (-1), fr0 s first] 4 none seen) (Hit s n false) := by
  subst hn
  refine Gets.head step80 ?_
  refine Gets.head step82 ?_
  refine Gets.head (step85 (by simp; omega)) ?_
  refine Gets.head (resG (wt := 3)) ?_
  refine Gets.head (resB (wt := 2)) ?_
  refine Gets.head (resB (wt := 1)) ?_
  refine Gets.head (res0 (wt := 0)) ?_
  refine Gets.head last_yes (Gets.done ⟨rfl, rfl, rfl, rfl, fun h => by (cases h), fun _ => ?_⟩)
  simp [S, hm, mk2, Array.getD_eq_getD_getElem?]
theorem u_hit (h1 : s + 1 < text.size) (hc : text.getD (s + 1) 0 = 117) (hx : hexes 4 (text.toList.drop (s + 2)) = true) (hm : mk.size = 4) :
    Gets 11 (S text text.size must s 36 (s + 1) (s + 1) first (mk2 mk s) 2 (-1) [frB 35 (s + 1) first 2 (-1), frB 31 (s + 1) first (-1) (-1), fr0 s first] 3 none seen) (Hit s 6 false) := by
  have hx := (hexes_at text (s + 2) 4).mp hx
  refine Gets.head (step36.trans (by rw [if_neg (by omega), if_pos hc])) ?_
  obtain ⟨sn, e⟩ := step38 (text := text) (lim := text.size) (must := must) (start := s) (pos := s + 1 + 1) (handed := s + 1) (outer := first) (mk := mk2 mk s) (lm := 2) (li := -1)
    (frames := [frB 35 (s + 1) first 2 (-1), frB 31 (s + 1) first (-1) (-1), fr0 s first]) (wt := 3) (seen := seen.add 16) (by decide) (by omega) hx.2
  refine Gets.head e ?_
  refine Gets.head step55 ?_
  exact tail_hit (by omega) (by decide) hm
theorem U_hit (h1 : s + 1 < text.size) (hc : text.getD (s + 1) 0 = 85) (hx : hexes 8 (text.toList.drop (s + 2)) = true) (hm : mk.size = 4) :
    Gets 13 (S text text.size must s 36 (s + 1) (s + 1) first (mk2 mk s) 2 (-1) [frB 35 (s + 1) first 2 (-1), frB 31 (s + 1) first (-1) (-1), fr0 s first] 3 none seen) (Hit s 10 false) := by
  have hx := (hexes_at text (s + 2) 8).mp hx
  refine Gets.head (step36.trans (by rw [if_neg (by omega), if_neg (by omega)])) ?_
  refine Gets.head (resF35 (wt := 2) (by decide)) ?_
  refine Gets.head (step58.trans (by rw [if_neg (by omega), if_pos hc])) ?_
  obtain ⟨sn, e⟩ := step60 (text := text) (lim := text.size) (must := must) (start := s) (pos := s + 1 + 1) (handed := s + 1) (outer := first) (mk := mk2 mk s) (lm := 2) (li := -1)
    (frames := [frB 57 (s + 1) first 2 (-1), frB 31 (s + 1) first (-1) (-1), fr0 s first]) (wt := 3) (seen := (seen.add 16).add 16) (by decide) (by omega) hx.2
  refine Gets.head e ?_
  refine Gets.head step77 ?_
  exact tail_hit (by omega) (by decide) hm
/- nothing at s: on to the next place -/
def Next (text : Array Nat) (s : Nat) (m : Sre.M) : Prop :=
  if s < text.size then ∃ mk' seen', mk'.size = 4 ∧ m = att text false (s + 1) false mk' seen' else m.outcome = some .failed
theorem next_no {pc pos handed : Nat} {outer : Bool} {lm li : Int} (hm : mk.size = 4) :
    Gets 2 (S text text.size must s pc pos handed outer mk lm li [fr0 s first] 1 (some false) seen) (Next text s) := by
  refine Gets.head resF0 ?_
  by_cases h : s < text.size
  · rw [if_pos h]
    exact Gets.done (by unfold Next; rw [if_pos h]; exact ⟨mk, seen, hm, rfl⟩)
  · rw [if_neg h]
    refine Gets.head last_no (Gets.done ?_)
    unfold Next
    rw [if_neg h]
theorem both_no {pc pos handed : Nat} {outer : Bool} {lm li : Int} {posB : Nat} (hm : mk.size = 4) :
    Gets 4 (S text text.size must s pc pos handed outer mk lm li [frB 57 posB first 2 (-1), frB 31 posB first (-1) (-1), fr0 s first] 3 (some false) seen) (Next text s) := by
  refine Gets.head (resF57 (wt := 2)) ?_
  refine Gets.head (resF31 (wt := 1)) ?_
  exact next_no hm
theorem second_no (hu : ¬ (s + 1 < text.size ∧ text.getD (s + 1) 0 = 117 ∧ hexes 4 (text.toList.drop (s + 2)) = true))
    (hU : ¬ (s + 1 < text.size ∧ text.getD (s + 1) 0 = 85 ∧ hexes 8 (text.toList.drop (s + 2)) = true)) (hm : mk.size = 4) :
    Gets 9 (S text text.size must s 36 (s + 1) (s + 1) first mk 2 (-1) [frB 35 (s + 1) first 2 (-1), frB 31 (s + 1) first (-1) (-1), fr0 s first] 3 none seen) (Next text s) := by
  have second : ∀ (seen : Sre.Seen) (pc p hd : Nat) (lm li : Int), Gets 7 (S text text.size must s pc p hd first mk lm li [frB 35 (s + 1) first 2 (-1), frB 31 (s + 1) first (-1) (-1), fr0 s first] 3 (some false) seen) (Next text s) := by
    intro seen pc p hd lm li
    refine Gets.head (resF35 (wt := 2) (by decide)) ?_
    by_cases h1 : s + 1 < text.size
    · by_cases hc : text.getD (s + 1) 0 = 85
      · refine Gets.head (step58.trans (by rw [if_neg (by omega), if_pos hc])) ?_
        obtain ⟨sn, e⟩ := step60F (text := text) (lim := text.size) (must := must) (start := s) (pos := s + 1 + 1) (handed := s + 1) (outer := first) (mk := mk) (lm := 2) (li := -1)
          (frames := [frB 57 (s + 1) first 2 (-1), frB 31 (s + 1) first (-1) (-1), fr0 s first]) (wt := 3) (seen := seen.add 16)
          (fun h => hU ⟨h1, hc, (hexes_at text (s + 2) 8).mpr ⟨.inl (by omega), h.2⟩⟩)
        exact Gets.head e (both_no hm)
      · exact (Gets.head (step58.trans (by rw [if_neg (by omega), if_neg hc])) (both_no hm)).le (by decide)
    · exact (Gets.head (step58.trans (by rw [if_pos (by omega)])) (both_no hm)).le (by decide)
  by_cases h1 : s + 1 < text.size
  · by_cases hc : text.getD (s + 1) 0 = 117
    · refine Gets.head (step36.trans (by rw [if_neg (by omega), if_pos hc])) ?_
      obtain ⟨sn, e⟩ := step38F (text := text) (lim := text.size) (must := must) (start := s) (pos := s + 1 + 1) (handed := s + 1) (outer := first) (mk := mk) (lm := 2) (li := -1)
        (frames := [frB 35 (s + 1) first 2 (-1), frB 31 (s + 1) first (-1) (-1), fr0 s first]) (wt := 3) (seen := seen.add 16)
        (fun h => hu ⟨h1, hc, (hexes_at text (s + 2) 4).mpr ⟨.inl (by omega), h.2⟩⟩)
      exact Gets.head e (second _ _ _ _ _ _)
    · exact (Gets.head (step36.trans (by rw [if_neg (by omega), if_neg hc])) (second _ _ _ _ _ _)).le (by decide)
  · exact (Gets.head (step36.trans (by rw [if_pos (by omega)])) (second _ _ _ _ _ _)).le (by decide)

def hitOf (text : Array Nat) (s : Nat) : Bool := (simp? (text.getD (s + 1) 0)).isSome
theorem attempt (hm : mk.size = 4) : Gets 30 (att text must s first mk seen) (fun m => match tok (text.toList.drop s) with | some (_, n) => Hit s n (hitOf text s) m ∧ (hitOf text s = true → n = 2) | none => Next text s m) := by
  cases hd : text.toList.drop s with
  | nil =>
    have hs : ¬ s < text.size := fun h => by
      have := congrArg List.length hd
      rw [List.length_drop, Array.length_toList, List.length_nil] at this
      omega
    exact (Gets.head (step9.trans (by rw [if_pos (by omega)])) (next_no hm)).le (by decide)
  | cons c r =>
    obtain ⟨hs, hc, hr⟩ := drop_cons hd
    by_cases h92 : c = 92
    · subst h92
      have hh : Gets (27 + 3) (att text must s first mk seen) (fun m => match tok (92 :: r) with | some (_, n) => Hit s n (hitOf text s) m ∧ (hitOf text s = true → n = 2) | none => Next text s m) := by
        refine at_slash hs hc 27 fun sn => ?_
        have hm1 : (mk.setIfInBounds 0 (some (s + 1))).size = 4 := by simp [hm]
        cases r with
        | nil =>
          have h1 : ¬ s + 1 < text.size := fun h => by
            have := congrArg List.length hr
            rw [List.length_drop, Array.length_toList, List.length_nil] at this
            omega
          refine (to_second 9 (fun sn => ?_) (fun h => h1 h.1)).le (by decide)
          exact second_no (fun h => h1 h.1) (fun h => h1 h.1) (mk2_size hm)
        | cons d q =>
          obtain ⟨h1, hd1, hq⟩ := drop_cons hr
          cases hsm : simp? d with
          | some e =>
            have hsm' : (simp? (text.getD (s + 1) 0)).isSome = true := by rw [hd1, hsm]; rfl
            have ht : tok (92 :: d :: q) = some (e, 2) := by simp [tok, hsm]
            rw [ht]
            have hh : hitOf text s = true := hsm'
            rw [hh]
            obtain ⟨k, hk, hp⟩ := simple_hit (must := must) (first := first) (seen := sn) h1 hsm' hm
            exact ⟨k, by omega, hp, fun _ => rfl⟩
          | none =>
            have hsm' : ¬ (s + 1 < text.size ∧ (simp? (text.getD (s + 1) 0)).isSome = true) := by rw [hd1, hsm]; simp
            have hh : hitOf text s = false := by unfold hitOf; rw [hd1, hsm]; rfl
            rw [hh]
            refine (to_second 13 (fun sn => ?_) hsm').le (by decide)
            by_cases hu : d = 117 ∧ hexes 4 q = true
            · have ht : tok (92 :: d :: q) = some (figs (q.take 4), 6) := by
                simp only [tok, hsm]
                rw [if_pos hu]
              rw [ht]
              obtain ⟨k, hk, hp⟩ := u_hit (must := must) (first := first) (seen := sn) h1 (hd1.trans hu.1) (by rw [hq]; exact hu.2) hm
              exact ⟨k, by omega, hp, fun h => by cases h⟩
            · by_cases hU : d = 85 ∧ hexes 8 q = true
              · have ht : tok (92 :: d :: q) = some (figs (q.take 8), 10) := by
                  have : ¬ (d = 117 ∧ hexes 4 q = true) := hu
                  simp only [tok, hsm]
                  rw [if_neg this, if_pos hU]
                rw [ht]
                obtain ⟨k, hk, hp⟩ := U_hit (must := must) (first := first) (seen := sn) h1 (hd1.trans hU.1) (by rw [hq]; exact hU.2) hm
                exact ⟨k, by omega, hp, fun h => by cases h⟩
              · have ht : tok (92 :: d :: q) = none := by
                  simp only [tok, hsm]
                  rw [if_neg hu, if_neg hU]
                rw [ht]
                exact (second_no (fun h => hu ⟨hd1 ▸ h.2.1, hq ▸ h.2.2⟩) (fun h => hU ⟨hd1 ▸ h.2.1, hq ▸ h.2.2⟩) (mk2_size hm)).le (by decide)
      exact hh
    · rw [tok_not92 h92]
      exact (Gets.head (step9.trans (by rw [if_neg (by omega), if_neg (by omega)])) (next_no hm)).le (by decide)
end
end Mine
end

/- part: Eng5 -/
section
namespace Mine
open PySem
def Found (text : Array Nat) (s : Nat) (m : Sre.M) : Prop :=
  (∃ p d n, s ≤ p ∧ tok (text.toList.drop p) = some (d, n) ∧ (∀ i, s ≤ i → i < p → tok (text.toList.drop i) = none) ∧ Hit p n (hitOf text p) m ∧ (hitOf text p = true → n = 2)) ∨
  ((∀ i, s ≤ i → tok (text.toList.drop i) = none) ∧ m.outcome = some .failed)
theorem search (text : Array Nat) : ∀ (j s : Nat) (must first : Bool) (mk : Array (Option Nat)) (seen : Sre.Seen), text.size - s = j → mk.size = 4 → Gets (30 * (j + 1)) (att text must s first mk seen) (Found text s) := by
  intro j
  induction j with
  | zero =>
    intro s must first mk seen hj hm
    refine (Gets.trans (attempt (must := must) (first := first) (seen := seen) hm) (b := 0) fun m h => Gets.done ?_).le (by omega)
    cases ht : tok (text.toList.drop s) with
    | some x =>
      obtain ⟨d, n⟩ := x
      rw [ht] at h
      exact .inl ⟨s, d, n, Nat.le_refl _, ht, fun i h1 h2 => by omega, h⟩
    | none =>
      rw [ht] at h
      have h : Next text s m := h
      unfold Next at h
      rw [if_neg (by omega)] at h
      refine .inr ⟨fun i hi => ?_, h⟩
      rcases Nat.lt_or_ge s i with h1 | h1
      · rw [List.drop_eq_nil_of_le (by rw [Array.length_toList]; omega)]; rfl
      · rw [show i = s by omega]; exact ht
  | succ j ih =>
    intro s must first mk seen hj hm
    have key := attempt (text := text) (s := s) (must := must) (first := first) (seen := seen) hm
    refine (Gets.trans key (b := 30 * (j + 1)) fun m h => ?_).le (by omega)
    cases ht : tok (text.toList.drop s) with
    | some x =>
      obtain ⟨d, n⟩ := x
      rw [ht] at h
      exact Gets.done (.inl ⟨s, d, n, Nat.le_refl _, ht, fun i h1 h2 => by omega, h⟩)
    | none =>
      rw [ht] at h
      have h : Next text s m := h
      unfold Next at h
      rw [if_pos (by omega)] at h
      obtain ⟨mk', seen', hm', rfl⟩ := h
      obtain ⟨k, hk, hp⟩ := ih (s + 1) false false mk' seen' (by omega) hm'
      refine ⟨k, hk, ?_⟩
      rcases hp with ⟨p, d, n, h1, h2, h3, h4⟩ | ⟨h1, h2⟩
      · refine .inl ⟨p, d, n, by omega, h2, fun i hi hip => ?_, h4⟩
        rcases Nat.lt_or_ge s i with h | h
        · exact h3 i (by omega) hip
        · rw [show i = s by omega]; exact ht
      · refine .inr ⟨fun i hi => ?_, h2⟩
        rcases Nat.lt_or_ge s i with h | h
        · exact h1 i (by omega)
        · rw [show i = s by omega]; exact ht
theorem forSearch_eq (text : Array Nat) (s : Nat) (must : Bool) (h : s + 2 ≤ text.size) :
    Sre.forSearch CODE text 2 s text.size must = att text must s true (Array.replicate 4 none) (({} : Sre.Seen).add 14) := by
  unfold Sre.forSearch
  have e : (decide (s > text.size) || decide (text.size - s < (Sre.header CODE).1)) = false := by
    rw [show (Sre.header CODE).1 = 2 from rfl]
    simp only [Bool.or_eq_false_iff, decide_eq_false_iff_not]
    omega
  simp only [e, Bool.false_eq_true, if_false]
  rfl
theorem found (text : Array Nat) (s : Nat) (must : Bool) (hs : s ≤ text.size) : Gets (30 * (text.size - s + 1)) (Sre.forSearch CODE text 2 s text.size must) (Found text s) := by
  by_cases h : s + 2 ≤ text.size
  · rw [forSearch_eq text s must h]
    exact search text _ s must true _ _ rfl (by simp)
  · have e : (decide (s > text.size) || decide (text.size - s < (Sre.header CODE).1)) = true := by
      rw [show (Sre.header CODE).1 = 2 from rfl]
      simp only [Bool.or_eq_true, decide_eq_true_eq]
      omega
    refine ⟨1, by omega, .inr ⟨fun i hi => ?_, ?_⟩⟩
    · cases ht : tok (text.toList.drop i) with
      | none => rfl
      | some x =>
        obtain ⟨d, n⟩ := x
        have := tok_pos ht
        rw [List.length_drop, Array.length_toList] at this
        omega
    · unfold Sre.forSearch
      simp only [e, if_true]
      rfl
/- the driver -/
theorem wpAny_drive {M : Model} {A : Around} {E : Value → Shared → Prop} {s : Shared} {Q : Sre.M → Shared → Prop} : ∀ (t : Nat) (n : Nat) (m : Sre.M), n ≤ 4 * t → 0 < t → (iter n m).outcome.isSome = true → Q (iter n m) s →
    wpAny M A (Builtin.Re.reDrive t m) Q E s
  | 0, _, _, _, h0, _, _ => absurd h0 (by decide)
  | t + 1, n, m, hn, _, ho, hq => by
    unfold Builtin.Re.reDrive
    show wpAny M A (if (m.runFor 4).outcome.isSome = true then pure (m.runFor 4) else do rule "sre.turn"; Builtin.Re.reDrive t (m.runFor 4)) Q E s
    rw [runFor_iter]
    by_cases h : (iter 4 m).outcome.isSome = true
    · rw [if_pos h]
      refine wpAny_pure ?_
      have e : iter n m = iter 4 m := by
        rcases Nat.le_total n 4 with h1 | h1
        · obtain ⟨k, hk⟩ : ∃ k, 4 = n + k := ⟨4 - n, by omega⟩
          rw [hk, iter_add, iter_done ho]
        · obtain ⟨k, hk⟩ : ∃ k, n = 4 + k := ⟨n - 4, by omega⟩
          rw [hk, iter_add, iter_done h]
      rw [← e]
      exact hq
    · rw [if_neg h]
      have h1 : 4 < n := by
        rcases Nat.lt_or_ge 4 n with h1 | h1
        · exact h1
        · obtain ⟨k, hk⟩ : ∃ k, 4 = n + k := ⟨4 - n, by omega⟩
          rw [hk, iter_add, iter_done ho] at h
          exact absurd ho h
      obtain ⟨k, hk⟩ : ∃ k, n = 4 + k := ⟨n - 4, by omega⟩
      subst hk
      rw [iter_add] at ho hq
      exact wpAny_bind (wpAny_rule (wpAny_drive t k (iter 4 m) (by omega) (by omega) ho hq))
end Mine
end

/- part: Run -/
section
namespace Mine
open PySem PySem.W PyProof.Rows PySem.Calls
section
variable {M : Model} {A : Around} {E : Value → Shared → Prop} {s : Shared}
theorem wpAny_forIn_quiet {f : Nat → PUnit → Sem (ForInStep PUnit)} {Q : PUnit → Shared → Prop} (hf : ∀ i (Q' : ForInStep PUnit → Shared → Prop), Q' (.yield PUnit.unit) s → wpAny M A (f i PUnit.unit) Q' E s) (h : Q PUnit.unit s) :
    ∀ l : List Nat, wpAny M A (forIn l PUnit.unit f) Q E s
  | [] => by
    rw [List.forIn_nil]
    exact wpAny_pure h
  | i :: l => by
    rw [List.forIn_cons]
    exact wpAny_bind (hf i _ (wpAny_forIn_quiet hf h l))
theorem wpAny_runToEnd {Q : Option Sre.M → Shared → Prop} {n : Nat} {m : Sre.M} {P : Sre.M → Prop} (hg : Gets n m P) (hn : n ≤ 1000000) (hp : ∀ m', P m' → (m'.outcome = some .matched ∧ Q (some m') s) ∨ (m'.outcome = some .failed ∧ Q none s)) :
    wpAny M A (Builtin.Re.reRunToEnd m) Q E s := by
  obtain ⟨k, hk, hP⟩ := hg
  have hd := hp _ hP
  have h64 : (2 : Nat) ^ 64 = 18446744073709551616 := by decide
  unfold Builtin.Re.reRunToEnd
  refine wpAny_bind (wpAny_drive (2 ^ 64) k m (by omega) (by omega) (by rcases hd with ⟨h, _⟩ | ⟨h, _⟩ <;> rw [h] <;> rfl) ?_)
  refine wpAny_bind (wpAny_forIn_quiet (fun i Q' hq => ?_) ?_ _)
  · split
    · exact wpAny_bind (wpAny_rule (wpAny_pure hq))
    · exact wpAny_bind (wpAny_pure (wpAny_pure hq))
  · rcases hd with ⟨h, hq⟩ | ⟨h, hq⟩
    · rw [h]; exact wpAny_pure hq
    · rw [h]; exact wpAny_pure hq
end
end Mine
end

/- part: ReFacts -/
section
namespace Mine
open PySem PySem.W PyProof.Rows PySem.Calls
theorem plainAttrs_pat : PlainAttrs "re.Pattern" :=
  ⟨⟨"object.__getattribute__", by rw [typeLookup_type, builtinLookup_eq_fast]; kernel_rfl, by decide +kernel⟩, by rw [typeLookup_type, builtinLookup_eq_fast]; kernel_rfl⟩
theorem plainAttrs_mat : PlainAttrs "re.Match" :=
  ⟨⟨"object.__getattribute__", by rw [typeLookup_type, builtinLookup_eq_fast]; kernel_rfl, by decide +kernel⟩, by rw [typeLookup_type, builtinLookup_eq_fast]; kernel_rfl⟩
theorem slot_sub : Slot "re.Pattern" "sub" "re.Pattern.sub" :=
  .of (owner := "re.Pattern") (n := "sub") (by rw [typeLookup_type, builtinLookup_eq_fast]; kernel_rfl) (by decide +kernel) (by decide +kernel) (by decide +kernel)
    (by first | exact .inl (by decide +kernel) | exact .inr (by decide +kernel)) (by rw [isSubtype_type]; kernel_rfl)
theorem type_sub : typeOf (.builtin "re.Pattern.sub") = pure (.type "method_descriptor") := by show builtinType _ = _; rw [builtinType_eq_fast]; kernel_rfl
theorem entry_sub : entryFor table "re.Pattern.sub" = some Builtin.«re.Pattern.sub» := entryFor_of_fast (by kernel_rfl)
theorem args_sub (a b c : Value) : argsOk "re.Pattern.sub" ⟨[a, b, c], []⟩ := by unfold argsOk; kernel_rfl
theorem slot_groups : Slot "re.Match" "groups" "re.Match.groups" :=
  .of (owner := "re.Match") (n := "groups") (by rw [typeLookup_type, builtinLookup_eq_fast]; kernel_rfl) (by decide +kernel) (by decide +kernel) (by decide +kernel)
    (by first | exact .inl (by decide +kernel) | exact .inr (by decide +kernel)) (by rw [isSubtype_type]; kernel_rfl)
theorem type_groups : typeOf (.builtin "re.Match.groups") = pure (.type "method_descriptor") := by show builtinType _ = _; rw [builtinType_eq_fast]; kernel_rfl
theorem entry_groups : entryFor table "re.Match.groups" = some Builtin.«re.Match.groups» := entryFor_of_fast (by kernel_rfl)
theorem args_groups (a : Value) : argsOk "re.Match.groups" ⟨[a], []⟩ := by unfold argsOk; kernel_rfl
theorem plain_loop : plainId "re.Pattern.sub.loop" = true := by decide +kernel
theorem entry_loop : entryFor table "re.Pattern.sub.loop" = some Builtin.«re.Pattern.sub.loop» := entryFor_of_fast (by kernel_rfl)
theorem fn_call : typeLookup (.type "function") "__call__" = pure (some (.builtin "function.__call__")) := by rw [typeLookup_type, builtinLookup_eq_fast]; kernel_rfl
theorem not_bytearray : isSubtype (.type "str") (.type "bytearray") = pure false := by rw [isSubtype_type]; kernel_rfl
end Mine
end

/- part: Sub -/
section
namespace Mine
open PySem PySem.W PyProof.Rows PySem.Calls PySem.Builtin PySem.Builtin.Re
def codeV : Array Value := #[.int 14 0, .int 8 0, .int 1 0, .int 2 0, .int 10 0, .int 1 0, .int 1 0, .int 92 0, .int 0 0, .int 16 0, .int 92 0, .int 7 0, .int 19 0, .int 17 0, .int 0 0, .int 13 0, .int 11 0, .int 9 0, .int 0 0, .int 132 0, .int 268435456 0, .int 1327172 0, .int 0 0, .int 0 0, .int 0 0, .int 0 0, .int 0 0, .int 17 0, .int 1 0, .int 15 0, .int 55 0, .int 53 0, .int 17 0, .int 2 0, .int 7 0, .int 22 0, .int 16 0, .int 117 0, .int 24 0, .int 16 0, .int 4 0, .int 4 0, .int 13 0, .int 11 0, .int 9 0, .int 0 0, .int 67043328 0, .int 126 0, .int 126 0, .int 0 0, .int 0 0, .int 0 0, .int 0 0, .int 0 0, .int 1 0, .int 15 0, .int 24 0, .int 22 0, .int 16 0, .int 85 0, .int 24 0, .int 16 0, .int 8 0, .int 8 0, .int 13 0, .int 11 0, .int 9 0, .int 0 0, .int 67043328 0, .int 126 0, .int 126 0, .int 0 0, .int 0 0, .int 0 0, .int 0 0, .int 0 0, .int 1 0, .int 15 0, .int 2 0, .int 0 0, .int 17 0, .int 3 0, .int 15 0, .int 2 0, .int 0 0, .int 1 0]
def codeObj : Obj := { cls := .type "tuple", data := .seq codeV }
def patObj : Obj := { cls := .type "re.Pattern", data := .fields #[.str (Str.ofString "\\\\(?:([tbnrf\"'\\\\])|(u[0-9A-Fa-f]{4}|U[0-9A-Fa-f]{8}))") 319, .int 32 408, .int 2 0, .none, .none, .ref 43, .int 0 0] }
theorem code_ok : (codeV.map reRawOf).map (·.toNat) = CODE := by decide +kernel
abbrev target (x : Str) (t : Tok) : ReTarget := { pattern := .ref 44, string := .str x t, code := CODE, text := x.cps, kind := 0, groups := 2, pos := 0, lim := x.cps.size }
theorem wpAny_target {M : Model} {A : Around} {E : Value → Shared → Prop} {s : Shared} {Q : ReTarget → Shared → Prop} {x : Str} {t : Tok} (hp : s.heap.get? 44 = some patObj) (hc : s.heap.get? 43 = some codeObj) (hq : Q (target x t) s) :
    wpAny M A (reWholeTarget (.ref 44) (.str x t)) Q E s := by
  obtain ⟨h, g, d, tk, os⟩ := s
  unfold reWholeTarget
  repeat (any_goals (first | assumption | wp_step))
  show Q { pattern := Value.ref 44, string := Value.str x t, code := (codeV.map reRawOf).map (·.toNat), text := x.cps, kind := 0, groups := 2, pos := 0, lim := x.cps.size } _
  rw [code_ok]
  exact hq
theorem sub_start {M : Model} {A : Around} {E : Value → Shared → Prop} {s : Shared} {x : Str} {t : Tok} {Q : Fin → Shared → Prop} (hp : s.heap.get? 44 = some patObj) (hc : s.heap.get? 43 = some codeObj) (hf : s.TypeIs (.ref 39) "function")
    (hq : Q (.again (.builtin "re.Pattern.sub.loop" ⟨[.ref 44, .str x t, .ref 39, rawInt 1, rawInt 0, rawInt 0, rawInt 0, rawInt 0, .bool false, .ref s.heap.objs.size, .bool false], []⟩)) { s with heap := s.heap.push { cls := .type "list", data := .seq ([] : List Value).toArray } }) :
    wpAny M A (Builtin.«re.Pattern.sub» ⟨[.ref 44, .ref 39, .str x t], []⟩) Q E s := by
  obtain ⟨h, g, d, tk, os⟩ := s
  have f1 := fn_call
  have f2 : typeOf (.str x t) = pure (.type "str") := rfl
  have f3 := not_bytearray
  unfold Builtin.«re.Pattern.sub» reSubstitute
  repeat (any_goals (first | assumption | ((with_reducible show wpAny _ _ (reWholeTarget _ _) _ _ _); refine wpAny_target (by assumption) (by assumption) ?_) | wp_step))
end Mine
end

/- part: Mat -/
section
namespace Mine
open PySem PySem.W PyProof.Rows PySem.Calls PySem.Builtin PySem.Builtin.Re
def spansV (q n : Nat) (sm : Bool) : List Value := if sm then [rawInt ((q + 1 : Nat) : Int), rawInt ((q + 2 : Nat) : Int), rawInt (-1), rawInt (-1)] else [rawInt (-1), rawInt (-1), rawInt ((q + 1 : Nat) : Int), rawInt ((q + n : Nat) : Int)]
abbrev tupO (q n : Nat) (sm : Bool) : Obj := { cls := .type "tuple", data := .seq (rawInt (q : Int) :: rawInt ((q + n : Nat) : Int) :: spansV q n sm).toArray }
abbrev matO (x : Str) (t : Tok) (li : Int) (a : Addr) : Obj := { cls := .type "re.Match", data := .fields [Value.str x t, .ref 44, rawInt 0, rawInt (x.cps.size : Int), rawInt li, .ref a].toArray }
theorem wpAny_newMatch {M : Model} {A : Around} {E : Value → Shared → Prop} {s : Shared} {Q : Value → Shared → Prop} {x : Str} {t : Tok} {q n : Nat} {sm : Bool} {m : Sre.M} (hit : Hit q n sm m) (hn : 1 ≤ n)
    (hq : Q (.ref (s.heap.objs.size + 1)) { s with heap := (s.heap.push (tupO q n sm)).push (matO x t m.lastindex s.heap.objs.size) }) :
    wpAny M A (reNewMatch (.ref 44) (.str x t) 2 0 x.cps.size m) Q E s := by
  obtain ⟨h, g, d, tk, os⟩ := s
  have hst := hit.start
  have hhd := hit.handed
  have h3 := hit.last
  have hb : ((List.range 2).any fun g =>
            match m.marks.getD (2 * g) none, m.marks.getD (2 * g + 1) none with
            | some b, some e => decide (((2 * g + 1 : Nat) : Int) ≤ m.lastmark) && decide (e < b)
            | _, _ => false) = false := by
    cases sm with
    | true =>
      obtain ⟨e0, e1⟩ := hit.one rfl
      simp only [if_true] at h3
      simp only [List.range, List.range.loop, List.any_cons, List.any_nil, Bool.or_false, Nat.mul_zero, Nat.zero_add, Nat.mul_one, Nat.reduceAdd, e0, e1, h3, Bool.or_eq_false_iff]
      refine ⟨by simp, ?_⟩
      split
      · simp
      · rfl
    | false =>
      obtain ⟨e0, e2, e3⟩ := hit.two rfl
      simp only [Bool.false_eq_true, if_false] at h3
      simp only [List.range, List.range.loop, List.any_cons, List.any_nil, Bool.or_false, Nat.mul_zero, Nat.zero_add, Nat.mul_one, Nat.reduceAdd, e0, e2, e3, h3, Bool.or_eq_false_iff]
      refine ⟨trivial, ?_⟩
      simp
      omega
  have hsp : (List.flatMap
                        (fun g =>
                          match
                            if ((2 * g + 1 : Nat) : Int) ≤ m.lastmark then (m.marks.getD (2 * g) none, m.marks.getD (2 * g + 1) none)
                            else (none, none) with
                          | (some b, some e) => [rawInt (b : Int), rawInt (e : Int)]
                          | _ => [rawInt (-1), rawInt (-1)])
                        (List.range 2)) = spansV q n sm := by
    cases sm with
    | true =>
      obtain ⟨e0, e1⟩ := hit.one rfl
      simp only [if_true] at h3
      simp only [List.range, List.range.loop, List.flatMap_cons, List.flatMap_nil, Nat.mul_zero, Nat.zero_add, Nat.mul_one, Nat.reduceAdd, e0, e1, h3]
      simp [spansV]
    | false =>
      obtain ⟨e0, e2, e3⟩ := hit.two rfl
      simp only [Bool.false_eq_true, if_false] at h3
      simp only [List.range, List.range.loop, List.flatMap_cons, List.flatMap_nil, Nat.mul_zero, Nat.zero_add, Nat.mul_one, Nat.reduceAdd, e0, e2, e3, h3]
      simp [spansV]
  unfold reNewMatch
  generalize hsp' : List.flatMap _ (List.range 2) = sp
  have hsp2 : sp = spansV q n sm := hsp'.symm.trans hsp
  subst hsp2
  wp_delta
  refine wpAny_ite_false (decide_eq_false (fun h => Bool.noConfusion (hb.symm.trans h))) ?_
  rw [hst, hhd]
  have hl : (spansV q n sm).length = 4 := by cases sm <;> rfl
  have hz : ¬ ((rawInt (q : Int) :: rawInt ((q + n : Nat) : Int) :: spansV q n sm).toArray.size > sizeLine) := by
    rw [sizeLine_eq, List.size_toArray, List.length_cons, List.length_cons, hl]
    decide
  repeat (any_goals (first | assumption | ((with_reducible refine wpAny_ite_false (decide_eq_false hz) ?_)) | wp_step))
  rw [Heap.size_push]
  exact hq
end Mine
end

/- part: Groups -/
section
namespace Mine
open PySem PySem.W PyProof.Rows PySem.Calls PySem.Builtin PySem.Builtin.Re
section
variable {M : Model} {A : Around} {E : Value → Shared → Prop} {s : Shared}
theorem group_some {Q : Value → Shared → Prop} {x : Str} {t : Tok} {X : ReFound} {g b e : Nat} {dv : Value} (hf : X.fields.getD 0 .none = .str x t) (hb : X.spans.getD (2 * g) (-1) = ((b : Nat) : Int)) (he : X.spans.getD (2 * g + 1) (-1) = ((e : Nat) : Int)) (hx : x.length ≤ 200)
    (hq : Q (.str ⟨x.cps.extract b e⟩ s.toks) { s with toks := s.toks + 1 }) : wpAny M A (reGroupText X g dv) Q E s := by
  unfold reGroupText
  rw [hb, he, hf]
  have hc : ((decide (((b : Nat) : Int) < 0) || decide (((e : Nat) : Int) < 0)) = true) = False := by
    simp only [Bool.or_eq_true, decide_eq_true_eq, eq_iff_iff, iff_false]
    omega
  show wpAny M A (if (decide (((b : Nat) : Int) < 0) || decide (((e : Nat) : Int) < 0)) = true then _ else _) Q E s
  rw [if_neg (by rw [hc]; exact id)]
  refine wpAny_bind ?_
  show wpAny M A (pure (x.cps, 0)) _ E s
  refine wpAny_pure ?_
  show wpAny M A (mkStr ⟨x.cps.extract ((b : Nat) : Int).toNat ((e : Nat) : Int).toNat⟩) Q E s
  rw [Int.toNat_natCast, Int.toNat_natCast]
  refine wpAny_mkStr hq ?_
  have hx' : x.cps.size ≤ 200 := hx
  show (x.cps.extract b e).size ≤ sizeLine
  rw [Array.size_extract, sizeLine_eq]
  omega
theorem group_none {Q : Value → Shared → Prop} {X : ReFound} {g : Nat} {dv : Value} (hb : X.spans.getD (2 * g) (-1) = -1) (hq : Q dv s) : wpAny M A (reGroupText X g dv) Q E s := by
  unfold reGroupText
  rw [hb]
  exact wpAny_pure hq
theorem range2 (a b c d e f : Int) : List.range ((#[a, b, c, d, e, f] : Array Int).size / 2 - 1) = [0, 1] := by
  rw [show (#[a, b, c, d, e, f] : Array Int).size = 6 from rfl]
  decide
theorem groups_simple {Q : Fin → Shared → Prop} {x : Str} {t : Tok} {q n : Nat} {li : Int} {a b : Addr} (ha : s.heap.get? a = some (matO x t li b)) (hb : s.heap.get? b = some (tupO q n true)) (hx : x.length ≤ 200)
    (hq : Q (.done (.ret (.ref s.heap.objs.size))) { s with heap := s.heap.push { cls := .type "tuple", data := .seq [Value.str ⟨x.cps.extract (q + 1) (q + 2)⟩ s.toks, .none].toArray }, toks := s.toks + 1 }) :
    wpAny M A (Builtin.«re.Match.groups» ⟨[.ref a], []⟩) Q E s := by
  obtain ⟨h, g, d, tk, os⟩ := s
  have hs : Array.map reRawOf ((some (rawInt ↑q :: rawInt ↑(q + n) :: spansV q n true).toArray).getD #[]) = #[(q : Int), ((q + n : Nat) : Int), ((q + 1 : Nat) : Int), ((q + 2 : Nat) : Int), -1, -1] := by simp [spansV, reRawOf, rawInt]
  unfold Builtin.«re.Match.groups» tupO at *
  repeat (any_goals (first | assumption | wp_step))
  rw [hs]
  dsimp only
  rw [range2]
  wp_delta
  refine wpAny_bind (group_some (x := x) (t := t) (b := q + 1) (e := q + 2) rfl rfl rfl hx ?_)
  wp_delta
  refine wpAny_bind (group_none rfl ?_)
  repeat (any_goals (first | assumption | wp_step))
theorem groups_other {Q : Fin → Shared → Prop} {x : Str} {t : Tok} {q n : Nat} {li : Int} {a b : Addr} (ha : s.heap.get? a = some (matO x t li b)) (hb : s.heap.get? b = some (tupO q n false)) (hx : x.length ≤ 200)
    (hq : Q (.done (.ret (.ref s.heap.objs.size))) { s with heap := s.heap.push { cls := .type "tuple", data := .seq [.none, Value.str ⟨x.cps.extract (q + 1) (q + n)⟩ s.toks].toArray }, toks := s.toks + 1 }) :
    wpAny M A (Builtin.«re.Match.groups» ⟨[.ref a], []⟩) Q E s := by
  obtain ⟨h, g, d, tk, os⟩ := s
  have hs : Array.map reRawOf ((some (rawInt ↑q :: rawInt ↑(q + n) :: spansV q n false).toArray).getD #[]) = #[(q : Int), ((q + n : Nat) : Int), -1, -1, ((q + 1 : Nat) : Int), ((q + n : Nat) : Int)] := by simp [spansV, reRawOf, rawInt]
  unfold Builtin.«re.Match.groups» tupO at *
  repeat (any_goals (first | assumption | wp_step))
  rw [hs]
  dsimp only
  rw [range2]
  wp_delta
  refine wpAny_bind (group_none rfl ?_)
  wp_delta
  refine wpAny_bind (group_some (x := x) (t := t) (b := q + 1) (e := q + n) rfl rfl rfl hx ?_)
  repeat (any_goals (first | assumption | wp_step))
end
end Mine
end

/- part: Loop -/
section
namespace Mine
open PySem PySem.W PyProof.Rows PySem.Calls PySem.Builtin PySem.Builtin.Re
theorem wpAny_next {M : Model} {A : Around} {E : Value → Shared → Prop} {s : Shared} {Q : Option Sre.M → Shared → Prop} {x : Str} {t : Tok} {p : Nat} {must : Bool} (hp : p ≤ x.cps.size) (hs : x.cps.size ≤ 200)
    (h1 : ∀ m d n q, p ≤ q → tok (x.cps.toList.drop q) = some (d, n) → (∀ i, p ≤ i → i < q → tok (x.cps.toList.drop i) = none) → Hit q n (hitOf x.cps q) m → (hitOf x.cps q = true → n = 2) → Q (some m) s)
    (h2 : (∀ i, p ≤ i → tok (x.cps.toList.drop i) = none) → Q none s) : wpAny M A (reNextFound (target x t) p must) Q E s :=
  wpAny_runToEnd (found x.cps p must hp) (by omega) fun m h => by
    rcases h with ⟨q, d, n, a1, a2, a3, a4, a5⟩ | ⟨a1, a2⟩
    · exact .inl ⟨a4.out, h1 m d n q a1 a2 a3 a4 a5⟩
    · exact .inr ⟨a2, h2 a1⟩
def Pcs (h₀ : Heap) (L : Addr) (m : Str → Option Value) (news : List (Addr × Obj)) (D : Addr) (out : List Nat) (k : Nat) (h : Heap) : Prop :=
  Fr h₀ L h m ∧ ∃ its ws c, News h₀ L h ((D, { cls := .type "list", data := .seq (List.toArray its) c }) :: news) ∧ StrsAre its ws ∧ (ws.map fun x : Str => x.cps.toList).flatten = out ∧ ws.length = k
theorem Pcs.push {M : Model} {A : Around} {E : Value → Shared → Prop} {s : Shared} {Q : Unit → Shared → Prop} {h₀ : Heap} {L D : Addr} {m : Str → Option Value} {news : List (Addr × Obj)} {out : List Nat} {k : Nat} {y : Str} {u : Tok} (P : Pcs h₀ L m news D out k s.heap) (hoff : ∀ p ∈ news, p.1 ≠ D) (hk : k ≤ 1000)
    (hq : ∀ h', Pcs h₀ L m news D (out ++ y.cps.toList) (k + 1) h' → Q () { s with heap := h' }) : wpAny M A (updateSeq D (fun l => l.push (.str y u))) Q E s := by
  obtain ⟨F, its, ws, c, N, hs, ho, hl⟩ := P
  have hD := N _ List.mem_cons_self
  have hlen : its.length = k := by rw [← hl]; exact hs.len_eq
  refine wpAny_updateSeq hD.1 rfl (hq _ ?_) (by rw [List.size_toArray, sizeLine_eq]; omega) (by rw [Array.size_push, List.size_toArray, sizeLine_eq]; omega)
  have hk' : ∀ b o, b ∉ [D] → s.heap.get? b = some o → (s.heap.update D (Obj.mapSeq fun l => l.push (.str y u))).get? b = some o := fun b o hb e => (Heap.get?_update_other _ _ (fun h : D = b => hb (by rw [h]; exact List.mem_cons_self))).trans e
  have hself : ∃ c', (s.heap.update D (Obj.mapSeq fun l => l.push (.str y u))).get? D = some { cls := .type "list", data := .seq (its ++ [Value.str y u]).toArray c' } := ⟨_, by
    rw [← List.push_toArray]
    exact Heap.get?_update_self _ hD.1 rfl⟩
  obtain ⟨c', hself⟩ := hself
  refine ⟨LCg.fr_but F hk' (Ne.symm hD.2.1) hD.2.2, its ++ [.str y u], ws ++ [y], c', fun p hp => ?_, KStt.strs_snoc hs, ?_, ?_⟩
  · rcases List.mem_cons.mp hp with rfl | hp
    · exact ⟨hself, hD.2.1, hD.2.2⟩
    · exact LCg.news_but (fun p hp => N p (List.mem_cons_of_mem _ hp)) hk' hoff p hp
  · rw [List.map_append, List.flatten_append, ho]
    simp
  · rw [List.length_append, hl]
    rfl
def CB (M : Model) (A : Around) (x : Str) (t : Tok) (h₀ : Heap) (L : Addr) (m : Str → Option Value) (news : List (Addr × Obj)) (D : Addr) : Prop :=
  ∀ (s1 : Shared) (a b : Addr) (q d n : Nat) (sm : Bool) (li : Int) (lo : Obj) (Q E : Value → Shared → Prop), tok (x.cps.toList.drop q) = some (d, n) → sm = hitOf x.cps q → (sm = true → n = 2) →
    Fr h₀ L s1.heap m → News h₀ L s1.heap ((a, matO x t li b) :: (b, tupO q n sm) :: (D, lo) :: news) →
    (∀ h' tk t', Fr h₀ L h' m → News h₀ L h' ((D, lo) :: news) → Q (.str ⟨#[d]⟩ t') { s1 with heap := h', toks := tk }) → wpAny M A (call (.ref 39) [.ref a]) Q E s1
theorem slice_ok {M : Model} {A : Around} {E : Value → Shared → Prop} {s : Shared} {Q : Value → Shared → Prop} {x : Str} {b e : Nat} (hx : x.cps.size ≤ 200) (hq : Q (.str ⟨x.cps.extract b e⟩ s.toks) { s with toks := s.toks + 1 }) : wpAny M A (reSlice x.cps 0 b e) Q E s := by
  show wpAny M A (mkStr ⟨x.cps.extract b e⟩) Q E s
  refine wpAny_mkStr hq ?_
  show (x.cps.extract b e).size ≤ sizeLine
  rw [Array.size_extract, sizeLine_eq]
  omega
theorem sum_flat : ∀ ws : List Str, (ws.map (·.length)).sum = ((ws.map fun x : Str => x.cps.toList).flatten).length
  | [] => rfl
  | x :: r => by
    rw [List.map_cons, List.sum_cons, sum_flat r, List.map_cons, List.flatten_cons, List.length_append]
    simp [Str.length]
theorem join_pcs {prog : Program} {w : World} {A : Around} {E : Value → Shared → Prop} {s : Shared} {Q : Value → Shared → Prop} {h₀ : Heap} {L D : Addr} {m : Str → Option Value} {news : List (Addr × Obj)} {out : List Nat} {k : Nat} {x : Str} {t : Tok} (P : Pcs h₀ L m news D out k s.heap) (ho2 : out.length ≤ 1000)
    (hq : ∀ y t' tk, y.cps.toList = out → Q (.str y t') { s with toks := tk }) : wpAny (model prog w) A (call (.builtin "str.join") [.str ⟨x.cps.extract 0 0⟩ t, .ref D]) Q E s := by
  obtain ⟨F, its, ws, c, N, hs, ho, hl⟩ := P
  have hD := N _ List.mem_cons_self
  have e : (⟨x.cps.extract 0 0⟩ : Str) = Str.ofString "" := by
    have e1 : Str.ofString "" = ⟨#[]⟩ := by decide
    rw [e1]
    simp
  rw [e]
  have e2 : (Str.ofString "").length = 0 := by decide
  refine join_list (items := its.toArray) ⟨_, hD.1, rfl, c, rfl⟩ hs ?_ fun t' tk => hq _ t' tk ?_
  · rw [sum_flat, ho, e2, Nat.mul_zero]
    omega
  · show (Builtin.Str.glued (Str.ofString "") ws).cps.toList = _
    rw [StrLaws.glued_eq_join, cps_join, ho]
section
variable {prog : Program} {w : World} {A : Around} {R : Result → Shared → Prop} {h₀ : Heap} {L D : Addr} {m : Str → Option Value} {news : List (Addr × Obj)} {x : Str} {t : Tok}
theorem codeAny_loop (hx : x.cps.size ≤ 200) (hp : h₀.get? 44 = some patObj) (hc : h₀.get? 43 = some codeObj) (cb : CB (model prog w) A.in1 x t h₀ L m news D) (hoff : ∀ p ∈ news, p.1 ≠ D) :
    ∀ (j p : Nat) (n : Int) (must : Bool) (s : Shared) (out : List Nat) (k : Nat), x.cps.size - p < j → p ≤ x.cps.size → Pcs h₀ L m news D out k s.heap → out ++ dec (x.cps.toList.drop p) = dec x.cps.toList → k ≤ 2 * p → out.length ≤ p →
    (∀ h' tk y t', Fr h₀ L h' m → News h₀ L h' news → y.cps.toList = dec x.cps.toList → R (.ok (.ret (.str y t'))) { s with heap := h', toks := tk }) →
    codeAny (model prog w) A (.builtin "re.Pattern.sub.loop" ⟨[.ref 44, .str x t, .ref 39, rawInt 1, rawInt 0, rawInt n, rawInt (p : Int), rawInt (p : Int), .bool must, .ref D, .bool false], []⟩) R s := by
  intro j
  induction j with
  | zero => intro p n must s out k hj; omega
  | succ j ih =>
    intro p n must s out k hj hpx P hout hk hlen hR
    refine codeAny_builtin entry_loop ?_
    rw [Around.under_plainId plain_loop _]
    have F := P.1
    have hp' := F.keep _ _ hp
    have hc' := F.keep _ _ hc
    obtain ⟨h, g, d, tk, os⟩ := s
    unfold Builtin.«re.Pattern.sub.loop»
    repeat (any_goals (first | assumption | ((with_reducible show wpAny _ _ (reWholeTarget _ _) _ _ _); refine wpAny_target (by assumption) (by assumption) ?_) | ((with_reducible show wpAny _ _ (reNextFound _ _ _) _ _ _); rw [Int.toNat_natCast]; refine wpAny_next hpx hx (fun fm fd fn fq h1 h2 h3 h4 h5 => ?_) (fun h1 => ?_)) | wp_step))
    · have hp1 := tok_pos h2
      have hdl : (x.cps.toList.drop fq).length = x.cps.size - fq := by simp
      rw [h4.start, h4.handed]
      have hskip : dec (x.cps.toList.drop p) = (x.cps.toList.drop p).take (fq - p) ++ fd :: dec (x.cps.toList.drop (fq + fn)) := by
        have e := dec_skip (fq - p) (x.cps.toList.drop p) (by rw [List.length_drop, Array.length_toList]; omega) (fun i hi => by rw [List.drop_drop]; exact h3 _ (by omega) (by omega))
        rw [e, List.drop_drop, show p + (fq - p) = fq by omega, dec_tok h2, List.drop_drop]
      have hsl : (x.cps.extract p fq).toList = (x.cps.toList.drop p).take (fq - p) := by simp [Array.toList_extract, List.extract]
      refine wpAny_ite_split (fun hpq => ?_) (fun hpq => ?_)
      · refine wpAny_bind (slice_ok hx ?_)
        refine wpAny_bind (Pcs.push (by exact P) hoff (by omega) fun h1' P1 => ?_)
        rw [hsl] at P1
        repeat (any_goals (first
          | assumption
          | ((with_reducible show wpAny _ _ (reNewMatch _ _ _ _ _ _) _ _ _); refine wpAny_newMatch h4 (by omega) ?_)
          | ((with_reducible show wpAny _ _ (call (Value.ref 39) _) _ _ _); obtain ⟨F1, its, ws, c, N1, hs1, ho1, hl1⟩ := P1; refine cb _ _ _ fq fd fn (hitOf x.cps fq) fm.lastindex _ _ _ h2 rfl h5 ((F1.push _).push _) (by have N3 := News.push (F1.push _) (News.push F1 N1 (tupO fq fn (hitOf x.cps fq))) (matO x t fm.lastindex h1'.objs.size); rw [Heap.size_push] at N3; exact N3) (fun h2' tk2 t2 F2 N2 => ?_); have P2 : Pcs h₀ L m news D _ _ h2' := ⟨F2, its, ws, c, N2, hs1, ho1, hl1⟩)
          | ((with_reducible show wpAny _ _ (updateSeq _ _) _ _ _); refine Pcs.push (by exact P2) hoff (by omega) fun h3' P3 => ?_)
          | wp_step))
        exact ⟨plainId_quiet plain_loop _, ih (fq + fn) (n + 1) _ _ _ _ (by omega) (by omega) P3 (by rw [← hout, hskip]; simp) (by omega) (by simp only [List.length_append, List.length_take, List.length_drop, Array.length_toList, List.length_cons, List.length_nil]; omega) fun h' tk y t' a b c => hR h' tk y t' a b c⟩
      · obtain ⟨h1', hh1⟩ : ∃ h1', h1' = h := ⟨h, rfl⟩
        subst hh1
        have P1 := P
        repeat (any_goals (first
          | assumption
          | ((with_reducible show wpAny _ _ (reNewMatch _ _ _ _ _ _) _ _ _); refine wpAny_newMatch h4 (by omega) ?_)
          | ((with_reducible show wpAny _ _ (call (Value.ref 39) _) _ _ _); obtain ⟨F1, its, ws, c, N1, hs1, ho1, hl1⟩ := P1; refine cb _ _ _ fq fd fn (hitOf x.cps fq) fm.lastindex _ _ _ h2 rfl h5 ((F1.push _).push _) (by have N3 := News.push (F1.push _) (News.push F1 N1 (tupO fq fn (hitOf x.cps fq))) (matO x t fm.lastindex h1'.objs.size); rw [Heap.size_push] at N3; exact N3) (fun h2' tk2 t2 F2 N2 => ?_); have P2 : Pcs h₀ L m news D _ _ h2' := ⟨F2, its, ws, c, N2, hs1, ho1, hl1⟩)
          | ((with_reducible show wpAny _ _ (updateSeq _ _) _ _ _); refine Pcs.push (by exact P2) hoff (by omega) fun h3' P3 => ?_)
          | wp_step))
        have ht0 : (x.cps.toList.drop p).take (fq - p) = [] := by rw [show fq - p = 0 by omega]; rfl
        rw [ht0, List.nil_append] at hskip
        exact ⟨plainId_quiet plain_loop _, ih (fq + fn) (n + 1) _ _ _ _ (by omega) (by omega) P3 (by rw [← hout, hskip]; simp) (by omega) (by simp only [List.length_append, List.length_cons, List.length_nil]; omega) fun h' tk y t' a b c => hR h' tk y t' a b c⟩
    · have hend : dec (x.cps.toList.drop p) = x.cps.toList.drop p := by
        have e := dec_skip (x.cps.toList.drop p).length (x.cps.toList.drop p) (Nat.le_refl _) (fun i hi => by rw [List.drop_drop]; exact h1 _ (by omega))
        rw [e, List.take_length, List.drop_length, dec_nil, List.append_nil]
      have hsl : (x.cps.extract p x.cps.size).toList = x.cps.toList.drop p := by
        rw [Array.toList_extract, List.extract, List.take_of_length_le (by rw [List.length_drop, Array.length_toList]; omega)]
      rw [hend] at hout
      refine wpAny_ite_split (fun hpq => ?_) (fun hpq => ?_)
      · refine wpAny_bind (slice_ok hx ?_)
        refine wpAny_bind (Pcs.push (by exact P) hoff (by omega) fun h1' P1 => ?_)
        rw [hsl] at P1
        have hll : x.cps.toList.length = x.cps.size := Array.length_toList
        have hol : (out ++ x.cps.toList.drop p).length ≤ 1000 := by rw [List.length_append, List.length_drop]; omega
        obtain ⟨F1, its, ws, c, N1, hs1, ho1, hl1⟩ := id P1
        have hD1 := (N1 _ List.mem_cons_self).1
        have hne : ¬ ((((some its.toArray).getD #[]).isEmpty) = true) := by
          have := hs1.len_eq
          cases its with
          | nil => simp at this; omega
          | cons a r => simp
        repeat (any_goals (first
          | assumption
          | ((with_reducible show wpAny _ _ (reSlice _ _ 0 0) _ _ _); refine slice_ok hx ?_)
          | ((with_reducible show wpAny _ _ (call _ [_, Value.ref D]) _ _ _); refine join_pcs (by exact P1) (by omega) (fun y t' tk' hy => ?_))
          | (refine wpAny_ite_false (decide_eq_false hne) ?_)
          | wp_step))
        exact hR _ _ _ _ F1 (fun q hq => N1 q (List.mem_cons_of_mem _ hq)) (hy.trans hout)
      · have hpq' : ¬ p < x.cps.size := hpq
        have hnil : x.cps.toList.drop p = [] := List.drop_eq_nil_of_le (by rw [Array.length_toList]; omega)
        rw [hnil, List.append_nil] at hout
        have hol : out.length ≤ 1000 := by omega
        have P1 := P
        obtain ⟨F1, its, ws, c, N1, hs1, ho1, hl1⟩ := id P1
        have hD1 := (N1 _ List.mem_cons_self).1
        cases its with
        | nil =>
          have hw : ws = [] := by
            have := hs1.len_eq
            cases ws with
            | nil => rfl
            | cons a r => simp at this
          subst hw
          have hout' : [] = dec x.cps.toList := by rw [← hout, ← ho1]; rfl
          have hne : ((((some ([] : List Value).toArray).getD #[]).isEmpty) = true) := rfl
          repeat (any_goals (first
            | assumption
            | ((with_reducible show wpAny _ _ (reSlice _ _ 0 0) _ _ _); refine slice_ok hx ?_)
            | ((with_reducible show wpAny _ _ (call _ [_, Value.ref D]) _ _ _); refine join_pcs (by exact P1) (by omega) (fun y t' tk' hy => ?_))
            | (refine wpAny_ite_true (decide_eq_true hne) ?_)
            | wp_step))
          exact hR _ _ _ _ F1 (fun q hq => N1 q (List.mem_cons_of_mem _ hq)) (by rw [← hout']; simp)
        | cons a r =>
          have hne : ¬ ((((some (a :: r).toArray).getD #[]).isEmpty) = true) := by simp
          repeat (any_goals (first
            | assumption
            | ((with_reducible show wpAny _ _ (reSlice _ _ 0 0) _ _ _); refine slice_ok hx ?_)
            | ((with_reducible show wpAny _ _ (call _ [_, Value.ref D]) _ _ _); refine join_pcs (by exact P1) (by omega) (fun y t' tk' hy => ?_))
            | (refine wpAny_ite_false (decide_eq_false hne) ?_)
            | wp_step))
          exact hR _ _ _ _ F1 (fun q hq => N1 q (List.mem_cons_of_mem _ hq)) (hy.trans hout)
end
end Mine
end

/- part: CbP -/
section
namespace Mine
open PySem PySem.W PyProof.Rows PySem.Calls
theorem ext_list (x : Str) (a b : Nat) : (⟨x.cps.extract a b⟩ : Str).cps.toList = (x.cps.toList.drop a).take (b - a) := by simp [Array.toList_extract, List.extract]
theorem drop_next {l : List Nat} {q c : Nat} {r : List Nat} (h : l.drop q = c :: r) : l.drop (q + 1) = r := by
  rw [← List.drop_drop, h]
  rfl
theorem tok_form {l : List Nat} {d n : Nat} (h : tok l = some (d, n)) : ∃ c r, l = 92 :: c :: r ∧ ((simp? c = some d ∧ n = 2) ∨ (simp? c = none ∧ c = 117 ∧ hexes 4 r = true ∧ d = figs (r.take 4) ∧ n = 6) ∨ (simp? c = none ∧ c = 85 ∧ hexes 8 r = true ∧ d = figs (r.take 8) ∧ n = 10)) := by
  unfold tok at h
  split at h
  · rename_i c r
    refine ⟨c, r, rfl, ?_⟩
    split at h
    · rename_i e hs
      cases h
      exact .inl ⟨hs, rfl⟩
    · rename_i hs
      split at h
      · rename_i h1
        cases h
        exact .inr (.inl ⟨hs, h1.1, h1.2, rfl, rfl⟩)
      · split at h
        · rename_i h1
          cases h
          exact .inr (.inr ⟨hs, h1.1, h1.2, rfl, rfl⟩)
        · cases h
  · cases h
theorem hit_char {x : Str} {q c : Nat} {r : List Nat} (h : x.cps.toList.drop q = 92 :: c :: r) : hitOf x.cps q = (simp? c).isSome := by
  unfold hitOf
  rw [(drop_cons (drop_next h)).2.1]
theorem cb_simple {x : Str} {q d n : Nat} (h : tok (x.cps.toList.drop q) = some (d, n)) (hs : hitOf x.cps q = true) : meant? ⟨x.cps.extract (q + 1) (q + 2)⟩ = some ⟨#[d]⟩ := by
  obtain ⟨c, r, e, hc⟩ := tok_form h
  rw [hit_char e] at hs
  rcases hc with ⟨h1, _⟩ | ⟨h1, _⟩ | ⟨h1, _⟩
  · unfold meant?
    rw [ext_list, drop_next e, show q + 2 - (q + 1) = 1 by omega]
    simp [h1]
  · rw [h1] at hs; cases hs
  · rw [h1] at hs; cases hs
theorem slice_one {u : Str} {c : Nat} {r : List Nat} (h : u.cps.toList = c :: r) : (Txt.slice u (some 1) none).cps.toList = r := by
  have hl : u.length = r.length + 1 := by
    have : u.cps.toList.length = u.length := by simp [Str.length]
    rw [← this, h]
    rfl
  rw [slice_from_eq (x := u) (i := 1) (b := u.length) (by decide) (by omega) rfl]
  simp only [h]
  rw [show ((1 : Int)).toNat = 1 from rfl, List.drop_succ_cons, List.drop_zero, show ((u.length : Int) - 1).toNat = r.length by omega, List.take_length]
theorem cb_other {x : Str} {q d n : Nat} (hG : Good x) (h : tok (x.cps.toList.drop q) = some (d, n)) (hs : hitOf x.cps q = false) :
    figs (Txt.slice ⟨x.cps.extract (q + 1) (q + n)⟩ (some 1) none).cps.toList = d ∧
    ((Txt.slice ⟨x.cps.extract (q + 1) (q + n)⟩ (some 1) none).cps.toList = [48, 48, 52, 49] ∨ (Txt.slice ⟨x.cps.extract (q + 1) (q + n)⟩ (some 1) none).cps.toList = [48, 48, 101, 57] ∨
      (Txt.slice ⟨x.cps.extract (q + 1) (q + n)⟩ (some 1) none).cps.toList = [48, 48, 48, 49, 70, 54, 48, 48] ∨ (Txt.slice ⟨x.cps.extract (q + 1) (q + n)⟩ (some 1) none).cps.toList = [48, 48, 48, 48, 48, 48, 52, 50]) := by
  obtain ⟨c, r, e, hc⟩ := tok_form h
  rw [hit_char e] at hs
  have hg := goodB_drop (q + 1) hG.good
  rw [drop_next e] at hg
  have ho := goodB_ok hg
  rcases hc with ⟨h1, _⟩ | ⟨h1, rfl, hx, rfl, rfl⟩ | ⟨h1, rfl, hx, rfl, rfl⟩
  · rw [h1] at hs; cases hs
  · have hu : (⟨x.cps.extract (q + 1) (q + 6)⟩ : Str).cps.toList = 117 :: r.take 4 := by
      rw [ext_list, drop_next e, show q + 6 - (q + 1) = 5 by omega]
      rfl
    rw [slice_one hu]
    refine ⟨rfl, ?_⟩
    simp [okAt, hx] at ho
    rcases ho with h | h
    · exact .inl h
    · exact .inr (.inl h)
  · have hu : (⟨x.cps.extract (q + 1) (q + 10)⟩ : Str).cps.toList = 85 :: r.take 8 := by
      rw [ext_list, drop_next e, show q + 10 - (q + 1) = 9 by omega]
      rfl
    rw [slice_one hu]
    refine ⟨rfl, ?_⟩
    simp [okAt, hx] at ho
    rcases ho with h | h
    · exact .inr (.inr (.inl h))
    · exact .inr (.inr (.inr h))
end Mine
end

/- part: Cb -/
section
namespace Mine
open PySem PySem.W PySem.Calls PyProof.Rows PySem.Builtin PySem.Builtin.Re
section
variable {w : World} {A : Around} {E Q : Value → Shared → Prop} {s : Shared} {h₀ : Heap} {L : Addr} {m : Str → Option Value} {news : List (Addr × Obj)}
theorem getm_groups {x : Str} {t : Tok} {li : Int} {a b : Addr} {pl : Sem Bool} {Q : Value × List Value → Shared → Prop} (N : News h₀ L s.heap news) (hm : (a, matO x t li b) ∈ news) (h : Q (.builtin "re.Match.groups", [.ref a]) s) :
    wpAny (model Challenge.rw_ez0310_01.row.prog w) A (getMethod (.ref a) (Str.ofString "groups") pl) Q E s :=
  getMethod_builtin ⟨_, N.get hm, rfl⟩ plainAttrs_mat slot_groups type_groups (fun c e => by cases e; exact ⟨_, N.get hm, rfl⟩) h
theorem call_groups_simple {x : Str} {t : Tok} {q n : Nat} {li : Int} {a b : Addr} (F : Fr h₀ L s.heap m) (N : News h₀ L s.heap news) (ha : (a, matO x t li b) ∈ news) (hb : (b, tupO q n true) ∈ news) (hx : x.length ≤ 200)
    (h : ∀ h' D t', Fr h₀ L h' m → News h₀ L h' ((D, { cls := .type "tuple", data := .seq [Value.str ⟨x.cps.extract (q + 1) (q + 2)⟩ t', .none].toArray }) :: news) → Q (.ref D) { s with heap := h', toks := s.toks + 1 }) :
    wpAny (model Challenge.rw_ez0310_01.row.prog w) A (call (.builtin "re.Match.groups") [.ref a]) Q E s := by
  refine wpAny_call (codeAny_call_builtin slot_groups.plain entry_groups (slot_groups.check _ _ _ _ _ _ _ _ ⟨_, N.get ha, rfl⟩ (args_groups _) ?_))
  exact groups_simple (N.get ha) (N.get hb) hx (h _ _ _ (F.push _) (News.push F N _))
theorem call_groups_other {x : Str} {t : Tok} {q n : Nat} {li : Int} {a b : Addr} (F : Fr h₀ L s.heap m) (N : News h₀ L s.heap news) (ha : (a, matO x t li b) ∈ news) (hb : (b, tupO q n false) ∈ news) (hx : x.length ≤ 200)
    (h : ∀ h' D t', Fr h₀ L h' m → News h₀ L h' ((D, { cls := .type "tuple", data := .seq [.none, Value.str ⟨x.cps.extract (q + 1) (q + n)⟩ t'].toArray }) :: news) → Q (.ref D) { s with heap := h', toks := s.toks + 1 }) :
    wpAny (model Challenge.rw_ez0310_01.row.prog w) A (call (.builtin "re.Match.groups") [.ref a]) Q E s := by
  refine wpAny_call (codeAny_call_builtin slot_groups.plain entry_groups (slot_groups.check _ _ _ _ _ _ _ _ ⟨_, N.get ha, rfl⟩ (args_groups _) ?_))
  exact groups_other (N.get ha) (N.get hb) hx (h _ _ _ (F.push _) (News.push F N _))
theorem item_map {value slice : Expr} {y z : Str} {t : Tok} (F : Fr h₀ L s.heap m) (X : (hd.heap_39 w.params).In h₀) (hy : meant? y = some z) (h : ∀ t', Q (.str z t') { s with toks := s.toks + 1 })
    (hs : subscripted slice false (.ref 32) (.str y t) = operate [.ref 32, .str y t] (getItem (.ref 32) (.str y t)) := by with_unfolding_all rfl) :
    wpAny (model Challenge.rw_ez0310_01.row.prog w) A (subscriptTail value slice (.ref 32) (.str y t)) Q E s := by
  revert X
  k_fill
  intro X
  unfold meant? at hy
  split at hy
  · rename_i c hc
    simp only [Option.map_eq_some_iff] at hy
    obtain ⟨d, hd, rfl⟩ := hy
    have key : ∀ (k z : Str), k.cps.toList = [c] → (⟨#[d]⟩ : Str) = z → k = y := fun k z hk _ => by rw [str_ext, hk, hc]
    unfold simp? at hd
    have e1 : (Str.ofString "t").cps.toList = [116] := by decide
    have e2 : (Str.ofString "b").cps.toList = [98] := by decide
    have e3 : (Str.ofString "n").cps.toList = [110] := by decide
    have e4 : (Str.ofString "r").cps.toList = [114] := by decide
    have e5 : (Str.ofString "f").cps.toList = [102] := by decide
    have e6 : (Str.ofString "\"").cps.toList = [34] := by decide
    have e7 : (Str.ofString "'").cps.toList = [39] := by decide
    have e8 : (Str.ofString "\\").cps.toList = [92] := by decide
    repeat' split at hd
    all_goals (try (cases hd; done))
    all_goals (rename_i hcc; subst hcc; injection hd with hd; subst hd)
    · have := str_ext.mpr (e1.trans hc.symm); subst this
      exact topItem_K F X (by k_is) (by k_keys) (by k_is) (h _) hs
    · have := str_ext.mpr (e2.trans hc.symm); subst this
      exact topItem_K F X (by k_is) (by k_keys) (by k_is) (h _) hs
    · have := str_ext.mpr (e3.trans hc.symm); subst this
      exact topItem_K F X (by k_is) (by k_keys) (by k_is) (h _) hs
    · have := str_ext.mpr (e4.trans hc.symm); subst this
      exact topItem_K F X (by k_is) (by k_keys) (by k_is) (h _) hs
    · have := str_ext.mpr (e5.trans hc.symm); subst this
      exact topItem_K F X (by k_is) (by k_keys) (by k_is) (h _) hs
    · have := str_ext.mpr (e6.trans hc.symm); subst this
      exact topItem_K F X (by k_is) (by k_keys) (by k_is) (h _) hs
    · have := str_ext.mpr (e7.trans hc.symm); subst this
      exact topItem_K F X (by k_is) (by k_keys) (by k_is) (h _) hs
    · have := str_ext.mpr (e8.trans hc.symm); subst this
      exact topItem_K F X (by k_is) (by k_keys) (by k_is) (h _) hs
  · cases hy
end
local macro_rules | `(tactic| walk_at "getMethod ref") => `(tactic| (k_here; (with_reducible show wpAny _ _ (getMethod _ _ _) _ _ _); k_dflt (refine getm_groups (by k_asm) (by k_mem) ?_)))
local macro_rules | `(tactic| walk_at "call builtin:re.Match.groups") => `(tactic| (k_here; k_dflt (first
  | (refine call_groups_simple (by k_asm) (by k_asm) (by k_mem) (by k_mem) (by assumption) ?_; intro h' D' t' F' N')
  | (refine call_groups_other (by k_asm) (by k_asm) (by k_mem) (by k_mem) (by assumption) ?_; intro h' D' t' F' N'))))
local macro_rules | `(tactic| walk_at "subscriptTail") => `(tactic| (k_here; (with_reducible show wpAny _ _ (subscriptTail _ _ (Value.ref _) (Value.str _ _)) _ _ _); k_dflt (refine item_map (by k_asm) (by k_asm) (by assumption) ?_); intro _))
local macro_rules | `(tactic| walk_at "call type:int") => `(tactic| (k_here; (with_reducible show wpAny _ _ (call (Value.type "int") [Value.str _ _, Value.int 16 _]) _ _ _); (refine int_figs (by assumption) ?_)))
local macro_rules | `(tactic| walk_at "call builtin:chr") => `(tactic| (k_here; (with_reducible show wpAny _ _ (call (Value.builtin "chr") [Value.int (Nat.cast (figs _)) _]) _ _ _); (refine chr_figs (figs_le _) ?_)))
local macro_rules | `(tactic| walk_at "assign Tuple") => `(tactic| (k_here; (with_reducible show wpAny _ _ (assign (Expr.Tuple _ _ _) _ (Value.ref _)) _ _ _); k_dflt (refine' unpackN_ ?k1 ?k2 ?k3 ?k4 ?k5 ?k6 ?_; (case k1 => k_asm); (case k2 => k_asm); (case k3 => exact News.isTup (by k_asm) (by k_mem)); (case k4 => assumption); (case k5 => exact rfl); (case k6 => exact rfl); k_whole); intro h' F' N'; (try k_sweep)))
theorem ext_size {x : Str} {a b : Nat} (hx : x.length ≤ 200) : (⟨x.cps.extract a b⟩ : Str).length ≤ sizeLine := by
  have hx' : x.cps.size ≤ 200 := hx
  show (x.cps.extract a b).size ≤ sizeLine
  rw [Array.size_extract, sizeLine_eq]
  omega
local macro_rules | `(tactic| walk_at "subscriptTail Name Slice str ref") => `(tactic| ((with_reducible show wpAny _ _ (subscriptTail _ (Expr.Slice (some _) none none _) _ _) _ _ _); (with_reducible rename Fr _ _ _ _ => F'); (with_reducible rename News _ _ _ _ => N'); (refine slice_strN_sn (hsz := ?hsz) (s := ⟨_, _, _, _, _⟩) F' N' ?_); (case hsz => exact ext_size (by assumption)); intro _ _ _ _ _))
set_option maxHeartbeats 4000000 in
theorem cb_ok {w : World} {A A₀ : Around} {base h₀ : Heap} {L D : Addr} {m mg mb : Str → Option Value} {env : Env} {outer : List Env} {news : List (Addr × Obj)} {mean : ExcName → Option Value} {x : Str} {t : Tok}
    (B : Below A₀ base outer h₀) (X : (hd.heap_39 w.params).In h₀) (T : Top hd.view_39 (looseW hd.view_39 loose9) mean mg mb h₀)
    (hA : A.frames = some (env :: outer)) (hf : env.frame = some L) (hke : env.scope.kind = .function) (hroom : A.depth < recursionLimit) (hh : A.handled = none) (hG : Good x) : CB (model Challenge.rw_ez0310_01.row.prog w) A x t h₀ L m news D := by
  intro s1 a b q d n sm li lo Q E ht hsm hn F N hq
  revert X
  k_fill
  intro X
  have hxl := hG.len
  refine wpAny_call ?_
  k_dflt (refine' code_def B F X N T hA hf hke ?k6 ?k7 hroom ?k9 ?kB ?_ ?c2 ?c3 ?c4 ?c5)
  case k6 => k_is
  case k7 => k_is
  case k9 => first | exact BindsTo.of_eq rfl | exact binds_K (by k_in) rfl (by k_is) rfl rfl rfl
  case c5 => decide
  case kB => exact locs rfl
  case c2 => exact rfl
  case c3 => exact rfl
  case c4 => exact rfl
  intro g' L' h' FG' F' N' B' X' T'
  dsimp only
  have hx2 : x.length ≤ 200 := hG.len
  cases sm with
  | true =>
    have hme := cb_simple ht hsm.symm
    (try k_fold)
    k_steps
    rename Fr h₀ L _ m => kF
    rename News h₀ L _ _ => kN
    exact hq _ _ _ kF (fun p hp => kN p (by simp [hp]))
  | false =>
    have hot := cb_other hG ht hsm.symm
    have hf4 := hot.2
    (try k_fold)
    k_steps
    rename Fr h₀ L _ m => kF
    rename News h₀ L _ _ => kN
    rw [hot.1]
    exact hq _ _ _ kF (fun p hp => kN p (by simp [hp]))
end Mine
end

/- part: Dec2 -/
section
namespace Mine
open PySem PySem.W PySem.Calls PyProof.Rows PySem.Builtin PySem.Builtin.Re
theorem sub_call {prog : Program} {w : World} {A : Around} {E Q : Value → Shared → Prop} {s : Shared} {h₀ : Heap} {L : Addr} {m : Str → Option Value} {news : List (Addr × Obj)} {x : Str} {t : Tok}
    (F : Fr h₀ L s.heap m) (N : News h₀ L s.heap news) (h44 : h₀.get? 44 = some patObj) (h43 : h₀.get? 43 = some codeObj) (h39 : s.TypeIs (.ref 39) "function") (hx : x.length ≤ 200) (cb : ∀ D, CB (model prog w) A.in1 x t h₀ L m news D)
    (h : ∀ h' tk y t', Fr h₀ L h' m → News h₀ L h' news → y.cps.toList = dec x.cps.toList → Q (.str y t') { s with heap := h', toks := tk }) :
    wpAny (model prog w) A (call (.builtin "re.Pattern.sub") [.ref 44, .ref 39, .str x t]) Q E s := by
  have hp := F.keep _ _ h44
  refine wpAny_call (codeAny_call_builtin slot_sub.plain entry_sub (slot_sub.check _ _ _ _ _ _ _ _ ⟨_, hp, rfl⟩ (args_sub _ _ _) ?_))
  refine sub_start hp (F.keep _ _ h43) h39 ⟨plainId_quiet plain_loop _, ?_⟩
  refine codeAny_loop hx h44 h43 (cb _) (fun p hp e => Nat.lt_irrefl _ (e ▸ Heap.lt_size (N p hp).1)) (x.cps.size + 1) 0 0 false _ [] 0 (by omega) (Nat.zero_le _)
    ⟨F.push _, [], [], _, News.push F N _, .nil, rfl, rfl⟩ (by simp) (by omega) (by simp) fun h' tk y t' a b c => ?_
  exact h h' tk y t' a b c
theorem getm_sub {w : World} {A : Around} {E : Value → Shared → Prop} {s : Shared} {Q : Value × List Value → Shared → Prop} {pl : Sem Bool} (hp : s.heap.get? 44 = some patObj) (h : Q (.builtin "re.Pattern.sub", [.ref 44]) s) :
    wpAny (model Challenge.rw_ez0310_01.row.prog w) A (getMethod (.ref 44) (Str.ofString "sub") pl) Q E s :=
  getMethod_builtin ⟨_, hp, rfl⟩ plainAttrs_pat slot_sub type_sub (fun c e => by cases e; exact ⟨_, hp, rfl⟩) h
def has92 (x : Str) : Bool := decide (92 ∈ x.cps.toList)
theorem notin_92 {prog : Program} {w : World} {A : Around} {E Q : Value → Shared → Prop} {s : Shared} {x : Str} {t u : Tok} (h : Q (.bool (!has92 x)) s) : wpAny (model prog w) A (compareOp .NotIn (.str (Str.ofString "\\") u) (.str x t)) Q E s := by
  have e : Txt.contains x (Str.ofString "\\") = has92 x := by
    have e1 : Str.ofString "\\" = ⟨#[92]⟩ := by decide
    unfold Txt.contains has92
    rw [e1, StrLaws.found_one]
  exact SB.notContains (by rw [e]; exact h)
theorem dec_plain {x : Str} (h : has92 x = false) : x.cps.toList = dec x.cps.toList := by
  rw [dec_no92]
  intro c hc e
  subst e
  have := of_decide_eq_false h
  exact this hc
theorem pat_K {w : World} {h₀ : Heap} (X : (hd.heap_39 w.params).In h₀) : h₀.get? 44 = some patObj := X _ _ rfl
theorem code_K {w : World} {h₀ : Heap} (X : (hd.heap_39 w.params).In h₀) : h₀.get? 43 = some codeObj := X _ _ rfl
theorem fn_K {w : World} {h₀ : Heap} (X : (hd.heap_39 w.params).In h₀) : ∃ o, h₀.get? 39 = some o ∧ o.cls = .type "function" := ⟨_, X 39 _ rfl, rfl⟩
theorem fn_type {w : World} {s : Shared} {h₀ : Heap} {L : Addr} {m : Str → Option Value} (F : Fr h₀ L s.heap m) (X : (hd.heap_39 w.params).In h₀) : s.TypeIs (.ref 39) "function" := let ⟨o, ho, hc⟩ := fn_K X; ⟨o, F.keep _ _ ho, hc⟩
def FramesAt (A : Around) (env : Env) (outer : List Env) : Prop := ∀ e, (A.deeper e).in1.frames = some (e :: env :: outer)
theorem framesAt {A : Around} {env : Env} {outer : List Env} (h : A.frames = some (env :: outer)) : FramesAt A env outer := fun e => by
  show A.frames.map (e :: ·) = _
  rw [h]
  rfl
local macro_rules | `(tactic| walk_at "compareOp NotIn str str") => `(tactic| (k_here; (with_reducible refine notin_92 ?_)))
local macro_rules | `(tactic| walk_at "getMethod ref") => `(tactic| (k_here; (with_reducible show wpAny _ _ (getMethod (Value.ref 44) _ _) _ _ _); k_dflt (refine getm_sub (Fr.keep (by k_asm) _ _ (pat_K (by k_asm))) ?_)))
local macro_rules | `(tactic| walk_at "call builtin:re.Pattern.sub") => `(tactic| (k_here; (with_reducible rename Fr _ _ _ _ => F9); (with_reducible rename News _ _ _ _ => N9); (with_reducible rename FramesAt _ _ _ => hA9); k_dflt (refine sub_call F9 N9 (pat_K (by k_asm)) (code_K (by k_asm)) (fn_type F9 (by k_asm)) (by assumption) (fun D => cb_ok (by k_asm) (by k_asm) (by k_asm) (hA9 _) (by exact rfl) (by exact rfl) (by assumption) (by assumption) (by assumption)) ?_); intro h' tk' y' t' F' N' hy'))
set_option maxHeartbeats 4000000 in
theorem dec_call {w : World} {A A₀ : Around} {E Q : Value → Shared → Prop} {s : Shared} {base h₀ : Heap} {L : Addr} {m mg mb : Str → Option Value} {env : Env} {outer : List Env} {news : List (Addr × Obj)} {mean : ExcName → Option Value} {x : Str} {t : Tok}
    (B : Below A₀ base outer h₀) (F : Fr h₀ L s.heap m) (X : (hd.heap_39 w.params).In h₀) (N : News h₀ L s.heap news) (T : Top hd.view_39 (looseW hd.view_39 loose9) mean mg mb h₀)
    (hA : A.frames = some (env :: outer)) (hf : env.frame = some L) (hke : env.scope.kind = .function) (hroom : A.depth + 1 < recursionLimit) (hh : A.handled = none) (hG : Good x)
    (h : ∀ h' tk t' y, Fr h₀ L h' m → News h₀ L h' news → y.cps.toList = dec x.cps.toList → Q (.str y t') { s with heap := h', toks := tk }) :
    wpAny (model Challenge.rw_ez0310_01.row.prog w) A (call (.ref 51) [.str x t]) Q E s := by
  revert X
  k_fill
  intro X
  have hxl := hG.len
  have hA2 := framesAt hA
  refine wpAny_call ?_
  k_dflt (refine' code_def B F X N T hA hf hke ?k6 ?k7 (Nat.lt_of_succ_lt hroom) ?k9 ?kB ?_ ?c2 ?c3 ?c4 ?c5)
  case k6 => k_is
  case k7 => k_is
  case k9 => first | exact BindsTo.of_eq rfl | exact binds_K (by k_in) rfl (by k_is) rfl rfl rfl
  case c5 => decide
  case kB => exact locs rfl
  case c2 => exact rfl
  case c3 => exact rfl
  case c4 => exact rfl
  intro g' L' h' FG' F' N' B' X' T'
  dsimp only
  (try k_fold)
  k_steps
  · rename Fr h₀ L _ m => kF
    rename News h₀ L _ _ => kN
    exact h _ _ _ _ kF kN (by assumption)
  · rename Fr h₀ L _ m => kF
    rename News h₀ L _ _ => kN
    exact h _ _ _ _ kF kN (dec_plain (by assumption))
end Mine
end

/- part: the walk -/
open PySem PySem.W PyProof.Rows
namespace Mine
section
variable {prog : Program} {w : World} {A : Around} {E : Value → Shared → Prop} {s : Shared} {t : Tok} {Q : Value → Shared → Prop} {D : Addr} {ys : List Value} {ns : List Int}
def pick (k : Int) : Nat := ((if k < 0 then -k else k).fmod 21).toNat
theorem pick_lt (k : Int) : pick k < 21 := by
  unfold pick
  have h1 := fmod_lo (if k < 0 then -k else k) (n := 21) (by decide)
  have h2 := fmod_hi (if k < 0 then -k else k) (n := 21) (by decide)
  omega
theorem part_mem (k : Int) : parts.getD (pick k) Str.empty ∈ parts := by
  have h : ∀ i, i < 21 → parts.getD i Str.empty ∈ parts := by
    intro i hi
    have : i < parts.length := hi
    rw [List.getD_eq_getElem?_getD, List.getElem?_eq_getElem this]
    exact List.getElem_mem this
  exact h _ (pick_lt k)
theorem part_if (k : Int) : (if pick k < 1 + 1 + 1 + 1 + 1 + 1 + 1 + 1 + 1 + 1 + 1 + 1 + 1 + 1 + 1 + 1 + 1 + 1 + 1 + 1 + 1 then parts.getD (pick k) Str.empty else Str.empty) ∈ parts := by
  rw [if_pos (pick_lt k)]
  exact part_mem k
theorem join_law {g : Int → Str} (hl : s.heap.IsList D ys.toArray) (hc : CarriedAll ys (ns.map fun k => PyData.str (g k))) (hg : ∀ k, g k ∈ parts) (hn : ns.length ≤ 20)
    (h : ∀ X t' k, Good X → Q (.str X t') { s with toks := k }) : wpAny (model prog w) A (call (.builtin "str.join") [.str (Str.ofString "") t, .ref D]) Q E s := by
  have h10 : ∀ p ∈ parts, p.length ≤ 10 := by decide +kernel
  refine KT.join_B (g := g) 10 hl hc (fun a _ => h10 _ (hg a)) (by omega) (by decide) fun t' k => h _ t' k ?_
  refine good_join (fun p hp => ?_) (by simpa using hn)
  obtain ⟨a, _, rfl⟩ := List.mem_map.mp hp
  exact hg a
end
end Mine
open Mine
local macro_rules | `(tactic| walk_at "CompSrc") => `(tactic| (k_here; (try k_fmods); (try kcf_lens); k_dflt ((refine LCg.CompSrc.ledger (by rfl) (by k_asm) (by k_asm) (by k_mem) (by kcf_size) ?_; intro g'; (refine' kct_list _ (by first | assumption | l_ints) (fun k' t' I' oI' C' oC' D' m' ys' h' tk' E' hk' hC' hx' F' N' off' ne' hMark' => ?_) ?_); (all_goals (try (simp only [LCg.Off3, and_true] at off'))); kcf_last))))
local macro_rules | `(tactic| walk_at "call builtin:str.join") => `(tactic| (k_here; (with_reducible show wpAny _ _ (call (Value.builtin "str.join") [Value.str _ _, Value.ref _]) _ _ _); (with_reducible rename CarriedAll _ (List.map _ _) => ktC); (refine join_law (by first | assumption | is_list | exact News.isList (by k_asm) (by k_mem)) ktC (fun k => part_if k) (by simp only [List.length_take]; omega) ?_; intro _ _ _ _)))
local macro_rules | `(tactic| walk_at "call builtin:len") => `(tactic| (k_here; (with_reducible show wpAny _ _ (call (Value.builtin "len") [Value.str _ _]) _ _ _); (with_reducible rename Good _ => gX); (refine len_ok (by first | exact Good.len gX | exact Nat.le_trans (Txt.slice_le _ _ _) (Good.len gX)) ?_)))
local macro_rules | `(tactic| walk_at "call builtin:dict.get") => `(tactic| (k_here; (with_reducible show wpAny _ _ (call (Value.builtin "dict.get") [Value.ref _, Value.str _ _, Value.int _ _]) _ _ _); k_dflt (refine get_size (by k_tabat) ?_); intro _))
local macro_rules | `(tactic| walk_at "compareOp In str ref") => `(tactic| (k_here; (with_reducible show wpAny _ _ (compareOp CmpOp.In (Value.str _ _) (Value.ref _)) _ _ _); k_dflt (refine in_meant (by k_tabat) ?_)))
local macro_rules | `(tactic| walk_at "subscriptTail") => `(tactic| (k_here; (with_reducible show wpAny _ _ (subscriptTail _ _ (Value.ref _) (Value.str _ _)) _ _ _); (with_reducible rename Option.isSome (meant? _) = true => hM9); (obtain ⟨y9, hy9⟩ := Option.isSome_iff_exists.mp hM9); k_dflt (refine item_meant (by k_tabat) hy9 ?_); intro _))
local macro_rules | `(tactic| walk_at "binaryOp Add str str") => `(tactic| (k_here; (with_reducible show wpAny _ _ (binaryOp Operator.Add (Value.str _ _) (Value.str _ _)) _ _ _); (with_reducible rename Inv _ _ _ => hI9); (refine add_due hI9 (by with_reducible assumption) (by first | exact item_len | exact meant_len (by with_reducible assumption) | exact rfl) ?_; intro _ _)))
local macro_rules | `(tactic| walk_at "call type:int") => `(tactic| (k_here; (with_reducible show wpAny _ _ (call (Value.type "int") [Value.str _ _, Value.int 16 _]) _ _ _); (with_reducible rename 0 < sizeOf _ => hZ9); (with_reducible rename Inv _ _ _ => hI9); (obtain ⟨_, _, _, hd9⟩ := tokB hI9 (by with_reducible assumption) (by with_reducible assumption) hZ9 (by with_reducible assumption) (by with_reducible assumption)); (refine int_figs hd9 ?_)))
local macro_rules | `(tactic| walk_at "call builtin:chr") => `(tactic| (k_here; (with_reducible show wpAny _ _ (call (Value.builtin "chr") [Value.int (Nat.cast (figs _)) _]) _ _ _); (refine chr_figs (figs_le _) ?_)))
local macro_rules | `(tactic| walk_at "compareOp NotIn str str") => `(tactic| (k_here; (with_reducible refine notin_hex ?_)))
local macro_rules | `(tactic| walk_at "call ref") => `(tactic| (k_here; (with_reducible show wpAny _ _ (call (Value.ref 59) [Value.str _ _]) _ _ _); k_dflt (refine' fig_call' ?B ?F ?X ?N ?T ?hA ?hf ?hke ?room ?hh ?_; (case hA => exact rfl); (case hf => exact rfl); (case hke => exact rfl); (case B => k_asm); (case F => k_asm); (case X => k_asm); (case N => k_asm); (case T => k_asm); (case room => k_room); (case hh => exact rfl)); intro h' tk' F' N'; (try k_sweep)))
theorem Mine.post_true (args : List WData) : (Challenge.rw_ez0310_01.row.claim).post args (.bool true) args = true := postW_of (X := true) (by rfl) ((w_eq_bool (w_res rfl) w_lit).trans rfl) rfl
theorem Mine.law_end {cl : Str → Option Addr} {mean : ExcName → Option Value} {args : List WData} {s₁ s' : Shared} {L : Addr} {m : Str → Option Value} (F : Fr s₁.heap L s'.heap m) (hg : s'.gens = #[]) (hos : s'.os = s₁.os) :
    GoodW Challenge.rw_ez0310_01.row.claim cl mean args s₁ (.ok (.ret (.bool true))) s' :=
  goodW_bool F hg (fun _ => rfl) (Mine.post_true args) hos
theorem Mine.reader_end {prog : Program} {w : World} {A : Around} {E Q : Value → Shared → Prop} {s : Shared} {X due y : Str} {k : Int} {t u : Tok} (hI : Inv X due k) (hk : ¬ k < X.length) (hy : y.cps.toList = dec X.cps.toList) (h : Q (.bool true) s) :
    wpAny (model prog w) A (compareOp .Eq (.str y t) (.str due u)) Q E s := by
  have e : y = due := str_ext.mpr (hy.trans (Inv.done hI hk).symm)
  subst e
  exact eq_str (by simpa using h)
local macro_rules | `(tactic| walk_at "call ref") => `(tactic| (k_here; (with_reducible show wpAny _ _ (call (Value.ref 51) [Value.str _ _]) _ _ _); k_dflt (refine' dec_call ?B ?F ?X ?N ?T ?hA ?hf ?hke ?room ?hh ?hG ?_; (case hA => exact rfl); (case hf => exact rfl); (case hke => exact rfl); (case B => k_asm); (case F => k_asm); (case X => k_asm); (case N => k_asm); (case T => k_asm); (case room => k_room); (case hh => exact rfl); (case hG => with_reducible assumption)); intro h' tk' t' y' F' N' hy'; (try k_sweep)))
local macro_rules | `(tactic| walk_at "compareOp Eq str str") => `(tactic| (k_here; (with_reducible rename _ = dec _ => hy9); (with_reducible rename Inv _ _ _ => hI9); (refine reader_end hI9 (by with_reducible assumption) hy9 ?_); (first | (k_unfold; try dsimp only) | skip); (with_reducible rename Fr _ _ _ _ => F9); (exact law_end F9 (by with_reducible assumption) rfl)))
set_option maxRecDepth 100000 in
set_option maxHeartbeats 8000000 in
theorem PySem.Challenge.cw_ez0310_01_holds : PySem.Challenge.rw_ez0310_01.Holds := by
  exact Mine.hd (by
  (k_with "state" => (with_reducible first | exact Inv.start (by assumption) | (refine stepA ?_ ?_ ?_ ?_ <;> assumption) | (refine stepB ?_ ?_ ?_ ?_ ?_ ?_ <;> assumption) | (refine stepC1 ?_ ?_ ?_ <;> assumption) | (refine stepC2 ?_ ?_ ?_ ?_ <;> assumption) | (refine stepC3a ?_ ?_ ?_ ?_ ?_ <;> assumption) | (refine stepC3b ?_ ?_ ?_ ?_ ?_ <;> assumption)))
  (k_with "exec While Compare cons nil" => (k_while_given ["text"] (fun (text : Str) (script : List Int) (due : Str) (k : Int) => Inv text due k) (fun (text : Str) (script : List Int) (due : Str) (k : Int) => (text.length - k.toNat)) "due" "at"; (with_reducible rename Inv _ _ _ => kI); (have kI1 := Inv.lo kI); (have kI2 := Inv.hi kI); (have kI3 := Good.len (Inv.good kI))))
  w_strict (k_go0; (all_goals try k_fold); k_steps; (all_goals (try k_data))))
