import PyProof.Rows.All
import Wide.All
import OpenK.AllK
import Wide.FinOn
import PySem.Challenge.RW_km0015_02
set_option Elab.async false
section
open PySem PySem.W PyProof.Rows
set_option Elab.async false
namespace Mine

/-! ## lists of signs -/
def cutAt (c : Nat) : List Nat → Option (List Nat × List Nat)
  | [] => none
  | a :: r => if a = c then some ([], r) else (cutAt c r).map fun p => (a :: p.1, p.2)

theorem cutAt_none {c : Nat} : ∀ {r : List Nat}, c ∉ r → cutAt c r = none
  | [], _ => rfl
  | a :: r, h => by
    have h1 : a ≠ c := fun e => h (by rw [e]; exact List.mem_cons_self ..)
    have h2 : c ∉ r := fun m => h (List.mem_cons_of_mem _ m)
    simp only [cutAt, if_neg h1, cutAt_none h2, Option.map_none]
theorem cutAt_some {c : Nat} : ∀ {a b : List Nat}, c ∉ a → cutAt c (a ++ c :: b) = some (a, b)
  | [], b, _ => by simp [cutAt]
  | x :: a, b, h => by
    have h1 : x ≠ c := fun e => h (by rw [e]; exact List.mem_cons_self ..)
    have h2 : c ∉ a := fun m => h (List.mem_cons_of_mem _ m)
    show cutAt c (x :: (a ++ c :: b)) = _
    simp only [cutAt, if_neg h1, cutAt_some h2, Option.map_some]
theorem cutAt_spec {c : Nat} : ∀ {r a b : List Nat}, cutAt c r = some (a, b) → r = a ++ c :: b ∧ c ∉ a
  | [], _, _, h => by cases h
  | x :: r, a, b, h => by
    unfold cutAt at h
    by_cases e : x = c
    · rw [if_pos e] at h
      cases h
      exact ⟨by rw [e]; rfl, by simp⟩
    · rw [if_neg e] at h
      cases q : cutAt c r with
      | none => rw [q] at h; cases h
      | some p =>
        rw [q] at h
        obtain ⟨p1, p2⟩ := p
        cases h
        obtain ⟨h1, h2⟩ := cutAt_spec q
        refine ⟨by rw [h1]; rfl, fun m => ?_⟩
        rcases List.mem_cons.mp m with m | m
        · exact e m.symm
        · exact h2 m
theorem cutAt_mem {c : Nat} {r : List Nat} (h : c ∈ r) : ∃ a b, r = a ++ c :: b ∧ c ∉ a := by
  cases q : cutAt c r with
  | some p => exact ⟨p.1, p.2, cutAt_spec q⟩
  | none =>
    exfalso
    induction r with
    | nil => cases h
    | cons x r ih =>
      unfold cutAt at q
      by_cases e : x = c
      · rw [if_pos e] at q; cases q
      · rw [if_neg e] at q
        rcases List.mem_cons.mp h with m | m
        · exact e m.symm
        · exact ih m (by simpa using q)

def splitL (c : Nat) : List Nat → List (List Nat)
  | [] => [[]]
  | a :: r => if a = c then [] :: splitL c r else match splitL c r with
    | p :: ps => (a :: p) :: ps
    | [] => [[a]]
theorem splitL_ne (c : Nat) : ∀ r, splitL c r ≠ []
  | [] => by simp [splitL]
  | a :: r => by
    unfold splitL
    split
    · simp
    · split <;> simp
theorem splitL_free {c : Nat} : ∀ {r : List Nat}, c ∉ r → splitL c r = [r]
  | [], _ => rfl
  | a :: r, h => by
    have h1 : a ≠ c := fun e => h (by rw [e]; exact List.mem_cons_self ..)
    have h2 : c ∉ r := fun m => h (List.mem_cons_of_mem _ m)
    simp only [splitL, if_neg h1, splitL_free h2]
theorem splitL_cons {c : Nat} : ∀ {a b : List Nat}, c ∉ a → splitL c (a ++ c :: b) = a :: splitL c b
  | [], b, _ => by simp [splitL]
  | x :: a, b, h => by
    have h1 : x ≠ c := fun e => h (by rw [e]; exact List.mem_cons_self ..)
    have h2 : c ∉ a := fun m => h (List.mem_cons_of_mem _ m)
    show splitL c (x :: (a ++ c :: b)) = _
    simp only [splitL, if_neg h1, splitL_cons h2]

def joinL (c : Nat) : List (List Nat) → List Nat
  | [] => []
  | [x] => x
  | x :: y :: r => x ++ c :: joinL c (y :: r)
theorem splitL_join {c : Nat} : ∀ {ps : List (List Nat)}, ps ≠ [] → (∀ p ∈ ps, c ∉ p) → splitL c (joinL c ps) = ps
  | [], h, _ => absurd rfl h
  | [x], _, h => splitL_free (h x (List.mem_cons_self ..))
  | x :: y :: r, _, h => by
    show splitL c (x ++ c :: joinL c (y :: r)) = _
    rw [splitL_cons (h x (List.mem_cons_self ..)), splitL_join (by simp) fun p hp => h p (List.mem_cons_of_mem _ hp)]

theorem join_cps (c : Nat) : ∀ ps : List Str, (Str.join ⟨#[c]⟩ ps).cps.toList = joinL c (ps.map (·.cps.toList))
  | [] => rfl
  | [_] => rfl
  | x :: y :: r => by
    show (x ++ ⟨#[c]⟩ ++ Str.join ⟨#[c]⟩ (y :: r)).cps.toList = _
    rw [Str.cps_append, Str.cps_append, Array.toList_append, Array.toList_append, join_cps c (y :: r)]
    simp [joinL]
theorem split_ne (x : Str) (c : Nat) : Txt.split x ⟨#[c]⟩ ≠ [] := by
  unfold Txt.split
  split
  · simp
  · split
    · simp
    · rw [StrLaws.partsBetween_eq]
      obtain ⟨p, r, h⟩ := StrLaws.partsFrom_ne x (⟨#[c]⟩ : Str).length 0 (Builtin.Str.occurrences x ⟨#[c]⟩ 0 x.length (x.length + 1))
      rw [h]; simp
theorem split_cps (x : Str) (c : Nat) : (Txt.split x ⟨#[c]⟩).map (·.cps.toList) = splitL c x.cps.toList := by
  have h1 := congrArg (fun y : Str => y.cps.toList) (StrLaws.join_split x ⟨#[c]⟩)
  simp only [join_cps] at h1
  rw [← h1, splitL_join]
  · simpa using split_ne x c
  · intro p hp
    obtain ⟨q, hq, rfl⟩ := List.mem_map.mp hp
    exact StrLaws.split_free x c q hq

/-! ## slices -/
theorem sliceIdx_min_hi (l : Option Int) {j : Int} (len : Nat) (h0 : 0 ≤ j) : Builtin.Str.strSliceIndices l (some j) 1 len = Builtin.Str.strSliceIndices l (some (min j len)) 1 len := by
  have a : ¬ j < 0 := by omega
  have b : ¬ (min j (len : Int)) < 0 := by omega
  have e : min (min j (len : Int)) (len : Int) = min j len := by omega
  simp [Builtin.Str.strSliceIndices, a, b, e]
theorem sliceIdx_min_lo (u : Option Int) {j : Int} (len : Nat) (h0 : 0 ≤ j) : Builtin.Str.strSliceIndices (some j) u 1 len = Builtin.Str.strSliceIndices (some (min j len)) u 1 len := by
  have a : ¬ j < 0 := by omega
  have b : ¬ (min j (len : Int)) < 0 := by omega
  have e : min (min j (len : Int)) (len : Int) = min j len := by omega
  simp [Builtin.Str.strSliceIndices, a, b, e]
theorem slice_is (x : Str) (l u : Option Int) : Txt.slice x l u = StrLaws.sliceText x l u := rfl
theorem len_toList (x : Str) : x.cps.toList.length = x.length := Array.length_toList
theorem slice_to (x : Str) (j : Nat) : (Txt.slice x none (some (j : Int))).cps.toList = x.cps.toList.take j := by
  have e : Txt.slice x none (some (j : Int)) = Txt.slice x none (some (min (j : Int) x.length)) := by
    unfold Txt.slice; rw [sliceIdx_min_hi _ _ (by omega)]
  rw [e, slice_is, StrLaws.sliceText_to ⟨by omega, by rw [len_toList]; omega⟩]
  simp only [List.drop_zero, Int.sub_zero]
  have hl := len_toList x
  by_cases h : j ≤ x.length
  · rw [show (min (j : Int) (x.length : Int)).toNat = j by omega]
  · rw [show (min (j : Int) (x.length : Int)).toNat = x.cps.toList.length by omega, List.take_length, List.take_of_length_le (by omega)]
theorem slice_from (x : Str) (i : Nat) : (Txt.slice x (some (i : Int)) none).cps.toList = x.cps.toList.drop i := by
  have e : Txt.slice x (some (i : Int)) none = Txt.slice x (some (min (i : Int) x.length)) none := by
    unfold Txt.slice; rw [sliceIdx_min_lo _ _ (by omega)]
  have hl := len_toList x
  rw [e, slice_is, StrLaws.sliceText_from ⟨by omega, by rw [hl]; omega⟩]
  show (x.cps.toList.drop _).take _ = _
  by_cases h : i ≤ x.length
  · rw [show (min (i : Int) (x.length : Int)).toNat = i by omega]
    rw [List.take_of_length_le]
    simp only [List.length_drop]; omega
  · rw [List.drop_eq_nil_of_le (by omega), List.drop_eq_nil_of_le (by omega), List.take_nil]
theorem slice_mid (x : Str) {i j : Nat} (hij : i ≤ j) (hj : j ≤ x.length) : (Txt.slice x (some (i : Int)) (some (j : Int))).cps.toList = (x.cps.toList.drop i).take (j - i) := by
  rw [slice_is, StrLaws.sliceText_nat x hij hj]

/-! ## find -/
theorem getElem_of_find {x : Str} {v c : Nat} (hv : v < x.length) : (x.cps.getD v 0 = c) ↔ x.cps.toList[v]? = some c :=
  ⟨StrLaws.getElem?_of_getD hv, StrLaws.getD_of_getElem?⟩
theorem fromIndex_nat (n i : Nat) : fromIndex n (i : Int) = i := by
  unfold fromIndex
  rw [if_neg (by omega)]
  omega
theorem mem_drop_iff {l : List Nat} {i c : Nat} : c ∈ l.drop i ↔ ∃ v, i ≤ v ∧ l[v]? = some c := by
  rw [List.mem_iff_getElem?]
  constructor
  · rintro ⟨n, h⟩
    rw [List.getElem?_drop] at h
    exact ⟨i + n, by omega, h⟩
  · rintro ⟨v, h1, h2⟩
    refine ⟨v - i, ?_⟩
    rw [List.getElem?_drop, show i + (v - i) = v by omega]
    exact h2
theorem find3_none {x : Str} {c i : Nat} (h : Txt.find3 x ⟨#[c]⟩ (i : Int) < 0) : c ∉ x.cps.toList.drop i := by
  rcases StrLaws.find3_spec x c i with ⟨_, hn⟩ | ⟨k, hk, _⟩
  · rw [fromIndex_nat] at hn
    intro m
    obtain ⟨v, h1, h2⟩ := mem_drop_iff.mp m
    have hl := len_toList x
    have hv : v < x.length := by rw [← hl]; exact (List.getElem?_eq_some_iff.mp h2).1
    exact hn v h1 hv ((getElem_of_find hv).mpr h2)
  · rw [hk] at h; omega
theorem find3_some {x : Str} {c i : Nat} (h : ¬ Txt.find3 x ⟨#[c]⟩ (i : Int) < 0) :
    ∃ a b, x.cps.toList.drop i = a ++ c :: b ∧ c ∉ a ∧ Txt.find3 x ⟨#[c]⟩ (i : Int) = ((i + a.length : Nat) : Int) ∧ i + a.length < x.length := by
  rcases StrLaws.find3_spec x c i with ⟨h1, _⟩ | ⟨k, hk, h1, h2, h3, h4⟩
  · rw [h1] at h; omega
  · rw [fromIndex_nat] at h1 h4
    have hl := len_toList x
    have hk' := (getElem_of_find h2).mp h3
    have e : x.cps.toList.drop i = (x.cps.toList.drop i).take (k - i) ++ c :: x.cps.toList.drop (k + 1) := by
      have e1 := (List.take_append_drop (k - i) (x.cps.toList.drop i)).symm
      rw [List.drop_drop, show i + (k - i) = k by omega] at e1
      have e2 : x.cps.toList.drop k = c :: x.cps.toList.drop (k + 1) := by
        have hk2 : k < x.cps.toList.length := by omega
        rw [List.drop_eq_getElem_cons hk2]
        rw [List.getElem?_eq_getElem hk2] at hk'
        rw [Option.some.inj hk']
      rw [e2] at e1
      exact e1
    have el : ((x.cps.toList.drop i).take (k - i)).length = k - i := by
      rw [List.length_take, List.length_drop]; omega
    refine ⟨_, _, e, ?_, ?_, ?_⟩
    · intro m
      obtain ⟨n, hn⟩ := List.mem_iff_getElem?.mp m
      have hn' : n < k - i := by
        have := (List.getElem?_eq_some_iff.mp hn).1
        omega
      rw [List.getElem?_take_of_lt hn', List.getElem?_drop] at hn
      have hv : i + n < x.length := by omega
      exact h4 (i + n) (by omega) (by omega) ((getElem_of_find hv).mpr hn)
    · rw [hk, el, show i + (k - i) = k by omega]
    · rw [el]; omega

/-! ## what parse229 says of a text -/
inductive Out where
  | reply
  | proto
  | val
  | ok (n : Int)
  deriving DecidableEq

def inner229 (r : List Nat) : Option (List Nat) := (cutAt 40 r).bind fun p => (cutAt 41 p.2).map (·.1)
def field229 : List Nat → Option (List Nat)
  | [] => none
  | c :: r => if (c :: r).getLast? = some c then (match splitL c (c :: r) with
      | [_, _, _, f, _] => some f
      | _ => none) else none
theorem field229_cons (c : Nat) (r : List Nat) : field229 (c :: r) = if (c :: r).getLast? = some c then (match splitL c (c :: r) with
      | [_, _, _, f, _] => some f
      | _ => none) else none := rfl
def outNum : Option Int → Out
  | none => .val
  | some n => .ok n
def outOf : Option (List Nat) → Out
  | none => .proto
  | some f => outNum (PySem.intText? ⟨f.toArray⟩)
def outParts : List Str → Out
  | [_, _, _, f, _] => outNum (PySem.intText? f)
  | _ => .proto
def P229 (r : List Nat) : Out := if r.take 3 = [50, 50, 57] then outOf ((inner229 r).bind field229) else .reply

theorem str229 : Str.ofString "229" = ⟨#[50, 50, 57]⟩ := by decide +kernel
theorem strOpen : Str.ofString "(" = ⟨#[40]⟩ := by decide +kernel
theorem strShut : Str.ofString ")" = ⟨#[41]⟩ := by decide +kernel
theorem ext_list {x y : Str} (h : x.cps.toList = y.cps.toList) : x = y := by
  obtain ⟨⟨a⟩⟩ := x; obtain ⟨⟨b⟩⟩ := y
  simp only at h
  rw [h]
theorem head_iff {x : Str} : (Txt.slice x none (some 3) != Str.ofString "229") = false ↔ x.cps.toList.take 3 = [50, 50, 57] := by
  have e := slice_to x 3
  rw [str229, bne_eq_false_iff_eq]
  constructor
  · intro h
    rw [← e]
    show (Txt.slice x none (some 3)).cps.toList = _
    rw [h]
  · intro h
    refine ext_list ?_
    show (Txt.slice x none (some ((3 : Nat) : Int))).cps.toList = _
    rw [e, h]
theorem P_reply {x : Str} (h : (Txt.slice x none (some 3) != Str.ofString "229") = true) : P229 x.cps.toList = .reply := by
  unfold P229
  rw [if_neg]
  intro q
  rw [head_iff.mpr q] at h
  cases h

/-- the first opening bracket is there -/
structure Opened (x : Str) (a b : List Nat) : Prop where
  whole : x.cps.toList = a ++ 40 :: b
  free : 40 ∉ a
  place : Txt.find x (Str.ofString "(") = (a.length : Int)
  room : a.length + 1 ≤ x.length
theorem opened {x : Str} (h : ¬ Txt.find x (Str.ofString "(") < 0) : ∃ a b, Opened x a b := by
  rw [strOpen, find_is_find3] at h
  obtain ⟨a, b, h1, h2, h3, h4⟩ := find3_some (i := 0) h
  refine ⟨a, b, by simpa using h1, h2, ?_, by omega⟩
  rw [strOpen, find_is_find3]
  simpa using h3
theorem P_proto1 {x : Str} (h0 : (Txt.slice x none (some 3) != Str.ofString "229") = false) (h : Txt.find x (Str.ofString "(") < 0) : P229 x.cps.toList = .proto := by
  unfold P229
  rw [if_pos (head_iff.mp h0)]
  rw [strOpen, find_is_find3] at h
  have := find3_none (i := 0) h
  unfold inner229
  rw [cutAt_none (by simpa using this)]
  rfl
structure Shut (x : Str) (a b c : List Nat) : Prop where
  whole : x.cps.toList = a ++ 40 :: (b ++ 41 :: c)
  free : 40 ∉ a
  free' : 41 ∉ b
  left : Txt.find x (Str.ofString "(") = (a.length : Int)
  right : Txt.find3 x (Str.ofString ")") (Txt.find x (Str.ofString "(") + 1) = ((a.length + 1 + b.length : Nat) : Int)
  room : a.length + 1 + b.length + 1 ≤ x.length
theorem shut {x : Str} (h : ¬ Txt.find x (Str.ofString "(") < 0) (h' : ¬ Txt.find3 x (Str.ofString ")") (Txt.find x (Str.ofString "(") + 1) < 0) : ∃ a b c, Shut x a b c := by
  obtain ⟨a, b, O⟩ := opened h
  have e1 : Txt.find x (Str.ofString "(") + 1 = ((a.length + 1 : Nat) : Int) := by rw [O.place]; omega
  rw [e1, strShut] at h'
  obtain ⟨p, q, h1, h2, h3, h4⟩ := find3_some h'
  have eb : b = p ++ 41 :: q := by
    rw [← h1, O.whole]
    simp
  refine ⟨a, p, q, by rw [O.whole, eb], O.free, h2, O.place, ?_, by omega⟩
  rw [e1, strShut, h3]
theorem Shut.inner {x : Str} {a b c : List Nat} (S : Shut x a b c) : inner229 x.cps.toList = some b := by
  unfold inner229
  rw [S.whole, cutAt_some S.free]
  show (cutAt 41 (b ++ 41 :: c)).map _ = _
  rw [cutAt_some S.free']
  rfl
theorem P_proto2 {x : Str} (h0 : (Txt.slice x none (some 3) != Str.ofString "229") = false) (h : ¬ Txt.find x (Str.ofString "(") < 0) (h' : Txt.find3 x (Str.ofString ")") (Txt.find x (Str.ofString "(") + 1) < 0) : P229 x.cps.toList = .proto := by
  unfold P229
  rw [if_pos (head_iff.mp h0)]
  obtain ⟨a, b, O⟩ := opened h
  have e1 : Txt.find x (Str.ofString "(") + 1 = ((a.length + 1 : Nat) : Int) := by rw [O.place]; omega
  rw [e1, strShut] at h'
  have hn := find3_none h'
  have eb : 41 ∉ b := by
    rw [O.whole] at hn
    simpa using hn
  unfold inner229
  rw [O.whole, cutAt_some O.free]
  simp only [Option.bind_some, cutAt_none eb, Option.map_none, Option.bind_none]
  rfl
theorem item_nat {x : Str} {i : Nat} {c : Nat} (h : x.cps.toList[i]? = some c) : Txt.item x (i : Int) = ⟨#[c]⟩ := by
  unfold Txt.item
  have e : Txt.charAt x (i : Int) = some c := by
    unfold Txt.charAt
    exact StrLaws.at_nonneg (by omega) (by simpa using h)
  rw [e]; rfl
theorem Shut.item_left {x : Str} {a b c : List Nat} (S : Shut x a b c) : Txt.item x (Txt.find x (Str.ofString "(") + 1) = ⟨#[(b ++ 41 :: c).headD 0]⟩ := by
  rw [S.left, show ((a.length : Nat) : Int) + 1 = ((a.length + 1 : Nat) : Int) by omega]
  refine item_nat ?_
  rw [S.whole, List.getElem?_append_right (by omega), show a.length + 1 - a.length = 1 by omega]
  cases b <;> rfl
theorem Shut.item_right {x : Str} {a b c : List Nat} (S : Shut x a b c) : Txt.item x (Txt.find3 x (Str.ofString ")") (Txt.find x (Str.ofString "(") + 1) - 1) = ⟨#[(40 :: b).getLast (by simp)]⟩ := by
  rw [S.right, show ((a.length + 1 + b.length : Nat) : Int) - 1 = ((a.length + b.length : Nat) : Int) by omega]
  refine item_nat ?_
  have e : x.cps.toList = a ++ ((40 :: b) ++ 41 :: c) := by rw [S.whole]; rfl
  rw [e, List.getElem?_append_right (by omega), show a.length + b.length - a.length = b.length by omega, List.getElem?_append_left (by simp)]
  rw [List.getLast_eq_getElem, List.getElem?_eq_getElem (by simp)]
  simp
theorem P_shut {x : Str} {a b c : List Nat} (h0 : (Txt.slice x none (some 3) != Str.ofString "229") = false) (S : Shut x a b c) :
    P229 x.cps.toList = outOf (field229 b) := by
  unfold P229
  rw [if_pos (head_iff.mp h0), S.inner]
  rfl
theorem one_inj {c d : Nat} (h : (⟨#[c]⟩ : Str) = ⟨#[d]⟩) : c = d := by
  injection h with h
  simpa using h
/-- the sign behind the opening bracket is the one ahead of the closing one -/
theorem Shut.same {x : Str} {a b c : List Nat} (S : Shut x a b c) (h : (Txt.item x (Txt.find x (Str.ofString "(") + 1) != Txt.item x (Txt.find3 x (Str.ofString ")") (Txt.find x (Str.ofString "(") + 1) - 1)) = false) :
    ∃ m r, b = m :: r ∧ b.getLast? = some m ∧ Txt.item x (Txt.find x (Str.ofString "(") + 1) = ⟨#[m]⟩ := by
  rw [bne_eq_false_iff_eq, S.item_right] at h
  have h' := h
  rw [S.item_left] at h'
  have q := one_inj h'
  cases b with
  | nil => simp at q
  | cons m r =>
    refine ⟨m, r, rfl, ?_, by rw [S.item_left]; rfl⟩
    have e : (40 :: m :: r).getLast (by simp) = (m :: r).getLast (by simp) := List.getLast_cons (by simp)
    rw [e] at q
    rw [List.getLast?_eq_some_getLast (by simp)]
    exact congrArg some q.symm
theorem P_proto3 {x : Str} (h0 : (Txt.slice x none (some 3) != Str.ofString "229") = false) (h : ¬ Txt.find x (Str.ofString "(") < 0) (h' : ¬ Txt.find3 x (Str.ofString ")") (Txt.find x (Str.ofString "(") + 1) < 0)
    (hd : (Txt.item x (Txt.find x (Str.ofString "(") + 1) != Txt.item x (Txt.find3 x (Str.ofString ")") (Txt.find x (Str.ofString "(") + 1) - 1)) = true) : P229 x.cps.toList = .proto := by
  obtain ⟨a, b, c, S⟩ := shut h h'
  rw [P_shut h0 S]
  have e : field229 b = none := by
    cases b with
    | nil => rfl
    | cons m r =>
      rw [field229_cons, if_neg]
      intro q
      rw [S.item_left, S.item_right, bne_iff_ne] at hd
      refine hd ?_
      have e : (40 :: m :: r).getLast (by simp) = (m :: r).getLast (by simp) := List.getLast_cons (by simp)
      rw [List.getLast?_eq_some_getLast (by simp)] at q
      rw [e, Option.some.inj q]
      rfl
  rw [e]
  rfl
/-- the text between the brackets, cut at its first sign -/
theorem Shut.parts {x : Str} {a b c : List Nat} (S : Shut x a b c) {m : Nat} (hm : Txt.item x (Txt.find x (Str.ofString "(") + 1) = ⟨#[m]⟩) :
    (Txt.split (Txt.slice x (some (Txt.find x (Str.ofString "(") + 1)) (some (Txt.find3 x (Str.ofString ")") (Txt.find x (Str.ofString "(") + 1)))) (Txt.item x (Txt.find x (Str.ofString "(") + 1))).map (·.cps.toList) = splitL m b := by
  rw [hm, split_cps, S.right, S.left, show ((a.length : Nat) : Int) + 1 = ((a.length + 1 : Nat) : Int) by omega, slice_mid x (by omega) (by have := S.room; omega)]
  have e : (x.cps.toList.drop (a.length + 1)).take (a.length + 1 + b.length - (a.length + 1)) = b := by
    rw [S.whole, show a.length + 1 + b.length - (a.length + 1) = b.length by omega, ← List.drop_drop, List.drop_left]
    simp
  rw [e]
/-- the parts parse229 makes -/
abbrev partsOf (x : Str) : List Str := Txt.split (Txt.slice x (some (Txt.find x (Str.ofString "(") + 1)) (some (Txt.find3 x (Str.ofString ")") (Txt.find x (Str.ofString "(") + 1)))) (Txt.item x (Txt.find x (Str.ofString "(") + 1))
theorem outParts_eq (ps : List Str) : outParts ps = outOf (match ps.map (·.cps.toList) with
      | [_, _, _, f, _] => some f
      | _ => none) := by
  rcases ps with _ | ⟨p1, _ | ⟨p2, _ | ⟨p3, _ | ⟨p4, _ | ⟨p5, _ | ⟨p6, r⟩⟩⟩⟩⟩⟩ <;> rfl
theorem P_parts {x : Str} (h0 : (Txt.slice x none (some 3) != Str.ofString "229") = false) (h : ¬ Txt.find x (Str.ofString "(") < 0) (h' : ¬ Txt.find3 x (Str.ofString ")") (Txt.find x (Str.ofString "(") + 1) < 0)
    (hd : (Txt.item x (Txt.find x (Str.ofString "(") + 1) != Txt.item x (Txt.find3 x (Str.ofString ")") (Txt.find x (Str.ofString "(") + 1) - 1)) = false) :
    P229 x.cps.toList = outParts (partsOf x) := by
  obtain ⟨a, b, c, S⟩ := shut h h'
  obtain ⟨m, r, hb, hl, hm⟩ := S.same hd
  rw [P_shut h0 S, outParts_eq, S.parts hm, hb, field229_cons, if_pos (hb ▸ hl)]
theorem P_proto4 {x : Str} (h0 : (Txt.slice x none (some 3) != Str.ofString "229") = false) (h : ¬ Txt.find x (Str.ofString "(") < 0) (h' : ¬ Txt.find3 x (Str.ofString ")") (Txt.find x (Str.ofString "(") + 1) < 0)
    (hd : (Txt.item x (Txt.find x (Str.ofString "(") + 1) != Txt.item x (Txt.find3 x (Str.ofString ")") (Txt.find x (Str.ofString "(") + 1) - 1)) = false) (hl : (partsOf x).length ≠ 5) : P229 x.cps.toList = .proto := by
  rw [P_parts h0 h h' hd]
  rcases q : partsOf x with _ | ⟨p1, _ | ⟨p2, _ | ⟨p3, _ | ⟨p4, _ | ⟨p5, _ | ⟨p6, r⟩⟩⟩⟩⟩⟩ <;> first | rfl | (rw [q] at hl; exact absurd rfl hl)
theorem P_five {x : Str} (h0 : (Txt.slice x none (some 3) != Str.ofString "229") = false) (h : ¬ Txt.find x (Str.ofString "(") < 0) (h' : ¬ Txt.find3 x (Str.ofString ")") (Txt.find x (Str.ofString "(") + 1) < 0)
    (hd : (Txt.item x (Txt.find x (Str.ofString "(") + 1) != Txt.item x (Txt.find3 x (Str.ofString ")") (Txt.find x (Str.ofString "(") + 1) - 1)) = false) {p1 p2 p3 p4 p5 : Str} (hp : partsOf x = [p1, p2, p3, p4, p5]) :
    P229 x.cps.toList = outNum (PySem.intText? p4) := by
  rw [P_parts h0 h h' hd, hp]
  rfl
theorem bounds {x : Str} (h : ¬ Txt.find x (Str.ofString "(") < 0) (h' : ¬ Txt.find3 x (Str.ofString ")") (Txt.find x (Str.ofString "(") + 1) < 0) :
    0 ≤ Txt.find x (Str.ofString "(") ∧ Txt.find x (Str.ofString "(") + 1 ≤ Txt.find3 x (Str.ofString ")") (Txt.find x (Str.ofString "(") + 1) ∧ Txt.find3 x (Str.ofString ")") (Txt.find x (Str.ofString "(") + 1) < x.length := by
  obtain ⟨a, b, c, S⟩ := shut h h'
  have := S.room
  rw [S.right, S.left]
  omega
end Mine
end
section
open PySem PySem.W PyProof.Rows PySem.Calls
set_option Elab.async false
set_option maxRecDepth 100000
namespace Mine
section
variable {prog : Program} {w : World} {A : Around} {E : Value → Shared → Prop} {s : Shared} {value slice : Expr} {x : Str} {t u : Tok} {Q : Value → Shared → Prop}
theorem step_left (h : ¬ Txt.find x (Str.ofString "(") < 0) (h' : ¬ Txt.find3 x (Str.ofString ")") (Txt.find x (Str.ofString "(") + 1) < 0) (hx : x.length ≤ 640)
    (hq : Q (.str (Txt.item x (Txt.find x (Str.ofString "(") + 1)) s.toks) { s with toks := s.toks + 1 })
    (hs : subscripted slice false (.str x t) (.int (Txt.find x (Str.ofString "(") + 1) u) = operate [.str x t, .int (Txt.find x (Str.ofString "(") + 1) u] (getItem (.str x t) (.int (Txt.find x (Str.ofString "(") + 1) u)) := by with_unfolding_all rfl)
    (ht : ∀ r, letTemporaryGo value (.str x t) r = pure () := by intro _; with_unfolding_all rfl) :
    wpAny (model prog w) A (subscriptTail value slice (.str x t) (.int (Txt.find x (Str.ofString "(") + 1) u)) Q E s := by
  have b := bounds h h'
  exact item_str (fitsSsize_of (N := 9223372036854775808) (by omega) (by omega) (Int.le_refl _)) (by omega) (by omega) (fun _ => hq) hs ht
theorem step_right (h : ¬ Txt.find x (Str.ofString "(") < 0) (h' : ¬ Txt.find3 x (Str.ofString ")") (Txt.find x (Str.ofString "(") + 1) < 0) (hx : x.length ≤ 640)
    (hq : Q (.str (Txt.item x (Txt.find3 x (Str.ofString ")") (Txt.find x (Str.ofString "(") + 1) - 1)) s.toks) { s with toks := s.toks + 1 })
    (hs : subscripted slice false (.str x t) (.int (Txt.find3 x (Str.ofString ")") (Txt.find x (Str.ofString "(") + 1) - 1) u) = operate [.str x t, .int (Txt.find3 x (Str.ofString ")") (Txt.find x (Str.ofString "(") + 1) - 1) u] (getItem (.str x t) (.int (Txt.find3 x (Str.ofString ")") (Txt.find x (Str.ofString "(") + 1) - 1) u)) := by with_unfolding_all rfl)
    (ht : ∀ r, letTemporaryGo value (.str x t) r = pure () := by intro _; with_unfolding_all rfl) :
    wpAny (model prog w) A (subscriptTail value slice (.str x t) (.int (Txt.find3 x (Str.ofString ")") (Txt.find x (Str.ofString "(") + 1) - 1) u)) Q E s := by
  have b := bounds h h'
  exact item_str (fitsSsize_of (N := 9223372036854775808) (by omega) (by omega) (Int.le_refl _)) (by omega) (by omega) (fun _ => hq) hs ht

theorem step_part {g : Heap} {L D : Addr} {k : Nat} {news : List (Addr × Obj)} {l : List (Str × Tok)} (N : News g L s.heap ((D, { cls := .type "list", data := .seq (strValues l).toArray k }) :: news))
    (h0 : (Txt.slice x none (some 3) != Str.ofString "229") = false) (h1 : ¬ Txt.find x (Str.ofString "(") < 0) (h2 : ¬ Txt.find3 x (Str.ofString ")") (Txt.find x (Str.ofString "(") + 1) < 0)
    (h3 : (Txt.item x (Txt.find x (Str.ofString "(") + 1) != Txt.item x (Txt.find3 x (Str.ofString ")") (Txt.find x (Str.ofString "(") + 1) - 1)) = false)
    (he : l.map (·.1) = partsOf x) (h5 : (l.length : Int) = 5) (hx : x.length ≤ 640)
    (h : ∀ f tf, P229 x.cps.toList = outNum (PySem.intText? f) → f.length ≤ 640 → Q (.str f tf) s)
    (hs : subscripted slice false (.ref D) (.int 3 u) = operate [.ref D, .int 3 u] (getItem (.ref D) (.int 3 u)) := by with_unfolding_all rfl)
    (ht : ∀ r, letTemporaryGo value (.ref D) r = pure () := by intro _; with_unfolding_all rfl) :
    wpAny (model prog w) A (subscriptTail value slice (.ref D) (.int 3 u)) Q E s := by
  have hlen : l.length = 5 := by omega
  match l, hlen with
  | [(p1, t1), (p2, t2), (p3, t3), (p4, t4), (p5, t5)], _ =>
    have hl : s.heap.IsList D (strValues [(p1, t1), (p2, t2), (p3, t3), (p4, t4), (p5, t5)]).toArray := ⟨_, (N _ (List.mem_cons_self ..)).1, rfl, _, rfl⟩
    refine item_listL hl (by decide) (by decide) (x := .str p4 t4) rfl (h p4 t4 (P_five h0 h1 h2 h3 he.symm) ?_) hs ht
    have hm : p4 ∈ partsOf x := by rw [← he]; simp
    have e1 := part_short hm
    have e2 := Txt.slice_le x (some (Txt.find x (Str.ofString "(") + 1)) (some (Txt.find3 x (Str.ofString ")") (Txt.find x (Str.ofString "(") + 1)))
    omega
theorem step_int {f : Str} (hP : P229 x.cps.toList = outNum (PySem.intText? f)) (hne : P229 x.cps.toList ≠ .val) (hf : f.length ≤ 640)
    (h : ∀ n, P229 x.cps.toList = .ok n → Q (.int n s.toks) { s with toks := s.toks + 1 }) : wpAny (model prog w) A (call (.type "int") [.str f t]) Q E s := by
  cases q : PySem.intText? f with
  | none => rw [q] at hP; exact absurd hP hne
  | some n =>
    rw [q] at hP
    exact KIN.call_text q hf (h n hP)
structure PeerIs (pa : Addr) (host : Value) (news : List (Addr × Obj)) : Prop where
  is : ∃ o vs k, (pa, o) ∈ news ∧ o.cls = .type "tuple" ∧ o.data = .seq (host :: vs).toArray k
theorem step_peer {g : Heap} {L : Addr} {pa : Addr} {host : Value} {news news' : List (Addr × Obj)} {l : List (Str × Tok)} (N : News g L s.heap news') (P : P229 x.cps.toList ≠ .proto → PeerIs pa host news) (hm : ∀ p ∈ news, p ∈ news')
    (h0 : (Txt.slice x none (some 3) != Str.ofString "229") = false) (h1 : ¬ Txt.find x (Str.ofString "(") < 0) (h2 : ¬ Txt.find3 x (Str.ofString ")") (Txt.find x (Str.ofString "(") + 1) < 0)
    (h3 : (Txt.item x (Txt.find x (Str.ofString "(") + 1) != Txt.item x (Txt.find3 x (Str.ofString ")") (Txt.find x (Str.ofString "(") + 1) - 1)) = false)
    (he : l.map (·.1) = partsOf x) (h5 : (l.length : Int) = 5) (h : Q host s)
    (hs : subscripted slice false (.ref pa) (.int 0 u) = operate [.ref pa, .int 0 u] (getItem (.ref pa) (.int 0 u)) := by with_unfolding_all rfl)
    (ht : ∀ r, letTemporaryGo value (.ref pa) r = pure () := by intro _; with_unfolding_all rfl) :
    wpAny (model prog w) A (subscriptTail value slice (.ref pa) (.int 0 u)) Q E s := by
  have hne : P229 x.cps.toList ≠ .proto := by
    rw [P_parts h0 h1 h2 h3, ← he]
    have hlen : l.length = 5 := by omega
    match l, hlen with
    | [(p1, t1), (p2, t2), (p3, t3), (p4, t4), (p5, t5)], _ =>
      show outNum _ ≠ _
      cases PySem.intText? p4 <;> simp [outNum]
  obtain ⟨o, vs, k, h1, h2, h3⟩ := (P hne).is
  refine item_tupleL (l := host :: vs) ⟨o, (N _ (hm _ h1)).1, h2, k, h3⟩ (by decide) (by decide) (j := 0) ?_ rfl h hs ht
  unfold seqIndex?
  simp
end
theorem raisedS_drop {base G : Heap} {l : List Env} {e t : Addr} {cls : Value} {vs : List Value} {q : Addr × Obj} {news : List (Addr × Obj)} {h : Heap} (R : RaisedS base G l e cls t vs (q :: news) h) : RaisedS base G l e cls t vs news h := by
  obtain ⟨⟨B, hB, h1, h2, h3, h4⟩, h5⟩ := R
  exact ⟨⟨B, hB, h1, fun p hp => h2 p (List.mem_cons_of_mem _ hp), h3, h4⟩, h5⟩
theorem news_drop2 {h₀ h : Heap} {L : Addr} {p q : Addr × Obj} {news : List (Addr × Obj)} (N : News h₀ L h (p :: q :: news)) : News h₀ L h (p :: news) := fun r hr => by
  rcases List.mem_cons.mp hr with rfl | hr
  · exact N _ (List.mem_cons_self ..)
  · exact N _ (List.mem_cons_of_mem _ (List.mem_cons_of_mem _ hr))
theorem parts_ne {x : Str} {l : List (Str × Tok)} (he : l.map (·.1) = partsOf x) (h5 : (l.length : Int) ≠ 5) : (partsOf x).length ≠ 5 := by
  rw [← he, List.length_map]
  omega
end Mine
end
section
open PySem PySem.W PyProof.Rows
set_option Elab.async false
namespace M02
set_option maxRecDepth 100000
set_option maxHeartbeats 8000000
open_top hd for PySem.Challenge.rw_km0015_02
end M02
end
section
open PySem PySem.W PyProof.Rows PySem.Calls Mine
set_option Elab.async false
set_option maxRecDepth 100000
set_option maxHeartbeats 8000000
namespace M02
local macro_rules | `(tactic| walk_at "subscriptTail Name BinOp str int") => `(tactic| (k_here; first | (refine Mine.step_left (by assumption) (by assumption) (by assumption) ?_) | (refine Mine.step_right (by assumption) (by assumption) (by assumption) ?_)))
local macro_rules | `(tactic| walk_at "subscriptTail Name Constant ref int") => `(tactic| (k_here; first
  | (refine Mine.step_part (by assumption) (by assumption) (by assumption) (by assumption) (by assumption) (by assumption) (by assumption) (by assumption) ?_; intro f tf hf hl)
  | (refine Mine.step_peer (by assumption) (by assumption) (fun p hp => List.mem_cons_of_mem _ hp) (by assumption) (by assumption) (by assumption) (by assumption) (by assumption) (by assumption) ?_)))
local macro_rules | `(tactic| walk_at "call type:int") => `(tactic| (k_here; (refine Mine.step_int (by assumption) (by assumption) (by assumption) ?_); intro n hn))
local macro_rules | `(tactic| walk_at "leaving ref") => `(tactic| (k_here; k_dflt (refine' leave_raiseS ?k1 ?k0 ?k2 ?k3 ?_; (case k0 => first | assumption | exact Heap.MadeExc.of (by assumption)); (case k2 => assumption); (case k1 => assumption); (case k3 => k_asm); k_whole; intro h' t' S' R' U'; (try dsimp only at S' R' U' ⊢))))
theorem p229 {w : World} {mean : ExcName → Option Value} {mg mb : Str → Option Value}
  {dp un : Nat} {gd : Option (List Code)} {cn : Str} {cs : Scope} {a : Addr} {ccd : Value} {cl : List (Str × Addr)} {outer : List Env} {A₀ : Around} {base h₀ : Heap} {L : Addr} {m : Str → Option Value} {news : List (Addr × Obj)} {s : Shared} {Q E : Value → Shared → Prop}
  {R : Str} {tk : Tok} {pa : Addr} {host : Value} (hR : R.length ≤ 640)
  (B : Below A₀ base outer h₀) (F : Fr h₀ L s.heap m) (X : (hd.heap_39 w.params).In h₀) (N : News h₀ L s.heap news) (T : Top hd.view_39 (looseW hd.view_39 []) mean mg mb h₀) (hk : cs.kind = .function)
  (hdp : dp + 1 < recursionLimit) (hun : un + 8 < cLine) (hne : P229 R.cps.toList ≠ .val)
  (hpeer : P229 R.cps.toList ≠ .proto → PeerIs pa host news)
  (kR : P229 R.cps.toList = .reply → ∀ e t g h' tk', Fr h₀ L g m → RaisedS base g (envX cn cs L a ccd cl :: outer) e (.ref 37) t [.str R tk] news h' → g.UpToSlots h' → E (.ref e) { s with heap := h', toks := tk' })
  (kP : P229 R.cps.toList = .proto → ∀ e t g h' tk', Fr h₀ L g m → RaisedS base g (envX cn cs L a ccd cl :: outer) e (.ref 49) t [.str R tk] news h' → g.UpToSlots h' → E (.ref e) { s with heap := h', toks := tk' })
  (kO : ∀ n, P229 R.cps.toList = .ok n → ∀ t D k h' tk', Fr h₀ L h' m → News h₀ L h' ((D, { cls := .type "tuple", data := .seq [host, .int n t].toArray k }) :: news) → (∀ q ∈ news, q.1 < D) → Q (.ref D) { s with heap := h', toks := tk' }) :
   wpAny (model PySem.Challenge.rw_km0015_02.row.prog w) (ktrTop dp un gd cn cs L a ccd cl outer) (PySem.call (.ref 58) [.str R tk, .ref pa]) Q E s := by
  revert X
  k_fill
  intro X
  refine wpAny_call ?_
  k_dflt cell_enter
  k_steps
  · exact kR (P_reply (by assumption)) _ _ _ _ _ (by assumption) (by assumption) (by assumption)
  · exact kP (P_proto1 (by assumption) (by assumption)) _ _ _ _ _ (by assumption) (by assumption) (by assumption)
  · exact kP (P_proto2 (by assumption) (by assumption) (by assumption)) _ _ _ _ _ (by assumption) (by assumption) (by assumption)
  · exact kP (P_proto3 (by assumption) (by assumption) (by assumption) (by assumption)) _ _ _ _ _ (by assumption) (by assumption) (by assumption)
  · exact kP (P_proto4 (by assumption) (by assumption) (by assumption) (by assumption) (parts_ne (by assumption) (by assumption))) _ _ _ _ _ (by assumption) (raisedS_drop (by assumption)) (by assumption)
  · rename _ ∧ AllLt _ _ => hlt
    exact kO _ (by assumption) _ _ _ _ _ (by assumption) (news_drop2 (by assumption)) (ktn_ltOf hlt.2)
theorem p229_ok {w : World} {mean : ExcName → Option Value} {mg mb : Str → Option Value}
  {dp un : Nat} {gd : Option (List Code)} {cn : Str} {cs : Scope} {a : Addr} {ccd : Value} {cl : List (Str × Addr)} {outer : List Env} {A₀ : Around} {base h₀ : Heap} {L : Addr} {m : Str → Option Value} {news : List (Addr × Obj)} {s : Shared} {Q E : Value → Shared → Prop}
  {R : Str} {tk : Tok} {pa : Addr} {host : Value} {n : Int} (hR : R.length ≤ 640)
  (B : Below A₀ base outer h₀) (F : Fr h₀ L s.heap m) (X : (hd.heap_39 w.params).In h₀) (N : News h₀ L s.heap news) (T : Top hd.view_39 (looseW hd.view_39 []) mean mg mb h₀) (hk : cs.kind = .function)
  (hdp : dp + 1 < recursionLimit) (hun : un + 8 < cLine) (hok : P229 R.cps.toList = .ok n) (hpeer : PeerIs pa host news)
  (kO : ∀ t D k h' tk', Fr h₀ L h' m → News h₀ L h' ((D, { cls := .type "tuple", data := .seq [host, .int n t].toArray k }) :: news) → (∀ q ∈ news, q.1 < D) → Q (.ref D) { s with heap := h', toks := tk' }) :
   wpAny (model PySem.Challenge.rw_km0015_02.row.prog w) (ktrTop dp un gd cn cs L a ccd cl outer) (PySem.call (.ref 58) [.str R tk, .ref pa]) Q E s := by
  refine p229 (host := host) hR B F X N T hk hdp hun (by rw [hok]; exact fun q => by cases q) (fun _ => hpeer) (fun q => ?_) (fun q => ?_) (fun n' q => ?_)
  · rw [hok] at q; cases q
  · rw [hok] at q; cases q
  · rw [hok] at q; cases q; exact kO
theorem p229_proto {w : World} {mean : ExcName → Option Value} {mg mb : Str → Option Value}
  {dp un : Nat} {gd : Option (List Code)} {cn : Str} {cs : Scope} {a : Addr} {ccd : Value} {cl : List (Str × Addr)} {outer : List Env} {A₀ : Around} {base h₀ : Heap} {L : Addr} {m : Str → Option Value} {news : List (Addr × Obj)} {s : Shared} {Q E : Value → Shared → Prop}
  {R : Str} {tk : Tok} {pa : Addr} (hR : R.length ≤ 640)
  (B : Below A₀ base outer h₀) (F : Fr h₀ L s.heap m) (X : (hd.heap_39 w.params).In h₀) (N : News h₀ L s.heap news) (T : Top hd.view_39 (looseW hd.view_39 []) mean mg mb h₀) (hk : cs.kind = .function)
  (hdp : dp + 1 < recursionLimit) (hun : un + 8 < cLine) (hpr : P229 R.cps.toList = .proto)
  (kP : ∀ e t g h' tk', Fr h₀ L g m → RaisedS base g (envX cn cs L a ccd cl :: outer) e (.ref 49) t [.str R tk] news h' → g.UpToSlots h' → E (.ref e) { s with heap := h', toks := tk' }) :
   wpAny (model PySem.Challenge.rw_km0015_02.row.prog w) (ktrTop dp un gd cn cs L a ccd cl outer) (PySem.call (.ref 58) [.str R tk, .ref pa]) Q E s := by
  refine p229 (host := .none) hR B F X N T hk hdp hun (by rw [hpr]; exact fun q => by cases q) (fun q => absurd hpr q) (fun q => ?_) (fun _ => kP) (fun n' q => ?_)
  · rw [hpr] at q; cases q
  · rw [hpr] at q; cases q
end M02
end
section
open PySem PySem.W PyProof.Rows PySem.Calls
set_option Elab.async false
set_option maxRecDepth 100000
namespace Mine
section
variable {prog : Program} {w : World} {A : Around} {E : Value → Shared → Prop} {s : Shared} {env : Env} {h₀ : Heap} {x : Str} {body : List Stmt} {Q : Flow → Shared → Prop}

/-- how a turn ends: the frame but for what is stored, the ledger in one of its states -/
def TurnEnd {σ : Type} (h₀ : Heap) (L : Addr) (x : Str) (stored : List Str) (m₀ : Str → Option Value) (I : Addr) (it : Obj) (Led : σ → List (Addr × Obj)) (P : σ → Prop) (s₁ s₂ : Shared) : Prop :=
  ∃ h' tk' m' news' c', s₂ = { s₁ with heap := h', toks := tk' } ∧ Fr h₀ L h' m' ∧ News h₀ L h' news' ∧ (∀ p ∈ (I, it) :: Led c', p ∈ news') ∧ P c' ∧ (∀ z, z ≠ x → stored.contains z = false → m' z = m₀ z)
theorem TurnEnd.intro {σ : Type} {L : Addr} {stored : List Str} {m₀ : Str → Option Value} {I : Addr} {it : Obj} {Led : σ → List (Addr × Obj)} {P : σ → Prop} {s₁ : Shared} {h' : Heap} {tk' : Nat} {m' : Str → Option Value} {news' : List (Addr × Obj)}
    (F : Fr h₀ L h' m') (N : News h₀ L h' news') (c' : σ) (sub : ∀ p ∈ (I, it) :: Led c', p ∈ news') (hp : P c') (hm : ∀ z, z ≠ x → stored.contains z = false → m' z = m₀ z) : TurnEnd h₀ L x stored m₀ I it Led P s₁ { s₁ with heap := h', toks := tk' } :=
  ⟨h', tk', m', news', c', rfl, F, N, sub, hp, hm⟩
def TurnPost {σ : Type} (h₀ : Heap) (L : Addr) (x : Str) (stored : List Str) (m₀ : Str → Option Value) (I : Addr) (it : Obj) (Led : σ → List (Addr × Obj)) (P : σ → Prop) (s₁ : Shared) (Q : Flow → Shared → Prop) (f : Flow) (s₂ : Shared) : Prop :=
  match f with
  | .ret v => Q (.ret v) s₂
  | .brk => Q .next s₂
  | _ => TurnEnd h₀ L x stored m₀ I it Led P s₁ s₂

theorem fr_off {L : Addr} {h : Heap} {stored : List Str} {m₀ m₁ : Str → Option Value} {v : Value} (hm : ∀ z, z ≠ x → stored.contains z = false → m₁ z = m₀ z) (F : Fr h₀ L h (fun y => if y = x then some v else m₁ y)) :
    Fr h₀ L h (fun y => if y = x then some v else if stored.contains y = true then m₁ y else m₀ y) := by
  have e : (fun y => if y = x then some v else if stored.contains y = true then m₁ y else m₀ y) = fun y => if y = x then some v else m₁ y := by
    funext y
    by_cases hy : y = x
    · rw [if_pos hy, if_pos hy]
    · rw [if_neg hy, if_neg hy]
      by_cases hs : stored.contains y = true
      · rw [if_pos hs]
      · rw [if_neg hs]
        exact (hm y hy (by simpa using hs)).symm
  rw [e]
  exact F
theorem fr_offOut {L : Addr} {h : Heap} {stored : List Str} {m₀ m₁ : Str → Option Value} (hm : ∀ z, z ≠ x → stored.contains z = false → m₁ z = m₀ z) (F : Fr h₀ L h m₁) :
    Fr h₀ L h (fun y => if y = x then m₁ y else if stored.contains y = true then m₁ y else m₀ y) := by
  have e : (fun y => if y = x then m₁ y else if stored.contains y = true then m₁ y else m₀ y) = m₁ := by
    funext y
    by_cases hy : y = x
    · rw [if_pos hy]
    · rw [if_neg hy]
      by_cases hs : stored.contains y = true
      · rw [if_pos hs]
      · rw [if_neg hs]
        exact (hm y hy (by simpa using hs)).symm
  rw [e]
  exact F

/-- a for over the items of a list of the call's own, by what holds between the turns: P of the ledger's state; the names `stored` are forgotten -/
theorem loop_vals {σ : Type} {ax : Addr} {lo : Obj} {vs : List Value} {n : Nat} {m₀ : Str → Option Value} (Led : σ → List (Addr × Obj)) (P : σ → Prop) (V : Value → Prop) (c₀ : σ) (stored : List Str)
    (hh : A.handled = none) (F : Fr h₀ env.locals s.heap m₀) (N : News h₀ env.locals s.heap (Led c₀)) (hm : ∀ c, (ax, lo) ∈ Led c) (hadr : ∀ c, (Led c).map (·.1) = (Led c₀).map (·.1)) (hc : lo.cls = .type "list") (hd : lo.data = .seq vs.toArray n)
    (hv : ∀ v ∈ vs, V v) (hp : P c₀)
    (turn : ∀ (I : Addr), (∀ p ∈ Led c₀, p.1 < I) → ∀ (v : Value) (c : σ) (u : Str → Option Value) (it : Obj) (h : Heap) (tk : Nat), V v → P c → it.cls = .type "list_iterator" →
      Fr h₀ env.locals h (fun y => if y = x then some v else if stored.contains y = true then u y else m₀ y) → News h₀ env.locals h ((I, it) :: Led c) →
      wpAny (model prog w) A (execs body env) (TurnPost h₀ env.locals x stored m₀ I it Led P { s with heap := h, toks := tk } Q) E { s with heap := h, toks := tk })
    (done : ∀ (c : σ) (u : Str → Option Value) (h : Heap) (tk : Nat), P c → Fr h₀ env.locals h (fun y => if y = x then u y else if stored.contains y = true then u y else m₀ y) → News h₀ env.locals h (Led c) → Q .next { s with heap := h, toks := tk }) :
    wpAny (model prog w) A (pyIter (.ref ax)) (fun it s₂ => LoopAtV prog w A h₀ env x body Q E it s₂) E s := by
  refine iter_listUnr hh F N (hm c₀) hc hd fun I hI => ?_
  have hI' : ∀ c, ∀ p ∈ Led c, p.1 ≠ I := fun c p hp q => by
    have h1 : p.1 ∈ (Led c).map (·.1) := List.mem_map.mpr ⟨p, hp, rfl⟩
    rw [hadr c] at h1
    obtain ⟨p', hp', e⟩ := List.mem_map.mp h1
    exact absurd (hI p' hp') (by rw [e, q]; exact Nat.lt_irrefl _)
  have key : ∀ (l : List Value), (∀ v ∈ l, V v) → ∀ (m₁ : Str → Option Value) (nx : List (Addr × Obj)) (c : σ), (∀ p ∈ Led c, p ∈ nx) → P c → (∀ z, z ≠ x → stored.contains z = false → m₁ z = m₀ z) →
      ListRest prog w A E h₀ env x body Q s I (ax, lo) l m₁ nx := by
    intro l
    induction l with
    | nil =>
      intro _ m₁ nx c hs hP hm₁
      refine ListRest.zero fun h tk F₁ N₁ => ?_
      exact done c m₁ h tk hP (fr_offOut hm₁ F₁) fun p hp => N₁ p (hs p hp)
    | cons v l ih =>
      intro hvl m₁ nx c hs hP hm₁
      refine ListRest.succ fun it h tk hit F₁ N₁ => ?_
      refine wpAny_mono (turn I hI v c m₁ it h tk (hvl v (List.mem_cons_self ..)) hP hit (fr_off hm₁ F₁) (fun p hp => ?_)) (fun f s₂ hq => ?_) fun _ _ e => e
      · rcases List.mem_cons.mp hp with rfl | hp
        · exact N₁ _ (List.mem_cons_self ..)
        · exact N₁ _ (List.mem_cons_of_mem _ (hs p hp))
      · have fin : TurnEnd h₀ env.locals x stored m₀ I it Led P { s with heap := h, toks := tk } s₂ →
            UnrEnd h₀ env.locals { s with heap := h, toks := tk } I it (fun m' n' => (ax, lo) ∈ n' ∧ ListRest prog w A E h₀ env x body Q s I (ax, lo) l m' n') s₂ := by
          rintro ⟨h', tk', m', news', c', e, F', N', sub, hP', hm'⟩
          exact ⟨h', tk', m', Led c', e, F', fun p hp => N' p (sub p hp), hI' c', hm c', ih (fun v hv => hvl v (List.mem_cons_of_mem _ hv)) m' (Led c') c' (fun _ hp => hp) hP' hm'⟩
        cases f with
        | ret v => exact hq
        | brk => exact hq
        | next => exact fin hq
        | cont => exact fin hq
  exact key vs hv m₀ (Led c₀) c₀ (fun _ hp => hp) hp fun _ _ _ => rfl

theorem ints_mem {vs : List Value} {ns : List Int} (hi : IntsAre vs ns) : ∀ v ∈ vs, ∃ k t, v = .int k t ∧ k ∈ ns := by
  intro v hv
  obtain ⟨i, hiv⟩ := List.mem_iff_getElem?.mp hv
  obtain ⟨k, t, e, hk⟩ := IntsAre.at hi i v hiv
  exact ⟨k, t, e, List.mem_of_getElem? hk⟩
/-- over ints, where one name is a cell -/
theorem loop_cell {ax ca : Addr} {lo o₀ : Obj} {vs : List Value} {ns : List Int} {n : Nat} {m₀ : Str → Option Value} {news : List (Addr × Obj)} (stored : List Str)
    (hh : A.handled = none) (F : Fr h₀ env.locals s.heap m₀) (N : News h₀ env.locals s.heap news) (hcl : env.cells.map (·.2) = [ca]) (hm : (ax, lo) ∈ news) (hmc : (ca, o₀) ∈ news) (hc : lo.cls = .type "list") (hd : lo.data = .seq vs.toArray n)
    (hi : IntsAre vs ns) {v₀ : Option Value} (ho : o₀.data = .cell v₀)
    (turn : ∀ (I : Addr), (@LT.lt Nat _ ax I ∧ @LT.lt Nat _ ca I) → ∀ (k : Int) (t : Tok) (o : Obj) (v : Option Value) (u : Str → Option Value) (it : Obj) (h : Heap) (tk : Nat), k ∈ ns → o.data = .cell v → it.cls = .type "list_iterator" →
      Fr h₀ env.locals h (fun y => if y = x then some (.int k t) else if stored.contains y = true then u y else m₀ y) → News h₀ env.locals h [(I, it), (ax, lo), (ca, o)] →
      wpAny (model prog w) A (execs body env) (TurnPost h₀ env.locals x stored m₀ I it (fun o => [(ax, lo), (ca, o)]) (fun o => ∃ v, o.data = .cell v) { s with heap := h, toks := tk } Q) E { s with heap := h, toks := tk })
    (done : ∀ (u : Str → Option Value) (h : Heap) (tk : Nat), Fr h₀ env.locals h (fun y => if y = x then u y else if stored.contains y = true then u y else m₀ y) → Q .next { s with heap := h, toks := tk }) :
    wpAny (model prog w) A (pyIter (.ref ax)) (fun it s₂ => LoopAtV prog w A h₀ env x body Q E it s₂) E s := by
  refine loop_vals (fun o => [(ax, lo), (ca, o)]) (fun o : Obj => ∃ v, o.data = .cell v) (fun v => ∃ k t, v = .int k t ∧ k ∈ ns) o₀ stored hh F (fun p hp => ?_) (fun _ => List.mem_cons_self ..) (fun _ => rfl) hc hd (ints_mem hi) ⟨v₀, ho⟩ ?_ ?_
  · rcases List.mem_cons.mp hp with rfl | hp
    · exact N _ hm
    · rw [List.mem_singleton.mp hp]
      exact N _ hmc
  · rintro I hI _ o u it h tk ⟨k, t, rfl, hk⟩ ⟨v, hv⟩ hit F₁ N₁
    exact turn I ⟨hI (ax, lo) (List.mem_cons_self ..), hI (ca, o₀) (List.mem_cons_of_mem _ (List.mem_cons_self ..))⟩ k t o v u it h tk hk hv hit F₁ N₁
  · rintro o u h tk _ F₁ _
    exact done u h tk F₁
end
end Mine
end
section
open PySem PySem.W PyProof.Rows PySem.Calls
set_option Elab.async false
set_option maxRecDepth 100000
set_option autoImplicit false
namespace Mine
open PyProof.Rows.LCg PyProof.Rows.LCt
section
variable {prog : Program} {w : World} {A : Around} {E : Value → Shared → Prop} {s : Shared} {h₀ : Heap} {L : Addr} {m : Str → Option Value} {env : Env}

def SrcS (prog : Program) (w : World) (A : Around) (h₀ : Heap) (L : Addr) (m : Str → Option Value) (env : Env) (ct elt : Expr) (x : Str) (scope : Scope) (cl : List (Str × Addr)) (Fin : Shared → List Value → List (Addr × Obj) → Prop) (xv : Value) (s₁ : Shared) : Prop :=
  ∃ xt tx news, xv = .str xt tx ∧ A.handled = none ∧ Fr h₀ L s₁.heap m ∧ News h₀ L s₁.heap news ∧ xt.length ≤ sizeLine ∧
    ∀ s₂ : Shared, (∃ h, s₂ = { s₁ with heap := h }) → CompRestT prog w A h₀ L m env ct elt x scope cl s₂ (fun _ => True) (SignAt xt) (Fin s₂) xt.cps.size 0 [] news
theorem SrcS.intro {ct elt : Expr} {x : Str} {scope : Scope} {cl : List (Str × Addr)} {Fin : Shared → List Value → List (Addr × Obj) → Prop} {xt : Str} {tx : Tok} {news : List (Addr × Obj)} {s₁ : Shared}
    (hh : A.handled = none) (F : Fr h₀ L s₁.heap m) (N : News h₀ L s₁.heap news) (hsz : xt.length ≤ sizeLine)
    (h : ∀ g, CompRestT prog w A h₀ L m env ct elt x scope cl { s₁ with heap := g } (fun _ => True) (SignAt xt) (Fin { s₁ with heap := g }) xt.cps.size 0 [] news) :
    SrcS prog w A h₀ L m env ct elt x scope cl Fin (.str xt tx) s₁ := ⟨xt, tx, news, rfl, hh, F, N, hsz, fun _ ⟨g, e⟩ => e ▸ h g⟩

theorem str_st {I : Addr} {cls : String} {xt : Str} {tx : Tok} : ∀ i (h h' : Heap) (o : Obj) (nw : List (Addr × Obj)), h.IsStrIter I cls xt tx i → h.get? I = some o → h'.get? I = some o → (∀ b o, h₀.get? b = some o → h'.get? b = some o) → News h₀ L h' nw → True → h'.IsStrIter I cls xt tx i :=
  fun i h h' o nw st e e' _ _ _ => by
    obtain ⟨o', q, r⟩ := st
    rw [e] at q
    cases q
    exact ⟨o, e', r⟩

/-- [e for x in TEXT if c] -/
theorem ListComp_S {ct elt iter : Expr} {x : Str} {px : Pos} {scope : Scope} {cl : List (Str × Addr)} {pos : Pos} {Q : Value → Shared → Prop} (_F₀ : Fr h₀ L s.heap m)
    (hclos : closureFor scope env = pure cl) (hcell : ∀ y ∈ scope.names, y.2 ≠ .cell) (hkind : scope.kind = .function)
    (hnames : ∀ y ∈ scope.names, y.2 = .local → scope.names.lookup y.1 = some .local) (hx : scope.names.lookup x = some .local)
    (h : wpAny (model prog w) A (eval iter env) (SrcS prog w A h₀ L m env ct elt x scope cl (fun s₂ => FinE h₀ L m s₂ Q)) E s)
    (hs : ∀ x, foldedSetIterable iter env x = pure x := by intro _; rfl) :
    wpAny (model prog w) A (eval (.ListComp elt [⟨.Name x px, iter, [ct], 0⟩] scope pos) env) Q E s := by
  rw [eval_ListComp]
  refine wpAny_comprehension_free (use := none) rfl hs hclos hkind hnames (wpAny_mono h (fun xv s₁ h₁ => ?_) fun _ _ e => e)
  obtain ⟨xt, tx, news, rfl, hh, F, N, hsz, R⟩ := h₁
  have fin : ∀ (D C : Addr) (h : Heap) (tk : Nat) (m' : Str → Option Value) (ys : List Value) (news' : List (Addr × Obj)) (s₂ : Shared), Fr h₀ L h m → News h₀ L h ((D, lst ys) :: news') → Off1 D news' → h.Ns C m' → h₀.get? C = none → h₀.get? D = none → C ≠ L → D ≠ L → C ≠ D → (∀ p ∈ news', p.1 ≠ C) → FinE h₀ L m s₂ Q ys news' →
      ∃ m'', h.Ns C m'' ∧ ∀ h'', Heap.SameBut C h h'' → Q (.ref D) { s₂ with heap := h'', toks := tk } := by
    intro D C h tk m' ys news' s₂ F' N' o1 hn hC₀ hD₀ hCL hDL hCD offC fin
    refine ⟨m', hn, fun h'' hs'' => fin D h'' tk (F'.change hs'' hCL hC₀) (fun p hp => ?_) o1⟩
    refine ⟨hs''.extBut _ _ ?_ (N' p hp).1, (N' p hp).2⟩
    rcases List.mem_cons.mp hp with rfl | hp
    · exact Ne.symm hCD
    · exact offC p hp
  cases ha : xt.cps.all (· < 128)
  · refine wpAny_pyIter_wide ha ?_
    refine block_T (Walks.strWide hh s₁.heap.objs.size xt tx) hsz (fun i h st => by obtain ⟨o, e, _⟩ := st; exact ⟨o, e⟩) str_st hcell hkind hx ⟨_, Heap.get?_push_size _ rfl, rfl, rfl⟩ (fun b hb => ?_)
      (F.keeps fun _ _ e => Heap.get?_push_of_some _ e) (N.grown fun _ _ e => Heap.get?_push_of_some _ e) (Nat.ne_of_lt F.ns.lt) (next_is_new F) (fun p hp => Nat.ne_of_lt (Heap.lt_size (N p hp).1)) trivial (R _ ⟨_, rfl⟩) ?_
    · rw [List.mem_singleton.mp hb]
      show s₁.heap.objs.size < (s₁.heap.push _).objs.size
      rw [Heap.size_push]; exact Nat.lt_succ_self _
    · intro D C h tk m' ys news' F' N' o1 hn hC₀ hD₀ hCL hDL hCD offC hf
      exact fin D C h tk m' ys news' _ F' N' o1 hn hC₀ hD₀ hCL hDL hCD offC hf
  · refine wpAny_pyIter_ascii ha ?_
    refine block_T (Walks.strAscii hh s₁.heap.objs.size xt tx) hsz (fun i h st => by obtain ⟨o, e, _⟩ := st; exact ⟨o, e⟩) str_st hcell hkind hx ⟨_, Heap.get?_push_size _ rfl, rfl, rfl⟩ (fun b hb => ?_)
      (F.keeps fun _ _ e => Heap.get?_push_of_some _ e) (N.grown fun _ _ e => Heap.get?_push_of_some _ e) (Nat.ne_of_lt F.ns.lt) (next_is_new F) (fun p hp => Nat.ne_of_lt (Heap.lt_size (N p hp).1)) trivial (R _ ⟨_, rfl⟩) ?_
    · rw [List.mem_singleton.mp hb]
      show s₁.heap.objs.size < (s₁.heap.push _).objs.size
      rw [Heap.size_push]; exact Nat.lt_succ_self _
    · intro D C h tk m' ys news' F' N' o1 hn hC₀ hD₀ hCL hDL hCD offC hf
      exact fin D C h tk m' ys news' _ F' N' o1 hn hC₀ hD₀ hCL hDL hCD offC hf

/-- a turn that takes the sign; one that does not -/
def KcsYes (p : Nat → Bool) (news : List (Addr × Obj)) (c : Nat) (y : Value) (news' : List (Addr × Obj)) : Prop := news' = news ∧ p c = true ∧ ∃ t, y = .str ⟨#[c]⟩ t
def KcsNo (p : Nat → Bool) (news : List (Addr × Obj)) (c : Nat) (news' : List (Addr × Obj)) : Prop := news' = news ∧ p c = false

theorem kcs_rest {ct elt : Expr} {x : Str} {scope : Scope} {cl : List (Str × Addr)} {S : List (Addr × Obj) → Prop} {Fin : List Value → List (Addr × Obj) → Prop} {news : List (Addr × Obj)} {xt : Str} (p : Nat → Bool)
    (turn : ∀ c t I oI C oC D m₂ ys h tk (E' : Value → Shared → Prop), c ∈ xt.cps.toList → NsObj oC m₂ → m₂ x = some (.str ⟨#[c]⟩ t) → Fr h₀ L h m → News h₀ L h ((I, oI) :: (C, oC) :: (D, lst ys) :: news) → Off3 I C D news → ((@Ne Nat I C) ∧ (@Ne Nat I D) ∧ (@Ne Nat C D)) →
      wpAny (model prog w) A (isTrue ct (compEnvC scope cl C env) (eval ct (compEnvC scope cl C env))) (fun ok s' => if ok = true then
        wpAny (model prog w) A (eval elt (compEnvC scope cl C env)) (CompEnd h₀ L m { s with heap := h, toks := tk } I oI C oC D (lst ys) S (KcsYes p news c)) E' s'
        else CompEnd h₀ L m { s with heap := h, toks := tk } I oI C oC D (lst ys) S (fun _ news' => KcsNo p news c news') Value.none s') E' { s with heap := h, toks := tk })
    (fin : ∀ ys, StrsAre ys ((xt.cps.toList.filter p).map fun c => (⟨#[c]⟩ : Str)) → Fin ys news) : CompRestT prog w A h₀ L m env ct elt x scope cl s S (SignAt xt) Fin xt.cps.size 0 [] news := by
  have hl := len_toList xt
  have key : ∀ (j i : Nat) (ys : List Value), i + j = xt.cps.size → StrsAre ys (((xt.cps.toList.take i).filter p).map fun c => (⟨#[c]⟩ : Str)) → CompRestT prog w A h₀ L m env ct elt x scope cl s S (SignAt xt) Fin j i ys news := by
    intro j
    induction j with
    | zero =>
      intro i ys hi hy
      have e : i = xt.cps.toList.length := by rw [hl]; show i = xt.cps.size; omega
      subst e
      rw [List.take_length] at hy
      exact CompRestT.zero (fin ys hy)
    | succ j ih =>
      intro i ys hi hy
      refine CompRestT.succ ?_
      rintro v I oI C oC D m₂ h tk E' ⟨c, t, hc, rfl⟩ hC hx F N off ne
      have hc' : xt.cps.toList[i]? = some c := by simpa using hc
      have hmem : c ∈ xt.cps.toList := List.mem_of_getElem? hc'
      have htake : xt.cps.toList.take (i + 1) = xt.cps.toList.take i ++ [c] := by rw [List.take_add_one, hc']; rfl
      refine wpAny_mono (turn c t I oI C oC D m₂ ys h tk E' hmem hC hx F N off ne) (fun ok s₂ hq => ?_) fun _ _ e => e
      cases ok with
      | true =>
        simp only [if_true] at hq ⊢
        refine wpAny_mono hq (fun y s₃ hq => ?_) fun _ _ e => e
        obtain ⟨h', tk', nw, e, F', N', off', hS, hn, hp, t', hy'⟩ := hq
        rw [hn] at N' off' hS
        refine ⟨h', tk', news, e, F', N', off', hS, ?_⟩
        rw [hy']
        refine ih (i + 1) _ (by omega) ?_
        rw [htake, List.filter_append, List.map_append]
        simp only [List.filter_cons, hp, if_true, List.filter_nil, List.map_cons, List.map_nil]
        exact hy.append' (.cons _ _ .nil)
      | false =>
        simp only [Bool.false_eq_true, if_false] at hq ⊢
        obtain ⟨h', tk', nw, e, F', N', off', hS, hn, hp⟩ := hq
        rw [hn] at N' off' hS
        refine ⟨h', tk', news, e, F', N', off', hS, ?_⟩
        refine ih (i + 1) _ (by omega) ?_
        rw [htake, List.filter_append, List.map_append]
        simp only [List.filter_cons, hp, Bool.false_eq_true, if_false, List.filter_nil, List.map_nil, List.append_nil]
        exact hy
  exact key xt.cps.size 0 [] (by omega) (by simp only [List.take_zero, List.filter_nil, List.map_nil]; exact .nil)

theorem join_ones_cps : ∀ l : List Nat, (Str.join (Str.ofString "") (l.map fun c => (⟨#[c]⟩ : Str))).cps.toList = l
  | [] => rfl
  | [_] => rfl
  | c :: d :: r => by
    show ((⟨#[c]⟩ : Str) ++ Str.ofString "" ++ Str.join (Str.ofString "") ((d :: r).map fun c => (⟨#[c]⟩ : Str))).cps.toList = _
    rw [Str.cps_append, Str.cps_append, Array.toList_append, Array.toList_append, join_ones_cps (d :: r), show (Str.ofString "").cps.toList = [] from by decide +kernel]
    rfl
theorem join_ones_is (l : List Nat) : Txt.join (Str.ofString "") (l.map fun c => (⟨#[c]⟩ : Str)) = ⟨l.toArray⟩ := by
  refine ext_list ?_
  show (Builtin.Str.glued _ _).cps.toList = _
  rw [StrLaws.glued_eq_join, join_ones_cps]
theorem join_signs {D : Addr} {news : List (Addr × Obj)} {ys : List Value} {l : List Nat} {t : Tok} {Q : Value → Shared → Prop} (N : News h₀ L s.heap news) (hm : (D, lst ys) ∈ news) (hs : StrsAre ys (l.map fun c => (⟨#[c]⟩ : Str))) {B : Nat} (hl : l.length ≤ B) (hB : B ≤ 1000)
    (h : ∀ t' k, (⟨l.toArray⟩ : Str).length ≤ B → Q (.str ⟨l.toArray⟩ t') { s with toks := k }) : wpAny (model prog w) A (call (.builtin "str.join") [.str (Str.ofString "") t, .ref D]) Q E s := by
  have hc := hs.carried
  rw [List.map_map] at hc
  refine KT.join_1 (g := fun c => (⟨#[c]⟩ : Str)) ⟨_, (N _ hm).1, rfl, _, rfl⟩ hc (fun _ _ => rfl) (by omega) fun t' k _ => ?_
  rw [join_ones_is]
  exact h t' k (by show l.toArray.size ≤ B; rw [List.size_toArray]; exact hl)
end
end Mine
end
section
open PySem PySem.W PyProof.Rows PySem.Calls
set_option Elab.async false
set_option maxRecDepth 100000
set_option autoImplicit false
namespace Mine
/-- signs that are signs -/
def TextOk (x : Str) : Prop := ∀ c ∈ x.cps.toList, c < 1114112
theorem TextOk.lay {x : Str} (h : TextOk x) : (PyData.str x).canLay0 = true := by
  show x.cps.all (· < 0x110000) = true
  rw [← Array.all_toList, List.all_eq_true]
  intro c hc
  exact decide_eq_true (h c hc)
theorem TextOk.app {x y : Str} (hx : TextOk x) (hy : TextOk y) : TextOk (x ++ y) := by
  intro c hc
  rw [Str.cps_append, Array.toList_append] at hc
  rcases List.mem_append.mp hc with h | h
  · exact hx c h
  · exact hy c h
theorem TextOk.list {l : List Nat} (h : ∀ c ∈ l, c < 1114112) : TextOk ⟨l.toArray⟩ := fun c hc => h c (by simpa using hc)
theorem TextOk.one {c : Nat} (h : c < 1114112) : TextOk ⟨#[c]⟩ := fun d hd => by
  have e : d = c := by simpa using hd
  rw [e]; exact h
theorem TextOk.slice_to {x : Str} (h : TextOk x) (j : Nat) : TextOk (Txt.slice x none (some (j : Int))) := fun c hc => by
  rw [Mine.slice_to] at hc
  exact h c (List.mem_of_mem_take hc)
theorem TextOk.slice_from {x : Str} (h : TextOk x) (j : Nat) : TextOk (Txt.slice x (some (j : Int)) none) := fun c hc => by
  rw [Mine.slice_from] at hc
  exact h c (List.mem_of_mem_drop hc)

theorem shaped_pair {x : Str} {n : Int} (h : TextOk x) : SeqAt.shaped (.tuple [.str x, .int n]) = true := by
  have e := h.lay
  simp only [SeqAt.shaped, PyData.canLay0, PyData.canLayAll0, PyData.depth, PyData.depthAll, Bool.and_eq_true] at e ⊢
  simp [e]
theorem shaped_err {w x : Str} (hw : TextOk w) (h : TextOk x) : SeqAt.shaped (.list [.str w, .tuple [.str x]]) = true := by
  have e := h.lay
  have e2 := hw.lay
  simp only [SeqAt.shaped, PyData.canLay0, PyData.canLayAll0, PyData.depth, PyData.depthAll, Bool.and_eq_true] at e e2 ⊢
  simp [e, e2]
theorem shaped_num {w : Str} (hw : TextOk w) : SeqAt.shaped (.list [.str w]) = true := by
  have e2 := hw.lay
  simp only [SeqAt.shaped, PyData.canLay0, PyData.canLayAll0, PyData.depth, PyData.depthAll, Bool.and_eq_true] at e2 ⊢
  simp [e2]
theorem ok_noport : TextOk (Str.ofString "no port") := by unfold TextOk; decide +kernel
theorem ok_reply : TextOk (Str.ofString "not this reply") := by unfold TextOk; decide +kernel
theorem ok_number : TextOk (Str.ofString "no number") := by unfold TextOk; decide +kernel
end Mine
end
section
open PySem PySem.W PyProof.Rows PySem.Calls PyProof.Rows.LCg PyProof.Rows.LCt
set_option Elab.async false
set_option maxRecDepth 100000
set_option autoImplicit false
namespace Mine
/-- we are within a cut -/
structure InCut : Prop where
section
variable {M : Model} {A : Around} {E : Value → Shared → Prop} {s : Shared} {h₀ : Heap} {L : Addr} {m : Str → Option Value} {news : List (Addr × Obj)}
/-- a statement's end that stores one name: what is said of the value; all else as it was -/
def ValEnd (W : Value → Prop) (h₀ : Heap) (L : Addr) (m : Str → Option Value) (news : List (Addr × Obj)) (nm : Str) (s₁ : Shared) (fl : Flow) (s₂ : Shared) : Prop :=
  fl = .next ∧ ∃ h' tk' v, s₂ = { s₁ with heap := h', toks := tk' } ∧ W v ∧ Fr h₀ L h' (fun y => if y = nm then some v else m y) ∧ News h₀ L h' news
theorem ValEnd.intro {W : Value → Prop} {nm : Str} {s₁ : Shared} {h' : Heap} {tk' : Nat} {v : Value} {news' : List (Addr × Obj)} (F : Fr h₀ L h' (fun y => if y = nm then some v else m y)) (N : News h₀ L h' news') (hs : ∀ p ∈ news, p ∈ news') (hw : W v) :
    ValEnd W h₀ L m news nm s₁ .next { s₁ with heap := h', toks := tk' } := ⟨rfl, h', tk', v, rfl, hw, F, fun p hp => N p (hs p hp)⟩
theorem cut_val {tr : Sem Flow} {Q : Flow → Shared → Prop} (nm : Str) (W : Value → Prop) (_F : Fr h₀ L s.heap m) (_N : News h₀ L s.heap news) (h : InCut → wpAny M A tr (ValEnd W h₀ L m news nm s) E s)
    (k : ∀ h' tk' v, W v → Fr h₀ L h' (fun y => if y = nm then some v else m y) → News h₀ L h' news → Q .next { s with heap := h', toks := tk' }) : wpAny M A tr Q E s := by
  refine wpAny_mono (h ⟨⟩) (fun fl s₂ hq => ?_) fun _ _ e => e
  obtain ⟨rfl, h', tk', v, rfl, hw, F', N'⟩ := hq
  exact k h' tk' v hw F' N'
end
end Mine
end
section
open PySem PySem.W PyProof.Rows PySem.Calls
set_option Elab.async false
set_option maxRecDepth 100000
set_option autoImplicit false
/-! Exceptions of the text's own classes, caught in a frame that has cells -/
namespace Mine
section
variable {prog : Program} {w : World} {A : Around} {E : Value → Shared → Prop} {s : Shared} {h₀ h : Heap} {outer : List Env} {L a e t : Addr} {m : Str → Option Value} {cn : Str} {cs : Scope} {ccd : Value} {cl : List (Str × Addr)}
  {vs : List Value} {Q : Flow → Shared → Prop} {news : List (Addr × Obj)} {KF : Frag} {p : Program} {loose : List Str} {mean : ExcName → Option Value} {mg mb : Str → Option Value} {cls c : Value} {x n : Str} {np pos : Pos} {rest hs : List ExceptHandler} {b₀ : Stmt} {suite : List Stmt}

theorem flying_noFrame {B : Heap} {a0 : Value} (R : Heap.FlyingW B (envX cn cs L a ccd cl :: outer) e cls a0 h) : B.get? L = none := by
  obtain ⟨_, ⟨L', _, hf, hn, _⟩, _⟩ := R.2.2.1
  have q : L = L' := Option.some.inj hf
  rw [q]
  exact hn
theorem raisedK_news (R : RaisedK h₀ (envX cn cs L a ccd cl :: outer) e cls t vs news h) : News h₀ L h news := by
  obtain ⟨⟨B, hB, hl, hfl, _⟩, _⟩ := R
  have hL := flying_noFrame hfl
  exact fun q hq => ⟨hfl.1 _ _ (hl q hq).1, (fun z => by have h1 := (hl q hq).1; rw [z, hL] at h1; cases h1), (hl q hq).2⟩
theorem raisedK_frame (R : RaisedK h₀ (envX cn cs L a ccd cl :: outer) e cls t vs news s.heap) (F : Fr h₀ L h m) (hsm : h.UpToSlots s.heap) : Fr h₀ L s.heap m := by
  obtain ⟨⟨B, hB, _, hfl, _⟩, _⟩ := R
  exact F.of_stays (flyingW_base hB hfl).1 hsm
theorem raisedK_ty {M : Model} (R : RaisedK h₀ (envX cn cs L a ccd cl :: outer) e cls t vs news h) : Looks M h (typeOf (.ref e)) cls := by
  obtain ⟨⟨B, hB, _, hfl, _⟩, _⟩ := R
  obtain ⟨ob, hob, hc⟩ := hfl.there
  subst hc
  exact (Looks.ld hob).andThen .now

/-- the exception has come to the frame of the try -/
theorem look_X (hA : A.frames = some (envX cn cs L a ccd cl :: outer)) (F : Fr h₀ L h m) (hsm : h.UpToSlots s.heap) (R : RaisedK h₀ (envX cn cs L a ccd cl :: outer) e cls t vs news s.heap)
    (k : ∀ h', Fr h₀ L h' m → RaisedK h₀ (envX cn cs L a ccd cl :: outer) e cls t vs news h' → wpAny (model prog w) A (handleBy (.ref e) (envX cn cs L a ccd cl) hs) Q E { s with heap := h' }) :
    wpAny (model prog w) A (noteFrame (.ref e) (envX cn cs L a ccd cl)) (fun _ s₂ => wpAny (model prog w) A (setFlight (.ref e) none) (fun _ s₃ => wpAny (model prog w) A (handleBy (.ref e) (envX cn cs L a ccd cl) hs) Q E s₃) E s₂) E s := by
  obtain ⟨⟨B, hB, hl, hfl, hnew⟩, htup⟩ := R
  refine wpAny_looks_onW hA rfl hfl fun h₄ hheld h4 => ?_
  refine wpAny_landsW hheld fun h₅ hfl₅ h5 => ?_
  have h45 := h4.trans h5
  exact k h₅ (F.of_stays (flyingW_base hB hfl₅).1 (hsm.trans h45)) ⟨⟨B, hB, hl, hfl₅, hnew⟩, htup.of_slots h45⟩

theorem name_X (hc : KtsName KF x c) {Q : Value → Shared → Prop} (F : Fr h₀ L s.heap m) (X : KF.In h₀) (T : TopRead p loose mg mb h₀) (hq : Q c s)
    (hk : cs.kind = .function) (hx : (envX cn cs L a ccd cl).kindOf x = some .globalImplicit) (hd : (x == ("__debug__" : Str)) = false) : wpAny (model prog w) A (eval (.Name x np) (envX cn cs L a ccd cl)) Q E s := by
  rcases hc with e | ⟨e, hv, hn⟩
  · exact nameX_K F X T e hq hk hx hd
  · exact nameX_B F X T e hv hn hq hk hx hd

/-- a clause that does not match -/
theorem miss_X (F : Fr h₀ L s.heap m) (R : RaisedK h₀ (envX cn cs L a ccd cl :: outer) e cls t vs news s.heap) (X : KF.In h₀) (T : TopRead p loose mg mb h₀) (hc : KtsName KF x c) (he : exmOne KF cls c = some false) {nm : Option Str} {body : List Stmt}
    (k : wpAny (model prog w) A (handleBy (.ref e) (envX cn cs L a ccd cl) rest) Q E s)
    (hk : cs.kind = .function := by rfl) (hx : (envX cn cs L a ccd cl).kindOf x = some .globalImplicit := by rfl) (hd : (x == ("__debug__" : Str)) = false := by decide) :
    wpAny (model prog w) A (handleBy (.ref e) (envX cn cs L a ccd cl) (.ExceptHandler (some (.Name x np)) nm body pos :: rest)) Q E s :=
  wpAny_handleBy_cons (codeAny_handlers_test (name_X hc F X T ((exm_one (X.keeps F.keep) (raisedK_ty R) he).here (by simpa using k)) hk hx hd)) (by intro q; cases q)

/-- a clause that matches and names it -/
theorem hit_X (F : Fr h₀ L s.heap m) (R : RaisedK h₀ (envX cn cs L a ccd cl :: outer) e cls t vs news s.heap) (X : KF.In h₀) (T : TopRead p loose mg mb h₀) (hc : KtsName KF x c) (he : exmOne KF cls c = some true)
    (k : ∀ h' tk oe ot ws nt (E' : Value → Shared → Prop), Fr h₀ L h' (fun y => if y = n then some (.ref e) else m y) → oe.cls = cls → oe.data = .fields ws → ws[0]? = some (.ref t) → ot.cls = .type "tuple" → ot.data = .seq vs.toArray nt → News h₀ L h' ((e, oe) :: (t, ot) :: news) →
      wpAny (model prog w) (A.mark (some (.ref e))) (execs (b₀ :: suite) (envX cn cs L a ccd cl))
        (fun f s₄ => wpAny (model prog w) A (do bindName (envX cn cs L a ccd cl) n .none; unbindBehindTheSuite (envX cn cs L a ccd cl) n pos) (fun _ s₅ => Q f s₅) E s₄) E' { s with heap := h', toks := tk })
    (hk : cs.kind = .function := by rfl) (hx : (envX cn cs L a ccd cl).kindOf x = some .globalImplicit := by rfl) (hd : (x == ("__debug__" : Str)) = false := by decide) (hlo : (envX cn cs L a ccd cl).kindOf n = some .local := by rfl) :
    wpAny (model prog w) A (handleBy (.ref e) (envX cn cs L a ccd cl) (.ExceptHandler (some (.Name x np)) (some n) (b₀ :: suite) pos :: rest)) Q E s := by
  refine wpAny_handleBy_cons (codeAny_handlers_test (name_X hc F X T ((exm_one (X.keeps F.keep) (raisedK_ty R) he).here ?_) hk hx hd)) (by intro q; cases q)
  obtain ⟨⟨B, hB, hl, hfl, hnew⟩, htup⟩ := R
  refine codeAny_handlers_suite_as ?_
  refine lands_againW hfl fun h₆ hfl₆ h6 => ?_
  have F₆ := F.of_stays (flyingW_base hB hfl₆).1 h6
  have R₆ : RaisedK h₀ (envX cn cs L a ccd cl :: outer) e cls t vs news h₆ := ⟨⟨B, hB, hl, hfl₆, hnew⟩, htup.of_slots h6⟩
  have N₆ := raisedK_news R₆
  obtain ⟨oe, ws, hoe, hoec, hoed, hoe0⟩ := (flyingW_base hB hfl₆).first
  obtain ⟨ot, nt, hot, hotc, hotd⟩ := htup.of_slots h6
  have Nt := News.more F₆ N₆ hot (fun es n q => by rw [hotd] at q; cases q) (fresh_of_stays hB hnew)
  have Ne := News.more F₆ Nt hoe (fun es n q => by rw [hoed] at q; cases q) (flyingW_base hB hfl₆).2.1
  exact storeX_L F₆ Ne (fun h₇ F₇ N₇ => k h₇ _ oe ot ws nt _ F₇ hoec hoed hoe0 hotc hotd N₇) hk hlo

/-- behind the clause its name goes -/
theorem goes_X {M : Model} {Q : Unit → Shared → Prop} (F : Fr h₀ L s.heap m) (N : News h₀ L s.heap news)
    (k : ∀ h' v, Fr h₀ L h' (fun y => if y = n then v else m y) → News h₀ L h' news → Q () { s with heap := h', toks := s.toks + 1 })
    (hk : cs.kind = .function := by rfl) (hl : (envX cn cs L a ccd cl).kindOf n = some .local := by rfl) :
    wpAny M A (do bindName (envX cn cs L a ccd cl) n .none; unbindBehindTheSuite (envX cn cs L a ccd cl) n pos) Q E s :=
  wpAny_nameGoes_keeps hl F.ns (by show (cs.kind == .class || (cs.kind == .module && L != mainGlobals)) = false; rw [hk]; rfl) fun h' v hn hs => k h' v (F.set hn hs) (N.set hs)
end
/-- the class of an exception, its bases up to the built-in ones: none of them says how an attribute is read -/
def quietIn (K : Frag) (N : Addr) : Bool := nsOkIn K N && quietNames.all fun n => nsIn K N n == some none
theorem quiet_of {K : Frag} {h : Heap} {N : Addr} (X : K.In h) (e : quietIn K N = true) : h.Ns N (h.nsMap N) ∧ ∀ n ∈ quietNames, h.nsMap N n = none := by
  unfold quietIn at e
  simp only [Bool.and_eq_true, List.all_eq_true, beq_iff_eq] at e
  exact ⟨.of_isNs (isNs_of_in X e.1), fun n hn => nsMap_none_of_in X e.1 (e.2 n hn)⟩
def tailQ (K : Frag) (bmB : List Value) : List Value → Bool
  | [] => bmB == []
  | v :: r => (v :: r) == bmB || match v with
    | .ref A => (match K.lookup A with
      | some ⟨_, _, .cls cd, _⟩ => quietIn K cd.ns && tailQ K bmB r
      | _ => false)
    | _ => false
theorem tailQ_of {K : Frag} {h : Heap} {bmB : List Value} (X : K.In h) : ∀ {l : List Value}, tailQ K bmB l = true → OwnTailQ h bmB l
  | [], e => by rw [← beq_iff_eq.mp e]; exact .base
  | v :: r, e => by
    unfold tailQ at e
    rcases Bool.or_eq_true_iff.mp e with q | q
    · rw [beq_iff_eq.mp q]; exact .base
    · split at q
      · split at q
        · rename_i ho
          simp only [Bool.and_eq_true] at q
          exact .own (X _ _ ho) (quiet_of X q.1).1 (quiet_of X q.1).2 (tailQ_of X q.2)
        · cases q
      · cases q
def excQ (K : Frag) (C : Addr) (bmB : List Value) (newId : String) : Bool := match K.lookup C with
  | some ⟨.type "type", _, .cls cd, sl⟩ => (match cd.mro, sl.toList with
    | .ref C' :: bm, [_, _, _, _, some (.builtin n), _] => C' == C && n == newId && !cd.hasDel && tailQ K bmB bm && quietIn K cd.ns
    | _, _ => false)
  | _ => false
section
variable {prog : Program} {w : World} {A : Around} {E : Value → Shared → Prop} {s : Shared} {h₀ : Heap} {L e t C : Addr} {m : Str → Option Value} {news : List (Addr × Obj)} {KF : Frag} {oe : Obj} {ws : Array Value} {bmB : List Value} {B newId : String}
/-- what the exception was raised with -/
theorem args_X {expr : Bool} {Q : Value → Shared → Prop} (FB : ExcAttrBase B bmB) (X : KF.In h₀) (F : Fr h₀ L s.heap m) (N : News h₀ L s.heap news) (q : excQ KF C bmB newId = true) (hm : (e, oe) ∈ news) (hc : oe.cls = .ref C) (hd : oe.data = .fields ws) (h0 : ws[0]? = some (.ref t))
    (hq : Q (.ref t) { s with toks := s.toks + 1 }) : wpAny (model prog w) A (getAttr (.ref e) "args" expr) Q E s := by
  have X' := X.keeps F.keep
  obtain ⟨h, g, d, tk, os⟩ := s
  unfold excQ at q
  split at q
  · rename_i dd cd sl ho
    split at q
    · rename_i C' bm k0 k1 k2 k3 n k5 hmr hs
      simp only [Bool.and_eq_true, beq_iff_eq, Bool.not_eq_true'] at q
      obtain ⟨⟨⟨⟨rfl, rfl⟩, hdel⟩, ht⟩, hok⟩ := q
      obtain ⟨nm, bs, mro, ns, qn, hd', sn, sub, ab, col, del⟩ := cd
      dsimp only at hmr hdel hok
      subst hmr hdel
      have hsl : sl = #[k0, k1, k2, k3, some (.builtin n), k5] := by
        obtain ⟨l⟩ := sl
        simp only at hs
        rw [hs]
      subst hsl
      exact args_attr_own FB (X' _ _ ho) (quiet_of X' hok).1 (quiet_of X' hok).2 (tailQ_of X' ht) (N.get hm) hc hd h0 hq
    · cases q
  · cases q
end
end Mine
end
section
open PySem PySem.W PyProof.Rows PySem.Calls PyProof.Rows.LCg PyProof.Rows.LCt
set_option Elab.async false
set_option maxRecDepth 100000
set_option autoImplicit false
namespace Mine
/-! ## the port's text -/
abbrev decS (n : Int) : Str := Str.ofString (toString n)
abbrev frontS (NM : Str) : Str := Str.ofString "229 " ++ ⟨(NM.cps.toList.filter fun c => c != 40).toArray⟩ ++ Str.ofString "("
abbrev fieldS (NM : Str) (mk : Nat) : Str := ⟨(NM.cps.toList.filter fun c => c != mk && c != 41).toArray⟩
abbrev innerS (NM : Str) (mk : Nat) (P : Int) : Str := ⟨#[mk]⟩ ++ Txt.slice (fieldS NM mk) none (some 5) ++ ⟨#[mk]⟩ ++ Txt.slice (fieldS NM mk) (some 5) none ++ ⟨#[mk]⟩ ++ (Txt.mul (Str.ofString "0") (P.fmod 3) ++ decS P)
/-- the same, closed -/
structure Front (NM : Str) (x : Str) : Prop where
  eq : x = frontS NM
structure Inner (NM : Str) (mk : Nat) (P : Int) (x : Str) : Prop where
  eq : x = innerS NM mk P
/-- a sign that law 2 takes for a mark -/
structure GoodMark (c : Nat) : Prop where
  shut : c ≠ 41
  digit : ¬ (48 ≤ c ∧ c ≤ 57)
  low : c < 128
theorem good_bar : GoodMark (UInt8.ofNat '|'.val.toNat).toNat := ⟨by decide, by decide, by decide⟩
theorem str0 : (Str.ofString "0").cps.toList = [48] := by decide +kernel
theorem str9 : (Str.ofString "9").cps.toList = [57] := by decide +kernel
theorem mark_shut {k : Int} (h1 : ((⟨#[(33 + k.fmod 94).toNat]⟩ : Str) == Str.ofString ")") = false) : (33 + k.fmod 94).toNat ≠ 41 := by
  intro e
  rw [e, strShut] at h1
  exact absurd h1 (by decide)
theorem one_lt {a b : Nat} (h : [a] < [b]) : a < b := by
  have h' := decide_eq_true h
  rw [StrLaws.lt_cons_cons] at h'
  simpa using h'
theorem good_less {k : Int} (h1 : ((⟨#[(33 + k.fmod 94).toNat]⟩ : Str) == Str.ofString ")") = false) (h2 : (⟨#[(33 + k.fmod 94).toNat]⟩ : Str).cps.toList < (Str.ofString "0").cps.toList) : GoodMark (33 + k.fmod 94).toNat := by
  have lo := fmod_lo k (n := 94) (by decide)
  have hi := fmod_hi k (n := 94) (by decide)
  rw [str0] at h2
  have h3 : (33 + k.fmod 94).toNat < 48 := one_lt h2
  exact ⟨mark_shut h1, by omega, by omega⟩
theorem good_more {k : Int} (h1 : ((⟨#[(33 + k.fmod 94).toNat]⟩ : Str) == Str.ofString ")") = false) (h2 : (Str.ofString "9").cps.toList < (⟨#[(33 + k.fmod 94).toNat]⟩ : Str).cps.toList) : GoodMark (33 + k.fmod 94).toNat := by
  have lo := fmod_lo k (n := 94) (by decide)
  have hi := fmod_hi k (n := 94) (by decide)
  rw [str9] at h2
  have h3 : 57 < (33 + k.fmod 94).toNat := one_lt h2
  exact ⟨mark_shut h1, by omega, by omega⟩
theorem name_short {X : Str} {l : List Int} (h : X.length = (l.take 12).length) : X.length ≤ 12 := by
  rw [h, List.length_take]
  omega
theorem filter_short {X : Str} {l : List Int} {p : Nat → Bool} (h : X.length = (l.take 12).length) : (X.cps.toList.filter p).length ≤ 12 := by
  have h1 := name_short h
  have h2 := List.length_filter_le p X.cps.toList
  rw [len_toList] at h2
  omega
theorem open_yes {c : Nat} (h : ((⟨#[c]⟩ : Str) != Str.ofString "(") = true) : (c != 40) = true := by
  rw [strOpen, bne_iff_ne] at h
  rw [bne_iff_ne]
  intro e
  exact h (by rw [e])
theorem mark_yes {c mk : Nat} (h1 : ((⟨#[c]⟩ : Str) != ⟨#[mk]⟩) = true) (h2 : ((⟨#[c]⟩ : Str) != Str.ofString ")") = true) : (c != mk && c != 41) = true := by
  rw [strShut, bne_iff_ne] at h2
  rw [bne_iff_ne] at h1
  rw [Bool.and_eq_true, bne_iff_ne, bne_iff_ne]
  exact ⟨fun e => h1 (by rw [e]), fun e => h2 (by rw [e])⟩
theorem mark_no1 {c mk : Nat} (h2 : ((⟨#[c]⟩ : Str) != Str.ofString ")") = false) : (c != mk && c != 41) = false := by
  rw [strShut, bne_eq_false_iff_eq] at h2
  rw [Bool.and_eq_false_iff, bne_eq_false_iff_eq, bne_eq_false_iff_eq]
  exact .inr (one_inj h2)
theorem mark_no2 {c mk : Nat} (h1 : ((⟨#[c]⟩ : Str) != ⟨#[mk]⟩) = false) : (c != mk && c != 41) = false := by
  rw [bne_eq_false_iff_eq] at h1
  rw [Bool.and_eq_false_iff, bne_eq_false_iff_eq, bne_eq_false_iff_eq]
  exact .inl (one_inj h1)
theorem open_no {c : Nat} (h : ((⟨#[c]⟩ : Str) != Str.ofString "(") = false) : (c != 40) = false := by
  rw [strOpen, bne_eq_false_iff_eq] at h
  rw [bne_eq_false_iff_eq]
  exact one_inj h
section
variable {M : Model} {A : Around} {E : Value → Shared → Prop} {s : Shared} {h₀ : Heap} {L : Addr} {m : Str → Option Value} {I ax ca : Addr} {it lo o : Obj}
def MarkEnd (h₀ : Heap) (L : Addr) (m : Str → Option Value) (I : Addr) (it : Obj) (ax : Addr) (lo : Obj) (ca : Addr) (s₁ : Shared) (fl : Flow) (s₂ : Shared) : Prop :=
  fl = .next ∧ ∃ h' tk' c t o, s₂ = { s₁ with heap := h', toks := tk' } ∧ GoodMark c ∧ Fr h₀ L h' m ∧ o.data = .cell (some (.str ⟨#[c]⟩ t)) ∧ News h₀ L h' [(I, it), (ax, lo), (ca, o)]
theorem MarkEnd.intro {s₁ : Shared} {h' : Heap} {tk' c : Nat} {t : Tok} (F : Fr h₀ L h' m) (N : News h₀ L h' [(I, it), (ax, lo), (ca, o)]) (d : o.data = .cell (some (.str ⟨#[c]⟩ t))) (g : GoodMark c) :
    MarkEnd h₀ L m I it ax lo ca s₁ .next { s₁ with heap := h', toks := tk' } := ⟨rfl, h', tk', c, t, o, rfl, g, F, d, N⟩
theorem cut_mark {tr : Sem Flow} {Q : Flow → Shared → Prop} (_F : Fr h₀ L s.heap m) (_N : News h₀ L s.heap [(I, it), (ax, lo), (ca, o)]) (h : InCut → wpAny M A tr (MarkEnd h₀ L m I it ax lo ca s) E s)
    (k : ∀ h' tk' c t o, GoodMark c → Fr h₀ L h' m → o.data = .cell (some (.str ⟨#[c]⟩ t)) → News h₀ L h' [(I, it), (ax, lo), (ca, o)] → Q .next { s with heap := h', toks := tk' }) : wpAny M A tr Q E s := by
  refine wpAny_mono (h ⟨⟩) (fun fl s₂ hq => ?_) fun _ _ e => e
  obtain ⟨rfl, h', tk', c, t, o, rfl, g, F', d, N'⟩ := hq
  exact k h' tk' c t o g F' d N'
end
section
variable {prog : Program} {w : World} {A : Around} {E : Value → Shared → Prop} {s : Shared} {h₀ : Heap} {L : Addr} {m : Str → Option Value} {env : Env}
theorem kcs_open {l : List Expr} {op : List CmpOp} {e elt : Expr} {pos : Pos} {x : Str} {scope : Scope} {cl : List (Str × Addr)} {S : List (Addr × Obj) → Prop} {Fin : List Value → List (Addr × Obj) → Prop} {news : List (Addr × Obj)} {xt : Str}
    (turn : ∀ c t I oI C oC D m₂ ys h tk (E' : Value → Shared → Prop), c ∈ xt.cps.toList → NsObj oC m₂ → m₂ x = some (.str ⟨#[c]⟩ t) → Fr h₀ L h m → News h₀ L h ((I, oI) :: (C, oC) :: (D, lst ys) :: news) → Off3 I C D news → ((@Ne Nat I C) ∧ (@Ne Nat I D) ∧ (@Ne Nat C D)) →
      wpAny (model prog w) A (isTrue (.Compare e op l pos) (compEnvC scope cl C env) (eval (.Compare e op l pos) (compEnvC scope cl C env))) (fun ok s' => if ok = true then
        wpAny (model prog w) A (eval elt (compEnvC scope cl C env)) (CompEnd h₀ L m { s with heap := h, toks := tk } I oI C oC D (lst ys) S (KcsYes (fun c => c != 40) news c)) E' s'
        else CompEnd h₀ L m { s with heap := h, toks := tk } I oI C oC D (lst ys) S (fun _ news' => KcsNo (fun c => c != 40) news c news') Value.none s') E' { s with heap := h, toks := tk })
    (fin : ∀ ys, StrsAre ys ((xt.cps.toList.filter fun c => c != 40).map fun c => (⟨#[c]⟩ : Str)) → Fin ys news) : CompRestT prog w A h₀ L m env (.Compare e op l pos) elt x scope cl s S (SignAt xt) Fin xt.cps.size 0 [] news :=
  kcs_rest _ turn fin
theorem kcs_mark {mk : Nat} (_g : GoodMark mk) {b : BoolOp} {l : List Expr} {elt : Expr} {pos : Pos} {x : Str} {scope : Scope} {cl : List (Str × Addr)} {S : List (Addr × Obj) → Prop} {Fin : List Value → List (Addr × Obj) → Prop} {news : List (Addr × Obj)} {xt : Str}
    (turn : ∀ c t I oI C oC D m₂ ys h tk (E' : Value → Shared → Prop), c ∈ xt.cps.toList → NsObj oC m₂ → m₂ x = some (.str ⟨#[c]⟩ t) → Fr h₀ L h m → News h₀ L h ((I, oI) :: (C, oC) :: (D, lst ys) :: news) → Off3 I C D news → ((@Ne Nat I C) ∧ (@Ne Nat I D) ∧ (@Ne Nat C D)) →
      wpAny (model prog w) A (isTrue (.BoolOp b l pos) (compEnvC scope cl C env) (eval (.BoolOp b l pos) (compEnvC scope cl C env))) (fun ok s' => if ok = true then
        wpAny (model prog w) A (eval elt (compEnvC scope cl C env)) (CompEnd h₀ L m { s with heap := h, toks := tk } I oI C oC D (lst ys) S (KcsYes (fun c => c != mk && c != 41) news c)) E' s'
        else CompEnd h₀ L m { s with heap := h, toks := tk } I oI C oC D (lst ys) S (fun _ news' => KcsNo (fun c => c != mk && c != 41) news c news') Value.none s') E' { s with heap := h, toks := tk })
    (fin : ∀ ys, StrsAre ys ((xt.cps.toList.filter fun c => c != mk && c != 41).map fun c => (⟨#[c]⟩ : Str)) → Fin ys news) : CompRestT prog w A h₀ L m env (.BoolOp b l pos) elt x scope cl s S (SignAt xt) Fin xt.cps.size 0 [] news :=
  kcs_rest _ turn fin
end

/-! ## the port's text, again -/
theorem decS_len {n : Int} (h0 : 0 ≤ n) (h1 : n < 10 ^ 20) : (decS n).length ≤ 20 := toString_length_le h0 (by decide) h1
theorem mul_short {n : Int} : (Txt.mul (Str.ofString "0") (n.fmod 3)).length ≤ 2 := by
  have lo := fmod_lo n (n := 3) (by decide)
  have hi := fmod_hi n (n := 3) (by decide)
  generalize n.fmod 3 = r at *
  have h : r = 0 ∨ r = 1 ∨ r = 2 := by omega
  rcases h with rfl | rfl | rfl <;> decide +kernel
section
variable {prog : Program} {w : World} {A : Around} {E : Value → Shared → Prop} {s : Shared}
theorem step_port {a : Int} {t : Tok} {Q : Value → Shared → Prop} (h : (0 ≤ a.fmod (10 ^ Int.toNat 20) ∧ a.fmod (10 ^ Int.toNat 20) < 10 ^ 20) → (decS (a.fmod (10 ^ Int.toNat 20))).length ≤ 20 → (Txt.mul (Str.ofString "0") ((a.fmod (10 ^ Int.toNat 20)).fmod 3)).length ≤ 2 → Q (.str (decS (a.fmod (10 ^ Int.toNat 20))) s.toks) { s with toks := s.toks + 1 }) :
    wpAny (model prog w) A (call (.type "str") [.int (a.fmod (10 ^ Int.toNat 20)) t]) Q E s := by
  have h0 : 0 ≤ a.fmod (10 ^ Int.toNat 20) := fmod_lo a (by decide)
  have h1 : a.fmod (10 ^ Int.toNat 20) < 10 ^ 20 := fmod_hi a (by decide)
  refine P.str_of_int ?_ (h ⟨h0, h1⟩ (decS_len h0 h1) mul_short)
  have h2 : (a.fmod (10 ^ Int.toNat 20)).natAbs < 2 ^ 1920 := by
    have e : (10 : Int) ^ 20 = 100000000000000000000 := by decide
    rw [e] at h1
    have e2 : (2 : Nat) ^ 80 ≤ 2 ^ 1920 := Nat.pow_le_pow_right (by decide) (by decide)
    have e3 : (a.fmod (10 ^ Int.toNat 20)).natAbs < 2 ^ 80 := by
      have e4 : (2 : Nat) ^ 80 = 1208925819614629174706176 := by decide
      rw [e4]
      omega
    exact Nat.lt_of_lt_of_le e3 e2
  by_cases hz : (a.fmod (10 ^ Int.toNat 20)).natAbs = 0
  · rw [hz]; decide
  · exact (Nat.log2_lt hz).mpr h2
end
end Mine
end
section
open PySem PySem.W PyProof.Rows PySem.Calls PySem.NumText
set_option Elab.async false
set_option maxRecDepth 100000
set_option autoImplicit false
namespace Mine
/-! ## law 2, plain -/
theorem P_opened {h a b c : List Nat} (ha : 40 ∉ h ++ a) (hb : 41 ∉ b) (hh : h = [50, 50, 57]) : P229 (h ++ a ++ 40 :: (b ++ 41 :: c)) = outOf (field229 b) := by
  subst hh
  have e : ([50, 50, 57] ++ a ++ 40 :: (b ++ 41 :: c)).take 3 = [50, 50, 57] := rfl
  unfold P229 inner229
  rw [if_pos e, cutAt_some ha]
  simp only [Option.bind_some, cutAt_some hb, Option.map_some]
theorem P_unshut {h a b : List Nat} (ha : 40 ∉ h ++ a) (hb : 41 ∉ b) (hh : h = [50, 50, 57]) : P229 (h ++ a ++ 40 :: b) = .proto := by
  subst hh
  have e : ([50, 50, 57] ++ a ++ 40 :: b).take 3 = [50, 50, 57] := rfl
  unfold P229 inner229
  rw [if_pos e, cutAt_some ha]
  simp only [Option.bind_some, cutAt_none hb, Option.map_none, Option.bind_none]
  rfl
theorem field_four {m : Nat} {a b d : List Nat} (ha : m ∉ a) (hb : m ∉ b) (hd : m ∉ d) : field229 (m :: (a ++ m :: (b ++ m :: (d ++ [m])))) = some d := by
  rw [field229_cons, if_pos (by rw [show m :: (a ++ m :: (b ++ m :: (d ++ [m]))) = (m :: (a ++ m :: (b ++ m :: d))) ++ [m] by simp, List.getLast?_concat])]
  have e : splitL m (m :: (a ++ m :: (b ++ m :: (d ++ [m])))) = [[], a, b, d, []] := by
    have e0 := splitL_cons (c := m) (a := []) (b := a ++ m :: (b ++ m :: (d ++ [m]))) (by simp)
    rw [List.nil_append] at e0
    rw [e0, splitL_cons ha, splitL_cons hb, splitL_cons hd]
    rfl
  rw [e]
theorem field_five {m : Nat} {a b d : List Nat} (ha : m ∉ a) (hb : m ∉ b) (hd : m ∉ d) : field229 (m :: m :: (a ++ m :: (b ++ m :: (d ++ [m])))) = none := by
  rw [field229_cons, if_pos (by rw [show m :: m :: (a ++ m :: (b ++ m :: (d ++ [m]))) = (m :: m :: (a ++ m :: (b ++ m :: d))) ++ [m] by simp, List.getLast?_concat])]
  have e : splitL m (m :: m :: (a ++ m :: (b ++ m :: (d ++ [m])))) = [[], [], a, b, d, []] := by
    have e0 := splitL_cons (c := m) (a := []) (b := a ++ m :: (b ++ m :: (d ++ [m]))) (by simp)
    have e1 := splitL_cons (c := m) (a := []) (b := m :: (a ++ m :: (b ++ m :: (d ++ [m])))) (by simp)
    rw [List.nil_append] at e0 e1
    rw [e1, e0, splitL_cons ha, splitL_cons hb, splitL_cons hd]
    rfl
  rw [e]
theorem field_open {m x : Nat} {a d : List Nat} (hd : x ≠ m) : field229 (m :: (a ++ (d ++ [x]))) = none := by
  rw [field229_cons, if_neg]
  rw [show m :: (a ++ (d ++ [x])) = (m :: (a ++ d)) ++ [x] by simp, List.getLast?_append]
  simpa using hd

/-- the port's digits -/
structure Digits (d : List Nat) (P : Int) : Prop where
  all : AllDigits d
  ne : d ≠ []
  reads : PySem.intText? ⟨d.toArray⟩ = some P
theorem digitsVal_zeros (l : List Nat) : ∀ n, digitsVal (List.replicate n 48 ++ l) = digitsVal l
  | 0 => rfl
  | n + 1 => by
    rw [List.replicate_succ, List.cons_append, digitsVal_zero]
    exact digitsVal_zeros l n
theorem dec_digits {n : Nat} : AllDigits (decS (n : Int)).cps.toList ∧ (decS (n : Int)).cps.toList ≠ [] ∧ digitsVal (decS (n : Int)).cps.toList = n := by
  refine ⟨fun c hc => ?_, ?_, ?_⟩
  · rw [KIN.signs_num] at hc
    obtain ⟨ch, hch, e⟩ := List.mem_map.mp hc
    have r := digit_range (Nat.isDigit_of_mem_toDigits (by decide) (by decide) hch)
    rw [← e]
    exact r
  · rw [KIN.signs_num]
    intro e
    have h := toDigits_len_ge 10 n
    rw [List.map_eq_nil_iff.mp e] at h
    exact absurd h (by decide)
  · rw [KIN.signs_num, KIN.val_back]
theorem mul_zero {n : Int} : ∃ k, k ≤ 2 ∧ (Txt.mul (Str.ofString "0") (n.fmod 3)).cps.toList = List.replicate k 48 := by
  have lo := fmod_lo n (n := 3) (by decide)
  have hi := fmod_hi n (n := 3) (by decide)
  generalize n.fmod 3 = r at *
  have h : r = 0 ∨ r = 1 ∨ r = 2 := by omega
  rcases h with rfl | rfl | rfl
  · exact ⟨0, by decide, by decide +kernel⟩
  · exact ⟨1, by decide, by decide +kernel⟩
  · exact ⟨2, by decide, by decide +kernel⟩
theorem port_digits {P : Int} (h0 : 0 ≤ P) (h1 : P < 10 ^ 20) : Digits (Txt.mul (Str.ofString "0") (P.fmod 3) ++ decS P).cps.toList P := by
  obtain ⟨n, rfl⟩ := Int.eq_ofNat_of_zero_le h0
  obtain ⟨k, hk, ek⟩ := mul_zero (n := (n : Int))
  obtain ⟨d1, d2, d3⟩ := dec_digits (n := n)
  have hl := decS_len h0 h1
  rw [Str.cps_append, Array.toList_append, ek]
  have hall : AllDigits (List.replicate k 48 ++ (decS (n : Int)).cps.toList) := by
    intro c hc
    rcases List.mem_append.mp hc with hc | hc
    · rw [(List.mem_replicate.mp hc).2]; decide
    · exact d1 c hc
  have hne : List.replicate k 48 ++ (decS (n : Int)).cps.toList ≠ [] := by
    intro e
    exact d2 (List.append_eq_nil_iff.mp e).2
  refine ⟨hall, hne, ?_⟩
  have e := intText_digits (x := ⟨(List.replicate k 48 ++ (decS (n : Int)).cps.toList).toArray⟩) hall hne (by
    show (List.replicate k 48 ++ (decS (n : Int)).cps.toList).toArray.size ≤ 4300
    rw [List.size_toArray, List.length_append, List.length_replicate, len_toList]
    omega)
  rw [e]
  show some ((digitsVal (List.replicate k 48 ++ (decS (n : Int)).cps.toList) : Nat) : Int) = _
  rw [digitsVal_zeros, d3]

theorem str229b : (Str.ofString "229 ").cps.toList = [50, 50, 57, 32] := by decide +kernel
theorem strOpenL : (Str.ofString "(").cps.toList = [40] := by decide +kernel
theorem strShutL : (Str.ofString ")").cps.toList = [41] := by decide +kernel
theorem app_toList (x y : Str) : (x ++ y).cps.toList = x.cps.toList ++ y.cps.toList := by rw [Str.cps_append, Array.toList_append]
section
variable {NM : Str} {mk : Nat} {P : Int}
theorem front_list : ∃ a, 40 ∉ ([50, 50, 57] : List Nat) ++ a ∧ (frontS NM).cps.toList = [50, 50, 57] ++ a ++ [40] := by
  refine ⟨32 :: (NM.cps.toList.filter fun c => c != 40), ?_, ?_⟩
  · simp
  · rw [app_toList, app_toList, str229b, strOpenL]
    simp
theorem inner_list (g : GoodMark mk) (h0 : 0 ≤ P) (h1 : P < 10 ^ 20) : ∃ a b d, mk ∉ a ∧ mk ∉ b ∧ mk ∉ d ∧ 41 ∉ a ∧ 41 ∉ b ∧ 41 ∉ d ∧ Digits d P ∧ (innerS NM mk P).cps.toList = mk :: (a ++ mk :: (b ++ mk :: d)) := by
  have D := port_digits h0 h1
  have hf : ∀ c ∈ (fieldS NM mk).cps.toList, c ≠ mk ∧ c ≠ 41 := by
    intro c hc
    have hc' : c ∈ NM.cps.toList.filter fun c => c != mk && c != 41 := by simpa using hc
    have := (List.mem_filter.mp hc').2
    simpa using this
  have e1 := slice_to (fieldS NM mk) 5
  have e2 := slice_from (fieldS NM mk) 5
  refine ⟨(Txt.slice (fieldS NM mk) none (some 5)).cps.toList, (Txt.slice (fieldS NM mk) (some 5) none).cps.toList, (Txt.mul (Str.ofString "0") (P.fmod 3) ++ decS P).cps.toList, ?_, ?_, ?_, ?_, ?_, ?_, D, ?_⟩
  · intro h
    rw [show ((5 : Nat) : Int) = 5 from rfl] at e1
    rw [e1] at h
    exact (hf _ (List.mem_of_mem_take h)).1 rfl
  · intro h
    rw [show ((5 : Nat) : Int) = 5 from rfl] at e2
    rw [e2] at h
    exact (hf _ (List.mem_of_mem_drop h)).1 rfl
  · intro h
    exact g.digit (D.all _ h)
  · intro h
    rw [show ((5 : Nat) : Int) = 5 from rfl] at e1
    rw [e1] at h
    exact (hf _ (List.mem_of_mem_take h)).2 rfl
  · intro h
    rw [show ((5 : Nat) : Int) = 5 from rfl] at e2
    rw [e2] at h
    exact (hf _ (List.mem_of_mem_drop h)).2 rfl
  · intro h
    have := D.all _ h
    omega
  · rw [app_toList, app_toList, app_toList, app_toList, app_toList]
    simp
theorem law2_good (g : GoodMark mk) (h : 0 ≤ P ∧ P < 10 ^ 20) : P229 (frontS NM ++ innerS NM mk P ++ ⟨#[mk]⟩ ++ Str.ofString ")" ++ NM).cps.toList = .ok P := by
  obtain ⟨p, hp, ep⟩ := front_list (NM := NM)
  obtain ⟨a, b, d, h1, h2, h3, h4, h5, h6, D, e⟩ := inner_list (NM := NM) g h.1 h.2
  have el : (frontS NM ++ innerS NM mk P ++ ⟨#[mk]⟩ ++ Str.ofString ")" ++ NM).cps.toList = [50, 50, 57] ++ p ++ 40 :: ((mk :: (a ++ mk :: (b ++ mk :: (d ++ [mk])))) ++ 41 :: NM.cps.toList) := by
    rw [app_toList, app_toList, app_toList, app_toList, ep, e, strShutL]
    simp
  have hs := g.shut
  rw [el, P_opened hp (by simp [h4, h5, h6, Ne.symm hs]) rfl, field_four h1 h2 h3]
  show outNum (PySem.intText? ⟨d.toArray⟩) = _
  rw [D.reads]
  rfl
theorem law2_bad1 (g : GoodMark mk) (h : 0 ≤ P ∧ P < 10 ^ 20) : P229 (frontS NM ++ innerS NM mk P ++ Str.ofString ")" ++ NM).cps.toList = .proto := by
  obtain ⟨p, hp, ep⟩ := front_list (NM := NM)
  obtain ⟨a, b, d, h1, h2, h3, h4, h5, h6, D, e⟩ := inner_list (NM := NM) g h.1 h.2
  have el : (frontS NM ++ innerS NM mk P ++ Str.ofString ")" ++ NM).cps.toList = [50, 50, 57] ++ p ++ 40 :: ((mk :: (a ++ mk :: (b ++ mk :: d))) ++ 41 :: NM.cps.toList) := by
    rw [app_toList, app_toList, app_toList, ep, e, strShutL]
    simp
  have hs := g.shut
  rw [el, P_opened hp (by simp [h4, h5, h6, Ne.symm hs]) rfl]
  obtain ⟨d', x, rfl⟩ : ∃ d' x, d = d' ++ [x] := ⟨d.dropLast, d.getLast D.ne, (List.dropLast_concat_getLast D.ne).symm⟩
  have hx : x ≠ mk := fun q => h3 (by rw [← q]; simp)
  rw [show mk :: (a ++ mk :: (b ++ mk :: (d' ++ [x]))) = mk :: ((a ++ mk :: (b ++ [mk])) ++ (d' ++ [x])) by simp, field_open hx]
  rfl
theorem law2_bad2 (g : GoodMark mk) (h : 0 ≤ P ∧ P < 10 ^ 20) : P229 (frontS NM ++ innerS NM mk P ++ ⟨#[mk]⟩).cps.toList = .proto := by
  obtain ⟨p, hp, ep⟩ := front_list (NM := NM)
  obtain ⟨a, b, d, h1, h2, h3, h4, h5, h6, D, e⟩ := inner_list (NM := NM) g h.1 h.2
  have el : (frontS NM ++ innerS NM mk P ++ ⟨#[mk]⟩).cps.toList = [50, 50, 57] ++ p ++ 40 :: (mk :: (a ++ mk :: (b ++ mk :: (d ++ [mk])))) := by
    rw [app_toList, app_toList, ep, e]
    simp
  have hs := g.shut
  rw [el, P_unshut hp (by simp [h4, h5, h6, Ne.symm hs]) rfl]
theorem law2_bad3 (g : GoodMark mk) (h : 0 ≤ P ∧ P < 10 ^ 20) : P229 (frontS NM ++ ⟨#[mk]⟩ ++ innerS NM mk P ++ ⟨#[mk]⟩ ++ Str.ofString ")" ++ NM).cps.toList = .proto := by
  obtain ⟨p, hp, ep⟩ := front_list (NM := NM)
  obtain ⟨a, b, d, h1, h2, h3, h4, h5, h6, D, e⟩ := inner_list (NM := NM) g h.1 h.2
  have el : (frontS NM ++ ⟨#[mk]⟩ ++ innerS NM mk P ++ ⟨#[mk]⟩ ++ Str.ofString ")" ++ NM).cps.toList = [50, 50, 57] ++ p ++ 40 :: ((mk :: mk :: (a ++ mk :: (b ++ mk :: (d ++ [mk])))) ++ 41 :: NM.cps.toList) := by
    rw [app_toList, app_toList, app_toList, app_toList, app_toList, ep, e, strShutL]
    simp
  have hs := g.shut
  rw [el, P_opened hp (by simp [h4, h5, h6, Ne.symm hs]) rfl, field_five h1 h2 h3]
  rfl
theorem list_len (l : List Nat) : (⟨l.toArray⟩ : Str).length = l.length := List.size_toArray
theorem one_len (c : Nat) : (⟨#[c]⟩ : Str).length = 1 := rfl
theorem shut_len : (Str.ofString ")").length = 1 := by decide +kernel
theorem front_len (h : NM.length ≤ 12) : (frontS NM).length ≤ 17 := by
  have h1 := List.length_filter_le (fun c => c != 40) NM.cps.toList
  rw [len_toList] at h1
  have e1 : (Str.ofString "229 ").length = 4 := by decide +kernel
  have e2 : (Str.ofString "(").length = 1 := by decide +kernel
  have e3 := list_len (NM.cps.toList.filter fun c => c != 40)
  rw [Str.length_append, Str.length_append]
  omega
theorem inner_len (h : NM.length ≤ 12) (h0 : 0 ≤ P ∧ P < 10 ^ 20) : (innerS NM mk P).length ≤ 60 := by
  have h1 := List.length_filter_le (fun c => c != mk && c != 41) NM.cps.toList
  rw [len_toList] at h1
  have e3 : (fieldS NM mk).length = (NM.cps.toList.filter fun c => c != mk && c != 41).length := list_len _
  have e4 := Txt.slice_le (fieldS NM mk) none (some 5)
  have e5 := Txt.slice_le (fieldS NM mk) (some 5) none
  have e6 := mul_short (n := P)
  have e7 := decS_len h0.1 h0.2
  have e8 := one_len mk
  rw [Str.length_append, Str.length_append, Str.length_append, Str.length_append, Str.length_append, Str.length_append]
  omega
theorem good_len (h : NM.length ≤ 12) (h0 : 0 ≤ P ∧ P < 10 ^ 20) : (frontS NM ++ innerS NM mk P ++ ⟨#[mk]⟩ ++ Str.ofString ")" ++ NM).length ≤ 640 := by
  have e1 := front_len h
  have e2 := inner_len (mk := mk) h h0
  have e8 := one_len mk
  have e9 := shut_len
  rw [Str.length_append, Str.length_append, Str.length_append, Str.length_append]
  omega
theorem bad1_len (h : NM.length ≤ 12) (h0 : 0 ≤ P ∧ P < 10 ^ 20) : (frontS NM ++ innerS NM mk P ++ Str.ofString ")" ++ NM).length ≤ 640 := by
  have e1 := front_len h
  have e2 := inner_len (mk := mk) h h0
  have e9 := shut_len
  rw [Str.length_append, Str.length_append, Str.length_append]
  omega
theorem bad2_len (h : NM.length ≤ 12) (h0 : 0 ≤ P ∧ P < 10 ^ 20) : (frontS NM ++ innerS NM mk P ++ ⟨#[mk]⟩).length ≤ 640 := by
  have e1 := front_len h
  have e2 := inner_len (mk := mk) h h0
  have e8 := one_len mk
  rw [Str.length_append, Str.length_append]
  omega
theorem bad3_len (h : NM.length ≤ 12) (h0 : 0 ≤ P ∧ P < 10 ^ 20) : (frontS NM ++ ⟨#[mk]⟩ ++ innerS NM mk P ++ ⟨#[mk]⟩ ++ Str.ofString ")" ++ NM).length ≤ 640 := by
  have e1 := front_len h
  have e2 := inner_len (mk := mk) h h0
  have e8 := one_len mk
  have e9 := shut_len
  rw [Str.length_append, Str.length_append, Str.length_append, Str.length_append, Str.length_append]
  omega
theorem lit229_ok : TextOk (Str.ofString "229 ") := by unfold TextOk; decide +kernel
theorem litOpen_ok : TextOk (Str.ofString "(") := by unfold TextOk; decide +kernel
theorem litShut_ok : TextOk (Str.ofString ")") := by unfold TextOk; decide +kernel
theorem front_ok (h : TextOk NM) : TextOk (frontS NM) :=
  (lit229_ok.app (.list fun c hc => h c (List.mem_filter.mp hc).1)).app litOpen_ok
theorem mark_ok (g : GoodMark mk) : TextOk ⟨#[mk]⟩ := .one (by have := g.low; omega)
theorem inner_ok (h : TextOk NM) (g : GoodMark mk) (h0 : 0 ≤ P ∧ P < 10 ^ 20) : TextOk (innerS NM mk P) := by
  have hf : TextOk (fieldS NM mk) := .list fun c hc => h c (List.mem_filter.mp hc).1
  have hd : TextOk (Txt.mul (Str.ofString "0") (P.fmod 3) ++ decS P) := fun c hc => by
    have := (port_digits h0.1 h0.2).all c hc
    omega
  exact (((((mark_ok g).app (hf.slice_to 5)).app (mark_ok g)).app (hf.slice_from 5)).app (mark_ok g)).app hd
theorem bad1_ok (h : TextOk NM) (g : GoodMark mk) (h0 : 0 ≤ P ∧ P < 10 ^ 20) : TextOk (frontS NM ++ innerS NM mk P ++ Str.ofString ")" ++ NM) := (((front_ok h).app (inner_ok h g h0)).app litShut_ok).app h
theorem bad2_ok (h : TextOk NM) (g : GoodMark mk) (h0 : 0 ≤ P ∧ P < 10 ^ 20) : TextOk (frontS NM ++ innerS NM mk P ++ ⟨#[mk]⟩) := ((front_ok h).app (inner_ok h g h0)).app (mark_ok g)
theorem bad3_ok (h : TextOk NM) (g : GoodMark mk) (h0 : 0 ≤ P ∧ P < 10 ^ 20) : TextOk (frontS NM ++ ⟨#[mk]⟩ ++ innerS NM mk P ++ ⟨#[mk]⟩ ++ Str.ofString ")" ++ NM) := (((((front_ok h).app (mark_ok g)).app (inner_ok h g h0)).app (mark_ok g)).app litShut_ok).app h
theorem name_ok (l : List Int) : TextOk (Txt.join (Str.ofString "") (l.map fun a => (⟨#[(a.fmod 1114112).toNat]⟩ : Str))) := by
  have e : (l.map fun a => (⟨#[(a.fmod 1114112).toNat]⟩ : Str)) = (l.map fun a => (a.fmod 1114112).toNat).map fun c => (⟨#[c]⟩ : Str) := by rw [List.map_map]; rfl
  rw [e, join_ones_is]
  refine .list fun c hc => ?_
  obtain ⟨a, _, rfl⟩ := List.mem_map.mp hc
  have lo := fmod_lo a (n := 1114112) (by decide)
  have hi := fmod_hi a (n := 1114112) (by decide)
  omega
end

/-! ## what is said of law 2's names -/
def NameV (v : Value) : Prop := ∃ x t, v = .str x t ∧ x.length ≤ 12 ∧ TextOk x
theorem NameV.of {l : List Int} {t : Tok} (h : (Txt.join (Str.ofString "") (l.map fun a => (⟨#[(a.fmod 1114112).toNat]⟩ : Str))).length = l.length) (hl : l.length ≤ 12) :
    NameV (.str (Txt.join (Str.ofString "") (l.map fun a => (⟨#[(a.fmod 1114112).toNat]⟩ : Str))) t) := ⟨_, t, rfl, by rw [h]; exact hl, name_ok l⟩
/-- what holds of the name in a turn -/
structure IsName (NM : Str) : Prop where
  short : NM.length ≤ 12
  ok : TextOk NM
def FrontV (NM : Str) (v : Value) : Prop := ∃ x t, v = .str x t ∧ Front NM x ∧ x.length ≤ 17
theorem FrontV.of {NM : Str} {t : Tok} (h : IsName NM) : FrontV NM (.str (frontS NM) t) := ⟨_, t, rfl, ⟨rfl⟩, front_len h.short⟩
structure Field (NM : Str) (mk : Nat) (x : Str) : Prop where
  eq : x = fieldS NM mk
def FieldV (NM : Str) (mk : Nat) (v : Value) : Prop := ∃ x t, v = .str x t ∧ Field NM mk x ∧ x.length ≤ 12
theorem filter_len {NM : Str} (h : IsName NM) (p : Nat → Bool) : (NM.cps.toList.filter p).length ≤ 12 := by
  have h1 := h.short
  have h2 := List.length_filter_le p NM.cps.toList
  rw [len_toList] at h2
  omega
theorem FieldV.of {NM : Str} {mk : Nat} {t : Tok} (h : IsName NM) : FieldV NM mk (.str (fieldS NM mk) t) :=
  ⟨_, t, rfl, ⟨rfl⟩, by show (⟨(NM.cps.toList.filter fun c => c != mk && c != 41).toArray⟩ : Str).length ≤ 12; rw [list_len]; exact filter_len h _⟩
def IsPort (P : Int) : Prop := 0 ≤ P ∧ P < 10 ^ 20
def PortV (v : Value) : Prop := ∃ P t, v = .int P t ∧ IsPort P
theorem PortV.of {a : Int} {t : Tok} : PortV (.int (a.fmod (10 ^ Int.toNat 20)) t) := ⟨_, t, rfl, fmod_lo a (by decide), fmod_hi a (by decide)⟩
structure Dig (P : Int) (x : Str) : Prop where
  eq : x = Txt.mul (Str.ofString "0") (P.fmod 3) ++ decS P
def DigV (P : Int) (v : Value) : Prop := ∃ x t, v = .str x t ∧ Dig P x ∧ x.length ≤ 22
theorem DigV.of {P : Int} {t : Tok} (h : IsPort P) : DigV P (.str (Txt.mul (Str.ofString "0") (P.fmod 3) ++ decS P) t) :=
  ⟨_, t, rfl, ⟨rfl⟩, by
    have e6 := mul_short (n := P)
    have e7 := decS_len h.1 h.2
    rw [Str.length_append]
    omega⟩
def InnerV (NM : Str) (mk : Nat) (P : Int) (v : Value) : Prop := ∃ x t, v = .str x t ∧ Inner NM mk P x ∧ x.length ≤ 60
theorem InnerV.of {NM f d : Str} {mk : Nat} {P : Int} {t : Tok} (h : IsName NM) (hp : IsPort P) (hf : Field NM mk f) (hd : Dig P d) :
    InnerV NM mk P (.str (⟨#[mk]⟩ ++ Txt.slice f none (some 5) ++ ⟨#[mk]⟩ ++ Txt.slice f (some 5) none ++ ⟨#[mk]⟩ ++ d) t) := by
  have e1 := hf.eq
  have e2 := hd.eq
  subst e1 e2
  exact ⟨_, t, rfl, ⟨rfl⟩, inner_len h.short hp⟩
section
variable {NM x y : Str} {mk : Nat} {P : Int} (n : IsName NM) (g : GoodMark mk) (hp : IsPort P) (hF : Front NM x) (hI : Inner NM mk P y)
include n g hp hF hI
theorem g_ok : P229 (x ++ y ++ ⟨#[mk]⟩ ++ Str.ofString ")" ++ NM).cps.toList = .ok P := by rw [hF.eq, hI.eq]; exact law2_good g hp
theorem g_len : (x ++ y ++ ⟨#[mk]⟩ ++ Str.ofString ")" ++ NM).length ≤ 640 := by rw [hF.eq, hI.eq]; exact good_len n.short hp
theorem b1_no : P229 (x ++ y ++ Str.ofString ")" ++ NM).cps.toList = .proto := by rw [hF.eq, hI.eq]; exact law2_bad1 g hp
theorem b1_len : (x ++ y ++ Str.ofString ")" ++ NM).length ≤ 640 := by rw [hF.eq, hI.eq]; exact bad1_len n.short hp
theorem b1_ok : TextOk (x ++ y ++ Str.ofString ")" ++ NM) := by rw [hF.eq, hI.eq]; exact bad1_ok n.ok g hp
theorem b2_no : P229 (x ++ y ++ ⟨#[mk]⟩).cps.toList = .proto := by rw [hF.eq, hI.eq]; exact law2_bad2 g hp
theorem b2_len : (x ++ y ++ ⟨#[mk]⟩).length ≤ 640 := by rw [hF.eq, hI.eq]; exact bad2_len n.short hp
theorem b2_ok : TextOk (x ++ y ++ ⟨#[mk]⟩) := by rw [hF.eq, hI.eq]; exact bad2_ok n.ok g hp
theorem b3_no : P229 (x ++ ⟨#[mk]⟩ ++ y ++ ⟨#[mk]⟩ ++ Str.ofString ")" ++ NM).cps.toList = .proto := by rw [hF.eq, hI.eq]; exact law2_bad3 g hp
theorem b3_len : (x ++ ⟨#[mk]⟩ ++ y ++ ⟨#[mk]⟩ ++ Str.ofString ")" ++ NM).length ≤ 640 := by rw [hF.eq, hI.eq]; exact bad3_len n.short hp
theorem b3_ok : TextOk (x ++ ⟨#[mk]⟩ ++ y ++ ⟨#[mk]⟩ ++ Str.ofString ")" ++ NM) := by rw [hF.eq, hI.eq]; exact bad3_ok n.ok g hp
end
section
variable {prog : Program} {w : World} {A : Around} {E : Value → Shared → Prop} {s : Shared}
theorem step_port2 {P : Int} {t : Tok} {Q : Value → Shared → Prop} (hp : IsPort P) (h : (decS P).length ≤ 20 → (Txt.mul (Str.ofString "0") (P.fmod 3)).length ≤ 2 → Q (.str (decS P) s.toks) { s with toks := s.toks + 1 }) :
    wpAny (model prog w) A (call (.type "str") [.int P t]) Q E s := by
  refine PySem.P.str_of_int ?_ (h (decS_len hp.1 hp.2) mul_short)
  have h1 := hp.2
  have h0 := hp.1
  have e : (10 : Int) ^ 20 = 100000000000000000000 := by decide
  rw [e] at h1
  have e2 : (2 : Nat) ^ 80 ≤ 2 ^ 1920 := Nat.pow_le_pow_right (by decide) (by decide)
  have e4 : (2 : Nat) ^ 80 = 1208925819614629174706176 := by decide
  have h2 : P.natAbs < 2 ^ 1920 := Nat.lt_of_lt_of_le (by rw [e4]; omega) e2
  by_cases hz : P.natAbs = 0
  · rw [hz]; decide
  · exact (Nat.log2_lt hz).mpr h2
end
section
variable {M : Model} {A : Around} {E : Value → Shared → Prop} {s : Shared} {h₀ : Heap} {L : Addr} {m : Str → Option Value} {news : List (Addr × Obj)}
theorem cut_front {NM : Str} (_n : IsName NM) {tr : Sem Flow} {Q : Flow → Shared → Prop} (F : Fr h₀ L s.heap m) (N : News h₀ L s.heap news) (h : InCut → wpAny M A tr (ValEnd (FrontV NM) h₀ L m news "front" s) E s)
    (k : ∀ h' tk' v, FrontV NM v → Fr h₀ L h' (fun y => if y = "front" then some v else m y) → News h₀ L h' news → Q .next { s with heap := h', toks := tk' }) : wpAny M A tr Q E s := cut_val "front" (FrontV NM) F N h k
theorem cut_field {NM : Str} {mk : Nat} (_n : IsName NM) (_g : GoodMark mk) {tr : Sem Flow} {Q : Flow → Shared → Prop} (F : Fr h₀ L s.heap m) (N : News h₀ L s.heap news) (h : InCut → wpAny M A tr (ValEnd (FieldV NM mk) h₀ L m news "field" s) E s)
    (k : ∀ h' tk' v, FieldV NM mk v → Fr h₀ L h' (fun y => if y = "field" then some v else m y) → News h₀ L h' news → Q .next { s with heap := h', toks := tk' }) : wpAny M A tr Q E s := cut_val "field" (FieldV NM mk) F N h k
theorem cut_digits {P : Int} (_p : IsPort P) {tr : Sem Flow} {Q : Flow → Shared → Prop} (F : Fr h₀ L s.heap m) (N : News h₀ L s.heap news) (h : InCut → wpAny M A tr (ValEnd (DigV P) h₀ L m news "digits" s) E s)
    (k : ∀ h' tk' v, DigV P v → Fr h₀ L h' (fun y => if y = "digits" then some v else m y) → News h₀ L h' news → Q .next { s with heap := h', toks := tk' }) : wpAny M A tr Q E s := cut_val "digits" (DigV P) F N h k
theorem cut_inner {NM : Str} {mk : Nat} {P : Int} (_n : IsName NM) (_g : GoodMark mk) (_p : IsPort P) {tr : Sem Flow} {Q : Flow → Shared → Prop} (F : Fr h₀ L s.heap m) (N : News h₀ L s.heap news) (h : InCut → wpAny M A tr (ValEnd (InnerV NM mk P) h₀ L m news "inner" s) E s)
    (k : ∀ h' tk' v, InnerV NM mk P v → Fr h₀ L h' (fun y => if y = "inner" then some v else m y) → News h₀ L h' news → Q .next { s with heap := h', toks := tk' }) : wpAny M A tr Q E s := cut_val "inner" (InnerV NM mk P) F N h k
end
end Mine
end
section
open PySem PySem.W PyProof.Rows PySem.Calls
set_option Elab.async false
set_option maxRecDepth 100000
namespace Mine
/-- a spoiled reply: short, unreadable -/
structure Bad (S : Str) : Prop where
  len : S.length ≤ 640
  no : P229 S.cps.toList = .proto
  ok : TextOk S
def BadV (v : Value) : Prop := ∃ S t, v = .str S t ∧ Bad S
theorem badV3 {a b c : Str} {i j k : Tok} (ha : Bad a) (hb : Bad b) (hc : Bad c) : ∀ v ∈ [Value.str a i, .str b j, .str c k], BadV v := by
  intro v hv
  rcases List.mem_cons.mp hv with rfl | hv
  · exact ⟨_, _, rfl, ha⟩
  rcases List.mem_cons.mp hv with rfl | hv
  · exact ⟨_, _, rfl, hb⟩
  rw [List.mem_singleton.mp hv]
  exact ⟨_, _, rfl, hc⟩
end Mine
end
section
open PySem PySem.W PyProof.Rows PySem.Calls Mine M02
set_option maxRecDepth 100000
local macro_rules | `(tactic| walk_at "CompSrc") => `(tactic| (k_here; (try k_fmods); k_dflt (refine LCg.CompSrc.ledger (by rfl) (by k_asm) (by k_asm) (by k_mem) (by kcf_size) ?_; intro g'; (refine' kct_list _ (by first | assumption | l_ints) (fun k' t' I' oI' C' oC' D' m' ys' h' tk' E' hk' hC' hx' F' N' off' ne' => ?_) ?_); (all_goals (try (simp only [LCg.Off3, and_true] at off'))); (all_goals (try ((show KPfMark → _); intro hMark'))); kcf_last)))
local macro_rules | `(tactic| walk_at "exec For Name Subscript cons nil") => `(tactic| (k_here; (rename Fr _ _ _ _ => lF'); (with_unfolding_all refine' For_invVF lF' ?k1 ?k2 ?_; (case k1 => exact rfl); (case k2 => exact rfl); k_whole)))
local macro_rules | `(tactic| walk_at "exec Assign") => `(tactic| (k_here; (fail_if_success (rename Mine.InCut => cutX)); (with_reducible show wpAny _ _ (exec (Stmt.Assign [Expr.Name ("name" : Str) _] _ _) _) _ _ _); (refine Mine.cut_val "name" Mine.NameV (by assumption) (by assumption) ?_ ?_); (intro cutM); rotate_left; (intro h' tk' v' hv' F' N'); k_dflt (obtain ⟨x', t', hve', hl', ho'⟩ := hv'); (subst hve'); (have hN' := Mine.IsName.mk hl' ho'); (try dsimp only); rotate_left))
local macro_rules | `(tactic| walk_at "ValEnd") => `(tactic| (k_dflt (refine Mine.ValEnd.intro (by assumption) (by k_asm) (by kcj_all) ?_); exact Mine.NameV.of (by assumption) (List.length_take_le _ _)))
local macro_rules | `(tactic| walk_at "pyIter ref") => `(tactic| (k_here; (fail_if_success (rename Mine.GoodMark _ => goodX)); k_dflt (refine' Mine.loop_cell ["mark", "front", "field", "port", "digits", "inner", "told", "spoiled", "fault"] ?k1 ?k2 ?k3 ?k4 ?k5 ?k6 ?k7 ?k8 ?k9 ?k10 ?_ ?_; (case k1 => rfl); (case k2 => k_asm); (case k3 => k_asm); (case k4 => rfl); (case k5 => k_mem); (case k6 => k_mem); (case k7 => rfl); (case k8 => rfl); (case k9 => assumption); (case k10 => assumption)); rotate_left; (intro u h tk F'); (try dsimp only); rotate_left; (intro I l1 k t o v u it h tk hk ho hit F' N'); (try k_lt l1); (try dsimp only); (try k_fold)))
local macro_rules | `(tactic| walk_at "exec If BoolOp") => `(tactic| (k_here; (rename Mine.IsName _ => nmX); (fail_if_success (rename Mine.InCut => cutX)); (fail_if_success (rename Mine.GoodMark _ => goodX)); (refine Mine.cut_mark (by assumption) (by assumption) ?_ ?_); (intro cutM); rotate_left; (intro h' tk' c' t' o' g' F' d' N'; (try dsimp only)); rotate_left))
local macro_rules | `(tactic| walk_at "MarkEnd") => `(tactic| (k_dflt (refine Mine.MarkEnd.intro (by assumption) (by assumption) (by assumption) ?_); first | exact Mine.good_bar | exact Mine.good_less (by assumption) (by assumption) | exact Mine.good_more (by assumption) (by assumption)))
local macro_rules | `(tactic| walk_at "eval ListComp") => `(tactic| (k_here; (rename Mine.IsName _ => nmX); k_dflt (refine Mine.ListComp_S (by k_asm) (by with_unfolding_all rfl) (by decide) (by rfl) (by decide) (by rfl) ?_)))
local macro_rules | `(tactic| walk_at "SrcS") => `(tactic| (k_here; (rename Mine.IsName _ => nmX); (have hNs := Mine.IsName.short (by assumption)); k_dflt (refine Mine.SrcS.intro (by rfl) (by k_asm) (by k_asm) (Nat.le_trans hNs (by decide)) ?_); (clear hNs); (intro g'); k_dflt (first | (refine Mine.kcs_open ?_ ?_) | (refine Mine.kcs_mark (by assumption) ?_ ?_)); rotate_left; (intro ys' hys'); rotate_left; (intro c' t' I' oI' C' oC' D' m' ys' h' tk' E' hc' hC' hx' F' N' off' ne'); (try (simp only [LCg.Off3, and_true] at off')); (try k_fold)))
local macro_rules | `(tactic| walk_at "KcsYes") => `(tactic| (k_dflt (refine ⟨rfl, ?_, _, rfl⟩); first | exact Mine.open_yes (by assumption) | exact Mine.mark_yes (by assumption) (by assumption)))
local macro_rules | `(tactic| walk_at "KcsNo") => `(tactic| (k_dflt (refine ⟨rfl, ?_⟩); first | exact Mine.open_no (by assumption) | exact Mine.mark_no1 (by assumption) | exact Mine.mark_no2 (by assumption)))
local macro_rules | `(tactic| walk_at "call builtin:str.join") => `(tactic| (k_here; (rename Mine.IsName _ => nmX); k_dflt (refine Mine.join_signs (by k_asm) (by k_mem) (by assumption) (Mine.filter_len (by assumption) _) (by decide) ?_); (intro t' k' hjl')))
local macro_rules | `(tactic| walk_at "call type:str") => `(tactic| (k_here; (rename Mine.IsName _ => nmX); k_dflt (refine Mine.step_port2 (by assumption) ?_); (intro hpl hpm)))
local macro_rules | `(tactic| walk_at "ValEnd") => `(tactic| (k_dflt (refine Mine.ValEnd.intro (by assumption) (by k_asm) (by kcj_all) ?_); (with_reducible first | exact Mine.FrontV.of (by assumption) | exact Mine.FieldV.of (by assumption) | exact Mine.PortV.of | exact Mine.DigV.of (by assumption) | exact Mine.InnerV.of (by assumption) (by assumption) (by assumption) (by assumption))))
local macro_rules | `(tactic| walk_at "exec Assign") => `(tactic| (k_here; (rename Mine.IsName _ => nmX); (fail_if_success (rename Mine.InCut => cutX)); (with_reducible show wpAny _ _ (exec (Stmt.Assign [Expr.Name ("front" : Str) _] _ _) _) _ _ _); (refine Mine.cut_front (by assumption) (by assumption) (by assumption) ?_ ?_); rotate_left; (intro h' tk' v' hv' F' N'); k_dflt (obtain ⟨x', t', hve', hq', hl'⟩ := hv'); (subst hve'); (try dsimp only); rotate_left; (intro cutM)))
local macro_rules | `(tactic| walk_at "exec Assign") => `(tactic| (k_here; (rename Mine.IsName _ => nmX); (fail_if_success (rename Mine.InCut => cutX)); (with_reducible show wpAny _ _ (exec (Stmt.Assign [Expr.Name ("field" : Str) _] _ _) _) _ _ _); (refine Mine.cut_field (by assumption) (by assumption) (by assumption) (by assumption) ?_ ?_); rotate_left; (intro h' tk' v' hv' F' N'); k_dflt (obtain ⟨x', t', hve', hq', hl'⟩ := hv'); (subst hve'); (try dsimp only); rotate_left; (intro cutM)))
local macro_rules | `(tactic| walk_at "exec Assign") => `(tactic| (k_here; (rename Mine.IsName _ => nmX); (fail_if_success (rename Mine.InCut => cutX)); (with_reducible show wpAny _ _ (exec (Stmt.Assign [Expr.Name ("port" : Str) _] _ _) _) _ _ _); (refine Mine.cut_val "port" Mine.PortV (by assumption) (by assumption) ?_ ?_); rotate_left; (intro h' tk' v' hv' F' N'); k_dflt (obtain ⟨x', t', hve', hq'⟩ := hv'); (subst hve'); (try dsimp only); rotate_left; (intro cutM)))
local macro_rules | `(tactic| walk_at "exec Assign") => `(tactic| (k_here; (rename Mine.IsName _ => nmX); (fail_if_success (rename Mine.InCut => cutX)); (with_reducible show wpAny _ _ (exec (Stmt.Assign [Expr.Name ("digits" : Str) _] _ _) _) _ _ _); (refine Mine.cut_digits (by assumption) (by assumption) (by assumption) ?_ ?_); rotate_left; (intro h' tk' v' hv' F' N'); k_dflt (obtain ⟨x', t', hve', hq', hl'⟩ := hv'); (subst hve'); (try dsimp only); rotate_left; (intro cutM)))
local macro_rules | `(tactic| walk_at "exec Assign") => `(tactic| (k_here; (rename Mine.IsName _ => nmX); (fail_if_success (rename Mine.InCut => cutX)); (with_reducible show wpAny _ _ (exec (Stmt.Assign [Expr.Name ("inner" : Str) _] _ _) _) _ _ _); (refine Mine.cut_inner (by assumption) (by assumption) (by assumption) (by assumption) (by assumption) ?_ ?_); rotate_left; (intro h' tk' v' hv' F' N'); k_dflt (obtain ⟨x', t', hve', hq', hl'⟩ := hv'); (subst hve'); (try dsimp only); rotate_left; (intro cutM)))
local macro_rules | `(tactic| walk_at "call ref") => `(tactic| (k_here; (rename Mine.IsName _ => nmX); k_dflt (refine' M02.p229_ok (Mine.g_len ?n ?g ?p ?f ?i) ?B ?F ?X ?N ?T ?hk ?hdp ?hun (Mine.g_ok ?n ?g ?p ?f ?i) ?hpeer ?_; (case n => assumption); (case g => assumption); (case p => assumption); (case f => assumption); (case i => assumption); (case B => k_asm); (case F => k_asm); (case X => k_asm); (case N => k_asm); (case T => k_asm); (case hk => rfl); (case hdp => ktr_room); (case hun => ktr_units); (case hpeer => exact ⟨⟨_, _, _, by k_mem, rfl, rfl⟩⟩)); (intro t' D' k' h' tk' F' N' l1); (try dsimp only); (try k_lt l1)))
local macro_rules | `(tactic| walk_at "compareOp NotEq ref ref") => `(tactic| (k_here; (rename Mine.IsName _ => nmX); (with_reducible show wpAny _ _ (compareOp CmpOp.NotEq (Value.ref _) (Value.ref _)) _ _ _); k_dflt (refine ne_dataH (by ked_read) (by ked_read) (by first | exact Mine.shaped_pair (Mine.IsName.ok (by assumption)) | exact Mine.shaped_err Mine.ok_noport (Mine.Bad.ok (by assumption))) (by first | exact Mine.shaped_pair (Mine.IsName.ok (by assumption)) | exact Mine.shaped_err Mine.ok_noport (Mine.Bad.ok (by assumption))) (by ke_room) ?_); ked_norm))
local macro_rules | `(tactic| walk_at "pyIter ref") => `(tactic| (k_here; (rename Mine.IsName _ => nmX); (rename Mine.GoodMark _ => goodX); k_dflt (refine' Mine.loop_vals (fun _ : Unit => _) (fun _ => True) Mine.BadV () ["told", "fault"] ?k1 ?k2 ?k3 ?k4 ?k5 ?k6 ?k7 ?k8 ?k9 ?_ ?_; (case k1 => rfl); (case k2 => k_asm); (case k3 => k_asm); (case k4 => intro c; k_mem); (case k5 => intro c; rfl); (case k6 => rfl); (case k7 => rfl); (case k8 => exact Mine.badV3 (Mine.Bad.mk (Mine.b1_len (by assumption) (by assumption) (by assumption) (by assumption) (by assumption)) (Mine.b1_no (by assumption) (by assumption) (by assumption) (by assumption) (by assumption)) (Mine.b1_ok (by assumption) (by assumption) (by assumption) (by assumption) (by assumption))) (Mine.Bad.mk (Mine.b2_len (by assumption) (by assumption) (by assumption) (by assumption) (by assumption)) (Mine.b2_no (by assumption) (by assumption) (by assumption) (by assumption) (by assumption)) (Mine.b2_ok (by assumption) (by assumption) (by assumption) (by assumption) (by assumption))) (Mine.Bad.mk (Mine.b3_len (by assumption) (by assumption) (by assumption) (by assumption) (by assumption)) (Mine.b3_no (by assumption) (by assumption) (by assumption) (by assumption) (by assumption)) (Mine.b3_ok (by assumption) (by assumption) (by assumption) (by assumption) (by assumption)))); (case k9 => trivial)); rotate_left; (intro cU u h tk hpT F' N'); (try dsimp only); rotate_left; (intro I l1 v cU u it h tk hvB hpT hit F' N'); k_dflt (obtain ⟨S, tS, hvS, hS⟩ := hvB); (subst hvS); (try k_lt l1); (try dsimp only)))
local macro_rules | `(tactic| walk_at "exec Try") => `(tactic| (k_here; (rename Mine.IsName _ => nmX); k_dflt (refine wpAny_Try_except ?_)))
local macro_rules | `(tactic| walk_at "call ref") => `(tactic| (k_here; (rename Mine.IsName _ => nmX); k_dflt (refine' M02.p229_proto (Mine.Bad.len ?b) ?B ?F ?X ?N ?T ?hk ?hdp ?hun (Mine.Bad.no ?b) ?_; (case b => assumption); (case B => k_asm); (case F => k_asm); (case X => k_asm); (case N => k_asm); (case T => k_asm); (case hk => rfl); (case hdp => ktr_room); (case hun => ktr_units)); (intro e' t' g' h' tk' G' S' U'); (have R' := RaisedS.toK S'); (try dsimp only)))
local macro_rules | `(tactic| walk_at "noteFrame ref") => `(tactic| (k_here; (rename Mine.IsName _ => nmX); k_dflt (refine' Mine.look_X (by rfl) (by assumption) (by assumption) (by assumption) ?_); (intro h' F' R'); (try dsimp only)))
local macro_rules | `(tactic| walk_at "handleBy ref") => `(tactic| (k_here; (rename Mine.IsName _ => nmX); k_dflt (refine' Mine.hit_X ?F ?R ?X ?T ?hc ?he ?_; (case F => k_asm); (case R => assumption); (case X => k_asm); (case T => k_asm); (case hc => kts_nm); (case he => kts_exm)); (intro h' tk' oe ot ws nt E' F' hoec hoed hoe0 hotc hotd N'); (try dsimp only)))
local macro_rules | `(tactic| walk_at "bind") => `(tactic| ((with_reducible show wpAny _ _ (do bindName (envX _ _ _ _ _ _) _ Value.none; unbindBehindTheSuite (envX _ _ _ _ _ _) _ _) _ _ _); k_dflt (refine' Mine.goes_X ?F ?N ?_; (case F => k_asm); (case N => k_asm)); (intro h' v' F' N'); (try dsimp only)))
local macro_rules | `(tactic| walk_at "getAttr ref") => `(tactic| (k_here; (rename Mine.IsName _ => nmX); (with_reducible show wpAny _ _ (getAttr (Value.ref _) ("args" : Str) _) _ _ _); k_dflt (refine' Mine.args_X PySem.F.attrBase_Exception ?X ?F ?N (newId := "Exception.__new__") ?q ?hm ?hc ?hd ?h0 ?_; (case X => k_asm); (case F => k_asm); (case N => k_asm); (case hm => k_mem); (case hc => assumption); (case q => kernel_rfl); (case hd => assumption); (case h0 => assumption)); (try dsimp only)))
local macro_rules | `(tactic| walk_at "TurnPost") => `(tactic| ((try k_unfold); dsimp only [Mine.TurnPost]; k_dflt (first | (refine Mine.TurnEnd.intro (by assumption) (by k_asm) () (by kcj_all) trivial ?_) | (refine Mine.TurnEnd.intro (by assumption) (by k_asm) _ (by kcj_all) ⟨_, by assumption⟩ ?_)); intro zM hM1 hM2; (simp only [List.contains_cons, List.contains_nil, Bool.or_eq_false_iff, beq_eq_false_iff_ne, ne_eq] at hM2); (simp only [hM1, hM2, if_false, if_true, List.contains_cons, List.contains_nil, beq_iff_eq, Bool.or_eq_true, or_self, or_false, false_or, Bool.false_eq_true, not_false_eq_true])))
local macro_rules | `(tactic| ked_read) => `(tactic| exact reads_tuple_at (News.get (by k_asm) (by k_mem)) (by assumption) (by assumption) (by ked_reads))
set_option maxHeartbeats 8000000 in
theorem PySem.Challenge.cw_km0015_02_holds : PySem.Challenge.rw_km0015_02.Holds :=
  M02.hd (by
    k_go0
    (all_goals try k_fold)
    k_steps)
end
