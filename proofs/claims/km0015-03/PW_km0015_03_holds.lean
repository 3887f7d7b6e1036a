import PyProof.Rows.All
import Wide.All
import OpenK.AllK
import Wide.FinOn
import PySem.Challenge.RW_km0015_03
set_option Elab.async false
section
open PySem PySem.W PyProof.Rows
set_option Elab.async false
namespace Mine

/-! ## lists of signs -/
def cutAt (c : Nat) : List Nat → Option (List Nat × List Nat)
  | [] => none
  | a :: r => if a = c then some ([], r) else (cutAt c r).map fun p => (a :: p.1, p.2)

theorem cutAt_none {c : Nat} : ∀ {r : List Nat}, c ∉ r → cutAt c r = none
  | [], _ => rfl
  | a :: r, h => by
    have h1 : a ≠ c := fun e => h (by rw [e]; exact List.mem_cons_self ..)
    have h2 : c ∉ r := fun m => h (List.mem_cons_of_mem _ m)
    simp only [cutAt, if_neg h1, cutAt_none h2, Option.map_none]
theorem cutAt_some {c : Nat} : ∀ {a b : List Nat}, c ∉ a → cutAt c (a ++ c :: b) = some (a, b)
  | [], b, _ => by simp [cutAt]
  | x :: a, b, h => by
    have h1 : x ≠ c := fun e => h (by rw [e]; exact List.mem_cons_self ..)
    have h2 : c ∉ a := fun m => h (List.mem_cons_of_mem _ m)
    show cutAt c (x :: (a ++ c :: b)) = _
    simp only [cutAt, if_neg h1, cutAt_some h2, Option.map_some]
def splitL (c : Nat) : List Nat → List (List Nat)
  | [] => [[]]
  | a :: r => if a = c then [] :: splitL c r else match splitL c r with
    | p :: ps => (a :: p) :: ps
    | [] => [[a]]
theorem splitL_free {c : Nat} : ∀ {r : List Nat}, c ∉ r → splitL c r = [r]
  | [], _ => rfl
  | a :: r, h => by
    have h1 : a ≠ c := fun e => h (by rw [e]; exact List.mem_cons_self ..)
    have h2 : c ∉ r := fun m => h (List.mem_cons_of_mem _ m)
    simp only [splitL, if_neg h1, splitL_free h2]
theorem splitL_cons {c : Nat} : ∀ {a b : List Nat}, c ∉ a → splitL c (a ++ c :: b) = a :: splitL c b
  | [], b, _ => by simp [splitL]
  | x :: a, b, h => by
    have h1 : x ≠ c := fun e => h (by rw [e]; exact List.mem_cons_self ..)
    have h2 : c ∉ a := fun m => h (List.mem_cons_of_mem _ m)
    show splitL c (x :: (a ++ c :: b)) = _
    simp only [splitL, if_neg h1, splitL_cons h2]

def joinL (c : Nat) : List (List Nat) → List Nat
  | [] => []
  | [x] => x
  | x :: y :: r => x ++ c :: joinL c (y :: r)
theorem splitL_join {c : Nat} : ∀ {ps : List (List Nat)}, ps ≠ [] → (∀ p ∈ ps, c ∉ p) → splitL c (joinL c ps) = ps
  | [], h, _ => absurd rfl h
  | [x], _, h => splitL_free (h x (List.mem_cons_self ..))
  | x :: y :: r, _, h => by
    show splitL c (x ++ c :: joinL c (y :: r)) = _
    rw [splitL_cons (h x (List.mem_cons_self ..)), splitL_join (by simp) fun p hp => h p (List.mem_cons_of_mem _ hp)]

theorem join_cps (c : Nat) : ∀ ps : List Str, (Str.join ⟨#[c]⟩ ps).cps.toList = joinL c (ps.map (·.cps.toList))
  | [] => rfl
  | [_] => rfl
  | x :: y :: r => by
    show (x ++ ⟨#[c]⟩ ++ Str.join ⟨#[c]⟩ (y :: r)).cps.toList = _
    rw [Str.cps_append, Str.cps_append, Array.toList_append, Array.toList_append, join_cps c (y :: r)]
    simp [joinL]
theorem split_ne (x : Str) (c : Nat) : Txt.split x ⟨#[c]⟩ ≠ [] := by
  unfold Txt.split
  split
  · simp
  · split
    · simp
    · rw [StrLaws.partsBetween_eq]
      obtain ⟨p, r, h⟩ := StrLaws.partsFrom_ne x (⟨#[c]⟩ : Str).length 0 (Builtin.Str.occurrences x ⟨#[c]⟩ 0 x.length (x.length + 1))
      rw [h]; simp
theorem split_cps (x : Str) (c : Nat) : (Txt.split x ⟨#[c]⟩).map (·.cps.toList) = splitL c x.cps.toList := by
  have h1 := congrArg (fun y : Str => y.cps.toList) (StrLaws.join_split x ⟨#[c]⟩)
  simp only [join_cps] at h1
  rw [← h1, splitL_join]
  · simpa using split_ne x c
  · intro p hp
    obtain ⟨q, hq, rfl⟩ := List.mem_map.mp hp
    exact StrLaws.split_free x c q hq

/-! ## slices -/
theorem sliceIdx_min_hi (l : Option Int) {j : Int} (len : Nat) (h0 : 0 ≤ j) : Builtin.Str.strSliceIndices l (some j) 1 len = Builtin.Str.strSliceIndices l (some (min j len)) 1 len := by
  have a : ¬ j < 0 := by omega
  have b : ¬ (min j (len : Int)) < 0 := by omega
  have e : min (min j (len : Int)) (len : Int) = min j len := by omega
  simp [Builtin.Str.strSliceIndices, a, b, e]
theorem slice_is (x : Str) (l u : Option Int) : Txt.slice x l u = StrLaws.sliceText x l u := rfl
theorem len_toList (x : Str) : x.cps.toList.length = x.length := Array.length_toList
theorem slice_to (x : Str) (j : Nat) : (Txt.slice x none (some (j : Int))).cps.toList = x.cps.toList.take j := by
  have e : Txt.slice x none (some (j : Int)) = Txt.slice x none (some (min (j : Int) x.length)) := by
    unfold Txt.slice; rw [sliceIdx_min_hi _ _ (by omega)]
  rw [e, slice_is, StrLaws.sliceText_to ⟨by omega, by rw [len_toList]; omega⟩]
  simp only [List.drop_zero, Int.sub_zero]
  have hl := len_toList x
  by_cases h : j ≤ x.length
  · rw [show (min (j : Int) (x.length : Int)).toNat = j by omega]
  · rw [show (min (j : Int) (x.length : Int)).toNat = x.cps.toList.length by omega, List.take_length, List.take_of_length_le (by omega)]
theorem slice_mid (x : Str) {i j : Nat} (hij : i ≤ j) (hj : j ≤ x.length) : (Txt.slice x (some (i : Int)) (some (j : Int))).cps.toList = (x.cps.toList.drop i).take (j - i) := by
  rw [slice_is, StrLaws.sliceText_nat x hij hj]

/-! ## find -/
theorem getElem_of_find {x : Str} {v c : Nat} (hv : v < x.length) : (x.cps.getD v 0 = c) ↔ x.cps.toList[v]? = some c :=
  ⟨StrLaws.getElem?_of_getD hv, StrLaws.getD_of_getElem?⟩
theorem fromIndex_nat (n i : Nat) : fromIndex n (i : Int) = i := by
  unfold fromIndex
  rw [if_neg (by omega)]
  omega
theorem mem_drop_iff {l : List Nat} {i c : Nat} : c ∈ l.drop i ↔ ∃ v, i ≤ v ∧ l[v]? = some c := by
  rw [List.mem_iff_getElem?]
  constructor
  · rintro ⟨n, h⟩
    rw [List.getElem?_drop] at h
    exact ⟨i + n, by omega, h⟩
  · rintro ⟨v, h1, h2⟩
    refine ⟨v - i, ?_⟩
    rw [List.getElem?_drop, show i + (v - i) = v by omega]
    exact h2
theorem find3_none {x : Str} {c i : Nat} (h : Txt.find3 x ⟨#[c]⟩ (i : Int) < 0) : c ∉ x.cps.toList.drop i := by
  rcases StrLaws.find3_spec x c i with ⟨_, hn⟩ | ⟨k, hk, _⟩
  · rw [fromIndex_nat] at hn
    intro m
    obtain ⟨v, h1, h2⟩ := mem_drop_iff.mp m
    have hl := len_toList x
    have hv : v < x.length := by rw [← hl]; exact (List.getElem?_eq_some_iff.mp h2).1
    exact hn v h1 hv ((getElem_of_find hv).mpr h2)
  · rw [hk] at h; omega
theorem find3_some {x : Str} {c i : Nat} (h : ¬ Txt.find3 x ⟨#[c]⟩ (i : Int) < 0) :
    ∃ a b, x.cps.toList.drop i = a ++ c :: b ∧ c ∉ a ∧ Txt.find3 x ⟨#[c]⟩ (i : Int) = ((i + a.length : Nat) : Int) ∧ i + a.length < x.length := by
  rcases StrLaws.find3_spec x c i with ⟨h1, _⟩ | ⟨k, hk, h1, h2, h3, h4⟩
  · rw [h1] at h; omega
  · rw [fromIndex_nat] at h1 h4
    have hl := len_toList x
    have hk' := (getElem_of_find h2).mp h3
    have e : x.cps.toList.drop i = (x.cps.toList.drop i).take (k - i) ++ c :: x.cps.toList.drop (k + 1) := by
      have e1 := (List.take_append_drop (k - i) (x.cps.toList.drop i)).symm
      rw [List.drop_drop, show i + (k - i) = k by omega] at e1
      have e2 : x.cps.toList.drop k = c :: x.cps.toList.drop (k + 1) := by
        have hk2 : k < x.cps.toList.length := by omega
        rw [List.drop_eq_getElem_cons hk2]
        rw [List.getElem?_eq_getElem hk2] at hk'
        rw [Option.some.inj hk']
      rw [e2] at e1
      exact e1
    have el : ((x.cps.toList.drop i).take (k - i)).length = k - i := by
      rw [List.length_take, List.length_drop]; omega
    refine ⟨_, _, e, ?_, ?_, ?_⟩
    · intro m
      obtain ⟨n, hn⟩ := List.mem_iff_getElem?.mp m
      have hn' : n < k - i := by
        have := (List.getElem?_eq_some_iff.mp hn).1
        omega
      rw [List.getElem?_take_of_lt hn', List.getElem?_drop] at hn
      have hv : i + n < x.length := by omega
      exact h4 (i + n) (by omega) (by omega) ((getElem_of_find hv).mpr hn)
    · rw [hk, el, show i + (k - i) = k by omega]
    · rw [el]; omega

/-! ## what parse229 says of a text -/
inductive Out where
  | reply
  | proto
  | val
  | ok (n : Int)
  deriving DecidableEq

def inner229 (r : List Nat) : Option (List Nat) := (cutAt 40 r).bind fun p => (cutAt 41 p.2).map (·.1)
def field229 : List Nat → Option (List Nat)
  | [] => none
  | c :: r => if (c :: r).getLast? = some c then (match splitL c (c :: r) with
      | [_, _, _, f, _] => some f
      | _ => none) else none
theorem field229_cons (c : Nat) (r : List Nat) : field229 (c :: r) = if (c :: r).getLast? = some c then (match splitL c (c :: r) with
      | [_, _, _, f, _] => some f
      | _ => none) else none := rfl
def outNum : Option Int → Out
  | none => .val
  | some n => .ok n
def outOf : Option (List Nat) → Out
  | none => .proto
  | some f => outNum (PySem.intText? ⟨f.toArray⟩)
def outParts : List Str → Out
  | [_, _, _, f, _] => outNum (PySem.intText? f)
  | _ => .proto
def P229 (r : List Nat) : Out := if r.take 3 = [50, 50, 57] then outOf ((inner229 r).bind field229) else .reply

theorem str229 : Str.ofString "229" = ⟨#[50, 50, 57]⟩ := by decide +kernel
theorem strOpen : Str.ofString "(" = ⟨#[40]⟩ := by decide +kernel
theorem strShut : Str.ofString ")" = ⟨#[41]⟩ := by decide +kernel
theorem ext_list {x y : Str} (h : x.cps.toList = y.cps.toList) : x = y := by
  obtain ⟨⟨a⟩⟩ := x; obtain ⟨⟨b⟩⟩ := y
  simp only at h
  rw [h]
theorem head_iff {x : Str} : (Txt.slice x none (some 3) != Str.ofString "229") = false ↔ x.cps.toList.take 3 = [50, 50, 57] := by
  have e := slice_to x 3
  rw [str229, bne_eq_false_iff_eq]
  constructor
  · intro h
    rw [← e]
    show (Txt.slice x none (some 3)).cps.toList = _
    rw [h]
  · intro h
    refine ext_list ?_
    show (Txt.slice x none (some ((3 : Nat) : Int))).cps.toList = _
    rw [e, h]
theorem P_reply {x : Str} (h : (Txt.slice x none (some 3) != Str.ofString "229") = true) : P229 x.cps.toList = .reply := by
  unfold P229
  rw [if_neg]
  intro q
  rw [head_iff.mpr q] at h
  cases h

/-- the first opening bracket is there -/
structure Opened (x : Str) (a b : List Nat) : Prop where
  whole : x.cps.toList = a ++ 40 :: b
  free : 40 ∉ a
  place : Txt.find x (Str.ofString "(") = (a.length : Int)
  room : a.length + 1 ≤ x.length
theorem opened {x : Str} (h : ¬ Txt.find x (Str.ofString "(") < 0) : ∃ a b, Opened x a b := by
  rw [strOpen, find_is_find3] at h
  obtain ⟨a, b, h1, h2, h3, h4⟩ := find3_some (i := 0) h
  refine ⟨a, b, by simpa using h1, h2, ?_, by omega⟩
  rw [strOpen, find_is_find3]
  simpa using h3
theorem P_proto1 {x : Str} (h0 : (Txt.slice x none (some 3) != Str.ofString "229") = false) (h : Txt.find x (Str.ofString "(") < 0) : P229 x.cps.toList = .proto := by
  unfold P229
  rw [if_pos (head_iff.mp h0)]
  rw [strOpen, find_is_find3] at h
  have := find3_none (i := 0) h
  unfold inner229
  rw [cutAt_none (by simpa using this)]
  rfl
structure Shut (x : Str) (a b c : List Nat) : Prop where
  whole : x.cps.toList = a ++ 40 :: (b ++ 41 :: c)
  free : 40 ∉ a
  free' : 41 ∉ b
  left : Txt.find x (Str.ofString "(") = (a.length : Int)
  right : Txt.find3 x (Str.ofString ")") (Txt.find x (Str.ofString "(") + 1) = ((a.length + 1 + b.length : Nat) : Int)
  room : a.length + 1 + b.length + 1 ≤ x.length
theorem shut {x : Str} (h : ¬ Txt.find x (Str.ofString "(") < 0) (h' : ¬ Txt.find3 x (Str.ofString ")") (Txt.find x (Str.ofString "(") + 1) < 0) : ∃ a b c, Shut x a b c := by
  obtain ⟨a, b, O⟩ := opened h
  have e1 : Txt.find x (Str.ofString "(") + 1 = ((a.length + 1 : Nat) : Int) := by rw [O.place]; omega
  rw [e1, strShut] at h'
  obtain ⟨p, q, h1, h2, h3, h4⟩ := find3_some h'
  have eb : b = p ++ 41 :: q := by
    rw [← h1, O.whole]
    simp
  refine ⟨a, p, q, by rw [O.whole, eb], O.free, h2, O.place, ?_, by omega⟩
  rw [e1, strShut, h3]
theorem Shut.inner {x : Str} {a b c : List Nat} (S : Shut x a b c) : inner229 x.cps.toList = some b := by
  unfold inner229
  rw [S.whole, cutAt_some S.free]
  show (cutAt 41 (b ++ 41 :: c)).map _ = _
  rw [cutAt_some S.free']
  rfl
theorem P_proto2 {x : Str} (h0 : (Txt.slice x none (some 3) != Str.ofString "229") = false) (h : ¬ Txt.find x (Str.ofString "(") < 0) (h' : Txt.find3 x (Str.ofString ")") (Txt.find x (Str.ofString "(") + 1) < 0) : P229 x.cps.toList = .proto := by
  unfold P229
  rw [if_pos (head_iff.mp h0)]
  obtain ⟨a, b, O⟩ := opened h
  have e1 : Txt.find x (Str.ofString "(") + 1 = ((a.length + 1 : Nat) : Int) := by rw [O.place]; omega
  rw [e1, strShut] at h'
  have hn := find3_none h'
  have eb : 41 ∉ b := by
    rw [O.whole] at hn
    simpa using hn
  unfold inner229
  rw [O.whole, cutAt_some O.free]
  simp only [Option.bind_some, cutAt_none eb, Option.map_none, Option.bind_none]
  rfl
theorem item_nat {x : Str} {i : Nat} {c : Nat} (h : x.cps.toList[i]? = some c) : Txt.item x (i : Int) = ⟨#[c]⟩ := by
  unfold Txt.item
  have e : Txt.charAt x (i : Int) = some c := by
    unfold Txt.charAt
    exact StrLaws.at_nonneg (by omega) (by simpa using h)
  rw [e]; rfl
theorem Shut.item_left {x : Str} {a b c : List Nat} (S : Shut x a b c) : Txt.item x (Txt.find x (Str.ofString "(") + 1) = ⟨#[(b ++ 41 :: c).headD 0]⟩ := by
  rw [S.left, show ((a.length : Nat) : Int) + 1 = ((a.length + 1 : Nat) : Int) by omega]
  refine item_nat ?_
  rw [S.whole, List.getElem?_append_right (by omega), show a.length + 1 - a.length = 1 by omega]
  cases b <;> rfl
theorem Shut.item_right {x : Str} {a b c : List Nat} (S : Shut x a b c) : Txt.item x (Txt.find3 x (Str.ofString ")") (Txt.find x (Str.ofString "(") + 1) - 1) = ⟨#[(40 :: b).getLast (by simp)]⟩ := by
  rw [S.right, show ((a.length + 1 + b.length : Nat) : Int) - 1 = ((a.length + b.length : Nat) : Int) by omega]
  refine item_nat ?_
  have e : x.cps.toList = a ++ ((40 :: b) ++ 41 :: c) := by rw [S.whole]; rfl
  rw [e, List.getElem?_append_right (by omega), show a.length + b.length - a.length = b.length by omega, List.getElem?_append_left (by simp)]
  rw [List.getLast_eq_getElem, List.getElem?_eq_getElem (by simp)]
  simp
theorem P_shut {x : Str} {a b c : List Nat} (h0 : (Txt.slice x none (some 3) != Str.ofString "229") = false) (S : Shut x a b c) :
    P229 x.cps.toList = outOf (field229 b) := by
  unfold P229
  rw [if_pos (head_iff.mp h0), S.inner]
  rfl
theorem one_inj {c d : Nat} (h : (⟨#[c]⟩ : Str) = ⟨#[d]⟩) : c = d := by
  injection h with h
  simpa using h
/-- the sign behind the opening bracket is the one ahead of the closing one -/
theorem Shut.same {x : Str} {a b c : List Nat} (S : Shut x a b c) (h : (Txt.item x (Txt.find x (Str.ofString "(") + 1) != Txt.item x (Txt.find3 x (Str.ofString ")") (Txt.find x (Str.ofString "(") + 1) - 1)) = false) :
    ∃ m r, b = m :: r ∧ b.getLast? = some m ∧ Txt.item x (Txt.find x (Str.ofString "(") + 1) = ⟨#[m]⟩ := by
  rw [bne_eq_false_iff_eq, S.item_right] at h
  have h' := h
  rw [S.item_left] at h'
  have q := one_inj h'
  cases b with
  | nil => simp at q
  | cons m r =>
    refine ⟨m, r, rfl, ?_, by rw [S.item_left]; rfl⟩
    have e : (40 :: m :: r).getLast (by simp) = (m :: r).getLast (by simp) := List.getLast_cons (by simp)
    rw [e] at q
    rw [List.getLast?_eq_some_getLast (by simp)]
    exact congrArg some q.symm
theorem P_proto3 {x : Str} (h0 : (Txt.slice x none (some 3) != Str.ofString "229") = false) (h : ¬ Txt.find x (Str.ofString "(") < 0) (h' : ¬ Txt.find3 x (Str.ofString ")") (Txt.find x (Str.ofString "(") + 1) < 0)
    (hd : (Txt.item x (Txt.find x (Str.ofString "(") + 1) != Txt.item x (Txt.find3 x (Str.ofString ")") (Txt.find x (Str.ofString "(") + 1) - 1)) = true) : P229 x.cps.toList = .proto := by
  obtain ⟨a, b, c, S⟩ := shut h h'
  rw [P_shut h0 S]
  have e : field229 b = none := by
    cases b with
    | nil => rfl
    | cons m r =>
      rw [field229_cons, if_neg]
      intro q
      rw [S.item_left, S.item_right, bne_iff_ne] at hd
      refine hd ?_
      have e : (40 :: m :: r).getLast (by simp) = (m :: r).getLast (by simp) := List.getLast_cons (by simp)
      rw [List.getLast?_eq_some_getLast (by simp)] at q
      rw [e, Option.some.inj q]
      rfl
  rw [e]
  rfl
/-- the text between the brackets, cut at its first sign -/
theorem Shut.parts {x : Str} {a b c : List Nat} (S : Shut x a b c) {m : Nat} (hm : Txt.item x (Txt.find x (Str.ofString "(") + 1) = ⟨#[m]⟩) :
    (Txt.split (Txt.slice x (some (Txt.find x (Str.ofString "(") + 1)) (some (Txt.find3 x (Str.ofString ")") (Txt.find x (Str.ofString "(") + 1)))) (Txt.item x (Txt.find x (Str.ofString "(") + 1))).map (·.cps.toList) = splitL m b := by
  rw [hm, split_cps, S.right, S.left, show ((a.length : Nat) : Int) + 1 = ((a.length + 1 : Nat) : Int) by omega, slice_mid x (by omega) (by have := S.room; omega)]
  have e : (x.cps.toList.drop (a.length + 1)).take (a.length + 1 + b.length - (a.length + 1)) = b := by
    rw [S.whole, show a.length + 1 + b.length - (a.length + 1) = b.length by omega, ← List.drop_drop, List.drop_left]
    simp
  rw [e]
/-- the parts parse229 makes -/
abbrev partsOf (x : Str) : List Str := Txt.split (Txt.slice x (some (Txt.find x (Str.ofString "(") + 1)) (some (Txt.find3 x (Str.ofString ")") (Txt.find x (Str.ofString "(") + 1)))) (Txt.item x (Txt.find x (Str.ofString "(") + 1))
theorem outParts_eq (ps : List Str) : outParts ps = outOf (match ps.map (·.cps.toList) with
      | [_, _, _, f, _] => some f
      | _ => none) := by
  rcases ps with _ | ⟨p1, _ | ⟨p2, _ | ⟨p3, _ | ⟨p4, _ | ⟨p5, _ | ⟨p6, r⟩⟩⟩⟩⟩⟩ <;> rfl
theorem P_parts {x : Str} (h0 : (Txt.slice x none (some 3) != Str.ofString "229") = false) (h : ¬ Txt.find x (Str.ofString "(") < 0) (h' : ¬ Txt.find3 x (Str.ofString ")") (Txt.find x (Str.ofString "(") + 1) < 0)
    (hd : (Txt.item x (Txt.find x (Str.ofString "(") + 1) != Txt.item x (Txt.find3 x (Str.ofString ")") (Txt.find x (Str.ofString "(") + 1) - 1)) = false) :
    P229 x.cps.toList = outParts (partsOf x) := by
  obtain ⟨a, b, c, S⟩ := shut h h'
  obtain ⟨m, r, hb, hl, hm⟩ := S.same hd
  rw [P_shut h0 S, outParts_eq, S.parts hm, hb, field229_cons, if_pos (hb ▸ hl)]
theorem P_proto4 {x : Str} (h0 : (Txt.slice x none (some 3) != Str.ofString "229") = false) (h : ¬ Txt.find x (Str.ofString "(") < 0) (h' : ¬ Txt.find3 x (Str.ofString ")") (Txt.find x (Str.ofString "(") + 1) < 0)
    (hd : (Txt.item x (Txt.find x (Str.ofString "(") + 1) != Txt.item x (Txt.find3 x (Str.ofString ")") (Txt.find x (Str.ofString "(") + 1) - 1)) = false) (hl : (partsOf x).length ≠ 5) : P229 x.cps.toList = .proto := by
  rw [P_parts h0 h h' hd]
  rcases q : partsOf x with _ | ⟨p1, _ | ⟨p2, _ | ⟨p3, _ | ⟨p4, _ | ⟨p5, _ | ⟨p6, r⟩⟩⟩⟩⟩⟩ <;> first | rfl | (rw [q] at hl; exact absurd rfl hl)
theorem P_five {x : Str} (h0 : (Txt.slice x none (some 3) != Str.ofString "229") = false) (h : ¬ Txt.find x (Str.ofString "(") < 0) (h' : ¬ Txt.find3 x (Str.ofString ")") (Txt.find x (Str.ofString "(") + 1) < 0)
    (hd : (Txt.item x (Txt.find x (Str.ofString "(") + 1) != Txt.item x (Txt.find3 x (Str.ofString ")") (Txt.find x (Str.ofString "(") + 1) - 1)) = false) {p1 p2 p3 p4 p5 : Str} (hp : partsOf x = [p1, p2, p3, p4, p5]) :
    P229 x.cps.toList = outNum (PySem.intText? p4) := by
  rw [P_parts h0 h h' hd, hp]
  rfl
theorem bounds {x : Str} (h : ¬ Txt.find x (Str.ofString "(") < 0) (h' : ¬ Txt.find3 x (Str.ofString ")") (Txt.find x (Str.ofString "(") + 1) < 0) :
    0 ≤ Txt.find x (Str.ofString "(") ∧ Txt.find x (Str.ofString "(") + 1 ≤ Txt.find3 x (Str.ofString ")") (Txt.find x (Str.ofString "(") + 1) ∧ Txt.find3 x (Str.ofString ")") (Txt.find x (Str.ofString "(") + 1) < x.length := by
  obtain ⟨a, b, c, S⟩ := shut h h'
  have := S.room
  rw [S.right, S.left]
  omega
end Mine
end
section
open PySem PySem.W PyProof.Rows PySem.Calls
set_option Elab.async false
set_option maxRecDepth 100000
namespace Mine
section
variable {prog : Program} {w : World} {A : Around} {E : Value → Shared → Prop} {s : Shared} {value slice : Expr} {x : Str} {t u : Tok} {Q : Value → Shared → Prop}
theorem step_left (h : ¬ Txt.find x (Str.ofString "(") < 0) (h' : ¬ Txt.find3 x (Str.ofString ")") (Txt.find x (Str.ofString "(") + 1) < 0) (hx : x.length ≤ 640)
    (hq : Q (.str (Txt.item x (Txt.find x (Str.ofString "(") + 1)) s.toks) { s with toks := s.toks + 1 })
    (hs : subscripted slice false (.str x t) (.int (Txt.find x (Str.ofString "(") + 1) u) = operate [.str x t, .int (Txt.find x (Str.ofString "(") + 1) u] (getItem (.str x t) (.int (Txt.find x (Str.ofString "(") + 1) u)) := by with_unfolding_all rfl)
    (ht : ∀ r, letTemporaryGo value (.str x t) r = pure () := by intro _; with_unfolding_all rfl) :
    wpAny (model prog w) A (subscriptTail value slice (.str x t) (.int (Txt.find x (Str.ofString "(") + 1) u)) Q E s := by
  have b := bounds h h'
  exact item_str (fitsSsize_of (N := 9223372036854775808) (by omega) (by omega) (Int.le_refl _)) (by omega) (by omega) (fun _ => hq) hs ht
theorem step_right (h : ¬ Txt.find x (Str.ofString "(") < 0) (h' : ¬ Txt.find3 x (Str.ofString ")") (Txt.find x (Str.ofString "(") + 1) < 0) (hx : x.length ≤ 640)
    (hq : Q (.str (Txt.item x (Txt.find3 x (Str.ofString ")") (Txt.find x (Str.ofString "(") + 1) - 1)) s.toks) { s with toks := s.toks + 1 })
    (hs : subscripted slice false (.str x t) (.int (Txt.find3 x (Str.ofString ")") (Txt.find x (Str.ofString "(") + 1) - 1) u) = operate [.str x t, .int (Txt.find3 x (Str.ofString ")") (Txt.find x (Str.ofString "(") + 1) - 1) u] (getItem (.str x t) (.int (Txt.find3 x (Str.ofString ")") (Txt.find x (Str.ofString "(") + 1) - 1) u)) := by with_unfolding_all rfl)
    (ht : ∀ r, letTemporaryGo value (.str x t) r = pure () := by intro _; with_unfolding_all rfl) :
    wpAny (model prog w) A (subscriptTail value slice (.str x t) (.int (Txt.find3 x (Str.ofString ")") (Txt.find x (Str.ofString "(") + 1) - 1) u)) Q E s := by
  have b := bounds h h'
  exact item_str (fitsSsize_of (N := 9223372036854775808) (by omega) (by omega) (Int.le_refl _)) (by omega) (by omega) (fun _ => hq) hs ht

structure PeerIs (pa : Addr) (host : Value) (news : List (Addr × Obj)) : Prop where
  is : ∃ o vs k, (pa, o) ∈ news ∧ o.cls = .type "tuple" ∧ o.data = .seq (host :: vs).toArray k
theorem step_peer {g : Heap} {L : Addr} {pa : Addr} {host : Value} {news news' : List (Addr × Obj)} {l : List (Str × Tok)} (N : News g L s.heap news') (P : P229 x.cps.toList ≠ .proto → PeerIs pa host news) (hm : ∀ p ∈ news, p ∈ news')
    (h0 : (Txt.slice x none (some 3) != Str.ofString "229") = false) (h1 : ¬ Txt.find x (Str.ofString "(") < 0) (h2 : ¬ Txt.find3 x (Str.ofString ")") (Txt.find x (Str.ofString "(") + 1) < 0)
    (h3 : (Txt.item x (Txt.find x (Str.ofString "(") + 1) != Txt.item x (Txt.find3 x (Str.ofString ")") (Txt.find x (Str.ofString "(") + 1) - 1)) = false)
    (he : l.map (·.1) = partsOf x) (h5 : (l.length : Int) = 5) (h : Q host s)
    (hs : subscripted slice false (.ref pa) (.int 0 u) = operate [.ref pa, .int 0 u] (getItem (.ref pa) (.int 0 u)) := by with_unfolding_all rfl)
    (ht : ∀ r, letTemporaryGo value (.ref pa) r = pure () := by intro _; with_unfolding_all rfl) :
    wpAny (model prog w) A (subscriptTail value slice (.ref pa) (.int 0 u)) Q E s := by
  have hne : P229 x.cps.toList ≠ .proto := by
    rw [P_parts h0 h1 h2 h3, ← he]
    have hlen : l.length = 5 := by omega
    match l, hlen with
    | [(p1, t1), (p2, t2), (p3, t3), (p4, t4), (p5, t5)], _ =>
      show outNum _ ≠ _
      cases PySem.intText? p4 <;> simp [outNum]
  obtain ⟨o, vs, k, h1, h2, h3⟩ := (P hne).is
  refine item_tupleL (l := host :: vs) ⟨o, (N _ (hm _ h1)).1, h2, k, h3⟩ (by decide) (by decide) (j := 0) ?_ rfl h hs ht
  unfold seqIndex?
  simp
end
theorem raisedS_drop {base G : Heap} {l : List Env} {e t : Addr} {cls : Value} {vs : List Value} {q : Addr × Obj} {news : List (Addr × Obj)} {h : Heap} (R : RaisedS base G l e cls t vs (q :: news) h) : RaisedS base G l e cls t vs news h := by
  obtain ⟨⟨B, hB, h1, h2, h3, h4⟩, h5⟩ := R
  exact ⟨⟨B, hB, h1, fun p hp => h2 p (List.mem_cons_of_mem _ hp), h3, h4⟩, h5⟩
theorem news_drop2 {h₀ h : Heap} {L : Addr} {p q : Addr × Obj} {news : List (Addr × Obj)} (N : News h₀ L h (p :: q :: news)) : News h₀ L h (p :: news) := fun r hr => by
  rcases List.mem_cons.mp hr with rfl | hr
  · exact N _ (List.mem_cons_self ..)
  · exact N _ (List.mem_cons_of_mem _ (List.mem_cons_of_mem _ hr))
theorem parts_ne {x : Str} {l : List (Str × Tok)} (he : l.map (·.1) = partsOf x) (h5 : (l.length : Int) ≠ 5) : (partsOf x).length ≠ 5 := by
  rw [← he, List.length_map]
  omega
end Mine
end
section
open PySem PySem.W PyProof.Rows PySem.Calls
set_option Elab.async false
set_option maxRecDepth 100000
namespace Mine
section
variable {prog : Program} {w : World} {A : Around} {E : Value → Shared → Prop} {s : Shared} {env : Env} {h₀ : Heap} {x : Str} {body : List Stmt} {Q : Flow → Shared → Prop}

/-- how a turn ends: the frame but for what is stored, the ledger in one of its states -/
def TurnEnd {σ : Type} (h₀ : Heap) (L : Addr) (x : Str) (stored : List Str) (m₀ : Str → Option Value) (I : Addr) (it : Obj) (Led : σ → List (Addr × Obj)) (P : σ → Prop) (s₁ s₂ : Shared) : Prop :=
  ∃ h' tk' m' news' c', s₂ = { s₁ with heap := h', toks := tk' } ∧ Fr h₀ L h' m' ∧ News h₀ L h' news' ∧ (∀ p ∈ (I, it) :: Led c', p ∈ news') ∧ P c' ∧ (∀ z, z ≠ x → stored.contains z = false → m' z = m₀ z)
theorem TurnEnd.intro {σ : Type} {L : Addr} {stored : List Str} {m₀ : Str → Option Value} {I : Addr} {it : Obj} {Led : σ → List (Addr × Obj)} {P : σ → Prop} {s₁ : Shared} {h' : Heap} {tk' : Nat} {m' : Str → Option Value} {news' : List (Addr × Obj)}
    (F : Fr h₀ L h' m') (N : News h₀ L h' news') (c' : σ) (sub : ∀ p ∈ (I, it) :: Led c', p ∈ news') (hp : P c') (hm : ∀ z, z ≠ x → stored.contains z = false → m' z = m₀ z) : TurnEnd h₀ L x stored m₀ I it Led P s₁ { s₁ with heap := h', toks := tk' } :=
  ⟨h', tk', m', news', c', rfl, F, N, sub, hp, hm⟩
def TurnPost {σ : Type} (h₀ : Heap) (L : Addr) (x : Str) (stored : List Str) (m₀ : Str → Option Value) (I : Addr) (it : Obj) (Led : σ → List (Addr × Obj)) (P : σ → Prop) (s₁ : Shared) (Q : Flow → Shared → Prop) (f : Flow) (s₂ : Shared) : Prop :=
  match f with
  | .ret v => Q (.ret v) s₂
  | .brk => Q .next s₂
  | _ => TurnEnd h₀ L x stored m₀ I it Led P s₁ s₂

theorem fr_off {L : Addr} {h : Heap} {stored : List Str} {m₀ m₁ : Str → Option Value} {v : Value} (hm : ∀ z, z ≠ x → stored.contains z = false → m₁ z = m₀ z) (F : Fr h₀ L h (fun y => if y = x then some v else m₁ y)) :
    Fr h₀ L h (fun y => if y = x then some v else if stored.contains y = true then m₁ y else m₀ y) := by
  have e : (fun y => if y = x then some v else if stored.contains y = true then m₁ y else m₀ y) = fun y => if y = x then some v else m₁ y := by
    funext y
    by_cases hy : y = x
    · rw [if_pos hy, if_pos hy]
    · rw [if_neg hy, if_neg hy]
      by_cases hs : stored.contains y = true
      · rw [if_pos hs]
      · rw [if_neg hs]
        exact (hm y hy (by simpa using hs)).symm
  rw [e]
  exact F
theorem fr_offOut {L : Addr} {h : Heap} {stored : List Str} {m₀ m₁ : Str → Option Value} (hm : ∀ z, z ≠ x → stored.contains z = false → m₁ z = m₀ z) (F : Fr h₀ L h m₁) :
    Fr h₀ L h (fun y => if y = x then m₁ y else if stored.contains y = true then m₁ y else m₀ y) := by
  have e : (fun y => if y = x then m₁ y else if stored.contains y = true then m₁ y else m₀ y) = m₁ := by
    funext y
    by_cases hy : y = x
    · rw [if_pos hy]
    · rw [if_neg hy]
      by_cases hs : stored.contains y = true
      · rw [if_pos hs]
      · rw [if_neg hs]
        exact (hm y hy (by simpa using hs)).symm
  rw [e]
  exact F

theorem ints_mem {vs : List Value} {ns : List Int} (hi : IntsAre vs ns) : ∀ v ∈ vs, ∃ k t, v = .int k t ∧ k ∈ ns := by
  intro v hv
  obtain ⟨i, hiv⟩ := List.mem_iff_getElem?.mp hv
  obtain ⟨k, t, e, hk⟩ := IntsAre.at hi i v hiv
  exact ⟨k, t, e, List.mem_of_getElem? hk⟩
end
end Mine
end
section
open PySem PySem.W PyProof.Rows PySem.Calls
set_option Elab.async false
set_option maxRecDepth 100000
set_option autoImplicit false
namespace Mine
open PyProof.Rows.LCg PyProof.Rows.LCt
section
variable {prog : Program} {w : World} {A : Around} {E : Value → Shared → Prop} {s : Shared} {h₀ : Heap} {L : Addr} {m : Str → Option Value} {env : Env}

theorem join_ones_cps : ∀ l : List Nat, (Str.join (Str.ofString "") (l.map fun c => (⟨#[c]⟩ : Str))).cps.toList = l
  | [] => rfl
  | [_] => rfl
  | c :: d :: r => by
    show ((⟨#[c]⟩ : Str) ++ Str.ofString "" ++ Str.join (Str.ofString "") ((d :: r).map fun c => (⟨#[c]⟩ : Str))).cps.toList = _
    rw [Str.cps_append, Str.cps_append, Array.toList_append, Array.toList_append, join_ones_cps (d :: r), show (Str.ofString "").cps.toList = [] from by decide +kernel]
    rfl
theorem join_ones_is (l : List Nat) : Txt.join (Str.ofString "") (l.map fun c => (⟨#[c]⟩ : Str)) = ⟨l.toArray⟩ := by
  refine ext_list ?_
  show (Builtin.Str.glued _ _).cps.toList = _
  rw [StrLaws.glued_eq_join, join_ones_cps]
theorem join_signs {D : Addr} {news : List (Addr × Obj)} {ys : List Value} {l : List Nat} {t : Tok} {Q : Value → Shared → Prop} (N : News h₀ L s.heap news) (hm : (D, lst ys) ∈ news) (hs : StrsAre ys (l.map fun c => (⟨#[c]⟩ : Str))) {B : Nat} (hl : l.length ≤ B) (hB : B ≤ 1000)
    (h : ∀ t' k, (⟨l.toArray⟩ : Str).length ≤ B → Q (.str ⟨l.toArray⟩ t') { s with toks := k }) : wpAny (model prog w) A (call (.builtin "str.join") [.str (Str.ofString "") t, .ref D]) Q E s := by
  have hc := hs.carried
  rw [List.map_map] at hc
  refine KT.join_1 (g := fun c => (⟨#[c]⟩ : Str)) ⟨_, (N _ hm).1, rfl, _, rfl⟩ hc (fun _ _ => rfl) (by omega) fun t' k _ => ?_
  rw [join_ones_is]
  exact h t' k (by show l.toArray.size ≤ B; rw [List.size_toArray]; exact hl)
end
end Mine
end
section
open PySem PySem.W PyProof.Rows PySem.Calls
set_option Elab.async false
set_option maxRecDepth 100000
set_option autoImplicit false
namespace Mine
/-- signs that are signs -/
def TextOk (x : Str) : Prop := ∀ c ∈ x.cps.toList, c < 1114112
theorem TextOk.lay {x : Str} (h : TextOk x) : (PyData.str x).canLay0 = true := by
  show x.cps.all (· < 0x110000) = true
  rw [← Array.all_toList, List.all_eq_true]
  intro c hc
  exact decide_eq_true (h c hc)
theorem TextOk.list {l : List Nat} (h : ∀ c ∈ l, c < 1114112) : TextOk ⟨l.toArray⟩ := fun c hc => h c (by simpa using hc)
theorem shaped_pair {x : Str} {n : Int} (h : TextOk x) : SeqAt.shaped (.tuple [.str x, .int n]) = true := by
  have e := h.lay
  simp only [SeqAt.shaped, PyData.canLay0, PyData.canLayAll0, PyData.depth, PyData.depthAll, Bool.and_eq_true] at e ⊢
  simp [e]
theorem shaped_err {w x : Str} (hw : TextOk w) (h : TextOk x) : SeqAt.shaped (.list [.str w, .tuple [.str x]]) = true := by
  have e := h.lay
  have e2 := hw.lay
  simp only [SeqAt.shaped, PyData.canLay0, PyData.canLayAll0, PyData.depth, PyData.depthAll, Bool.and_eq_true] at e e2 ⊢
  simp [e, e2]
theorem shaped_num {w : Str} (hw : TextOk w) : SeqAt.shaped (.list [.str w]) = true := by
  have e2 := hw.lay
  simp only [SeqAt.shaped, PyData.canLay0, PyData.canLayAll0, PyData.depth, PyData.depthAll, Bool.and_eq_true] at e2 ⊢
  simp [e2]
theorem ok_noport : TextOk (Str.ofString "no port") := by unfold TextOk; decide +kernel
theorem ok_reply : TextOk (Str.ofString "not this reply") := by unfold TextOk; decide +kernel
theorem ok_number : TextOk (Str.ofString "no number") := by unfold TextOk; decide +kernel
end Mine
end
section
open PySem PySem.W PyProof.Rows PySem.Calls PyProof.Rows.LCg PyProof.Rows.LCt
set_option Elab.async false
set_option maxRecDepth 100000
set_option autoImplicit false
namespace Mine
section
variable {M : Model} {A : Around} {E : Value → Shared → Prop} {s : Shared} {h₀ : Heap} {L : Addr} {m : Str → Option Value} {news : List (Addr × Obj)}
end
end Mine
end
section
open PySem PySem.W PyProof.Rows PySem.Calls
set_option Elab.async false
set_option maxRecDepth 100000
set_option autoImplicit false
/-! Exceptions of the text's own classes, caught in a frame that has cells -/
namespace Mine
section
variable {prog : Program} {w : World} {A : Around} {E : Value → Shared → Prop} {s : Shared} {h₀ h : Heap} {outer : List Env} {L a e t : Addr} {m : Str → Option Value} {cn : Str} {cs : Scope} {ccd : Value} {cl : List (Str × Addr)}
  {vs : List Value} {Q : Flow → Shared → Prop} {news : List (Addr × Obj)} {KF : Frag} {p : Program} {loose : List Str} {mean : ExcName → Option Value} {mg mb : Str → Option Value} {cls c : Value} {x n : Str} {np pos : Pos} {rest hs : List ExceptHandler} {b₀ : Stmt} {suite : List Stmt}

theorem flying_noFrame {B : Heap} {a0 : Value} (R : Heap.FlyingW B (envX cn cs L a ccd cl :: outer) e cls a0 h) : B.get? L = none := by
  obtain ⟨_, ⟨L', _, hf, hn, _⟩, _⟩ := R.2.2.1
  have q : L = L' := Option.some.inj hf
  rw [q]
  exact hn
theorem raisedK_news (R : RaisedK h₀ (envX cn cs L a ccd cl :: outer) e cls t vs news h) : News h₀ L h news := by
  obtain ⟨⟨B, hB, hl, hfl, _⟩, _⟩ := R
  have hL := flying_noFrame hfl
  exact fun q hq => ⟨hfl.1 _ _ (hl q hq).1, (fun z => by have h1 := (hl q hq).1; rw [z, hL] at h1; cases h1), (hl q hq).2⟩
theorem raisedK_ty {M : Model} (R : RaisedK h₀ (envX cn cs L a ccd cl :: outer) e cls t vs news h) : Looks M h (typeOf (.ref e)) cls := by
  obtain ⟨⟨B, hB, _, hfl, _⟩, _⟩ := R
  obtain ⟨ob, hob, hc⟩ := hfl.there
  subst hc
  exact (Looks.ld hob).andThen .now

theorem name_X (hc : KtsName KF x c) {Q : Value → Shared → Prop} (F : Fr h₀ L s.heap m) (X : KF.In h₀) (T : TopRead p loose mg mb h₀) (hq : Q c s)
    (hk : cs.kind = .function) (hx : (envX cn cs L a ccd cl).kindOf x = some .globalImplicit) (hd : (x == ("__debug__" : Str)) = false) : wpAny (model prog w) A (eval (.Name x np) (envX cn cs L a ccd cl)) Q E s := by
  rcases hc with e | ⟨e, hv, hn⟩
  · exact nameX_K F X T e hq hk hx hd
  · exact nameX_B F X T e hv hn hq hk hx hd

/-- a clause that does not match -/
theorem miss_X (F : Fr h₀ L s.heap m) (R : RaisedK h₀ (envX cn cs L a ccd cl :: outer) e cls t vs news s.heap) (X : KF.In h₀) (T : TopRead p loose mg mb h₀) (hc : KtsName KF x c) (he : exmOne KF cls c = some false) {nm : Option Str} {body : List Stmt}
    (k : wpAny (model prog w) A (handleBy (.ref e) (envX cn cs L a ccd cl) rest) Q E s)
    (hk : cs.kind = .function := by rfl) (hx : (envX cn cs L a ccd cl).kindOf x = some .globalImplicit := by rfl) (hd : (x == ("__debug__" : Str)) = false := by decide) :
    wpAny (model prog w) A (handleBy (.ref e) (envX cn cs L a ccd cl) (.ExceptHandler (some (.Name x np)) nm body pos :: rest)) Q E s :=
  wpAny_handleBy_cons (codeAny_handlers_test (name_X hc F X T ((exm_one (X.keeps F.keep) (raisedK_ty R) he).here (by simpa using k)) hk hx hd)) (by intro q; cases q)

/-- behind the clause its name goes -/
theorem goes_X {M : Model} {Q : Unit → Shared → Prop} (F : Fr h₀ L s.heap m) (N : News h₀ L s.heap news)
    (k : ∀ h' v, Fr h₀ L h' (fun y => if y = n then v else m y) → News h₀ L h' news → Q () { s with heap := h', toks := s.toks + 1 })
    (hk : cs.kind = .function := by rfl) (hl : (envX cn cs L a ccd cl).kindOf n = some .local := by rfl) :
    wpAny M A (do bindName (envX cn cs L a ccd cl) n .none; unbindBehindTheSuite (envX cn cs L a ccd cl) n pos) Q E s :=
  wpAny_nameGoes_keeps hl F.ns (by show (cs.kind == .class || (cs.kind == .module && L != mainGlobals)) = false; rw [hk]; rfl) fun h' v hn hs => k h' v (F.set hn hs) (N.set hs)
end
/-- the class of an exception, its bases up to the built-in ones: none of them says how an attribute is read -/
def quietIn (K : Frag) (N : Addr) : Bool := nsOkIn K N && quietNames.all fun n => nsIn K N n == some none
theorem quiet_of {K : Frag} {h : Heap} {N : Addr} (X : K.In h) (e : quietIn K N = true) : h.Ns N (h.nsMap N) ∧ ∀ n ∈ quietNames, h.nsMap N n = none := by
  unfold quietIn at e
  simp only [Bool.and_eq_true, List.all_eq_true, beq_iff_eq] at e
  exact ⟨.of_isNs (isNs_of_in X e.1), fun n hn => nsMap_none_of_in X e.1 (e.2 n hn)⟩
def tailQ (K : Frag) (bmB : List Value) : List Value → Bool
  | [] => bmB == []
  | v :: r => (v :: r) == bmB || match v with
    | .ref A => (match K.lookup A with
      | some ⟨_, _, .cls cd, _⟩ => quietIn K cd.ns && tailQ K bmB r
      | _ => false)
    | _ => false
theorem tailQ_of {K : Frag} {h : Heap} {bmB : List Value} (X : K.In h) : ∀ {l : List Value}, tailQ K bmB l = true → OwnTailQ h bmB l
  | [], e => by rw [← beq_iff_eq.mp e]; exact .base
  | v :: r, e => by
    unfold tailQ at e
    rcases Bool.or_eq_true_iff.mp e with q | q
    · rw [beq_iff_eq.mp q]; exact .base
    · split at q
      · split at q
        · rename_i ho
          simp only [Bool.and_eq_true] at q
          exact .own (X _ _ ho) (quiet_of X q.1).1 (quiet_of X q.1).2 (tailQ_of X q.2)
        · cases q
      · cases q
def excQ (K : Frag) (C : Addr) (bmB : List Value) (newId : String) : Bool := match K.lookup C with
  | some ⟨.type "type", _, .cls cd, sl⟩ => (match cd.mro, sl.toList with
    | .ref C' :: bm, [_, _, _, _, some (.builtin n), _] => C' == C && n == newId && !cd.hasDel && tailQ K bmB bm && quietIn K cd.ns
    | _, _ => false)
  | _ => false
section
variable {prog : Program} {w : World} {A : Around} {E : Value → Shared → Prop} {s : Shared} {h₀ : Heap} {L e t C : Addr} {m : Str → Option Value} {news : List (Addr × Obj)} {KF : Frag} {oe : Obj} {ws : Array Value} {bmB : List Value} {B newId : String}
/-- what the exception was raised with -/
theorem args_X {expr : Bool} {Q : Value → Shared → Prop} (FB : ExcAttrBase B bmB) (X : KF.In h₀) (F : Fr h₀ L s.heap m) (N : News h₀ L s.heap news) (q : excQ KF C bmB newId = true) (hm : (e, oe) ∈ news) (hc : oe.cls = .ref C) (hd : oe.data = .fields ws) (h0 : ws[0]? = some (.ref t))
    (hq : Q (.ref t) { s with toks := s.toks + 1 }) : wpAny (model prog w) A (getAttr (.ref e) "args" expr) Q E s := by
  have X' := X.keeps F.keep
  obtain ⟨h, g, d, tk, os⟩ := s
  unfold excQ at q
  split at q
  · rename_i dd cd sl ho
    split at q
    · rename_i C' bm k0 k1 k2 k3 n k5 hmr hs
      simp only [Bool.and_eq_true, beq_iff_eq, Bool.not_eq_true'] at q
      obtain ⟨⟨⟨⟨rfl, rfl⟩, hdel⟩, ht⟩, hok⟩ := q
      obtain ⟨nm, bs, mro, ns, qn, hd', sn, sub, ab, col, del⟩ := cd
      dsimp only at hmr hdel hok
      subst hmr hdel
      have hsl : sl = #[k0, k1, k2, k3, some (.builtin n), k5] := by
        obtain ⟨l⟩ := sl
        simp only at hs
        rw [hs]
      subst hsl
      exact args_attr_own FB (X' _ _ ho) (quiet_of X' hok).1 (quiet_of X' hok).2 (tailQ_of X' ht) (N.get hm) hc hd h0 hq
    · cases q
  · cases q
end
end Mine
end
section
open PySem PySem.W PyProof.Rows PySem.Calls
set_option Elab.async false
set_option maxRecDepth 100000
set_option autoImplicit false
/-! The runs that stand above the claim's caller: there a refused int(text) leaves no mark -/
namespace Mine
open Sem (wp)
def HasC (Γ : Ctx) : Prop := (((Γ.code :: Γ.below.map (·.1))).any Code.isCaller) = true
def HasB (Γ : Ctx) : Prop := ((Γ.below.map (·.1)).any Code.isCaller) = true
theorem HasB.up {Γ : Ctx} (h : HasB Γ) : HasC Γ := by
  unfold HasB at h
  unfold HasC
  rw [List.any_cons, h, Bool.or_true]
theorem HasC.enter {Γ : Ctx} (h : HasC Γ) (c : Code) (hd : Option Value) (p : Pos) : HasB (Γ.enter c hd p) := h
theorem HasB.goto {Γ : Ctx} (h : HasB Γ) (c : Code) : HasB (Γ.goto c) := h
def wpC {α : Type} (M : Model) (A : Around) (t : Sem α) (Q : α → Shared → Prop) (E : Value → Shared → Prop) (s : Shared) : Prop :=
  ∀ Γ p, Γ.In A → HasC Γ → wp M Γ t (fun a _ s' => Q a s') (fun e _ s' => E e s') p s
def codeC (M : Model) (A : Around) (c : Code) (R : Result → Shared → Prop) (s : Shared) : Prop :=
  ∀ Γ p, Γ.code = c → Γ.Below A → HasB Γ → wpCode M Γ R p s
section
variable {α β : Type} {M : Model} {A : Around} {E : Value → Shared → Prop} {s : Shared} {env : Env}
theorem wpC_any {t : Sem α} {Q : α → Shared → Prop} (h : wpAny M A t Q E s) : wpC M A t Q E s := fun Γ p hΓ _ => h Γ p hΓ
theorem codeC_any {c : Code} {R : Result → Shared → Prop} (h : codeAny M A c R s) : codeC M A c R s := fun Γ p hc hΓ _ => h Γ p hc hΓ
theorem wpC_mono {t : Sem α} {Q Q' : α → Shared → Prop} {E' : Value → Shared → Prop} (h : wpC M A t Q E s) (hQ : ∀ a s, Q a s → Q' a s) (hE : ∀ e s, E e s → E' e s) : wpC M A t Q' E' s :=
  fun Γ p hΓ hC => Sem.wp_mono M Γ t (fun a _ s => hQ a s) (fun e _ s => hE e s) p s (h Γ p hΓ hC)
theorem codeC_mono {c : Code} {R R' : Result → Shared → Prop} (h : codeC M A c R s) (hR : ∀ r s, R r s → R' r s) : codeC M A c R' s :=
  fun Γ p hc hΓ hB => wpCode_mono hR (h Γ p hc hΓ hB)
theorem wpC_bind {m : Sem α} {f : α → Sem β} {Q : β → Shared → Prop} (h : wpC M A m (fun a s' => wpC M A (f a) Q E s') E s) : wpC M A (m >>= f) Q E s := fun Γ p hΓ hC => by
  rw [Sem.wp_bind']
  exact Sem.wp_mono M Γ m (fun a p' s' h' => h' Γ p' hΓ hC) (fun _ _ _ h' => h') p s (h Γ p hΓ hC)
theorem wpC_step {m : Sem α} {f : α → Sem β} {Q : β → Shared → Prop} (h : wpAny M A m (fun a s' => wpC M A (f a) Q E s') E s) : wpC M A (m >>= f) Q E s := wpC_bind (wpC_any h)
theorem wpC_onRaise {m : Sem α} {k : Value → Sem Unit} {Q : α → Shared → Prop} (h : wpC M A m Q (fun e s' => wpAny M A (k e) (fun _ s'' => E e s'') E s') s) : wpC M A (m.onRaise k) Q E s := fun Γ p hΓ hC => by
  rw [Sem.wp_onRaise]
  exact Sem.wp_mono M Γ m (fun _ _ _ h' => h') (fun e p' s' h' => h' Γ p' hΓ) p s (h Γ p hΓ hC)
theorem wpC_attempt {m : Sem α} {Q : Except Value α → Shared → Prop} (h : wpC M A m (fun a => Q (.ok a)) (fun e => Q (.error e)) s) : wpC M A m.attempt Q E s := fun Γ p hΓ hC => by rw [Sem.wp_attempt]; exact h Γ p hΓ hC
theorem wpC_holding {vs : List Value} {m : Sem α} {Q : α → Shared → Prop} (h : wpC M A m Q E s) : wpC M A (holding vs m) Q E s := fun Γ p hΓ hC => by rw [Sem.wp_holding]; exact h Γ p hΓ hC
theorem wpC_keep {vs : List Value} {m : Sem α} {Q : α → Shared → Prop} (h : wpC M A m Q E s) : wpC M A (m.keep vs) Q E s := fun Γ p hΓ hC => by rw [Sem.wp_keep]; exact h Γ p hΓ hC
theorem wpC_run {c : Code} {h : Option Value} {Q : Flow → Shared → Prop} (hc : codeC M (A.mark h) c (fun r s' => match r with | .ok f => Q f s' | .error e => E e s') s) (hnb : h ≠ some byPass := by intro x; cases x) : wpC M A (run c h) Q E s :=
  fun Γ p hΓ hC => by rw [Sem.wp_run]; exact hc _ p rfl (hΓ.enter c h p hnb) (hC.enter c h p)
theorem wpC_runOwn {c : Code} {h : Option Value} {Q : Flow → Shared → Prop} (hc : codeC M (A.mark h) c (fun r s' => match r with | .ok f => Q f s' | .error e => cameBackBy M A env E e s') s) (hnb : h ≠ some byPass := by intro x; cases x) : wpC M A (runOwn c env h) Q E s := by
  unfold runOwn
  exact wpC_onRaise (wpC_run hc hnb)
theorem wpC_runValue {c : Code} {Q : Value → Shared → Prop} (hc : codeC M A c (fun r s' => match r with | .ok (.ret v) => Q v s' | .ok _ => False | .error e => E e s') s) : wpC M A (runValue c) Q E s :=
  fun Γ p hΓ hC => by rw [Sem.wp_runValue]; exact hc _ p rfl (hΓ.enter c none p (by intro x; cases x)) (hC.enter c none p)
theorem wpC_call {f : Value} {pos : List Value} {kw : List (Str × Value)} {Q : Value → Shared → Prop} (hc : codeC M A (.call f ⟨pos, kw⟩) (fun r s' => match r with | .ok (.ret v) => Q v s' | .ok _ => False | .error e => E e s') s) : wpC M A (call f pos kw) Q E s := wpC_runValue hc
theorem codeC_of_tree {c : Code} {R : Result → Shared → Prop}
    (h : wpC M (A.under c) (M.den c) (fun fin s' => match fin with | .done f => R (.ok f) s' | .again c' => c'.quiet = true ∧ codeC M A c' R s') (fun e s' => R (.error e) s') s) : codeC M A c R s := fun Γ p hc hΓ hB => by
  rw [wpCode_iff_wp, hc]
  refine Sem.wp_mono M Γ _ (fun fin p' s' h' => ?_) (fun _ _ _ h' => h') p s (h Γ p (hc ▸ hΓ.in) hB.up)
  cases fin with
  | done f => exact h'
  | again c' => exact ⟨h'.1, h'.2 (Γ.goto c') p' rfl (hΓ.goto c') (hB.goto c')⟩
theorem wpC_noted {m : Sem α} {Q : α → Shared → Prop} (h : wpC M A m Q (notedBy M A env E) s) : wpC M A (m.onRaise fun x => do noteFrame x env; theTreesLotGoes x) Q E s :=
  wpC_onRaise (wpC_mono h (fun _ _ q => q) fun _ _ hx => wpAny_bind (wpAny_mono hx (fun _ _ e => wpAny_theTreesLotGoes e) fun _ _ e => e))

/-! statements and expressions of the spine -/
theorem wpC_execs_cons {st : Stmt} {rest : List Stmt} {Q : Flow → Shared → Prop} (h : wpC M A (exec st env) (fun f s' => match f with | .next => wpC M A (execs rest env) Q E s' | f => Q f s') E s) : wpC M A (execs (st :: rest) env) Q E s := fun Γ p hΓ hC => by
  rw [execs_cons, Sem.wp_bind']
  refine Sem.wp_mono M Γ _ (fun f p' s' h' => ?_) (fun _ _ _ h' => h') _ _ (h Γ p hΓ hC)
  cases f <;> first | exact h' Γ p' hΓ hC | exact h'
theorem wpC_execs_step {st : Stmt} {rest : List Stmt} {Q : Flow → Shared → Prop} (h : wpAny M A (exec st env) (fun f s' => match f with | .next => wpC M A (execs rest env) Q E s' | f => Q f s') E s) : wpC M A (execs (st :: rest) env) Q E s := wpC_execs_cons (wpC_any h)
theorem wpC_Assign_Name {x : Str} {pos' pos : Pos} {value : Expr} {Q : Flow → Shared → Prop} (h : wpC M A (eval value env) (fun v s₁ => wpAny M A (storeName env x v) (fun _ => Q .next) E s₁) E s)
    (hs : swapsWith value (some (.Name x pos')) pos.line env = pure false := by rfl) : wpC M A (exec (.Assign [.Name x pos'] value pos) env) Q E s := fun Γ p hΓ hC => by
  simp only [exec_Assign_Name env x pos' value pos hs, Sem.wp_bind', Sem.wp_cmd_standAt, Sem.wp_bindName, Sem.wp_pure']
  exact Sem.wp_mono M Γ _ (fun v _ s₁ h₁ => h₁ Γ _ hΓ) (fun _ _ _ h' => h') _ _ (h Γ _ hΓ hC)
theorem wpC_Return_some {e : Expr} {pos : Pos} {Q : Flow → Shared → Prop} (h : wpC M A (eval e env) (fun v => Q (.ret v)) E s) : wpC M A (exec (.Return (some e) pos) env) Q E s := fun Γ p hΓ hC => by
  simp only [exec_Return_some, Sem.wp_bind', Sem.wp_cmd_standAt, Sem.wp_pure']; exact h Γ _ hΓ hC
theorem wpC_If {test : Expr} {body orelse : List Stmt} {pos : Pos} {Q : Flow → Shared → Prop}
    (h : wpC M A (isTrue test env (eval test env)) (fun b s₂ => if b then wpC M A (execs body env) Q E s₂ else wpC M A (execs orelse env) Q E s₂) E s) : wpC M A (exec (.If test body orelse pos) env) Q E s := fun Γ p hΓ hC => by
  simp only [exec_If, Sem.wp_bind', Sem.wp_cmd_standAt]
  refine Sem.wp_mono M Γ _ (fun b p₂ s₂ h₂ => ?_) (fun _ _ _ h' => h') _ _ (h Γ _ hΓ hC)
  cases b <;> exact h₂ Γ p₂ hΓ hC
theorem wpC_Try {body orelse : List Stmt} {h₀ : ExceptHandler} {hs : List ExceptHandler} {pos : Pos} {Q : Flow → Shared → Prop}
    (h : wpC M A (execs body env) (fun f s₁ => match f with | .next => wpAny M A (execs orelse env) Q E s₁ | f => Q f s₁)
      (fun e s₁ => wpAny M A (noteFrame e env) (fun _ s₂ => wpAny M A (setFlight e none) (fun _ s₃ => wpAny M A (handleBy e env (h₀ :: hs)) Q E s₃) E s₂) E s₁) s) : wpC M A (exec (.Try body (h₀ :: hs) orelse [] pos) env) Q E s := by
  rw [arm_exec_Try]
  refine wpC_step (wpAny_standAt ?_)
  unfold tryStmt
  simp only [List.isEmpty_nil, if_true, List.isEmpty_cons, Bool.false_and, Bool.false_eq_true, if_false]
  refine wpC_bind (wpC_attempt (wpC_mono h (fun f s₁ h₁ => ?_) fun e s₁ h₁ => ?_))
  · cases f <;> first | exact wpC_any h₁ | exact wpC_any (wpAny_pure h₁)
  · exact wpC_any (wpAny_bind (wpAny_mono h₁ (fun _ _ h₂ => wpAny_bind h₂) fun _ _ x => x))
theorem wpC_Call_Name {id : Str} {p pos : Pos} {args : List Expr} {Q : Value → Shared → Prop}
    (h : wpAny M A (eval (.Name id p) env) (fun f s₁ => wpC M A (callWith pos f [] (backTo pos (starEach args env)) []) Q E s₁) E s) : wpC M A (eval (.Call (.Name id p) args [] pos) env) Q E s := by
  rw [arm_eval_Call_Name']
  exact wpC_step h
theorem wpC_tail {t : Sem Value} {Q : Value → Shared → Prop} (h : wpC M A t Q E s) : wpC M A (t >>= fun r => holding [r] point >>= fun _ => pure r) Q E s :=
  wpC_bind (wpC_mono h (fun r s₂ hr => wpC_any (wpAny_bind (wpAny_holding (wpAny_point (wpAny_pure hr))))) fun _ _ x => x)
end
end Mine
end
section
open PySem PySem.W PyProof.Rows PySem.Calls
set_option Elab.async false
set_option maxRecDepth 100000
set_option autoImplicit false
namespace Mine
open Sem (wp)
section
variable {M : Model} {A : Around} {E : Value → Shared → Prop} {s : Shared} {env : Env} {Q : Value → Shared → Prop}
theorem callWithC_of {P : Heap → Prop} {pos : Pos} {f : Value} {first : List Value} {args : List (Bool × Sem Value)} (hplain : (args.any (·.1) || ([] : List (Option Str × Sem Value)).any (·.1.isNone)) = false)
    (hk : ∀ h, P h → ∃ k, (k = Keeper.frame ∨ k = Keeper.machine ∨ k = Keeper.boundFrame) ∧ Looks M h (keeperOf f) k)
    (h : wpAny M A (evalArgs f true args []) (fun a s₁ => P s₁.heap ∧ wpC M A (call f (first ++ a.pos) a.kw) Q E s₁) E s) : wpC M A (callWith pos f first args []) Q E s := by
  unfold callWith
  refine wpC_step (wpAny_holding (wpAny_mono h (fun a s₁ h₁ => wpC_step (wpAny_standAt ?_)) fun _ _ x => x))
  obtain ⟨k, hk', L⟩ := hk _ h₁.1
  simp only [hplain]
  refine wpC_step (L.here ?_)
  have marked (mk : Value) : wpC M A (callMarked mk f (first ++ a.pos) a.kw) Q E s₁ := by unfold callMarked; exact wpC_keep h₁.2
  rcases hk' with rfl | rfl | rfl <;> dsimp only <;> first | exact wpC_tail h₁.2 | (split <;> first | exact wpC_tail h₁.2 | exact wpC_tail (marked _))
theorem callWithC_K {K : Frag} {h₀ : Heap} {pos : Pos} {f : Value} {e : Expr} {rest : List Expr} (_X : K.In h₀) (hk : keepIn K f = true) (h : wpAny M A (spliced (backTo pos (starEach (e :: rest) env))) (fun vs s₁ => K.In s₁.heap ∧ wpC M A (call f vs) Q E s₁) E s)
    (he : starEach (e :: rest) env = (false, eval e env) :: starEach rest env := by rfl) (hplain : (backTo pos (starEach rest env)).any (·.1) = false := by rfl) :
    wpC M A (callWith pos f [] (backTo pos (starEach (e :: rest) env)) []) Q E s := by
  rw [he] at h ⊢
  exact callWithC_of (by show ((false || (backTo pos (starEach rest env)).any (·.1)) || false) = false; rw [hplain]; rfl) (keeps_K hk) (evalArgs_plain h)
theorem callWithC_type {pos : Pos} {T : String} {e : Expr} {rest : List Expr}
    (h : wpAny M A (spliced (backTo pos (starEach (e :: rest) env))) (fun vs s₁ => wpC M A (call (.type T) vs) Q E s₁) E s)
    (he : starEach (e :: rest) env = (false, eval e env) :: starEach rest env := by rfl) (hplain : (backTo pos (starEach rest env)).any (·.1) = false := by rfl) :
    wpC M A (callWith pos (.type T) [] (backTo pos (starEach (e :: rest) env)) []) Q E s := by
  rw [he] at h ⊢
  refine callWithC_of (P := fun _ => True) (by show ((false || (backTo pos (starEach rest env)).any (·.1)) || false) = false; rw [hplain]; rfl) (fun _ _ => ⟨.machine, .inr (.inl rfl), .now⟩) (evalArgs_plain (wpAny_mono h (fun vs s₁ h₁ => ⟨trivial, h₁⟩) fun _ _ x => x))
end
section
variable {prog : Program} {w : World} {A A₀ : Around} {E : Value → Shared → Prop} {s : Shared} {env : Env} {R : Result → Shared → Prop}
theorem codeC_func {body : List Stmt}
    (h : wpC (model prog w) (A.deeper env) (execs body env) (fun f s' => R (.ok (.ret (match f with | .ret v => v | _ => .none))) s')
      (fun e s' => wpAny (model prog w) (A.deeper env) (leaving env e) (fun _ s'' => R (.error e) s'') (fun e' s'' => R (.error e') s'') s') s) :
    codeC (model prog w) A (.func body env) R s := by
  refine codeC_of_tree ?_
  show wpC _ (A.deeper env) (do point; match ← (execs body env).onRaise (leaving env) with | .ret v => ret v | _ => ret .none) _ _ s
  refine wpC_step (wpAny_point (wpC_bind (wpC_onRaise (wpC_mono h (fun f s' h' => ?_) fun _ _ h' => h'))))
  cases f <;> exact wpC_any (wpAny_pure h')
theorem codeC_call_function {a : Addr} {args : Args} {o : Obj} {fd : FuncData} {body : List Stmt} (hroom : A.depth < recursionLimit) (ho : s.heap.get? a = some o)
    (hd' : o.data = .func fd) (hco : fd.scope.isCoroutine = false) (hgen : fd.scope.isGenerator = false) (hbody : fd.body = .stmts body) (hcd : s.heap.CodeRec fd.code fd.qualname)
    (h : wpAny (model prog w) A.in1 (bindArgs fd args) (fun binds s₁ =>
      wpAny (model prog w) A.in1 (newFunctionEnv fd.scope fd.globals fd.closure binds (fd.qualname ++ ".<locals>.") (some a) fd.code none fd.builtins)
        (fun env s₂ => s₂.heap.NoLimit ∧ codeC (model prog w) A (.func body env) R s₂) (fun e s' => R (.error e) s') s₁) (fun e s' => R (.error e) s') s) :
    codeC (model prog w) A (.call (.ref a) args) R s := by
  refine codeC_of_tree ?_
  show wpC _ A.in1 (callAny (.ref a) args) _ _ s
  simp only [callAny]
  refine wpC_step (wpAny_load ho ?_)
  obtain ⟨c, oc, vs, tq, hc, hoc, hdc, hq⟩ := hcd
  simp only [hd', callFunction, hco, hgen, hbody, hc]
  rw [hc] at h
  refine wpC_step (m := field (.ref c) 1) (wpAny_field hoc hdc hq (wpC_step (wpAny_pure ?_)))
  exact wpC_step (wpAny_mono h (fun binds s₁ h₁ => wpC_step (wpAny_mono h₁ (fun env s₂ h₂ => wpC_step (wpAny_enterFrame h₂.1 hroom
    (wpC_any (wpAny_pure (And.intro rfl h₂.2))))) fun _ _ h' => h')) fun _ _ h' => h')
theorem codeC_call_def {a : Addr} {o : Obj} {fd : FuncData} {body : List Stmt} {args : Args} {binds : List (Str × Value)}
    (hroom : A.depth < recursionLimit) (ho : s.heap.get? a = some o) (hdata : o.data = .func fd) (hlim : s.heap.NoLimit) (hcd : s.heap.CodeRec fd.code fd.qualname)
    (hbody : fd.body = .stmts body) (hbind : BindsTo s fd args binds)
    (hcell : ∀ x ∈ fd.scope.names, x.2 ≠ .cell) (hloc : ∀ x ∈ binds, fd.scope.names.lookup x.1 = some .local)
    (h : ∀ h₀, h₀.Ns s.heap.objs.size (fun x => binds.reverse.lookup x) → (∀ b o, s.heap.get? b = some o → h₀.get? b = some o) →
      wpC (model prog w) (A.deeper (callEnv fd s.heap.objs.size a)) (execs body (callEnv fd s.heap.objs.size a)) (fun f s' => R (.ok (.ret (match f with | .ret v => v | _ => .none))) s')
        (fun e s' => wpAny (model prog w) (A.deeper (callEnv fd s.heap.objs.size a)) (leaving (callEnv fd s.heap.objs.size a) e) (fun _ s'' => R (.error e) s'') (fun e' s'' => R (.error e') s'') s')
        { s with heap := h₀, toks := s.toks + binds.length })
    (hco : fd.scope.isCoroutine = false) (hgen : fd.scope.isGenerator = false) (hk : fd.scope.kind = .function) :
    codeC (model prog w) A (.call (.ref a) args) R s := by
  refine codeC_call_function hroom ho hdata hco hgen hbody hcd (hbind _ _ _ _ ?_)
  refine wpAny_newFunctionEnv hcell hloc (fun h₀ hns₀ hsb₀ => ⟨hlim.fresh _ hsb₀, codeC_func (h h₀ hns₀ fun b o e => ?_)⟩) hk
  exact hsb₀.extBut b o (Nat.ne_of_lt (Heap.lt_size e)) (Heap.get?_push_of_some _ e)
section
variable {base h₀ : Heap} {outer : List Env} {L : Addr} {m : Str → Option Value} {news : List (Addr × Obj)} {K : Frag} {p : Program} {loose : List Str} {mean : ExcName → Option Value} {mg mb : Str → Option Value}
/-- a call of a def of the text's, from a frame -/
theorem code_defC {name qual : Str} {params : Arguments} {body : List Stmt} {scope : Scope} {dV kV doc pm cdv ct oc : Value} {an od : Option Addr} {osl : Array (Option Value)} {f : Addr} {args : Args} {binds : List (Str × Value)}
    (B : Below A₀ base outer h₀) (F : Fr h₀ L s.heap m) (X₀ : K.In h₀) (N : News h₀ L s.heap news) (T : Top p loose mean mg mb h₀) (hA : A.frames = some (env :: outer)) (hf : env.frame = some L) (hke : env.scope.kind = .function)
    (ho : K.lookup f = some ⟨oc, od, .func (fnOf name qual params body scope dV kV doc pm an cdv ct), osl⟩) (hcd : codeIn K cdv qual = true) (hroom : A.depth < recursionLimit)
    (hbind : BindsTo s (fnOf name qual params body scope dV kV doc pm an cdv ct) args binds) (hloc : ∀ y ∈ binds, scope.names.lookup y.1 = some .local)
    (h : ∀ g L' h₁, Fr h₀ L g m → Fr g L' h₁ (fun y => binds.reverse.lookup y) → News g L' h₁ news → Below A base (env :: outer) g → K.In g → Top p loose mean mg mb g →
      wpC (model prog w) (A.deeper (envOf qual scope L' f cdv)) (execs body (envOf qual scope L' f cdv))
        (fun fl s' => LeaveK h₀ L m g R (match fl with | .ret v => v | _ => .none) s')
        (fun e s' => wpAny (model prog w) (A.deeper (envOf qual scope L' f cdv)) (leaving (envOf qual scope L' f cdv) e) (fun _ s'' => R (.error e) s'') (fun e' s'' => R (.error e') s'') s')
        { s with heap := h₁, toks := s.toks + binds.length })
    (hco : scope.isCoroutine = false) (hgen : scope.isGenerator = false) (hk : scope.kind = .function)
    (hcell : ∀ x ∈ scope.names, x.2 ≠ .cell) : codeC (model prog w) A (.call (.ref f) args) R s := by
  obtain ⟨FG, BG, st, lv⟩ := groundX (R := R) B F N hA hf hke
  refine codeC_call_def (fd := fnOf name qual params body scope dV kV doc pm an cdv ct) (body := body) (binds := binds) hroom ((X₀.keeps F.keep) _ _ ho) rfl (T.nolimit.keeps F.keep) (codeRec_of (X₀.keeps F.keep) hcd) rfl hbind hcell hloc (fun h₁ hns hk₁ => ?_) hco hgen hk
  exact wpC_mono (h _ s.heap.objs.size h₁ FG ⟨hns, fun b o e => hk₁ b o (of_hideAll _ e), Nat.le_of_eq (hideAll_size _ _)⟩
    (fun p hp => ⟨hk₁ _ _ (N p hp).1, Nat.ne_of_lt (Heap.lt_size (N p hp).1), hideAll_none _ (List.mem_map_of_mem hp)⟩) BG (X₀.keeps st) (T.keeps st)) (fun fl s' hl => lv _ _ hl) fun _ _ y => y
end
/-! the loops -/
theorem codeC_forLoop {target : Expr} {it : Value} {body orelse : List Stmt} (I : Nat → Shared → Prop)
    (turn : ∀ n s, I n s → wpAny (model prog w) A (pyNext it) (fun r s₁ => match r with
      | none => wpAny (model prog w) A (execs orelse env) (fun f s₃ => R (.ok f) s₃) (notedBy (model prog w) A env fun e s' => R (.error e) s') s₁
      | some v => wpAny (model prog w) A (assign target env v) (fun _ s₂ => wpC (model prog w) A (execs body env) (fun f s₃ => match f with
          | .next | .cont => ∃ m, m < n ∧ I m s₃
          | .brk => R (.ok .next) s₃
          | .ret v => R (.ok (.ret v)) s₃) (notedBy (model prog w) A env fun e s' => R (.error e) s') s₂) (notedBy (model prog w) A env fun e s' => R (.error e) s') s₁) (notedBy (model prog w) A env fun e s' => R (.error e) s') s)
    (n : Nat) (h : I n s) (ht : ∀ v, letOwnedTupleGo target it v = pure () := by intro _; rfl) : codeC (model prog w) A (.forLoop target it body orelse env) R s := by
  induction n using Nat.strongRecOn generalizing s with
  | ind n ih =>
    refine codeC_of_tree (wpC_mono (Q := fun fin s' => match fin with
        | .done f => R (.ok f) s'
        | .again c' => (c' = .forLoop target it body orelse env ∧ ∃ m, m < n ∧ I m s') ∨ (c'.quiet = true ∧ codeAny (model prog w) A c' R s')) (E := fun e s' => R (.error e) s') ?_ (fun fin s' hf => ?_) fun _ _ h' => h')
    · show wpC _ _ ((forTurn target it body orelse env).onRaise (fun x => do noteFrame x env; theTreesLotGoes x)) _ _ s
      refine wpC_noted ?_
      simp only [forTurn]
      refine wpC_step (wpAny_standAt (wpC_step (wpAny_onRaise (wpAny_mono (turn n s h) (fun r s₁ h₁ => ?_) fun _ _ h' => wpAny_standAt h'))))
      cases r with
      | none => exact wpC_any (wpAny_pure (.inr ⟨rfl, codeAny_block h₁⟩))
      | some v =>
        refine wpC_step (wpAny_of_eq (ht v) ?_)
        refine wpC_step (wpAny_mono h₁ (fun _ s₂ h₂ => wpC_bind (wpC_mono h₂ (fun f s₃ h₃ => ?_) fun _ _ h' => h')) fun _ _ h' => h')
        cases f with
        | next => exact wpC_any (wpAny_pure (.inl ⟨rfl, h₃⟩))
        | cont => exact wpC_any (wpAny_pure (.inl ⟨rfl, h₃⟩))
        | brk => exact wpC_any (wpAny_pure h₃)
        | ret v => exact wpC_any (wpAny_pure h₃)
    · cases fin with
      | done f => exact hf
      | again c' =>
        rcases hf with ⟨rfl, m, hm, hI⟩ | hf
        · exact ⟨rfl, ih m hm hI⟩
        · exact ⟨hf.1, codeC_any hf.2⟩
end
end Mine
end
section
open PySem PySem.W PyProof.Rows PySem.Calls
set_option Elab.async false
set_option maxRecDepth 100000
set_option autoImplicit false
namespace Mine
open Sem (wp)
section
variable {prog : Program} {w : World} {A : Around} {E : Value → Shared → Prop} {s : Shared} {env : Env} {R : Result → Shared → Prop}
theorem codeC_builtin {id : String} {args : Args} {b : Builtin} (hb : entryFor table id = some b)
    (h : wpC (model prog w) (A.under (.builtin id args)) (b args) (fun fin s' => match fin with | .done f => R (.ok f) s' | .again c' => c'.quiet = true ∧ codeC (model prog w) A c' R s') (fun e s' => R (.error e) s') s) :
    codeC (model prog w) A (.builtin id args) R s := by
  refine codeC_of_tree ?_
  show wpC _ _ (match entryFor table id with | some b => b args | none => unsupported ((withoutEnding? id "#data").getD id)) _ _ s
  rw [hb]; exact h
theorem codeC_type_int {v : Value} (h : codeC (model prog w) A.in1 (.call (.builtin "int.__new__") ⟨[.type "int", v], []⟩) (fun r s' => match r with | .ok _ => False | .error e => R (.error e) s') s) :
    codeC (model prog w) A (.builtin "type.__call__" ⟨[.type "int", v], []⟩) R s := by
  refine codeC_builtin F.entry_type_call ?_
  rw [Around.under_plain (weight_type_call_type "int" [v] []) (units_type_call_type "int" [v] [])]
  have ft := F.called_int
  have h1 := ft.notType
  have h2 := ft.canCreate
  have hct := F.typeCall_int_1 v
  obtain ⟨c, tl, hmro⟩ := ft.mro
  have hmade := ft.made
  unfold Builtin.«type.__call__»
  dsimp only
  simp only [h1, h2, hct, hmro, hmade, pure_bind, Bool.false_eq_true, if_false]
  simp only [List.isEmpty_cons, Bool.false_eq_true, if_false]
  exact wpC_bind (wpC_holding (wpC_call (codeC_mono h fun r s' hr => by
    cases r with
    | error e => exact hr
    | ok f => exact hr.elim)))
theorem codeC_call_builtin {id : String} {args : Args} {b : Builtin} (hq : plainId id = true) (hb : entryFor table id = some b)
    (h : wpAny (model prog w) A.in1 (checkBuiltinCall id args) (fun _ s₁ => wpC (model prog w) A.in1 (b args)
      (fun fin s' => match fin with | .done f => R (.ok f) s' | .again c' => c'.quiet = true ∧ codeC (model prog w) A c' R s') (fun e s' => R (.error e) s') s₁)
      (fun e s' => R (.error e) s') s) : codeC (model prog w) A (.call (.builtin id) args) R s := by
  refine codeC_of_tree ?_
  show wpC _ A.in1 (do checkBuiltinCall id args; again (.builtin id args)) _ _ s
  refine wpC_step (wpAny_mono h (fun _ s₁ h₁ => wpC_any (wpAny_pure (And.intro (plainId_quiet hq args) (codeC_builtin hb (by rw [Around.under_plainId hq args]; exact h₁))))) fun _ _ h' => h')
theorem wpC_mark {M : Model} {own : List String} {e : Value} {Q : Unit → Shared → Prop} (h : Q () s) : wpC M A (markTheRefusal own e) Q E s := fun Γ p hΓ hC => by
  unfold markTheRefusal
  have e1 : (((Γ.code, p) :: Γ.below).map (·.1)).any Code.isCaller = true := hC
  have hno : pythonCodeMadeTheCall own (((Γ.code, p) :: Γ.below).map (·.1)) = false := by
    show ((!((((Γ.code, p) :: Γ.below).map (·.1)).any Code.isCaller)) && _ && _) = false
    rw [e1]
    rfl
  show wp M Γ (if pythonCodeMadeTheCall own (((Γ.code, p) :: Γ.below).map (·.1)) then _ else _) _ _ p s
  rw [hno]
  exact h
section
open PySem.NumText
theorem extract_short (x : Str) : (⟨x.cps.extract 0 200⟩ : Str).length ≤ 200 := by
  show (x.cps.extract 0 200).size ≤ 200
  rw [Array.size_extract]
  omega
theorem wpC_text_bad {Q : Value → Shared → Prop} {x : Str} {u : Tok} {text : List Nat} (hh : A.handled = none) (hx : x.length ≤ 640) (ho : ∀ c ∈ x.cps.toList, c < 16 ^ 8) (hs : (text.takeWhile (· != 0)).length ≤ 640)
    (hr : (int_private% "readNumeral") 0 10 (text.takeWhile (· != 0)) = int_private% "Numeral.invalid" ∨ ∃ i, (int_private% "readNumeral") 0 10 (text.takeWhile (· != 0)) = (int_private% "Numeral.value") i ∧ ¬ ((text.takeWhile (· != 0)).length == text.length) = true)
    (h : ∀ h' e m t tk, Heap.MadeExc s.heap h' e "ValueError" [.str m t] → E (.ref e) { s with heap := h', toks := tk }) :
    wpC (model prog w) A ((int_private% "intFromText") (.str x u) text 10) Q E s := by
  show wpC _ A (if (text.takeWhile (· != 0)).length ≤ 640 then _ else _) Q E s
  rw [if_pos hs]
  refine wpC_step (wpAny_pure ?_)
  dsimp only
  rcases hr with hr | ⟨i, hr, hne⟩
  all_goals rw [hr]
  all_goals dsimp only
  rotate_left
  · rw [if_neg hne]
    refine wpC_step (wpAny_rule ?_)
    refine wpC_step (m := (int_private% "bytesOf?") (.str x u)) (wpAny_of_eq (a := none) rfl ?_)
    dsimp only
    refine wpC_step (wpAny_pyRepr_str ?_ ?_)
    · refine wpC_step (wpAny_mkStr ?_ ?_)
      · refine wpC_step (wpAny_newExc_plain plainExc_ValueError (fun h' e hm => ?_) (by show 1 ≤ sizeLine; decide))
        refine wpC_bind (wpC_mark ?_)
        exact wpC_any (wpAny_raiseNew_none hh (h _ _ _ _ _ hm))
      · have e1 := extract_short (reprText x)
        have e2 : (Str.ofString (toString "invalid literal for int() with base " ++ toString 10 ++ toString ": ")).length ≤ 100 := by decide +kernel
        have e3 : 300 ≤ sizeLine := by decide
        rw [Str.length_append]
        omega
    · have e1 := PySem.StrLaws.reprText_len x ho
      have e3 : 6402 ≤ sizeLine := by decide
      omega
  · refine wpC_step (m := (int_private% "bytesOf?") (.str x u)) (wpAny_of_eq (a := none) rfl ?_)
    simp only [Option.isSome_none, Bool.false_and, Bool.false_eq_true, if_false]
    refine wpC_step (wpAny_rule ?_)
    refine wpC_step (m := (int_private% "bytesOf?") (.str x u)) (wpAny_of_eq (a := none) rfl ?_)
    dsimp only
    refine wpC_step (wpAny_pyRepr_str ?_ ?_)
    · refine wpC_step (wpAny_mkStr ?_ ?_)
      · refine wpC_step (wpAny_newExc_plain plainExc_ValueError (fun h' e hm => ?_) (by show 1 ≤ sizeLine; decide))
        refine wpC_bind (wpC_mark ?_)
        exact wpC_any (wpAny_raiseNew_none hh (h _ _ _ _ _ hm))
      · have e1 := extract_short (reprText x)
        have e2 : (Str.ofString (toString "invalid literal for int() with base " ++ toString 10 ++ toString ": ")).length ≤ 100 := by decide +kernel
        have e3 : 300 ≤ sizeLine := by decide
        rw [Str.length_append]
        omega
    · have e1 := PySem.StrLaws.reprText_len x ho
      have e3 : 6402 ≤ sizeLine := by decide
      omega
end
end
end Mine
end
section
open PySem PySem.W PyProof.Rows PySem.Calls
set_option Elab.async false
set_option maxRecDepth 100000
set_option autoImplicit false
namespace Mine
open Sem (wp)
open PySem.NumText
section
variable {prog : Program} {w : World} {A : Around} {E : Value → Shared → Prop} {s : Shared} {env : Env} {R : Result → Shared → Prop}
theorem wpC_int_new {x : Str} {u : Tok} {Q : Fin → Shared → Prop} (hh : A.handled = none) (hx : x.length ≤ 640) (ho : ∀ c ∈ x.cps.toList, c < 16 ^ 8) (hn : PySem.intText? x = none)
    (h : ∀ h' e m t tk, Heap.MadeExc s.heap h' e "ValueError" [.str m t] → E (.ref e) { s with heap := h', toks := tk }) :
    wpC (model prog w) A (Builtin.«int.__new__» ⟨[.type "int", .str x u], []⟩) Q E s := by
  have f1 := F.conv_sub_int
  have f2 := F.madeHere_int
  have f3 := KIN.str_int
  have f4 := KIN.str_idx
  have f5 := KIN.str_trunc
  have f6 : typeOf (.str x u) = pure (.type "str") := rfl
  have f7 : isType (.type "int") = pure true := by rfl
  unfold Builtin.«int.__new__»
  dsimp only
  simp only [f1, f2, f7, pure_bind, Bool.not_true, Bool.false_eq_true, if_false]
  rw [if_neg (by simp), if_neg (by simp)]
  simp only [List.forIn_nil, pure_bind]
  show wpC _ A ((int_private% "intFromObject") (.str x u) >>= _) Q E s
  refine wpC_bind ?_
  show wpC _ A (callSpecial? (.str x u) "__int__" [] [] >>= _) _ E s
  refine wpC_step (m := callSpecial? (.str x u) "__int__" [] []) ?_
  obtain ⟨hp, g, d, tk, os⟩ := s
  repeat (any_goals (first | assumption | wp_step))
  dsimp only
  refine wpC_step (m := specialOf (.str x u) "__index__") ?_
  repeat (any_goals (first | assumption | wp_step))
  rw [if_neg (by simp)]
  refine wpC_step (m := specialOf (.str x u) "__trunc__") ?_
  repeat (any_goals (first | assumption | wp_step))
  dsimp only
  refine wpC_step (m := (int_private% "numeralText?") (.str x u)) (wpAny_of_eq (a := some (numTextOf x)) (by rfl) ?_)
  dsimp only
  have hs : (numSeenOf x).length ≤ 640 := Nat.le_trans (seen_length x) hx
  refine wpC_text_bad hh hx ho hs ?_ h
  rcases read0 x hs with ⟨m, h1, h2, h3⟩ | ⟨h1, h2⟩
  · rw [hn] at h1
    cases h1
  · exact h2
theorem wpC_int_bad {x : Str} {u : Tok} {Q : Value → Shared → Prop} (hh : A.handled = none) (hx : x.length ≤ 640) (ho : ∀ c ∈ x.cps.toList, c < 16 ^ 8) (hn : PySem.intText? x = none)
    (h : ∀ h' e m t tk, Heap.MadeExc s.heap h' e "ValueError" [.str m t] → E (.ref e) { s with heap := h', toks := tk }) :
    wpC (model prog w) A (call (.type "int") [.str x u]) Q E s := by
  refine wpC_call (codeC_of_tree ?_)
  show wpC _ _ (callAny (.type "int") _) _ _ _
  refine wpC_any (wpAny_pure ⟨Code.quiet_builtin _ (by decide +kernel), codeC_type_int ?_⟩)
  refine codeC_call_builtin F.called_int.plain F.entry_int_new (wpAny_of_eq (F.newCall_int_1 (.str x u)) ?_)
  exact wpC_mono (wpC_int_new (Q := fun _ _ => False) hh hx ho hn h) (fun _ _ q => q.elim) fun _ _ q => q
end
end Mine
end
section
open PySem PySem.W PyProof.Rows PySem.Calls
set_option Elab.async false
set_option maxRecDepth 100000
set_option autoImplicit false
/-! loops above the claim's caller; the way into the law's def -/
namespace Mine
open Sem (wp)
section
variable {prog : Program} {w : World} {A : Around} {s : Shared} {env : Env} {h₀ : Heap} {E : Value → Shared → Prop}
theorem wpC_For {target : Expr} {iter : Expr} {body orelse : List Stmt} {pos : Pos} {Q : Flow → Shared → Prop}
    (h : wpAny (model prog w) A (eval iter env) (fun x s₁ => wpAny (model prog w) A (pyIter x) (fun it s₂ =>
      codeC (model prog w) A (.forLoop target it body orelse env) (fun r s' => match r with | .ok f => Q f s' | .error e => cameBackBy (model prog w) A env E e s') s₂) E s₁) E s)
    (hs : ∀ x, foldedSetIterable iter env x = pure x := by intro _; rfl) :
    wpC (model prog w) A (exec (.For target iter body orelse pos) env) Q E s := by
  rw [arm_exec_For]
  refine wpC_step (wpAny_standAt (wpC_step (wpAny_mono h (fun x s₁ h₁ => wpC_step (wpAny_of_eq (hs x) (wpC_step (wpAny_standAt (wpC_step (wpAny_holding (wpAny_mono h₁ (fun it s₂ h₂ => ?_) fun _ _ e => e))))))) fun _ _ e => e)))
  exact wpC_runOwn h₂
theorem loopC_frV {R : Result → Shared → Prop} {x : Str} {px : Pos} {body : List Stmt} {I : Addr} {fp wr : List Addr} {n : Nat} {P : Nat → Value → Prop} {St : Nat → Heap → Prop} {m : Str → Option Value}
    {news : List (Addr × Obj)} (W : Walks prog w A I fp wr n P St) (hx : env.kindOf x = some .local)
    (hp : (env.scope.kind == .class || (env.scope.kind == .module && env.locals != env.globals)) = false)
    (hLf : env.locals ∉ fp) (hwr : ∀ b ∈ wr, h₀.get? b = none) (hnw : ∀ p ∈ news, p.1 ∉ wr)
    (hst : St 0 s.heap) (F : Fr h₀ env.locals s.heap m) (N : News h₀ env.locals s.heap news)
    (J : Nat → (Str → Option Value) → List (Addr × Obj) → Prop) (h0 : J 0 m news)
    (step : ∀ i v m₁ news₁ s₁ own, (∃ h tk, s₁ = { s with heap := h, toks := tk }) → i < n → P i v → J i m₁ news₁ → (∀ p ∈ news₁, p.1 ∉ wr) → (∀ p ∈ own, p.1 ∈ fp) → (∀ p ∈ own, s₁.heap.get? p.1 = some p.2) → (∀ b ∈ fp, h₀.get? b = none → ∀ o, s₁.heap.get? b = some o → (b, o) ∈ own) → St (i + 1) s₁.heap →
      Fr h₀ env.locals s₁.heap (fun y => if y = x then some v else m₁ y) → News h₀ env.locals s₁.heap (own ++ news₁) →
      wpC (model prog w) A (execs body env) (LoopStepV h₀ env.locals wr own (J (i + 1)) s₁ (fun v s' => R (.ok (.ret v)) s') fun s' => R (.ok .next) s') (notedBy (model prog w) A env fun e s' => R (.error e) s') s₁)
    (hR : ∀ h' tk m' news', Fr h₀ env.locals h' m' → News h₀ env.locals h' news' → (∀ p ∈ news', p.1 ∉ wr) → J n m' news' → R (.ok .next) { s with heap := h', toks := tk }) :
    codeC (model prog w) A (.forLoop (.Name x px) (.ref I) body [] env) R s := by
  have hLw : env.locals ∉ wr := fun h => hLf (W.sub _ h)
  have old : ∀ b o, h₀.get? b = some o → b ∉ wr := fun b o e hb => by rw [hwr b hb] at e; cases e
  refine codeC_forLoop
    (fun k s' => ∃ h' tk m' news' i, s' = { s with heap := h', toks := tk } ∧ St i h' ∧ Fr h₀ env.locals h' m' ∧ News h₀ env.locals h' news' ∧ (∀ p ∈ news', p.1 ∉ wr) ∧ J i m' news' ∧ i ≤ n ∧ k = n + 1 - i) ?_ (n + 1)
    ⟨s.heap, s.toks, m, news, 0, rfl, hst, F, N, hnw, h0, Nat.zero_le _, rfl⟩
  rintro k s' ⟨h', tk, m', news', i, rfl, hst', F', N', hnw', hJ, hi, rfl⟩
  have next : ∀ h₁ : Heap, (∀ b o, b ∉ wr → h'.get? b = some o → h₁.get? b = some o) → Fr h₀ env.locals h₁ m' ∧ News h₀ env.locals h₁ news' := fun h₁ hk₁ =>
    ⟨⟨F'.ns.at' fun o e => hk₁ _ o hLw e, fun b o e => hk₁ b o (old b o e) (F'.keep b o e), F'.above⟩, fun p hp => ⟨hk₁ _ _ (hnw' p hp) (N' p hp).1, (N' p hp).2⟩⟩
  by_cases hlt : i < n
  · refine W.item i _ _ _ hlt hst' fun v h₁ tk₁ hP hst₁ hk₁ => ?_
    obtain ⟨F₁, N₁⟩ := next h₁ hk₁
    refine wpAny_assign_Name (wpAny_storeName_local hx F₁.ns (fun h₂ hn₂ hs₂ => ?_) hp)
    have F₂ := F₁.set hn₂ hs₂
    have Nown : News h₀ env.locals h₂ (ownOf h₀ fp h₂) := news_ownOf hLf
    have hst₂ : St (i + 1) h₂ := W.frame _ _ _ hst₁ fun b hb o e => (hs₂.2 b fun q => hLf (q ▸ hb)).trans e
    refine wpC_mono (step i v m' news' _ (ownOf h₀ fp h₂) ⟨_, _, rfl⟩ hlt hP hJ hnw' ownOf_sub (fun p hp => (Nown p hp).1) (fun b hb hn o e => mem_ownOf hb hn e) hst₂ F₂ (Nown.append (N₁.set hs₂))) (fun f s₃ h₃ => ?_) fun _ _ e => e
    have fin : LoopStepU h₀ env.locals wr (ownOf h₀ fp h₂) (J (i + 1)) { s with heap := h₂, toks := tk₁ + 1 } .next s₃ →
        ∃ m, m < n + 1 - i ∧ ∃ h' tk m' news' j, s₃ = { s with heap := h', toks := tk } ∧ St j h' ∧ Fr h₀ env.locals h' m' ∧ News h₀ env.locals h' news' ∧ (∀ p ∈ news', p.1 ∉ wr) ∧ J j m' news' ∧ j ≤ n ∧ m = n + 1 - j := by
      rintro ⟨_, h₃', tk₃, m₂, news₂, rfl, F₃, N₃, ha₃, hJ₃⟩
      refine ⟨n + 1 - (i + 1), by omega, h₃', tk₃, m₂, news₂, i + 1, rfl, ?_, F₃, N₃.right, ha₃, hJ₃, hlt, rfl⟩
      refine W.frame _ _ _ hst₁ fun b hb o e => ?_
      have e₂ : h₂.get? b = some o := (hs₂.2 b fun q => hLf (q ▸ hb)).trans e
      cases hn : h₀.get? b with
      | some o₀ =>
        have : o₀ = o := by have := F₂.keep b o₀ hn; rw [e₂] at this; exact (Option.some.inj this).symm
        exact this ▸ F₃.keep b o₀ hn
      | none => exact (N₃ _ (List.mem_append_left _ (mem_ownOf hb hn e₂))).1
    cases f with
    | ret v => exact h₃
    | brk => exact h₃
    | cont => exact fin h₃
    | next => exact fin h₃
  · have hin : i = n := by omega
    subst hin
    refine W.done _ _ _ hst' fun h₁ tk₁ hk₁ => wpAny_execs_nil ?_
    obtain ⟨F₁, N₁⟩ := next h₁ hk₁
    exact hR h₁ tk₁ m' news' F₁ N₁ hnw' hJ
/-- a for above the caller, by what holds between the turns: P of the turn and of the ledger's state; the names `stored` are forgotten -/
theorem loopC {σ : Type} {x : Str} {px : Pos} {body : List Stmt} {Q : Flow → Shared → Prop} {I : Addr} {fp : List Addr} {n : Nat} {Pv : Nat → Value → Prop} {St : Nat → Heap → Prop} {m₀ : Str → Option Value}
    (Led : σ → List (Addr × Obj)) (P : Nat → σ → Prop) (c₀ : σ) (stored : List Str) (W : Walks prog w A I fp [I] n Pv St)
    (hx : env.kindOf x = some .local) (hp : (env.scope.kind == .class || (env.scope.kind == .module && env.locals != env.globals)) = false)
    (hLf : env.locals ∉ fp) (hIn : h₀.get? I = none) (hI : ∀ p ∈ Led c₀, p.1 < I) (hadr : ∀ c, (Led c).map (·.1) = (Led c₀).map (·.1))
    (hfp : ∀ b ∈ fp, h₀.get? b = none → b = I ∨ ∃ o, ∀ c, (b, o) ∈ Led c) (hmI : I ∈ fp)
    (hSt : ∀ i h, St i h → ∃ it, h.get? I = some it) (hst : St 0 s.heap) (F : Fr h₀ env.locals s.heap m₀) (N : News h₀ env.locals s.heap (Led c₀)) (h0 : P 0 c₀)
    (turn : ∀ i v (c : σ) (u : Str → Option Value) (it : Obj) (h : Heap) (tk : Nat), i < n → Pv i v → P i c →
      Fr h₀ env.locals h (fun y => if y = x then some v else if stored.contains y = true then u y else m₀ y) → News h₀ env.locals h ((I, it) :: Led c) →
      wpC (model prog w) A (execs body env) (TurnPost h₀ env.locals x stored m₀ I it Led (P (i + 1)) { s with heap := h, toks := tk } Q) E { s with heap := h, toks := tk })
    (done : ∀ (c : σ) (u : Str → Option Value) (h : Heap) (tk : Nat), P n c → Fr h₀ env.locals h (fun y => if y = x then u y else if stored.contains y = true then u y else m₀ y) → News h₀ env.locals h (Led c) → Q .next { s with heap := h, toks := tk })
    (hE : PassesOwn (model prog w) A env E := by passes_own) :
    codeC (model prog w) A (.forLoop (.Name x px) (.ref I) body [] env) (fun r s' => match r with | .ok f => Q f s' | .error e => cameBackBy (model prog w) A env E e s') s := by
  have hI' : ∀ c, ∀ p ∈ Led c, p.1 ≠ I := fun c p hp q => by
    have h1 : p.1 ∈ (Led c).map (·.1) := List.mem_map.mpr ⟨p, hp, rfl⟩
    rw [hadr c] at h1
    obtain ⟨p', hp', e⟩ := List.mem_map.mp h1
    exact absurd (hI p' hp') (by rw [e, q]; exact Nat.lt_irrefl _)
  refine loopC_frV (R := fun r s' => match r with | .ok f => Q f s' | .error e => cameBackBy (model prog w) A env E e s') W hx hp hLf (fun b hb => by rw [List.mem_singleton.mp hb]; exact hIn) (news := Led c₀) (fun p hp hb => hI' c₀ p hp (List.mem_singleton.mp hb)) hst F N
    (fun i m₁ news₁ => ∃ c, news₁ = Led c ∧ P i c ∧ ∀ z, z ≠ x → stored.contains z = false → m₁ z = m₀ z) ⟨c₀, rfl, h0, fun _ _ _ => rfl⟩ ?_ ?_
  · rintro i v m₁ news₁ s₁ own ⟨hh', tk', rfl⟩ hin hPv ⟨c, rfl, hP, hm₁⟩ hoff hown hget hall hst' F₁ N₁
    obtain ⟨it, hit⟩ := hSt _ _ hst'
    have hmem := hall I hmI hIn it hit
    have N₂ : News h₀ env.locals hh' ((I, it) :: Led c) := fun p hp => by
      rcases List.mem_cons.mp hp with rfl | hp
      · exact N₁ _ (List.mem_append_left _ hmem)
      · exact N₁ _ (List.mem_append_right _ hp)
    refine wpC_mono (turn i v c m₁ it hh' tk' hin hPv hP (fr_off hm₁ F₁) N₂) (fun f s₂ hq => ?_) fun e s' hx => hE e s' hx
    have fin : TurnEnd h₀ env.locals x stored m₀ I it Led (P (i + 1)) { s with heap := hh', toks := tk' } s₂ →
        LoopStepU h₀ env.locals [I] own (fun m₁ news₁ => ∃ c, news₁ = Led c ∧ P (i + 1) c ∧ ∀ z, z ≠ x → stored.contains z = false → m₁ z = m₀ z) { s with heap := hh', toks := tk' } .next s₂ := by
      rintro ⟨h', tk, m', news', c', e, F', N', sub, hP', hm'⟩
      refine ⟨rfl, h', tk, m', Led c', e, F', fun p hp => ?_, fun p hp hb => hI' c' p hp (List.mem_singleton.mp hb), c', rfl, hP', hm'⟩
      rcases List.mem_append.mp hp with hp | hp
      · have g1 : hh'.get? p.1 = some p.2 := hget p hp
        have g0 : h₀.get? p.1 = none := (N₁ _ (List.mem_append_left _ hp)).2.2
        rcases hfp p.1 (hown p hp) g0 with g2 | ⟨o, g2⟩
        · have g3 : p = (I, it) := Prod.ext g2 (by rw [g2, hit] at g1; exact (Option.some.inj g1).symm)
          rw [g3]
          exact N' _ (sub _ (List.mem_cons_self ..))
        · have g3 : hh'.get? p.1 = some o := (N₁ (p.1, o) (List.mem_append_right _ (g2 c))).1
          have g4 : p = (p.1, o) := Prod.ext rfl (Option.some.inj (g1.symm.trans g3))
          rw [g4]
          exact N' _ (sub _ (List.mem_cons_of_mem _ (g2 c')))
      · exact N' _ (sub _ (List.mem_cons_of_mem _ hp))
    cases f with
    | ret v => exact hq
    | brk => exact hq
    | next => exact fin hq
    | cont => exact fin hq
  · rintro h' tk m' news' F' N' _ ⟨c, rfl, hP, hm'⟩
    exact done c m' h' tk hP (fr_offOut hm' F') N'
/-- over a list of the call's own -/
theorem loopC_list {σ : Type} {x : Str} {px : Pos} {body : List Stmt} {Q : Flow → Shared → Prop} {ax : Addr} {lo : Obj} {vs : List Value} {k : Nat} {m₀ : Str → Option Value}
    (Led : σ → List (Addr × Obj)) (P : Nat → σ → Prop) (c₀ : σ) (stored : List Str)
    (hh : A.handled = none) (hx : env.kindOf x = some .local) (hp : (env.scope.kind == .class || (env.scope.kind == .module && env.locals != env.globals)) = false)
    (F : Fr h₀ env.locals s.heap m₀) (N : News h₀ env.locals s.heap (Led c₀)) (hm : ∀ c, (ax, lo) ∈ Led c) (hadr : ∀ c, (Led c).map (·.1) = (Led c₀).map (·.1)) (hc : lo.cls = .type "list") (hd : lo.data = .seq vs.toArray k) (h0 : P 0 c₀)
    (turn : ∀ (I : Addr), (∀ p ∈ Led c₀, p.1 < I) → ∀ (i : Nat) (v : Value) (c : σ) (u : Str → Option Value) (it : Obj) (h : Heap) (tk : Nat), vs[i]? = some v → P i c →
      Fr h₀ env.locals h (fun y => if y = x then some v else if stored.contains y = true then u y else m₀ y) → News h₀ env.locals h ((I, it) :: Led c) →
      wpC (model prog w) A (execs body env) (TurnPost h₀ env.locals x stored m₀ I it Led (P (i + 1)) { s with heap := h, toks := tk } Q) E { s with heap := h, toks := tk })
    (done : ∀ (c : σ) (u : Str → Option Value) (h : Heap) (tk : Nat), P vs.length c → Fr h₀ env.locals h (fun y => if y = x then u y else if stored.contains y = true then u y else m₀ y) → News h₀ env.locals h (Led c) → Q .next { s with heap := h, toks := tk })
    (hE : PassesOwn (model prog w) A env E := by passes_own) :
    wpAny (model prog w) A (pyIter (.ref ax)) (fun it s₂ => codeC (model prog w) A (.forLoop (.Name x px) it body [] env) (fun r s' => match r with | .ok f => Q f s' | .error e => cameBackBy (model prog w) A env E e s') s₂) E s := by
  have hax := N _ (hm c₀)
  have hl : s.heap.IsList ax vs.toArray := ⟨lo, hax.1, hc, k, hd⟩
  have hlt : ax < s.heap.objs.size := Heap.lt_size hax.1
  have hne : ax ≠ s.heap.objs.size := Nat.ne_of_lt hlt
  have hnew := next_is_new F
  refine wpAny_pyIter_list hl ?_
  have W := Walks.list (prog := prog) (w := w) hh s.heap.objs.size ax hne vs.toArray
  have hlen : vs.toArray.size = vs.length := by simp
  rw [hlen] at W
  refine loopC (s := { s with heap := s.heap.push { cls := .type "list_iterator", data := .fields #[.ref ax, .int 0 0] } }) Led P c₀ stored W hx hp ?_ hnew (fun p hp => Heap.lt_size (N p hp).1) hadr ?_ (List.mem_cons_self ..) ?_
    ⟨⟨_, Heap.get?_push_size _ rfl, rfl, rfl⟩, hl.at fun o e => Heap.get?_push_of_some _ e⟩ (F.push _) (fun p hp => ⟨Heap.get?_push_of_some _ (N p hp).1, (N p hp).2⟩) h0 ?_ done hE
  · intro hmm
    rcases List.mem_cons.mp hmm with e | hmm
    · exact absurd F.ns.lt (e ▸ Nat.lt_irrefl _)
    · exact hax.2.1 (List.mem_singleton.mp hmm).symm
  · intro b hb _
    rcases List.mem_cons.mp hb with e | hb
    · exact .inl e
    · rw [List.mem_singleton.mp hb]
      exact .inr ⟨lo, hm⟩
  · rintro i h ⟨⟨o, e, _⟩, _⟩
    exact ⟨o, e⟩
  · intro i v c u it h tk _ hv hP F' N'
    exact turn _ (fun p hp => Heap.lt_size (N p hp).1) i v c u it h tk (by simpa using hv) hP F' N'
/-- over a tuple, in the ledger or of old -/
theorem loopC_tuple {σ : Type} {x : Str} {px : Pos} {body : List Stmt} {Q : Flow → Shared → Prop} {ax : Addr} {vs : List Value} {m₀ : Str → Option Value}
    (Led : σ → List (Addr × Obj)) (P : Nat → σ → Prop) (c₀ : σ) (stored : List Str)
    (hh : A.handled = none) (hx : env.kindOf x = some .local) (hp : (env.scope.kind == .class || (env.scope.kind == .module && env.locals != env.globals)) = false)
    (F : Fr h₀ env.locals s.heap m₀) (N : News h₀ env.locals s.heap (Led c₀)) (hl : s.heap.IsTuple ax vs.toArray) (hn : ax ≠ env.locals) (hm : h₀.get? ax = none → ∃ o, ∀ c, (ax, o) ∈ Led c) (hadr : ∀ c, (Led c).map (·.1) = (Led c₀).map (·.1)) (h0 : P 0 c₀)
    (turn : ∀ (I : Addr), (∀ p ∈ Led c₀, p.1 < I) → ∀ (i : Nat) (v : Value) (c : σ) (u : Str → Option Value) (it : Obj) (h : Heap) (tk : Nat), vs[i]? = some v → P i c →
      Fr h₀ env.locals h (fun y => if y = x then some v else if stored.contains y = true then u y else m₀ y) → News h₀ env.locals h ((I, it) :: Led c) →
      wpC (model prog w) A (execs body env) (TurnPost h₀ env.locals x stored m₀ I it Led (P (i + 1)) { s with heap := h, toks := tk } Q) E { s with heap := h, toks := tk })
    (done : ∀ (c : σ) (u : Str → Option Value) (h : Heap) (tk : Nat), P vs.length c → Fr h₀ env.locals h (fun y => if y = x then u y else if stored.contains y = true then u y else m₀ y) → News h₀ env.locals h (Led c) → Q .next { s with heap := h, toks := tk })
    (hE : PassesOwn (model prog w) A env E := by passes_own) :
    wpAny (model prog w) A (pyIter (.ref ax)) (fun it s₂ => codeC (model prog w) A (.forLoop (.Name x px) it body [] env) (fun r s' => match r with | .ok f => Q f s' | .error e => cameBackBy (model prog w) A env E e s') s₂) E s := by
  have hlt : ax < s.heap.objs.size := by
    obtain ⟨o, e, _⟩ := hl
    exact Heap.lt_size e
  have hne : ax ≠ s.heap.objs.size := Nat.ne_of_lt hlt
  have hnew := next_is_new F
  refine wpAny_pyIter_tuple hl ?_
  have W := Walks.tuple (prog := prog) (w := w) hh s.heap.objs.size ax hne vs.toArray
  have hlen : vs.toArray.size = vs.length := by simp
  rw [hlen] at W
  refine loopC (s := { s with heap := s.heap.push { cls := .type "tuple_iterator", data := .fields #[.ref ax, .int 0 0] } }) Led P c₀ stored W hx hp ?_ hnew (fun p hp => Heap.lt_size (N p hp).1) hadr ?_ (List.mem_cons_self ..) ?_
    ⟨⟨_, Heap.get?_push_size _ rfl, rfl, rfl⟩, hl.at fun o e => Heap.get?_push_of_some _ e⟩ (F.push _) (fun p hp => ⟨Heap.get?_push_of_some _ (N p hp).1, (N p hp).2⟩) h0 ?_ done hE
  · intro hmm
    rcases List.mem_cons.mp hmm with e | hmm
    · exact absurd F.ns.lt (e ▸ Nat.lt_irrefl _)
    · exact hn (List.mem_singleton.mp hmm).symm
  · intro b hb q
    rcases List.mem_cons.mp hb with e | hb
    · exact .inl e
    · rw [List.mem_singleton.mp hb] at q ⊢
      exact .inr (hm q)
  · rintro i h ⟨⟨o, e, _⟩, _⟩
    exact ⟨o, e⟩
  · intro i v c u it h tk _ hv hP F' N'
    exact turn _ (fun p hp => Heap.lt_size (N p hp).1) i v c u it h tk (by simpa using hv) hP F' N'
/-- over range(n) -/
theorem loopC_range {σ : Type} {x : Str} {px : Pos} {body : List Stmt} {Q : Flow → Shared → Prop} {r : Addr} {n : Nat} {t u v : Tok} {m₀ : Str → Option Value}
    (Led : σ → List (Addr × Obj)) (P : Nat → σ → Prop) (c₀ : σ) (stored : List Str)
    (hh : A.handled = none) (hx : env.kindOf x = some .local) (hp : (env.scope.kind == .class || (env.scope.kind == .module && env.locals != env.globals)) = false)
    (F : Fr h₀ env.locals s.heap m₀) (N : News h₀ env.locals s.heap (Led c₀)) (hr : IsRange s.heap r 0 (n : Int) 1 t u v) (hsm : Builtin.Range.small 0 (n : Int) 1 = true) (hadr : ∀ c, (Led c).map (·.1) = (Led c₀).map (·.1)) (h0 : P 0 c₀)
    (turn : ∀ (I : Addr), (∀ p ∈ Led c₀, p.1 < I) → ∀ (i : Nat) (tk' : Tok) (c : σ) (u : Str → Option Value) (it : Obj) (h : Heap) (tk : Nat), i < n → P i c →
      Fr h₀ env.locals h (fun y => if y = x then some (.int (i : Int) tk') else if stored.contains y = true then u y else m₀ y) → News h₀ env.locals h ((I, it) :: Led c) →
      wpC (model prog w) A (execs body env) (TurnPost h₀ env.locals x stored m₀ I it Led (P (i + 1)) { s with heap := h, toks := tk } Q) E { s with heap := h, toks := tk })
    (done : ∀ (c : σ) (u : Str → Option Value) (h : Heap) (tk : Nat), P n c → Fr h₀ env.locals h (fun y => if y = x then u y else if stored.contains y = true then u y else m₀ y) → News h₀ env.locals h (Led c) → Q .next { s with heap := h, toks := tk })
    (hE : PassesOwn (model prog w) A env E := by passes_own) :
    wpAny (model prog w) A (pyIter (.ref r)) (fun it s₂ => codeC (model prog w) A (.forLoop (.Name x px) it body [] env) (fun r s' => match r with | .ok f => Q f s' | .error e => cameBackBy (model prog w) A env E e s') s₂) E s := by
  have hnew := next_is_new F
  refine wpAny_pyIter_range hr hsm ?_
  have W := Walks.range (prog := prog) (w := w) hh s.heap.objs.size 0 1 n
  refine loopC (s := { s with heap := s.heap.push { cls := .type "range_iterator", data := .fields #[rawInt 0, rawInt (Builtin.Range.rangeSize 0 (n : Int) 1), rawInt 1] } }) Led P c₀ stored W hx hp ?_ hnew (fun p hp => Heap.lt_size (N p hp).1) hadr ?_ (List.mem_cons_self ..) ?_
    (by show IsRangeIter _ _ _ _ _; rw [rangeSize_nat]; simpa using Heap.get?_push_size _ rfl) (F.push _) (fun p hp => ⟨Heap.get?_push_of_some _ (N p hp).1, (N p hp).2⟩) h0 ?_ done hE
  · intro hmm
    exact absurd F.ns.lt ((List.mem_singleton.mp hmm) ▸ Nat.lt_irrefl _)
  · intro b hb _
    exact .inl (List.mem_singleton.mp hb)
  · intro i h e
    exact ⟨_, e⟩
  · rintro i v c u it h tk hi ⟨tk', rfl⟩ hP F' N'
    refine turn _ (fun p hp => Heap.lt_size (N p hp).1) i tk' c u it h tk hi hP ?_ N'
    have e : (0 : Int) + (i : Int) * 1 = (i : Int) := by omega
    rw [e] at F'
    exact F'
end
/-! the way into the law's def -/
section
variable {prog : Program} {w : World} {A : Around} {R : Result → Shared → Prop} {s : Shared}
theorem enterC {M : Model} {f : Value} {pos : List Value} {kw : List (Str × Value)} {c : ClaimW} {cl : Str → Option Addr} {mean : ExcName → Option Value} {args : List WData} {s₁ : Shared}
    (h : codeC M A (.call f ⟨pos, kw⟩) (GoodWG c cl mean args s₁) s) : wpC M A (PySem.call f pos kw) (fun v s' => GoodWG c cl mean args s₁ (.ok (.ret v)) s') (fun e s' => GoodWG c cl mean args s₁ (.error e) s') s :=
  wpC_call (codeC_mono h fun res s' g => by rcases g.1 with ⟨v, _, _, rfl, _⟩ | ⟨e, _, _, rfl, _⟩ <;> exact g)
theorem call_fullC {name : Str} {params : Arguments} {body : List Stmt} {scope : Scope}
    {dV kV pm cd doc : Value} {a : Addr} {o : Obj} {args : Args} {binds : List (Str × Value)}
    (hroom : A.depth < recursionLimit) (ho : s.heap.get? a = some o) (hdata : o.data = .func { docDef name params body scope pm cd doc with defaults := dV, kwdefaults := kV }) (hlim : s.heap.NoLimit) (hcd : s.heap.CodeRec cd name)
    (hbind : BindsTo s { docDef name params body scope pm cd doc with defaults := dV, kwdefaults := kV } args binds)
    (hloc : ∀ x ∈ binds, scope.names.lookup x.1 = some .local)
    (h : ∀ h₁, Fr s.heap s.heap.objs.size h₁ (fun x => binds.reverse.lookup x) →
      wpC (model prog w) (A.deeper (envOf name scope s.heap.objs.size a cd)) (execs body (envOf name scope s.heap.objs.size a cd))
        (fun f s' => R (.ok (.ret (match f with | .ret v => v | _ => .none))) s')
        (fun e s' => wpAny (model prog w) (A.deeper (envOf name scope s.heap.objs.size a cd)) (leaving (envOf name scope s.heap.objs.size a cd) e)
          (fun _ s'' => R (.error e) s'') (fun e' s'' => R (.error e') s'') s')
        { s with heap := h₁, toks := s.toks + binds.length })
    (hco : scope.isCoroutine = false := by rfl) (hgen : scope.isGenerator = false := by rfl) (hk : scope.kind = .function := by rfl)
    (hcell : ∀ x ∈ scope.names, x.2 ≠ .cell := by decide) :
    codeC (model prog w) A (.call (.ref a) args) R s :=
  codeC_call_def hroom ho hdata hlim hcd rfl hbind hcell hloc (fun h₁ hns hkeep => h h₁ ⟨hns, hkeep, Nat.le_refl _⟩) hco hgen hk
end
end Mine
end
section
open PySem PySem.W PyProof.Rows PySem.Calls
set_option Elab.async false
set_option maxRecDepth 100000
/-! The head of a law whose run is shown above the caller alone -/
namespace Mine
theorem caller_has : HasC ⟨.builtin "claim.caller" {}, none, none, [], none⟩ := by rfl
theorem thread_endsC {prog : Program} {w : World} {t : Sem Fin} {s : Shared} {R : Result → Shared → Prop} (hreg : s.asleep)
    (h : wpC (model prog w) callerA t (fun fin s' => ∃ f, fin = .done f ∧ (R (.ok f) s' ∧ leftWithCleanup s'.gens = false)) (fun e s' => R (.error e) s' ∧ leftWithCleanup s'.gens = false) s) :
    ∃ n r s' s'', runN (denote table) prog w n s ⟨t, .builtin "claim.caller" {}, default, []⟩ = .halted (outcomeOf r) s' ∧
      schedN (denote table) prog w n (.single s ⟨t, .builtin "claim.caller" {}, default, []⟩) = .halted (outcomeOf r) s' ∧ s'.forget = s''.forget ∧ R r s'' := by
  have h0 : Sem.wp (model prog w) ⟨.builtin "claim.caller" {}, none, none, [], none⟩ t (Sem.finPost (model prog w) ⟨.builtin "claim.caller" {}, none, none, [], none⟩ (fun r s' => R r s' ∧ leftWithCleanup s'.gens = false))
      (fun e _ s' => R (.error e) s' ∧ leftWithCleanup s'.gens = false) default s := by
    refine Sem.wp_mono _ _ t (fun fin p' s' h' => ?_) (fun _ _ _ h' => h') _ s (h _ _ caller_in caller_has)
    obtain ⟨f, rfl, hf⟩ := h'
    exact hf
  obtain ⟨n, r, s₁, s₂, hs, hn, hfo, hR⟩ := wp_halts_full (M := model prog w) (R := R) hreg h0
  exact ⟨n, r, s₂, s₁, hn, hs, hfo, hR⟩
theorem callFromC {c : ClaimW} {tree : List Value → Sem Fin} {w : World} {s : Shared} {free : Addr → Prop} {gens : Prop} {kept : Heap → Prop} (hz : s.asleep) (hgens : s.gens = #[])
    (hspec : ∀ args, c.pre args = true → WData.layableAll args = true → ∀ ord : List DictEntry → List DictEntry, (∀ l, (ord l).Perm l) →
      ∃ vs s₁, layAllW c.records (classAt s.heap) w.params ord args s = some (vs, s₁) ∧
        wpC (model c.prog w) callerA (tree vs) (fun fin s' => ∃ f, fin = .done f ∧ (c.Ends s args vs s₁ (.ok f) s' ∧ s'.os = s.os ∧ AllBare s'.gens ∧ kept s'.heap))
          (fun e s' => c.Ends s args vs s₁ (.error e) s' ∧ s'.os = s.os ∧ AllBare s'.gens ∧ kept s'.heap) s₁) :
    c.CallFrom (fun vs => ⟨tree vs, .builtin "claim.caller" {}, default, []⟩) w free gens kept s := by
  intro args hpre hlay ord hord
  obtain ⟨vs, s₁, hlaid, hcode⟩ := hspec args hpre hlay ord hord
  have hal := layAllW_rest _ _ _ hlaid
  have hw := wpC_mono hcode (Q' := fun fin s' => ∃ f, fin = .done f ∧ ((c.Ends s args vs s₁ (.ok f) s' ∧ s'.os = s.os ∧ kept s'.heap) ∧ leftWithCleanup s'.gens = false))
    (E' := fun e s' => (c.Ends s args vs s₁ (.error e) s' ∧ s'.os = s.os ∧ kept s'.heap) ∧ leftWithCleanup s'.gens = false)
    (fun fin s' q => by obtain ⟨f, e, a1, a2, a3, a4⟩ := q; exact ⟨f, e, ⟨a1, a2, a4⟩, leftWithCleanup_false_of_bare a3⟩)
    (fun e s' q => by obtain ⟨a1, a2, a3, a4⟩ := q; exact ⟨⟨a1, a2, a4⟩, leftWithCleanup_false_of_bare a3⟩)
  obtain ⟨k, r, s', s'', hrun, hsched, hfo, hcase, hos, hkp⟩ := thread_endsC (R := fun r s' => c.Ends s args vs s₁ r s' ∧ s'.os = s.os ∧ kept s'.heap) (Shared.asleep_of_life hal.2.2.2 hz) hw
  obtain ⟨eh, _, _, eo, _⟩ := Shared.forget_eq hfo
  have hcase := hcase.congr eh
  have hkp : kept s'.heap := by rw [eh]; exact hkp
  rw [← eo] at hos
  have hlife : s'.heap.life = s.heap.life := (runN_life _ _ _ hrun).trans hal.2.2.2
  refine ⟨vs, s₁, hlaid, k, _, s', hsched, ?_, (fun _ i x hx => by rw [hgens] at hx; simp at hx), hkp, by rw [hlife], Shared.rest_eq hos⟩
  rcases hcase with ⟨v, rfl, d1, d2, d3, d4, d5⟩ | ⟨e, ob, cls, rfl, d1, d2, d3, d4, d5⟩
  · exact .inl ⟨v, rfl, d1, d2, d3, fun b o y _ => d4 b o y, d5⟩
  · exact .inr ⟨e, ob, cls, rfl, d1, d2, d3, d4, fun b o y _ => d5 b o y⟩
/-- what is to be shown of the call, above the caller -/
abbrev WalkC (q : Program) (loose : List Str) (XP : (Str → Option Value) → Heap → Prop) (YP : World → Heap → Prop) (r : RowW) (d : DefRec) (kwd : List (Str × Expr)) : Prop :=
  ∀ (w : World) (s₀ s₁ : Shared) (mg mb : Str → Option Value), Ground q loose r.records XP w s₀ mg mb s₁.heap → YP w s₁.heap → ∀ (a : Addr) (o : Obj) (pm cd doc dV kV : Value), s₁.heap.get? a = some o →
    o.data = .func { docDef d.name d.params d.body d.scope pm cd doc with defaults := dV, kwdefaults := kV } → s₁.heap.CodeRec cd d.name → Dflts mg s₁.heap d.params kwd dV kV → mg d.name = some (.ref a) → s₁.gens = #[] →
    ∀ (args : List WData) (vals : List Value) (as : List Addr), r.claim.pre args = true → WData.layableAll args = true → ReadsAllW r.records (classAt s₀.heap) s₁.heap vals args as → WellAll w.params s₁.heap vals args → (∀ a ∈ as, (a == sysModules) = false) →
      wpC (model r.prog w) callerA (PySem.call (.ref a) vals) (fun v s' => GoodWG r.claim (classAt s₀.heap) (ExcName.means s₀.heap) args s₁ (.ok (.ret v)) s')
        (fun e s' => GoodWG r.claim (classAt s₀.heap) (ExcName.means s₀.heap) args s₁ (.error e) s') s₁
theorem headC {r : OpenRow} {q : Program} {loose : List Str} {Xt : Shared → Bool} {XP : (Str → Option Value) → Heap → Prop} {α : Type} {Yf : Shared → α} {Ya : World → α} {YP : World → Heap → Prop} {d : DefRec} {kwd : List (Str × Expr)} {N : Nat}
    (left : LeftO r.prog q loose Xt Yf Ya N) (hY : ∀ w s, Yf s = Ya w → YP w s.heap) (hYk : ∀ w h h', YP w h → (∀ b o, h.get? b = some o → h'.get? b = some o) → YP w h')
    (hX : ∀ s, Xt s = true → XP (s.heap.nsMap mainGlobals) s.heap) (hXk : ∀ mg h h', XP mg h → (∀ b o, h.get? b = some o → h'.get? b = some o) → XP mg h')
    (hdef : defOf q r.name = some (d, kwd)) (hp : r.prog.theDef r.name = some (d.params, d.body, d.scope)) (hk : kwWritten? d.params.kwonlyargs d.params.kw_defaults = some kwd) (hRf : ∀ s, Xt s = true → RecFacts r.records s.heap) (hwr : (!r.writes || r.records.isEmpty) = true)
    (k1 : r.wellSaid = true) (ok : (chainsOk q && opensWell r.prog && (frees r.toRowW && r.within.isEmpty)) = true) (hb : r.prog.bare) (hw : r.toRowW.promised)
    (call : WalkC q loose XP YP r.toRowW d kwd) : r.Holds := by
  refine ⟨k1, hw, ?_⟩
  obtain ⟨ok, k5⟩ := Bool.and_eq_true_iff.mp ok
  obtain ⟨hch, o1⟩ := Bool.and_eq_true_iff.mp ok
  obtain ⟨k5, k6⟩ := Bool.and_eq_true_iff.mp k5
  obtain ⟨hsame, hu, ha, hap, hm⟩ := frees_parts k5
  refine ⟨⟨hb, o1, by show r.toRowW.makers.map _ = []; rw [hm]; rfl⟩, hw.witness, fun w => ⟨(left.behind hX hch w).1, fun s' hs' => ?_⟩⟩
  obtain ⟨s₀, hf, hg0, s, hT, hz, hgens, hg, G00, y⟩ := (left.behind (XP := fun mg h => XP mg h ∧ RecFacts r.toRowW.records h) (fun s hs => ⟨hX s hs, hRf s hs⟩) hch w).2 s' hs'
  have G0 : Ground q loose [] XP w s (s.heap.nsMap mainGlobals) (s.heap.nsMap builtinsNs) s.heap := ⟨G00.T, G00.B, G00.D, G00.TE, G00.TD, G00.W, G00.X.1, G00.cls, G00.has, G00.apart, G00.once, G00.K⟩
  have RF := G00.X.2
  have hgens : s.gens = #[] := Array.eq_empty_of_size_eq_zero (beq_iff_eq.mp hgens)
  have G : Ground q loose r.toRowW.records XP w s _ _ s.heap := RF.ground G0
  refine ⟨s₀, hf, hg0, s, hT, fun n hn => ?_, RF.1, RF.2.1, ?_⟩
  · obtain rfl : n = r.name := by split at hn <;> simp_all
    exact pinned_of_view hg G0 hdef hp hk
  refine callFromC (c := r.toRowW.claim) hz hgens fun args hpre hlay ord hord => ?_
  obtain ⟨⟨vs, s₁⟩, hlaid⟩ := Option.isSome_iff_exists.mp (layAllW_isSome (P := w.params) (ord := ord) G.has args r.toRowW.args s (pre_splitW hpre).1)
  have keeps := layAllW_keeps _ _ _ hlaid
  have hal := layAllW_rest _ _ _ hlaid
  obtain ⟨as, hrd, hin, hold⟩ := reads_layAllW hord _ _ _ hlaid hlay s₁.heap (fun _ _ e => e)
  have L : Laid r.toRowW.records w s s₁ args vs as := ⟨⟨ord, hord, hlaid⟩, hrd, hin, hold, keeps, hal.1.trans hgens, hal.2.2.1⟩
  have G₁ := G.keeps hXk keeps
  obtain ⟨a, o, pm, cd, doc, dV, kV, h1, h2, h3, h4, h5⟩ := G₁.fn hdef
  have h := call w s s₁ _ _ G₁ (hYk _ _ _ (hY w s y) keeps) a o pm cd doc dV kV h2 h3 h4 h5 (defOf_name hdef ▸ h1) L.gens args vs as hpre hlay L.reads L.well (L.low G.low)
  have hi := ident_freeW hu ha hap
  have hwi : r.toRowW.claim.within = [] := List.isEmpty_iff.mp k6
  refine ⟨vs, s₁, hlaid, wpC_step (wpAny_nsGet G₁.T.g ?_)⟩
  rw [h1]
  refine wpC_bind (wpC_mono h (fun v s' g => wpC_any (wpAny_pure ⟨_, rfl, ?_⟩)) fun e s' g => ?_)
  · have z := g.laid (c := r.toRowW.claim) hsame hwi hi L
    exact ⟨z.1, z.2.1, z.2.2, fun q => ⟨namesKept_of hT hg r.keeps keeps g.2.1.old, noTable hwr q⟩⟩
  · have z := g.laid (c := r.toRowW.claim) hsame hwi hi L
    exact ⟨z.1, z.2.1, z.2.2, fun q => ⟨namesKept_of hT hg r.keeps keeps g.2.1.old, noTable hwr q⟩⟩
end Mine
end
section
open PySem PySem.W PyProof.Rows
set_option Elab.async false
/-- the head that `open_top` takes within this namespace -/
theorem M03.PySem.W.holds_open {r : OpenRow} {q : Program} {loose : List Str} {Xt : Shared → Bool} {XP : (Str → Option Value) → Heap → Prop} {α : Type} {Yf : Shared → α} {Ya : World → α} {YP : World → Heap → Prop} {d : DefRec} {kwd : List (Str × Expr)} {N : Nat}
    (left : LeftO r.prog q loose Xt Yf Ya N) (hY : ∀ w s, Yf s = Ya w → YP w s.heap) (hYk : ∀ w h h', YP w h → (∀ b o, h.get? b = some o → h'.get? b = some o) → YP w h')
    (hX : ∀ s, Xt s = true → XP (s.heap.nsMap mainGlobals) s.heap) (hXk : ∀ mg h h', XP mg h → (∀ b o, h.get? b = some o → h'.get? b = some o) → XP mg h')
    (hdef : defOf q r.name = some (d, kwd)) (hp : r.prog.theDef r.name = some (d.params, d.body, d.scope)) (hk : kwWritten? d.params.kwonlyargs d.params.kw_defaults = some kwd) (hRf : ∀ s, Xt s = true → RecFacts r.records s.heap) (hwr : (!r.writes || r.records.isEmpty) = true)
    (k1 : r.wellSaid = true) (ok : (chainsOk q && opensWell r.prog && (frees r.toRowW && r.within.isEmpty)) = true) (hb : r.prog.bare) (hw : r.toRowW.promised)
    (call : Mine.WalkC q loose XP YP r.toRowW d kwd) : r.Holds := Mine.headC left hY hYk hX hXk hdef hp hk hRf hwr k1 ok hb hw call
namespace M03
set_option maxRecDepth 100000
set_option maxHeartbeats 8000000
open_top hd for PySem.Challenge.rw_km0015_03
end M03
end
section
open PySem PySem.W PyProof.Rows PySem.Calls
set_option Elab.async false
set_option maxRecDepth 100000
namespace Mine
/-- the signs of a text, hidden from the closers -/
structure Ok (x : Str) : Prop where
  out : TextOk x
theorem splitL_sub {c : Nat} : ∀ {l : List Nat}, ∀ p ∈ splitL c l, ∀ d ∈ p, d ∈ l
  | [], p, hp, d, hd => by
    rw [show splitL c [] = [[]] from rfl, List.mem_singleton] at hp
    subst hp
    cases hd
  | a :: r, p, hp, d, hd => by
    unfold splitL at hp
    split at hp
    · rcases List.mem_cons.mp hp with rfl | hp
      · cases hd
      · exact List.mem_cons_of_mem _ (splitL_sub p hp d hd)
    · split at hp
      · rename_i q qs hq
        rcases List.mem_cons.mp hp with rfl | hp
        · rcases List.mem_cons.mp hd with rfl | hd
          · exact List.mem_cons_self ..
          · exact List.mem_cons_of_mem _ (splitL_sub q (by rw [hq]; exact List.mem_cons_self ..) d hd)
        · exact List.mem_cons_of_mem _ (splitL_sub p (by rw [hq]; exact List.mem_cons_of_mem _ hp) d hd)
      · rw [List.mem_singleton] at hp
        subst hp
        rw [List.mem_singleton] at hd
        rw [hd]
        exact List.mem_cons_self ..
theorem parts_ok {x : Str} (hx : TextOk x) (h1 : ¬ Txt.find x (Str.ofString "(") < 0) (h2 : ¬ Txt.find3 x (Str.ofString ")") (Txt.find x (Str.ofString "(") + 1) < 0)
    (h3 : (Txt.item x (Txt.find x (Str.ofString "(") + 1) != Txt.item x (Txt.find3 x (Str.ofString ")") (Txt.find x (Str.ofString "(") + 1) - 1)) = false) : ∀ f ∈ partsOf x, TextOk f := by
  intro f hf d hd
  obtain ⟨a, b, c, S⟩ := shut h1 h2
  obtain ⟨m, r, hb, hl, hm⟩ := S.same h3
  have hp : f.cps.toList ∈ splitL m b := by
    rw [← S.parts hm]
    exact List.mem_map_of_mem hf
  refine hx d ?_
  rw [S.whole]
  have := splitL_sub _ hp d hd
  simp [this]
section
variable {prog : Program} {w : World} {A : Around} {E : Value → Shared → Prop} {s : Shared} {value slice : Expr} {x : Str} {t u : Tok} {Q : Value → Shared → Prop}
theorem step_partC {g : Heap} {L D : Addr} {k : Nat} {news : List (Addr × Obj)} {l : List (Str × Tok)} (N : News g L s.heap ((D, { cls := .type "list", data := .seq (strValues l).toArray k }) :: news))
    (h0 : (Txt.slice x none (some 3) != Str.ofString "229") = false) (h1 : ¬ Txt.find x (Str.ofString "(") < 0) (h2 : ¬ Txt.find3 x (Str.ofString ")") (Txt.find x (Str.ofString "(") + 1) < 0)
    (h3 : (Txt.item x (Txt.find x (Str.ofString "(") + 1) != Txt.item x (Txt.find3 x (Str.ofString ")") (Txt.find x (Str.ofString "(") + 1) - 1)) = false)
    (he : l.map (·.1) = partsOf x) (h5 : (l.length : Int) = 5) (hx : x.length ≤ 640) (ho : Ok x)
    (h : ∀ f tf, P229 x.cps.toList = outNum (PySem.intText? f) → f.length ≤ 640 → Ok f → Q (.str f tf) s)
    (hs : subscripted slice false (.ref D) (.int 3 u) = operate [.ref D, .int 3 u] (getItem (.ref D) (.int 3 u)) := by with_unfolding_all rfl)
    (ht : ∀ r, letTemporaryGo value (.ref D) r = pure () := by intro _; with_unfolding_all rfl) :
    wpAny (model prog w) A (subscriptTail value slice (.ref D) (.int 3 u)) Q E s := by
  have hlen : l.length = 5 := by omega
  match l, hlen with
  | [(p1, t1), (p2, t2), (p3, t3), (p4, t4), (p5, t5)], _ =>
    have hl : s.heap.IsList D (strValues [(p1, t1), (p2, t2), (p3, t3), (p4, t4), (p5, t5)]).toArray := ⟨_, (N _ (List.mem_cons_self ..)).1, rfl, _, rfl⟩
    have hm : p4 ∈ partsOf x := by rw [← he]; simp
    refine item_listL hl (by decide) (by decide) (x := .str p4 t4) rfl (h p4 t4 (P_five h0 h1 h2 h3 he.symm) ?_ ⟨parts_ok ho.out h1 h2 h3 _ hm⟩) hs ht
    have e1 := part_short hm
    have e2 := Txt.slice_le x (some (Txt.find x (Str.ofString "(") + 1)) (some (Txt.find3 x (Str.ofString ")") (Txt.find x (Str.ofString "(") + 1)))
    omega
theorem step_intC {f : Str} (hh : A.handled = none) (hP : P229 x.cps.toList = outNum (PySem.intText? f)) (hf : f.length ≤ 640) (ho : Ok f)
    (h : ∀ n, P229 x.cps.toList = .ok n → Q (.int n s.toks) { s with toks := s.toks + 1 })
    (hv : P229 x.cps.toList = .val → ∀ h' e m t tk, Heap.MadeExc s.heap h' e "ValueError" [.str m t] → E (.ref e) { s with heap := h', toks := tk }) : wpC (model prog w) A (call (.type "int") [.str f t]) Q E s := by
  cases q : PySem.intText? f with
  | none =>
    rw [q] at hP
    exact wpC_int_bad hh hf (fun c hc => Nat.lt_trans (ho.out c hc) (by decide)) q (hv hP)
  | some n =>
    rw [q] at hP
    exact wpC_any (KIN.call_text q hf (h n hP))
end
end Mine
end
section
open PySem PySem.W PyProof.Rows PySem.Calls Mine
set_option Elab.async false
set_option maxRecDepth 100000
set_option maxHeartbeats 8000000
namespace M03
local macro_rules | `(tactic| walk_at "subscriptTail Name BinOp str int") => `(tactic| (k_here; first | (refine Mine.step_left (by assumption) (by assumption) (by assumption) ?_) | (refine Mine.step_right (by assumption) (by assumption) (by assumption) ?_)))
local macro_rules | `(tactic| walk_at "subscriptTail Name Constant ref int") => `(tactic| (k_here; first
  | (refine Mine.step_partC (by assumption) (by assumption) (by assumption) (by assumption) (by assumption) (by assumption) (by assumption) (by assumption) (by assumption) ?_; intro f tf hf hl hfo)
  | (refine Mine.step_peer (by assumption) (by assumption) (fun p hp => List.mem_cons_of_mem _ hp) (by assumption) (by assumption) (by assumption) (by assumption) (by assumption) (by assumption) ?_)))
local macro_rules | `(tactic| walk_at "leaving ref") => `(tactic| (k_here; k_dflt (refine' leave_raiseS ?k1 ?k0 ?k2 ?k3 ?_; (case k0 => first | assumption | exact Heap.MadeExc.of (by assumption)); (case k2 => assumption); (case k1 => assumption); (case k3 => k_asm); k_whole; intro h' t' S' R' U'; (try dsimp only at S' R' U' ⊢))))
local macro_rules | `(tactic| walk_at "wpC") => `(tactic| first
  | ((with_reducible show Mine.wpC _ _ (execs (Stmt.Assign [Expr.Name ("port" : Str) _] _ _ :: _) _) _ _ _); k_dflt (refine Mine.wpC_execs_cons (Mine.wpC_Assign_Name (Mine.wpC_Call_Name ?_))); (try k_fold))
  | ((with_reducible show Mine.wpC _ _ (execs (_ :: _) _) _ _ _); k_dflt (refine Mine.wpC_execs_step ?_); (try k_fold))
  | ((with_reducible show Mine.wpC _ _ (callWith _ (Value.type _) _ _ _) _ _ _); k_dflt (refine Mine.callWithC_type ?_))
  | ((with_reducible show Mine.wpC _ _ (PySem.call (Value.type _) _) _ _ _); k_dflt (refine Mine.step_intC rfl (by assumption) (by assumption) (by assumption) ?_ ?_); (intro n hn); rotate_left; (intro hv h' e' m' t' tk' hmade); (try dsimp only); rotate_left))
theorem p229C {w : World} {mean : ExcName → Option Value} {mg mb : Str → Option Value}
  {dp un : Nat} {gd : Option (List Code)} {cn : Str} {cs : Scope} {a : Addr} {ccd : Value} {cl : List (Str × Addr)} {outer : List Env} {A₀ : Around} {base h₀ : Heap} {L : Addr} {m : Str → Option Value} {news : List (Addr × Obj)} {s : Shared} {Q E : Value → Shared → Prop}
  {R : Str} {tk : Tok} {pa : Addr} {host : Value} (hR : R.length ≤ 640) (hRo : Mine.Ok R)
  (B : Below A₀ base outer h₀) (F : Fr h₀ L s.heap m) (X : (hd.heap_39 w.params).In h₀) (N : News h₀ L s.heap news) (T : Top hd.view_39 (looseW hd.view_39 []) mean mg mb h₀) (hk : cs.kind = .function)
  (hdp : dp + 1 < recursionLimit) (hun : un + 8 < cLine)
  (hpeer : P229 R.cps.toList ≠ .proto → PeerIs pa host news)
  (kR : P229 R.cps.toList = .reply → ∀ e t g h' tk', Fr h₀ L g m → RaisedS base g (envX cn cs L a ccd cl :: outer) e (.ref 37) t [.str R tk] news h' → g.UpToSlots h' → E (.ref e) { s with heap := h', toks := tk' })
  (kP : P229 R.cps.toList = .proto → ∀ e t g h' tk', Fr h₀ L g m → RaisedS base g (envX cn cs L a ccd cl :: outer) e (.ref 49) t [.str R tk] news h' → g.UpToSlots h' → E (.ref e) { s with heap := h', toks := tk' })
  (kV : P229 R.cps.toList = .val → ∀ e t mt tt g h' tk', Fr h₀ L g m → RaisedS base g (envX cn cs L a ccd cl :: outer) e (.type "ValueError") t [.str mt tt] news h' → g.UpToSlots h' → E (.ref e) { s with heap := h', toks := tk' })
  (kO : ∀ n, P229 R.cps.toList = .ok n → ∀ t D k h' tk', Fr h₀ L h' m → News h₀ L h' ((D, { cls := .type "tuple", data := .seq [host, .int n t].toArray k }) :: news) → (∀ q ∈ news, q.1 < D) → Q (.ref D) { s with heap := h', toks := tk' }) :
   wpC (model PySem.Challenge.rw_km0015_03.row.prog w) (ktrTop dp un gd cn cs L a ccd cl outer) (PySem.call (.ref 58) [.str R tk, .ref pa]) Q E s := by
  revert X
  k_fill
  intro X
  refine wpC_call ?_
  k_dflt (refine' Mine.code_defC ?k1 ?k2 ?k3 ?k4 ?k5 ?kA ?kF ?kK ?k6 ?k7 ?k8 ?k9 ?kB ?_ ?c2 ?c3 ?c4 ?c5; (case kA => exact rfl); (case kF => exact rfl); (case kK => assumption); (case k1 => k_asm); (case k2 => k_asm); (case k3 => k_asm); (case k4 => k_asm); (case k5 => k_asm); (case k6 => k_is); (case k7 => k_is); (case k8 => ktr_room); (case k9 => exact BindsTo.of_eq rfl); (case c5 => decide); (case kB => exact locs rfl); (case c2 => exact rfl); (case c3 => exact rfl); (case c4 => exact rfl); k_whole; intro g' L' h' FG' F' N' B' X' T'; (try dsimp only); (try k_lift B'))
  k_steps
  · exact kR (P_reply (by assumption)) _ _ _ _ _ (by assumption) (by assumption) (by assumption)
  · exact kP (P_proto1 (by assumption) (by assumption)) _ _ _ _ _ (by assumption) (by assumption) (by assumption)
  · exact kP (P_proto2 (by assumption) (by assumption) (by assumption)) _ _ _ _ _ (by assumption) (by assumption) (by assumption)
  · exact kP (P_proto3 (by assumption) (by assumption) (by assumption) (by assumption)) _ _ _ _ _ (by assumption) (by assumption) (by assumption)
  · exact kP (P_proto4 (by assumption) (by assumption) (by assumption) (by assumption) (parts_ne (by assumption) (by assumption))) _ _ _ _ _ (by assumption) (raisedS_drop (by assumption)) (by assumption)
  · rename _ ∧ AllLt _ _ => hlt
    exact kO _ (by assumption) _ _ _ _ _ (by assumption) (news_drop2 (by assumption)) (ktn_ltOf hlt.2)
  · exact kV (by assumption) _ _ _ _ _ _ _ (by assumption) (raisedS_drop (by assumption)) (by assumption)
end M03
end
section
open PySem PySem.W PyProof.Rows PySem.Calls
set_option Elab.async false
set_option maxRecDepth 100000
set_option autoImplicit false
namespace Mine
section
variable {prog : Program} {w : World} {A : Around} {E : Value → Shared → Prop} {s : Shared} {env : Env} {h₀ : Heap} {body : List Stmt} {Q : Flow → Shared → Prop} {news : List (Addr × Obj)} {m₀ : Str → Option Value}
end
end Mine
end
section
open PySem PySem.W PyProof.Rows PySem.Calls
set_option Elab.async false
set_option maxRecDepth 100000
set_option autoImplicit false
namespace Mine
/-! ## what _law_number computes -/
theorem last_cases (l : List Nat) : l = [] ∨ ∃ r a, l = r ++ [a] := by
  rcases List.eq_nil_or_concat l with h | ⟨r, a, h⟩
  · exact .inl h
  · exact .inr ⟨r, a, by simpa using h⟩
end Mine
end
section
open PySem PySem.W PyProof.Rows PySem.Calls
set_option Elab.async false
set_option maxRecDepth 100000
set_option autoImplicit false
namespace Mine
section
variable {prog : Program} {w : World} {A : Around} {E : Value → Shared → Prop} {s : Shared} {env : Env} {h₀ : Heap} {body : List Stmt} {Q : Flow → Shared → Prop} {news : List (Addr × Obj)} {m₀ : Str → Option Value}
end
/-! the sign ahead -/
end Mine
end
section
open PySem PySem.W PyProof.Rows PySem.Calls
set_option Elab.async false
set_option maxRecDepth 100000
set_option autoImplicit false
namespace Mine
/-! ## what _law_due computes, on signs -/
end Mine
end
section
open PySem PySem.W PyProof.Rows PySem.Calls
set_option Elab.async false
set_option maxRecDepth 100000
set_option autoImplicit false
namespace Mine
end Mine
end
section
open PySem PySem.W PyProof.Rows PySem.Calls
set_option Elab.async false
set_option maxRecDepth 100000
set_option autoImplicit false
namespace Mine
theorem sub_cons {news l : List (Addr × Obj)} {q : Addr × Obj} (h : ∀ p ∈ news, p ∈ l) : ∀ p ∈ news, p ∈ q :: l := fun p hp => List.mem_cons_of_mem _ (h p hp)
/-- the answer as data -/
def outData (H R : Str) : Out → PyData
  | .reply => .list [.str (Str.ofString "not this reply"), .tuple [.str R]]
  | .proto => .list [.str (Str.ofString "no port"), .tuple [.str R]]
  | .val => .list [.str (Str.ofString "no number")]
  | .ok n => .tuple [.str H, .int n]
end Mine
end
section
open PySem PySem.W PyProof.Rows PySem.Calls
set_option Elab.async false
set_option maxRecDepth 100000
set_option autoImplicit false
namespace Mine
open PySem.NumText
/-! int(text) reads a number as the law's reader does, where all signs are from 32 to 127 -/
def Plain (l : List Nat) : Prop := ∀ c ∈ l, 32 ≤ c ∧ c < 128
end Mine
end
section
open PySem PySem.W PyProof.Rows PySem.Calls PyProof.Rows.LCg PyProof.Rows.LCt
set_option Elab.async false
set_option maxRecDepth 100000
set_option autoImplicit false
namespace Mine
section
variable {prog : Program} {w : World} {A : Around} {E : Value → Shared → Prop} {s : Shared} {h₀ h : Heap} {outer : List Env} {L a e t : Addr} {m : Str → Option Value} {cn : Str} {cs : Scope} {ccd : Value} {cl : List (Str × Addr)}
  {vs : List Value} {Q : Flow → Shared → Prop} {news : List (Addr × Obj)} {KF : Frag} {p : Program} {loose : List Str} {mean : ExcName → Option Value} {mg mb : Str → Option Value} {cls c : Value} {x n : Str} {np pos : Pos} {rest hs : List ExceptHandler} {b₀ : Stmt} {suite : List Stmt}
end
/-! texts of the law -/
/-- the answers compared -/
theorem shaped_out {H R : Str} (hH : TextOk H) (hR : TextOk R) : ∀ o : Out, SeqAt.shaped (outData H R o) = true
  | .reply => shaped_err ok_reply hR
  | .proto => shaped_err ok_noport hR
  | .val => shaped_num ok_number
  | .ok n => shaped_pair hH
theorem eqv_out {H R : Str} : ∀ o : Out, PyData.eqv (outData H R o) (outData H R o) = true
  | .reply => by simp [outData, PyData.eqv, PyData.eqvAll]
  | .proto => by simp [outData, PyData.eqv, PyData.eqvAll]
  | .val => by simp [outData, PyData.eqv, PyData.eqvAll]
  | .ok n => by simp [outData, PyData.eqv, PyData.eqvAll]
theorem ok_there : TextOk (Str.ofString "there") := by unfold TextOk; decide +kernel
end Mine
end
section
open PySem PySem.W PyProof.Rows PySem.Calls PyProof.Rows.LCg
set_option Elab.async false
set_option maxRecDepth 100000
set_option autoImplicit false
/-! An exception of a def that is called from a called def, caught there: the ground below loses the caller's names, which stand in the ledger instead -/
namespace Mine
section
variable {prog : Program} {w : World} {A A₀ : Around} {E : Value → Shared → Prop} {s : Shared} {R : Result → Shared → Prop} {env : Env} {base h₀ : Heap} {outer : List Env} {L : Addr} {m : Str → Option Value} {news : List (Addr × Obj)} {K : Frag} {p : Program} {loose : List Str} {mean : ExcName → Option Value} {mg mb : Str → Option Value}
/-- a call of a def of the text's, from a frame; its end is told as it is -/
theorem code_defD {name qual : Str} {params : Arguments} {body : List Stmt} {scope : Scope} {dV kV doc pm cdv ct oc : Value} {an od : Option Addr} {osl : Array (Option Value)} {f : Addr} {args : Args} {binds : List (Str × Value)}
    (B : Below A₀ base outer h₀) (F : Fr h₀ L s.heap m) (X₀ : K.In h₀) (N : News h₀ L s.heap news) (T : Top p loose mean mg mb h₀) (hA : A.frames = some (env :: outer)) (hf : env.frame = some L) (hke : env.scope.kind = .function)
    (ho : K.lookup f = some ⟨oc, od, .func (fnOf name qual params body scope dV kV doc pm an cdv ct), osl⟩) (hcd : codeIn K cdv qual = true) (hroom : A.depth < recursionLimit)
    (hbind : BindsTo s (fnOf name qual params body scope dV kV doc pm an cdv ct) args binds) (hloc : ∀ y ∈ binds, scope.names.lookup y.1 = some .local)
    (h : ∀ g L' h₁, Fr h₀ L g m → Fr g L' h₁ (fun y => binds.reverse.lookup y) → News g L' h₁ news → Below A base (env :: outer) g → K.In g → Top p loose mean mg mb g →
      wpC (model prog w) (A.deeper (envOf qual scope L' f cdv)) (execs body (envOf qual scope L' f cdv))
        (fun fl s' => R (.ok (.ret (match fl with | .ret v => v | _ => .none))) s')
        (fun e s' => wpAny (model prog w) (A.deeper (envOf qual scope L' f cdv)) (leaving (envOf qual scope L' f cdv) e) (fun _ s'' => R (.error e) s'') (fun e' s'' => R (.error e') s'') s')
        { s with heap := h₁, toks := s.toks + binds.length })
    (hco : scope.isCoroutine = false) (hgen : scope.isGenerator = false) (hk : scope.kind = .function)
    (hcell : ∀ x ∈ scope.names, x.2 ≠ .cell) : codeC (model prog w) A (.call (.ref f) args) R s := by
  obtain ⟨FG, BG, st, lv⟩ := groundX (R := R) B F N hA hf hke
  refine codeC_call_def (fd := fnOf name qual params body scope dV kV doc pm an cdv ct) (body := body) (binds := binds) hroom ((X₀.keeps F.keep) _ _ ho) rfl (T.nolimit.keeps F.keep) (codeRec_of (X₀.keeps F.keep) hcd) rfl hbind hcell hloc (fun h₁ hns hk₁ => ?_) hco hgen hk
  exact h _ s.heap.objs.size h₁ FG ⟨hns, fun b o e => hk₁ b o (of_hideAll _ e), Nat.le_of_eq (hideAll_size _ _)⟩
    (fun p hp => ⟨hk₁ _ _ (N p hp).1, Nat.ne_of_lt (Heap.lt_size (N p hp).1), hideAll_none _ (List.mem_map_of_mem hp)⟩) BG (X₀.keeps st) (T.keeps st)
/-- the ground without the caller's names -/
abbrev low (g : Heap) (L : Addr) : Heap := hideAll g [L]
theorem low_stays {g : Heap} (FG : Fr h₀ L g m) : h₀.StaysIn (low g L) := fun b o e => hideAll_get _ (FG.keep b o e) fun hm => by
  rw [List.mem_singleton.mp hm, Heap.get?_none_of_le FG.above] at e
  cases e
theorem ns_ledger {g h : Heap} (FG : Fr h₀ L g m) (U : g.UpToSlots h) : ∃ oL, h.get? L = some oL ∧ NsObj oL m := ns_obj (U.ns FG.ns)
/-- the caller's frame and ledger, as they are behind the call -/
theorem back_fr {g h : Heap} {L' : Addr} {m' : Str → Option Value} {oL : Obj} {all : List (Addr × Obj)} (FG : Fr h₀ L g m) (F : Fr (low g L) L' h m') (N : News (low g L) L' h all) (hL : NsObj oL m) (hm : (L, oL) ∈ all) : Fr h₀ L h m :=
  ⟨hL.ns (N _ hm).1, fun b o e => F.keep b o (low_stays FG b o e), FG.above⟩
theorem back_news {g h h' : Heap} {L' : Addr} {all : List (Addr × Obj)} (N₀ : News h₀ L h' news) (N : News g L' h all) (hs : ∀ p ∈ news, p ∈ all) : News h₀ L h news := fun p hp => ⟨(N p (hs p hp)).1, (N₀ p hp).2⟩
/-- an object of the callee's that the caller is handed -/
theorem back_obj {g h : Heap} {L' : Addr} {all : List (Addr × Obj)} {q : Addr × Obj} (FG : Fr h₀ L g m) (N : News g L' h all) (hq : q ∈ all) : h.get? q.1 = some q.2 ∧ q.1 ≠ L ∧ h₀.get? q.1 = none := by
  have z := N q hq
  refine ⟨z.1, fun e => ?_, ?_⟩
  · obtain ⟨oL, eL, _⟩ := ns_obj FG.ns
    have := z.2.2
    rw [e, eL] at this
    cases this
  · cases w : h₀.get? q.1 with
    | none => rfl
    | some o =>
      have := FG.keep _ _ w
      rw [z.2.2] at this
      cases this
theorem back_low {g h : Heap} {L' : Addr} {oL : Obj} {all : List (Addr × Obj)} {q : Addr × Obj} (FG : Fr h₀ L g m) (N : News (low g L) L' h all) (hL : NsObj oL m) (hmL : (L, oL) ∈ all) (hq : q ∈ all) {xs : Array Value} {n : Nat} (hd : q.2.data = .seq xs n) : h.get? q.1 = some q.2 ∧ q.1 ≠ L ∧ h₀.get? q.1 = none := by
  have z := N q hq
  refine ⟨z.1, fun e => ?_, ?_⟩
  · have z1 := z.1
    rw [e, (N _ hmL).1] at z1
    obtain ⟨es, ep, hdL, _⟩ := hL
    rw [← Option.some.inj z1] at hd
    rw [hd] at hdL
    cases hdL
  · cases w : h₀.get? q.1 with
    | none => rfl
    | some o =>
      have := low_stays FG _ _ w
      rw [z.2.2] at this
      cases this
theorem back_two {h h' : Heap} {q1 q2 : Addr × Obj} (N₀ : News h₀ L h' news) (hk : News h₀ L h news) (h1 : h.get? q1.1 = some q1.2 ∧ q1.1 ≠ L ∧ h₀.get? q1.1 = none) (h2 : h.get? q2.1 = some q2.2 ∧ q2.1 ≠ L ∧ h₀.get? q2.1 = none) : News h₀ L h (q1 :: q2 :: news) := fun p hp => by
  rcases List.mem_cons.mp hp with rfl | hp
  · exact h1
  · rcases List.mem_cons.mp hp with rfl | hp
    · exact h2
    · exact hk p hp
/-- what two objects alone say of a value -/
def ReadsIn (q1 q2 : Addr × Obj) (v : Value) (d : PyData) : Prop := ∀ h : Heap, h.get? q1.1 = some q1.2 → h.get? q2.1 = some q2.2 → ∃ as, Reads h v d as
variable {g G : Heap} {L' a e t : Addr} {m' : Str → Option Value} {cn : Str} {cs : Scope} {ccd : Value} {cl : List (Str × Addr)} {vs : List Value} {Q : Flow → Shared → Prop} {cls c : Value} {x n : Str} {np pos : Pos} {rest hs : List ExceptHandler} {b₀ : Stmt} {suite : List Stmt} {envL : Env}
theorem look_D (hfL : envL.frame = some L) (hA : A.frames = some (envX cn cs L' a ccd cl :: [envL])) (FG : Fr h₀ L g m) (F : Fr g L' G m') (hsm : G.UpToSlots s.heap) (S : RaisedS base G (envX cn cs L' a ccd cl :: [envL]) e cls t vs news s.heap)
    (k : ∀ h', Fr (low g L) L' h' m' → g.UpToSlots h' → RaisedK (low g L) (envX cn cs L' a ccd cl :: [envL]) e cls t vs news h' → wpAny (model prog w) A (handleBy (.ref e) (envX cn cs L' a ccd cl) hs) Q E { s with heap := h' }) :
    wpAny (model prog w) A (noteFrame (.ref e) (envX cn cs L' a ccd cl)) (fun _ s₂ => wpAny (model prog w) A (setFlight (.ref e) none) (fun _ s₃ => wpAny (model prog w) A (handleBy (.ref e) (envX cn cs L' a ccd cl) hs) Q E s₃) E s₂) E s := by
  obtain ⟨⟨B, hB, hBG, hl, hfl, hnew⟩, htup⟩ := S
  have gB : (low g L).StaysIn B := fun b o q => by
    have q0 := of_hideAll _ q
    refine hBG b o (F.keep b o q0) fun hm => ?_
    have e1 : (envX cn cs L' a ccd cl :: [envL]).filterMap (·.frame) = [L', L] := by
      simp [hfL]
    rw [e1] at hm
    rcases List.mem_cons.mp hm with hm | hm
    · rw [hm, Heap.get?_none_of_le F.above] at q0
      cases q0
    · rw [hideAll_none _ hm] at q
      cases q
  refine wpAny_looks_onW hA rfl hfl fun h₄ hheld h4 => ?_
  refine wpAny_landsW hheld fun h₅ hfl₅ h5 => ?_
  have h45 := h4.trans h5
  refine k h₅ ⟨(hsm.trans h45).ns F.ns, fun b o q => (flyingW_base gB hfl₅).1 b o q, by rw [hideAll_size]; exact F.above⟩ ((Heap.UpToSlots.of_keeps F.keep).trans (hsm.trans h45)) ⟨⟨B, gB, fun q hq => ⟨(hl q hq).1, ?_⟩, hfl₅, hnew⟩, htup.of_slots h45⟩
  cases z : (low g L).get? q.1 with
  | none => rfl
  | some o =>
    have := F.keep _ _ (of_hideAll _ z)
    rw [(hl q hq).2.1] at this
    cases this
/-- a clause that matches and names it -/
theorem hit_D (FG : Fr h₀ L g m) (hLL : L ≠ L') (F : Fr (low g L) L' s.heap m') (U : g.UpToSlots s.heap) (R : RaisedK (low g L) (envX cn cs L' a ccd cl :: outer) e cls t vs news s.heap) (X : K.In (low g L)) (T : TopRead p loose mg mb (low g L)) (hc : KtsName K x c) (he : exmOne K cls c = some true)
    (k : ∀ h' tk oe ot ws nt oL (E' : Value → Shared → Prop), Fr (low g L) L' h' (fun y => if y = n then some (.ref e) else m' y) → oe.cls = cls → oe.data = .fields ws → ws[0]? = some (.ref t) → ot.cls = .type "tuple" → ot.data = .seq vs.toArray nt → NsObj oL m → News (low g L) L' h' ((e, oe) :: (t, ot) :: (L, oL) :: news) →
      wpAny (model prog w) (A.mark (some (.ref e))) (execs (b₀ :: suite) (envX cn cs L' a ccd cl))
        (fun f s₄ => wpAny (model prog w) A (do bindName (envX cn cs L' a ccd cl) n .none; unbindBehindTheSuite (envX cn cs L' a ccd cl) n pos) (fun _ s₅ => Q f s₅) E s₄) E' { s with heap := h', toks := tk })
    (hk : cs.kind = .function := by rfl) (hx : (envX cn cs L' a ccd cl).kindOf x = some .globalImplicit := by rfl) (hd : (x == ("__debug__" : Str)) = false := by decide) (hlo : (envX cn cs L' a ccd cl).kindOf n = some .local := by rfl) :
    wpAny (model prog w) A (handleBy (.ref e) (envX cn cs L' a ccd cl) (.ExceptHandler (some (.Name x np)) (some n) (b₀ :: suite) pos :: rest)) Q E s := by
  refine wpAny_handleBy_cons (codeAny_handlers_test (name_X hc F X T ((exm_one (X.keeps F.keep) (raisedK_ty R) he).here ?_) hk hx hd)) (by intro q; cases q)
  obtain ⟨⟨B, hB, hl, hfl, hnew⟩, htup⟩ := R
  refine codeAny_handlers_suite_as ?_
  refine lands_againW hfl fun h₆ hfl₆ h6 => ?_
  have F₆ := F.of_stays (flyingW_base hB hfl₆).1 h6
  have R₆ : RaisedK (low g L) (envX cn cs L' a ccd cl :: outer) e cls t vs news h₆ := ⟨⟨B, hB, hl, hfl₆, hnew⟩, htup.of_slots h6⟩
  obtain ⟨oL, hoL, hnL⟩ := ns_ledger FG (U.trans h6)
  have N₆ : News (low g L) L' h₆ ((L, oL) :: news) := fun q hq => by
    rcases List.mem_cons.mp hq with rfl | hq
    · exact ⟨hoL, hLL, hideAll_none _ (List.mem_singleton.mpr rfl)⟩
    · exact raisedK_news R₆ q hq
  obtain ⟨oe, ws, hoe, hoec, hoed, hoe0⟩ := (flyingW_base hB hfl₆).first
  obtain ⟨ot, nt, hot, hotc, hotd⟩ := htup.of_slots h6
  have Nt := News.more F₆ N₆ hot (fun es n q => by rw [hotd] at q; cases q) (fresh_of_stays hB hnew)
  have Ne := News.more F₆ Nt hoe (fun es n q => by rw [hoed] at q; cases q) (flyingW_base hB hfl₆).2.1
  exact storeX_L F₆ Ne (fun h₇ F₇ N₇ => k h₇ _ oe ot ws nt oL _ F₇ hoec hoed hoe0 hotc hotd hnL N₇) hk hlo
/-- a clause that matches and names nothing -/
theorem hit0_D (FG : Fr h₀ L g m) (hLL : L ≠ L') (F : Fr (low g L) L' s.heap m') (U : g.UpToSlots s.heap) (R : RaisedK (low g L) (envX cn cs L' a ccd cl :: outer) e cls t vs news s.heap) (X : K.In (low g L)) (T : TopRead p loose mg mb (low g L)) (hc : KtsName K x c) (he : exmOne K cls c = some true)
    (k : ∀ h' tk oL (E' : Value → Shared → Prop), Fr (low g L) L' h' m' → NsObj oL m → News (low g L) L' h' ((L, oL) :: news) →
      wpAny (model prog w) (A.mark (some (.ref e))) (execs (b₀ :: suite) (envX cn cs L' a ccd cl)) (fun f s₄ => Q f s₄) E' { s with heap := h', toks := tk })
    (hk : cs.kind = .function := by rfl) (hx : (envX cn cs L' a ccd cl).kindOf x = some .globalImplicit := by rfl) (hd : (x == ("__debug__" : Str)) = false := by decide) :
    wpAny (model prog w) A (handleBy (.ref e) (envX cn cs L' a ccd cl) (.ExceptHandler (some (.Name x np)) none (b₀ :: suite) pos :: rest)) Q E s := by
  refine wpAny_handleBy_cons (codeAny_handlers_test (name_X hc F X T ((exm_one (X.keeps F.keep) (raisedK_ty R) he).here ?_) hk hx hd)) (by intro q; cases q)
  obtain ⟨⟨B, hB, hl, hfl, hnew⟩, htup⟩ := R
  refine codeAny_handlers_suite ?_
  refine lands_againW hfl fun h₆ hfl₆ h6 => ?_
  have F₆ := F.of_stays (flyingW_base hB hfl₆).1 h6
  have R₆ : RaisedK (low g L) (envX cn cs L' a ccd cl :: outer) e cls t vs news h₆ := ⟨⟨B, hB, hl, hfl₆, hnew⟩, htup.of_slots h6⟩
  obtain ⟨oL, hoL, hnL⟩ := ns_ledger FG (U.trans h6)
  refine k h₆ _ oL _ F₆ hnL fun q hq => ?_
  rcases List.mem_cons.mp hq with rfl | hq
  · exact ⟨hoL, hLL, hideAll_none _ (List.mem_singleton.mpr rfl)⟩
  · exact raisedK_news R₆ q hq
end
end Mine
end
section
open PySem PySem.W PyProof.Rows PySem.Calls Mine
set_option Elab.async false
set_option maxRecDepth 100000
set_option maxHeartbeats 4000000
namespace M03
local macro_rules | `(tactic| walk_at "wpC") => `(tactic| first
  | ((with_reducible show Mine.wpC _ _ (execs (Stmt.Try _ _ _ _ _ :: _) _) _ _ _); k_dflt (refine Mine.wpC_execs_cons (Mine.wpC_Try ?_)); (try k_fold))
  | ((with_reducible show Mine.wpC _ _ (execs (Stmt.Return (some (Expr.Call _ _ _ _)) _ :: _) _) _ _ _); k_dflt (refine Mine.wpC_execs_cons (Mine.wpC_Return_some (Mine.wpC_Call_Name ?_))); (try k_fold))
  | ((with_reducible show Mine.wpC _ _ (callWith _ (Value.ref _) _ _ _) _ _ _); k_here; k_dflt (refine' Mine.callWithC_K ?k1 ?k2 ?_; (case k1 => k_asm); (case k2 => k_is); k_whole))
  | ((with_reducible show Mine.wpC _ _ (PySem.call (Value.ref _) _) _ _ _); k_here; k_dflt (refine' M03.p229C ?hR ?hRo ?B ?F ?X ?N ?T ?hk ?hdp ?hun ?hp ?_ ?_ ?_ ?_; (case hR => assumption); (case hRo => assumption); (case B => k_asm); (case F => k_asm); (case X => k_asm); (case N => k_asm); (case T => k_asm); (case hk => rfl); (case hdp => ktr_room); (case hun => ktr_units); (case hp => exact fun _ => ⟨⟨_, _, _, by k_mem, rfl, rfl⟩⟩)); (intro hP e' t' g' h' tk' G' S' U'); (have R' := RaisedS.toK S'); (try dsimp only); rotate_left; (intro hP e' t' g' h' tk' G' S' U'); (have R' := RaisedS.toK S'); (try dsimp only); rotate_left; (intro hP e' t' mt' tt' g' h' tk' G' S' U'); (have R' := RaisedS.toK S'); (try dsimp only); rotate_left; (intro n' hP t' D' k' h' tk' F' N' l1); (try dsimp only); (try k_lt l1); rotate_left)
  | ((with_reducible show Mine.wpC _ _ (execs [] _) _ _ _); k_dflt (refine Mine.wpC_any ?_); (try k_fold)))
local macro_rules | `(tactic| walk_at "noteFrame ref") => `(tactic| (k_here; k_dflt (refine' Mine.look_D ?hfL ?hA ?FG ?F ?hsm ?S ?_; (case hA => rfl); (case hfL => rfl); (case S => assumption); (case hsm => assumption); (case F => assumption); (case FG => assumption)); (intro h' F' U' R'); (try dsimp only)))
local macro_rules | `(tactic| walk_at "handleBy ref") => `(tactic| (k_here; first
  | (k_dflt (refine' Mine.miss_X ?F ?R ?X ?T ?hc ?he ?_; (case F => assumption); (case R => assumption); (case X => assumption); (case T => exact topRead_of (by assumption)); (case hc => kts_nm); (case he => kts_exm)))
  | (k_dflt (refine' Mine.hit_D ?FG ?hLL ?F ?U ?R ?X ?T ?hc ?he ?_; (case R => assumption); (case F => assumption); (case U => assumption); (case FG => assumption); (case hLL => assumption); (case X => assumption); (case T => exact topRead_of (by assumption)); (case hc => kts_nm); (case he => kts_exm)); (intro h' tk' oe ot ws nt oL' E' F' hoec hoed hoe0 hotc hotd hoL' N'); (try dsimp only))
  | (k_dflt (refine' Mine.hit0_D ?FG ?hLL ?F ?U ?R ?X ?T ?hc ?he ?_; (case R => assumption); (case F => assumption); (case U => assumption); (case FG => assumption); (case hLL => assumption); (case X => assumption); (case T => exact topRead_of (by assumption)); (case hc => kts_nm); (case he => kts_exm)); (intro h' tk' oL' E' F' hoL' N'); (try dsimp only))))
local macro_rules | `(tactic| walk_at "bind") => `(tactic| ((with_reducible show wpAny _ _ (do bindName (envX _ _ _ _ _ _) _ Value.none; unbindBehindTheSuite (envX _ _ _ _ _ _) _ _) _ _ _); k_dflt (refine' Mine.goes_X ?F ?N ?_; (case F => k_asm); (case N => k_asm)); (intro h' v' F' N'); (try dsimp only)))
local macro_rules | `(tactic| walk_at "bind") => `(tactic| ((with_reducible show wpAny _ _ (do bindName (envOf _ _ _ _ _) _ Value.none; unbindBehindTheSuite (envOf _ _ _ _ _) _ _) _ _ _); k_dflt (refine' Mine.goes_X ?F ?N ?_; (case F => k_asm); (case N => k_asm)); (intro h' v' F' N'); (try dsimp only)))
local macro_rules | `(tactic| walk_at "getAttr ref") => `(tactic| (k_here; (with_reducible show wpAny _ _ (getAttr (Value.ref _) ("args" : Str) _) _ _ _); k_dflt (refine' Mine.args_X PySem.F.attrBase_Exception ?X ?F ?N (newId := "Exception.__new__") ?q ?hm ?hc ?hd ?h0 ?_; (case F => k_asm); (case X => assumption); (case N => k_asm); (case hm => k_mem); (case hc => assumption); (case q => kernel_rfl); (case hd => assumption); (case h0 => assumption)); (try dsimp only)))
local macro_rules | `(tactic| ked_read) => `(tactic| exact reads_tuple_at (News.get (by k_asm) (by k_mem)) (by assumption) (by assumption) (by ked_reads))
theorem read03 {w : World} {mean : ExcName → Option Value} {mg mb : Str → Option Value}
  {dp un : Nat} {gd : Option (List Code)} {cn : Str} {cs : Scope} {a : Addr} {ccd : Value} {cl : List (Str × Addr)} {A₀ : Around} {base h₀ : Heap} {L : Addr} {m : Str → Option Value} {news : List (Addr × Obj)} {s : Shared} {Q E : Value → Shared → Prop}
  {R : Str} {tk : Tok} (hR : R.length ≤ 640) (hRo : Mine.Ok R)
  (B : Below A₀ base [] h₀) (F : Fr h₀ L s.heap m) (X : (hd.heap_39 w.params).In h₀) (N : News h₀ L s.heap news) (T : Top hd.view_39 (looseW hd.view_39 []) mean mg mb h₀) (hk : cs.kind = .function)
  (hdp : dp + 2 < recursionLimit) (hun : un + 256 < cLine)
  (k : ∀ v a1 o1 a2 o2 h' tk', Fr h₀ L h' m → News h₀ L h' ((a1, o1) :: (a2, o2) :: news) → ReadsIn (a1, o1) (a2, o2) v (outData (Str.ofString "there") R (P229 R.cps.toList)) → Q v { s with heap := h', toks := tk' }) :
   wpC (model PySem.Challenge.rw_km0015_03.row.prog w) (ktrTop dp un gd cn cs L a ccd cl []) (PySem.call (.ref 65) [.str R tk]) Q E s := by
  revert X
  k_fill
  intro X
  refine wpC_call ?_
  k_dflt (refine' Mine.code_defD ?k1 ?k2 ?k3 ?k4 ?k5 ?kA ?kF ?kK ?k6 ?k7 ?k8 ?k9 ?kB ?_ ?c2 ?c3 ?c4 ?c5; (case kA => exact rfl); (case kF => exact rfl); (case kK => assumption); (case k1 => k_asm); (case k2 => k_asm); (case k3 => k_asm); (case k4 => k_asm); (case k5 => k_asm); (case k6 => k_is); (case k7 => k_is); (case k8 => ktr_room); (case k9 => exact BindsTo.of_eq rfl); (case c5 => decide); (case kB => exact locs rfl); (case c2 => exact rfl); (case c3 => exact rfl); (case c4 => exact rfl); k_whole; intro g' L' h' FG' F' N' B' X' T'; (try dsimp only); (try k_lift B'))
  have hLL' : L ≠ L' := Nat.ne_of_lt (Nat.lt_of_lt_of_le FG'.ns.lt F'.above)
  have XL' := X.keeps (Mine.low_stays FG')
  have TL' := T.keeps (Mine.low_stays FG')
  k_steps
  rotate_left 3
  · rename P229 _ = Out.ok _ => eP
    rename News g' _ _ _ => N9
    refine k _ _ _ _ _ _ _ (FG'.keeps (Fr.keep (by assumption))) (Mine.back_two N (Mine.back_news N N9 (by (repeat (refine Mine.sub_cons ?_)); exact fun _ h => h)) (Mine.back_obj FG' N9 (List.mem_cons_self ..)) (Mine.back_obj FG' N9 (List.mem_cons_self ..))) ?_
    rw [eP]
    exact fun h e1 e2 => ⟨_, reads_tuple_at e1 rfl rfl (ReadsAll.cons (Reads.str _ _) (ReadsAll.cons (Reads.int _ _) ReadsAll.nil))⟩
  · have eP : P229 R.cps.toList = .reply := by assumption
    rename News (low _ _) _ _ _ => N9
    rename LCg.NsObj _ _ => hoL
    rename Obj.data _ = Data.seq #[_] _ => hd9
    rename Obj.cls _ = Value.type "tuple" => hc9
    refine k _ _ _ _ _ _ _ (Mine.back_fr FG' (by assumption) N9 hoL (by k_mem)) (Mine.back_two N (Mine.back_news N N9 (by (repeat (refine Mine.sub_cons ?_)); exact fun _ h => h)) (Mine.back_low FG' N9 hoL (by k_mem) (List.mem_cons_self ..) rfl) (Mine.back_low FG' N9 hoL (by k_mem) (q := (_, _)) (by k_mem) hd9)) ?_
    rw [eP]
    exact fun h e1 e2 => ⟨_, reads_list_at e1 rfl rfl (ReadsAll.cons (as := []) (Reads.str _ _) (ReadsAll.cons (reads_tuple_at e2 hc9 hd9 (ReadsAll.cons (Reads.str _ _) ReadsAll.nil)) ReadsAll.nil))⟩
  · have eP : P229 R.cps.toList = .proto := by assumption
    rename News (low _ _) _ _ _ => N9
    rename LCg.NsObj _ _ => hoL
    rename Obj.data _ = Data.seq #[_] _ => hd9
    rename Obj.cls _ = Value.type "tuple" => hc9
    refine k _ _ _ _ _ _ _ (Mine.back_fr FG' (by assumption) N9 hoL (by k_mem)) (Mine.back_two N (Mine.back_news N N9 (by (repeat (refine Mine.sub_cons ?_)); exact fun _ h => h)) (Mine.back_low FG' N9 hoL (by k_mem) (List.mem_cons_self ..) rfl) (Mine.back_low FG' N9 hoL (by k_mem) (q := (_, _)) (by k_mem) hd9)) ?_
    rw [eP]
    exact fun h e1 e2 => ⟨_, reads_list_at e1 rfl rfl (ReadsAll.cons (as := []) (Reads.str _ _) (ReadsAll.cons (reads_tuple_at e2 hc9 hd9 (ReadsAll.cons (Reads.str _ _) ReadsAll.nil)) ReadsAll.nil))⟩
  · have eP : P229 R.cps.toList = .val := by assumption
    rename News (low _ _) _ _ _ => N9
    rename LCg.NsObj _ _ => hoL
    refine k _ _ _ _ _ _ _ (Mine.back_fr FG' (by assumption) N9 hoL (by k_mem)) (Mine.back_two N (Mine.back_news N N9 (by (repeat (refine Mine.sub_cons ?_)); exact fun _ h => h)) (Mine.back_low FG' N9 hoL (by k_mem) (List.mem_cons_self ..) rfl) (Mine.back_low FG' N9 hoL (by k_mem) (List.mem_cons_self ..) rfl)) ?_
    rw [eP]
    exact fun h e1 e2 => ⟨_, reads_list_at e1 rfl rfl (ReadsAll.cons (Reads.str _ _) ReadsAll.nil)⟩
end M03
end
section
open PySem PySem.W PyProof.Rows PySem.Calls PyProof.Rows.LCg
set_option Elab.async false
set_option maxRecDepth 100000
set_option autoImplicit false
/-! Lists of pairs of texts; comprehensions over them -/
namespace Mine
/-- a pair of texts, in the ledger -/
def PairV (news : List (Addr × Obj)) (v : Value) (p : Str × Str) : Prop :=
  ∃ a o n t1 t2, v = .ref a ∧ (a, o) ∈ news ∧ o.cls = .type "tuple" ∧ o.data = .seq #[.str p.1 t1, .str p.2 t2] n
structure PairsOf (news : List (Addr × Obj)) (vs : List Value) (ps : List (Str × Str)) : Prop where
  len : vs.length = ps.length
  at_ : ∀ (i : Nat) (v : Value) (p : Str × Str), vs[i]? = some v → ps[i]? = some p → PairV news v p
theorem PairV.sub {news news' : List (Addr × Obj)} {v : Value} {p : Str × Str} (h : PairV news v p) (hs : ∀ q ∈ news, q ∈ news') : PairV news' v p := by
  obtain ⟨a, o, n, t1, t2, h1, h2, h3⟩ := h
  exact ⟨a, o, n, t1, t2, h1, hs _ h2, h3⟩
theorem PairsOf.sub {news news' : List (Addr × Obj)} {vs : List Value} {ps : List (Str × Str)} (h : PairsOf news vs ps) (hs : ∀ q ∈ news, q ∈ news') : PairsOf news' vs ps := ⟨h.len, fun i v p a b => (h.at_ i v p a b).sub hs⟩
theorem PairsOf.nil {news : List (Addr × Obj)} : PairsOf news [] [] := ⟨rfl, fun i v p a _ => by simp at a⟩
theorem PairsOf.one {news : List (Addr × Obj)} {v : Value} {p : Str × Str} (h : PairV news v p) : PairsOf news [v] [p] := ⟨rfl, fun i v' p' a b => by
  cases i with
  | zero =>
    simp at a b
    rw [← a, ← b]; exact h
  | succ i => simp at a⟩
theorem PairsOf.app {news : List (Addr × Obj)} {vs ws : List Value} {ps qs : List (Str × Str)} (h : PairsOf news vs ps) (h' : PairsOf news ws qs) : PairsOf news (vs ++ ws) (ps ++ qs) := by
  refine ⟨by rw [List.length_append, List.length_append, h.len, h'.len], fun i v p a b => ?_⟩
  by_cases hi : i < vs.length
  · rw [List.getElem?_append_left hi] at a
    rw [List.getElem?_append_left (by rw [← h.len]; exact hi)] at b
    exact h.at_ i v p a b
  · rw [List.getElem?_append_right (by omega)] at a
    rw [List.getElem?_append_right (by rw [← h.len]; omega), ← h.len] at b
    exact h'.at_ _ v p a b
theorem PairsOf.take {news : List (Addr × Obj)} {vs : List Value} {ps : List (Str × Str)} (h : PairsOf news vs ps) (k : Nat) : PairsOf news (vs.take k) (ps.take k) := by
  refine ⟨by rw [List.length_take, List.length_take, h.len], fun i v p a b => ?_⟩
  rw [List.getElem?_take] at a b
  split at a
  · rename_i hi
    rw [if_pos hi] at b
    exact h.at_ i v p a b
  · cases a
theorem PairsOf.drop {news : List (Addr × Obj)} {vs : List Value} {ps : List (Str × Str)} (h : PairsOf news vs ps) (k : Nat) : PairsOf news (vs.drop k) (ps.drop k) := by
  refine ⟨by rw [List.length_drop, List.length_drop, h.len], fun i v p a b => ?_⟩
  rw [List.getElem?_drop] at a b
  exact h.at_ _ v p a b
theorem PairsOf.get {news : List (Addr × Obj)} {vs : List Value} {ps : List (Str × Str)} (h : PairsOf news vs ps) {i : Nat} (hi : i < ps.length) : ∃ v, vs[i]? = some v ∧ PairV news v ps[i] := by
  have hi' : i < vs.length := by rw [h.len]; exact hi
  exact ⟨vs[i], List.getElem?_eq_getElem hi', h.at_ i _ _ (List.getElem?_eq_getElem hi') (List.getElem?_eq_getElem hi)⟩
section
variable {prog : Program} {w : World} {A : Around} {E : Value → Shared → Prop} {s : Shared} {h₀ : Heap} {L : Addr} {m : Str → Option Value} {env : Env}
abbrev pairT (x x₂ : Str) (px px₂ tp : Pos) (tk : Nat) : Expr := .Tuple [.Name x px, .Name x₂ px₂] tk tp
/-- a turn of a comprehension over pairs, as its loop wants it -/
def LoopOf (prog : Program) (w : World) (A : Around) (e : Expr) (T : Expr) (Turn : Value → Env → (Shared → Prop) → Shared → Prop) : Prop :=
  ∀ (it acc : Value) (cenv : Env) (R : Result → Shared → Prop) (I : Nat → Shared → Prop),
    (∀ n s, I n s → wpAny (model prog w) A (pyNext it) (fun r s₁ => match r with
      | none => R (.ok .next) s₁
      | some v => wpAny (model prog w) A (letOwnedTupleGo T it v) (fun _ s₀ => wpAny (model prog w) A (assign T cenv v) (fun _ s₂ => Turn acc cenv (fun s₅ => ∃ m, m < n ∧ I m s₅) s₂) (fun _ _ => False) s₀) (fun _ _ => False) s₁) (fun _ _ => False) s) →
    ∀ n s, I n s → codeAny (model prog w) A (.compLoop e 0 it acc cenv) R s
theorem pairs_block {elt iter : Expr} {ifs : List Expr} {rest : List Comprehension} {x x₂ : Str} {px px₂ tp : Pos} {tk : Nat} {scope : Scope} {cl : List (Str × Addr)} {pos : Pos} {s₁ : Shared} {ax : Addr} {vs : List Value} {ps : List (Str × Str)} {news : List (Addr × Obj)}
    {Turn : Value → Env → (Shared → Prop) → Shared → Prop} {RR : Value → Addr → Result → Shared → Prop} (J : Nat → List Value → List (Addr × Obj) → Prop)
    (hloop : LoopOf prog w A (.ListComp elt (⟨pairT x x₂ px px₂ tp tk, iter, ifs, 0⟩ :: rest) scope pos) (pairT x x₂ px px₂ tp tk) Turn)
    (hcell : ∀ y ∈ scope.names, y.2 ≠ .cell) (hkind : scope.kind = .function) (hx : scope.names.lookup x = some .local) (hx₂ : scope.names.lookup x₂ = some .local) (hxx : x ≠ x₂) (hh : A.handled = none)
    (F : Fr h₀ L s₁.heap m) (N : News h₀ L s₁.heap news) (hl : s₁.heap.IsList ax vs.toArray) (hp : PairsOf news vs ps) (h0 : J 0 [] [])
    (turn : ∀ (i : Nat) (p : Str × Str) (t1 t2 : Tok) (ys : List Value) (tps : List (Addr × Obj)) (C D : Addr) (m₂ : Str → Option Value) (s₂ : Shared), ps[i]? = some p → J i ys tps → s₂.heap.get? D = some (lst ys) → s₂.heap.Ns C m₂ → m₂ x = some (.str p.1 t1) → m₂ x₂ = some (.str p.2 t2) →
      ((@Ne Nat D C)) → (∀ q ∈ tps, s₂.heap.get? q.1 = some q.2 ∧ (@Ne Nat q.1 D) ∧ (@Ne Nat q.1 C)) → ∀ Nx : Shared → Prop,
      (∀ ys' tps' m₃ h' tk', J (i + 1) ys' tps' → h'.get? D = some (lst ys') → h'.Ns C m₃ → (∀ q ∈ tps', h'.get? q.1 = some q.2 ∧ (@Ne Nat q.1 D) ∧ (@Ne Nat q.1 C) ∧ (q ∈ tps ∨ s₂.heap.objs.size ≤ q.1)) →
        (∀ b o, b ≠ C → b ≠ D → s₂.heap.get? b = some o → h'.get? b = some o) → Nx { s₂ with heap := h', toks := tk' }) → Turn (.ref D) (compEnvC scope cl C env) Nx s₂)
    (hRR : ∀ D C h tk m' ys tps, J ps.length ys tps → Fr h₀ L h m → News h₀ L h ((D, lst ys) :: (tps ++ news)) → h.Ns C m' → h₀.get? C = none → h₀.get? D = none → C ≠ L → D ≠ L → C ≠ D → (∀ p ∈ tps ++ news, p.1 ≠ C) → RR (.ref D) C (.ok .next) { s₁ with heap := h, toks := tk }) :
    wpAny (model prog w) A (pyIter (.ref ax)) (fun itv s₂ => wpAny (model prog w) A (newList []) (fun acc s₃ => wpAny (model prog w) A (newFunctionEnv scope env.globals cl [] env.qual none .none (some env)) (fun cenv s₄ =>
      codeAny (model prog w) A (.compStart (.ListComp elt (⟨pairT x x₂ px px₂ tp tk, iter, ifs, 0⟩ :: rest) scope pos) 0 itv acc { cenv with scope := relabel scope env }) (RR acc cenv.locals) s₄) E s₃) E s₂) E s₁ := by
  have hlt : ax < s₁.heap.objs.size := by obtain ⟨_, e, _⟩ := hl; exact Heap.lt_size e
  refine wpAny_pyIter_list hl ?_
  have upI : ∀ b o, s₁.heap.get? b = some o → (s₁.heap.push { cls := .type "list_iterator", data := .fields #[.ref ax, .int 0 0] }).get? b = some o := fun b o e => Heap.get?_push_of_some _ e
  have hitI : (s₁.heap.push { cls := .type "list_iterator", data := .fields #[.ref ax, .int 0 0] }).IsListIter s₁.heap.objs.size ax 0 := ⟨_, Heap.get?_push_size _ rfl, rfl, rfl⟩
  generalize hI : s₁.heap.objs.size = I at *
  generalize hH1 : s₁.heap.push { cls := .type "list_iterator", data := .fields #[.ref ax, .int 0 0] } = H1 at *
  have hs1 : H1.objs.size = I + 1 := by rw [← hH1, Heap.size_push, hI]
  refine wpAny_newObj_type (wpAny_newFunctionEnv hcell (by intro y hy; simp at hy) (fun h₁ hns₁ hsb₁ => ?_) hkind)
  dsimp only at hns₁ hsb₁ ⊢
  generalize hH2 : H1.push { cls := .type "list", dict := none, data := .seq ([] : List Value).toArray } = H2 at hns₁ hsb₁ ⊢
  have hC : H2.objs.size = I + 2 := by rw [← hH2, Heap.size_push, hs1]
  generalize hCC : H2.objs.size = C at *
  generalize hDD : H1.objs.size = D at *
  have hDC : @Ne Nat D C := by rw [hC, hs1]; exact Nat.ne_of_lt (Nat.lt_succ_self _)
  have lt1 : ∀ (b : Addr) o, s₁.heap.get? b = some o → @LT.lt Nat _ b I := fun b o e => hI ▸ Heap.lt_size e
  have old : ∀ b o, b ≠ I → s₁.heap.get? b = some o → h₁.get? b = some o := fun b o _ e => by
    have hb := lt1 b o e
    refine hsb₁.extBut b o (fun q => ?_) (Heap.get?_push_of_some _ (hH2 ▸ Heap.get?_push_of_some _ (upI b o e)))
    have q' : @Eq Nat b C := q
    rw [q', hC] at hb
    omega
  have hacc : h₁.get? D = some (lst []) := hsb₁.extBut _ _ hDC (Heap.get?_push_of_some _ (by rw [← hH2, ← hDD]; exact Heap.get?_push_size _ rfl))
  have hit₁ : h₁.IsListIter I ax 0 := by
    obtain ⟨o, e, r⟩ := hitI
    refine ⟨o, hsb₁.extBut I o (fun q => ?_) (Heap.get?_push_of_some _ (hH2 ▸ Heap.get?_push_of_some _ e)), r⟩
    have q' : @Eq Nat I C := q
    omega
  have fresh : ∀ a, I ≤ a → s₁.heap.get? a = none := fun a ha => by
    cases e : s₁.heap.get? a with
    | none => rfl
    | some o' => exact absurd (lt1 a o' e) (Nat.not_lt.mpr ha)
  have fresh₀ : ∀ a, I ≤ a → h₀.get? a = none := fun a ha => by
    cases e : h₀.get? a with
    | none => rfl
    | some o' => have := F.keep a o' e; rw [fresh a ha] at this; cases this
  have hLlt : @LT.lt Nat _ L I := hI ▸ F.ns.lt
  have W := Walks.list (prog := prog) (w := w) hh I ax (Nat.ne_of_lt hlt) vs.toArray
  have hn : vs.toArray.size = ps.length := by rw [List.size_toArray, hp.len]
  rw [hn] at W
  have loop : codeAny (model prog w) A (.compLoop (.ListComp elt (⟨pairT x x₂ px px₂ tp tk, iter, ifs, 0⟩ :: rest) scope pos) 0 (.ref I) (.ref D) (compEnvC scope cl C env)) (RR (.ref D) C) { s₁ with heap := h₁, toks := s₁.toks + ([] : List (Str × Value)).length } := by
    refine hloop (.ref I) (.ref D) (compEnvC scope cl C env) (RR (.ref D) C)
      (fun k s' => ∃ h' tk i ys tps m', s' = { s₁ with heap := h', toks := tk } ∧ i ≤ ps.length ∧ k = ps.length + 1 - i ∧ h'.IsListIter I ax i ∧ (∀ b o, b ≠ I → s₁.heap.get? b = some o → h'.get? b = some o) ∧ h'.Ns C m' ∧ h'.get? D = some (lst ys) ∧
        (∀ q ∈ tps, h'.get? q.1 = some q.2 ∧ (@Ne Nat q.1 D) ∧ (@Ne Nat q.1 C) ∧ (@LT.lt Nat _ I q.1)) ∧ J i ys tps) ?_ (ps.length + 1) _
      ⟨h₁, _, 0, [], [], _, rfl, Nat.zero_le _, rfl, hit₁, old, hns₁, hacc, (fun _ hq => nomatch hq), h0⟩
    rintro k s' ⟨h', tk, i, ys, tps, m', rfl, hi, rfl, hit', old', hn', hD', htp, hJ⟩
    have hl' : h'.IsList ax vs.toArray := hl.at fun o e => old' ax o (Nat.ne_of_lt hlt) e
    by_cases hlt' : i < ps.length
    · refine W.item i _ _ _ hlt' ⟨hit', hl'⟩ fun v h₂ tk₂ hPv hst₂ hk₂ => ?_
      have hv : vs[i]? = some v := by simpa using hPv
      obtain ⟨v', hv', hpv⟩ := hp.get hlt'
      have ev : v' = v := Option.some.inj (hv'.symm.trans hv)
      subst ev
      obtain ⟨a, o, nt, t1, t2, rfl, ho, hoc, hod⟩ := hpv
      have hap : ∀ p ∈ news, p.1 ≠ I := fun p hp q => by
        have := lt1 _ _ (N p hp).1
        have q' : @Eq Nat p.1 I := q
        omega
      have ht : IsTup h₂ a #[.str ps[i].1 t1, .str ps[i].2 t2] := ⟨o, hk₂ _ _ (by simpa using hap _ ho) (old' _ _ (hap _ ho) (N _ ho).1), hoc, nt, hod⟩
      refine wpAny_letOwnedTupleGo_listiter hst₂.1 ?_
      refine assign_Tuple_tuple hh ht rfl rfl fun h₅ he => ?_
      have he' : ∀ b o, h₂.get? b = some o → h₅.get? b = some o := fun b o e => he b o (Nat.ne_of_lt (Heap.lt_size e)) e
      have hCI : C ≠ I := fun q => by
        have q' : @Eq Nat C I := q
        omega
      refine assignInOrder_cons (wpAny_assign_Name (wpAny_storeName_local (lookup_relabel_local hx) ((hn'.at' fun o e => hk₂ _ o (by simpa using hCI) e).at' fun o e => he' _ o e) (fun h₆ hn₆ hs₆ => ?_) (by simp [compEnvC, relabel, hkind])))
      refine assignInOrder_cons (wpAny_assign_Name (wpAny_storeName_local (lookup_relabel_local hx₂) hn₆ (fun h₃ hn₃ hs₃ => ?_) (by simp [compEnvC, relabel, hkind])))
      refine assignInOrder_nil ?_
      have old3 : ∀ b o, b ≠ C → h₂.get? b = some o → h₃.get? b = some o := fun b o hb e => hs₃.extBut b o hb (hs₆.extBut b o hb (he' b o e))
      have up3 : ∀ b o, b ≠ C → b ≠ I → h'.get? b = some o → h₃.get? b = some o := fun b o hb hb' e => old3 b o hb (hk₂ b o (by simpa using hb') e)
      have hDI : D ≠ I := fun q => by
        have q' : @Eq Nat D I := q
        omega
      have hit₃ : h₃.IsListIter I ax (i + 1) := by
        obtain ⟨o, e, r⟩ := hst₂.1
        exact ⟨o, old3 I o (Ne.symm hCI) e, r⟩
      refine turn i ps[i] t1 t2 ys tps C D _ _ (List.getElem?_eq_getElem hlt') hJ (up3 _ _ hDC hDI hD') hn₃ (by simp [hxx]) (by simp) hDC (fun q hq => ?_) _ ?_
      · obtain ⟨q1, q2, q3, q4⟩ := htp q hq
        exact ⟨up3 _ _ q3 (fun z => by have z' : @Eq Nat q.1 I := z; omega) q1, q2, q3⟩
      · intro ys' tps' m₃ h₇ tk₇ hJ' hD₇ hn₇ htp' hk₇
        have szI : @LT.lt Nat _ I h₃.objs.size := by
          obtain ⟨o, e, _⟩ := hit₃
          exact Heap.lt_size e
        refine ⟨ps.length + 1 - (i + 1), by omega, h₇, tk₇, i + 1, ys', tps', m₃, rfl, hlt', rfl, ?_, fun b o hb e => ?_, hn₇, hD₇, fun q hq => ?_, hJ'⟩
        · obtain ⟨o, e, r⟩ := hit₃
          exact ⟨o, hk₇ I o (Ne.symm hCI) (Ne.symm hDI) e, r⟩
        · have hb' := lt1 b o e
          have n1 : b ≠ C := fun q => by
            have q' : @Eq Nat b C := q
            omega
          have n2 : b ≠ D := fun q => by
            have q' : @Eq Nat b D := q
            omega
          exact hk₇ b o n1 n2 (up3 b o n1 hb (old' b o hb e))
        · obtain ⟨q1, q2, q3, q4⟩ := htp' q hq
          refine ⟨q1, q2, q3, ?_⟩
          rcases q4 with q4 | q4
          · exact (htp q q4).2.2.2
          · exact Nat.lt_of_lt_of_le szI q4
    · have e : i = ps.length := by omega
      subst e
      refine W.done _ _ _ ⟨hit', hl'⟩ fun h₂ tk₂ hk₂ => ?_
      have up : ∀ b o, b ≠ I → h'.get? b = some o → h₂.get? b = some o := fun b o hb e => hk₂ b o (by simpa using hb) e
      have nI : ∀ b : Addr, @LT.lt Nat _ I b → b ≠ I := fun b hb z => by
        have z' : @Eq Nat b I := z
        omega
      have hDI : @LT.lt Nat _ I D := by omega
      have hCI : @LT.lt Nat _ I C := by omega
      have nL : ∀ b : Addr, @LT.lt Nat _ I b → b ≠ L := fun b hb z => by
        have z' : @Eq Nat b L := z
        omega
      refine hRR D C h₂ tk₂ m' ys tps hJ ⟨F.ns.at' fun o e => up L o (Nat.ne_of_lt hLlt) (old' L o (Nat.ne_of_lt hLlt) e), fun b o e => ?_, F.above⟩ ?_ (hn'.at' fun o e => up C o (nI C hCI) e) (fresh₀ C (Nat.le_of_lt hCI)) (fresh₀ D (Nat.le_of_lt hDI)) (nL C hCI) (nL D hDI) (Ne.symm hDC) ?_
      · have e1 := F.keep b o e
        have hb : b ≠ I := Nat.ne_of_lt (lt1 b o e1)
        exact up b o hb (old' b o hb e1)
      · intro q hq
        rcases List.mem_cons.mp hq with rfl | hq
        · exact ⟨up D _ (nI D hDI) hD', nL D hDI, fresh₀ D (Nat.le_of_lt hDI)⟩
        · rcases List.mem_append.mp hq with hq | hq
          · obtain ⟨q1, q2, q3, q4⟩ := htp q hq
            exact ⟨up _ _ (nI _ q4) q1, nL _ q4, fresh₀ _ (Nat.le_of_lt q4)⟩
          · have hb : q.1 ≠ I := Nat.ne_of_lt (lt1 _ _ (N q hq).1)
            exact ⟨up _ _ hb (old' _ _ hb (N q hq).1), (N q hq).2⟩
      · intro q hq
        rcases List.mem_append.mp hq with hq | hq
        · exact (htp q hq).2.2.1
        · intro z
          have z' : @Eq Nat q.1 C := z
          have := lt1 _ _ (N q hq).1
          omega
  exact codeAny_compStart_list loop (W.self 0 _ _ _ ⟨hit₁, hl.at fun o e => old ax o (Nat.ne_of_lt hlt) e⟩ loop)
end
end Mine
end
section
open PySem PySem.W PyProof.Rows PySem.Calls PyProof.Rows.LCg
set_option Elab.async false
set_option maxRecDepth 100000
set_option autoImplicit false
namespace Mine
section
variable {prog : Program} {w : World} {A : Around} {E : Value → Shared → Prop} {s : Shared} {env : Env}
theorem name_in {scope : Scope} {cl : List (Str × Addr)} {C : Addr} {x : Str} {pe : Pos} {v : Value} {m₂ : Str → Option Value} {Q : Value → Shared → Prop} (hkind : scope.kind = .function) (hx : scope.names.lookup x = some .local) (hn : s.heap.Ns C m₂) (hv : m₂ x = some v) (h : Q v s)
    (hd : (x == ("__debug__" : Str)) = false) : wpAny (model prog w) A (eval (.Name x pe) (compEnvC scope cl C env)) Q E s :=
  wpAny_Name (wpAny_loadName_local (env := compEnvC scope cl C env) hkind (lookup_relabel_local hx) hn hv h) hd
theorem append_lst {D : Addr} {ys : List Value} {y : Value} {Q : Value → Shared → Prop} (hD : s.heap.get? D = some (lst ys)) (hl : ys.length ≤ 100000) (h : ∀ h', Heap.SameBut D s.heap h' → h'.get? D = some (lst (ys ++ [y])) → Q .none { s with heap := h' }) :
    wpAny (model prog w) A (call (.builtin "list.append") [.ref D, y]) Q E s :=
  append_at (hsz := by show ys.toArray.size ≤ sizeLine; rw [List.size_toArray, sizeLine_eq]; omega) hD fun h' hs hg => h h' hs (hg.trans (congrArg some (lst_snoc ys y)))
/-! the loops -/
theorem loopOf_test {elt iter c : Expr} {x x₂ : Str} {px px₂ tp : Pos} {tk : Nat} {scope : Scope} {pos : Pos} :
    LoopOf prog w A (.ListComp elt [⟨pairT x x₂ px px₂ tp tk, iter, [c], 0⟩] scope pos) (pairT x x₂ px px₂ tp tk) (fun acc cenv Nx s₂ => wpAny (model prog w) A (isTrue c cenv (eval c cenv)) (fun ok s₃ => if ok = true then wpAny (model prog w) A (eval elt cenv) (fun y s₄ =>
      wpAny (model prog w) A (call (.builtin "list.append") [acc, y]) (fun _ s₅ => Nx s₅) (fun _ _ => False) s₄) (fun _ _ => False) s₃ else Nx s₃) (fun _ _ => False) s₂) := by
  intro it acc cenv R I ht n s hI
  refine kct_loop I (fun n s hI => wpAny_mono (ht n s hI) (fun r s₁ h₁ => ?_) fun _ _ x => x.elim) n hI
  cases r with
  | none => exact h₁
  | some v =>
    refine wpAny_mono h₁ (fun _ s₀ h₀ => wpAny_mono h₀ (fun _ s₂ h₂ => wpAny_mono h₂ (fun ok s₃ h₃ => ?_) fun _ _ x => x.elim) fun _ _ x => x.elim) fun _ _ x => x.elim
    cases ok with
    | true =>
      simp only [if_true] at h₃ ⊢
      exact wpAny_mono h₃ (fun y s₄ h₄ => wpAny_mono h₄ (fun _ _ x => x) fun _ _ x => x.elim) fun _ _ x => x.elim
    | false => simpa using h₃
theorem loopOf_plain {elt iter : Expr} {x x₂ : Str} {px px₂ tp : Pos} {tk : Nat} {scope : Scope} {pos : Pos} :
    LoopOf prog w A (.ListComp elt [⟨pairT x x₂ px px₂ tp tk, iter, [], 0⟩] scope pos) (pairT x x₂ px px₂ tp tk) (fun acc cenv Nx s₂ => wpAny (model prog w) A (eval elt cenv) (fun y s₄ =>
      wpAny (model prog w) A (call (.builtin "list.append") [acc, y]) (fun _ s₅ => Nx s₅) (fun _ _ => False) s₄) (fun _ _ => False) s₂) := by
  intro it acc cenv R I ht n s hI
  refine kcp_loop I (fun n s hI => wpAny_mono (ht n s hI) (fun r s₁ h₁ => ?_) fun _ _ x => x.elim) n hI
  cases r with
  | none => exact h₁
  | some v =>
    exact wpAny_mono h₁ (fun _ s₀ h₀ => wpAny_mono h₀ (fun _ s₂ h₂ => wpAny_mono h₂ (fun y s₄ h₄ => wpAny_mono h₄ (fun _ _ x => x) fun _ _ x => x.elim) fun _ _ x => x.elim) fun _ _ x => x.elim) fun _ _ x => x.elim
theorem compTurn_two (elt target iter target' iter' : Expr) (scope : Scope) (pos : Pos) (it acc : Value) (env : Env) :
    compTurn (.ListComp elt [⟨target, iter, [], 0⟩, ⟨target', iter', [], 0⟩] scope pos) 0 it acc env = (do
      standAt iter.pos
      match ← pyNext it with
      | none => pure (.done .next)
      | some v =>
        letOwnedTupleGo target it v
        assign target env v
        let x ← eval iter' env
        standAt iter'.pos
        let x ← foldedSetIterable iter' env x
        let _ ← runOwn (.compStart (.ListComp elt [⟨target, iter, [], 0⟩, ⟨target', iter', [], 0⟩] scope pos) 1 (← holding [x] (pyIter x)) acc env) env
        again (.compLoop (.ListComp elt [⟨target, iter, [], 0⟩, ⟨target', iter', [], 0⟩] scope pos) 0 it acc env)) := by rfl
theorem compTurn_in (elt target iter target' iter' : Expr) (scope : Scope) (pos : Pos) (it acc : Value) (env : Env) :
    compTurn (.ListComp elt [⟨target, iter, [], 0⟩, ⟨target', iter', [], 0⟩] scope pos) 1 it acc env = (do
      standAt iter'.pos
      match ← pyNext it with
      | none => pure (.done .next)
      | some v =>
        letOwnedTupleGo target' it v
        assign target' env v
        (do let _ ← call (.builtin "list.append") [acc, ← eval elt env])
        again (.compLoop (.ListComp elt [⟨target, iter, [], 0⟩, ⟨target', iter', [], 0⟩] scope pos) 1 it acc env)) := by rfl
/-- where the second clause begins -/
theorem start_in {elt target iter target' iter' : Expr} {scope : Scope} {pos : Pos} {it acc : Value} {R : Result → Shared → Prop}
    (h0 : codeAny (model prog w) A (.compLoop (.ListComp elt [⟨target, iter, [], 0⟩, ⟨target', iter', [], 0⟩] scope pos) 1 it acc env) R s)
    (h : wpAny (model prog w) A (pyIter it) (fun it' s' => codeAny (model prog w) A (.compLoop (.ListComp elt [⟨target, iter, [], 0⟩, ⟨target', iter', [], 0⟩] scope pos) 1 it' acc env) R s') (fun _ _ => False) s) :
    codeAny (model prog w) A (.compStart (.ListComp elt [⟨target, iter, [], 0⟩, ⟨target', iter', [], 0⟩] scope pos) 1 it acc env) R s := by
  refine codeAny_of_tree ?_
  show wpAny _ _ ((compStart (.ListComp elt [⟨target, iter, [], 0⟩, ⟨target', iter', [], 0⟩] scope pos) 1 it acc env).onRaise (fun x => do noteFrame x env; standAt theWindowsPlace)) _ _ s
  refine wpAny_notedAt ?_
  unfold compStart
  show wpAny _ _ (ask >>= _) _ _ s
  refine wpAny_bind (wpAny_askSetting (wpAny_ite ?_))
  split
  · first
      | exact wpAny_bind (wpAny_pure (wpAny_pure (And.intro rfl h0)))
      | exact wpAny_pure (And.intro rfl h0)
  · first
      | exact wpAny_bind (wpAny_rule (wpAny_bind (wpAny_standAt (wpAny_bind (wpAny_mono h (fun it' s' h' => wpAny_pure (And.intro rfl h')) fun _ _ x => x.elim)))))
      | (refine wpAny_bind (wpAny_rule ?_); show wpAny _ _ (standAt iter'.pos >>= _) _ _ s; exact wpAny_bind (wpAny_standAt (wpAny_bind (wpAny_mono h (fun it' s' h' => wpAny_pure (And.intro rfl h')) fun _ _ x => x.elim))))
theorem loopOf_nest {elt iter iter' target' : Expr} {x x₂ : Str} {px px₂ tp : Pos} {tk : Nat} {scope : Scope} {pos : Pos} (hs : ∀ (cenv : Env) v, foldedSetIterable iter' cenv v = pure v) :
    LoopOf prog w A (.ListComp elt [⟨pairT x x₂ px px₂ tp tk, iter, [], 0⟩, ⟨target', iter', [], 0⟩] scope pos) (pairT x x₂ px px₂ tp tk) (fun acc cenv Nx s₂ => wpAny (model prog w) A (eval iter' cenv) (fun xv s₃ => wpAny (model prog w) A (pyIter xv) (fun it' s₄ =>
      codeAny (model prog w) (A.mark none) (.compStart (.ListComp elt [⟨pairT x x₂ px px₂ tp tk, iter, [], 0⟩, ⟨target', iter', [], 0⟩] scope pos) 1 it' acc cenv) (fun r s' => match r with | .ok _ => Nx s' | .error _ => False) s₄) (fun _ _ => False) s₃) (fun _ _ => False) s₂) := by
  intro it acc cenv R I ht n s hI
  refine codeAny_loop rfl I (fun n s hI => ?_) n hI
  show wpAny _ A ((compTurn (.ListComp elt [⟨pairT x x₂ px px₂ tp tk, iter, [], 0⟩, ⟨target', iter', [], 0⟩] scope pos) 0 it acc cenv).onRaise (fun x => do noteFrame x cenv; theTreesLotGoes x)) _ _ s
  refine wpAny_noted ?_
  rw [compTurn_two]
  refine wpAny_bind (wpAny_standAt (wpAny_bind (wpAny_mono (ht n s hI) (fun r s₁ h₁ => ?_) fun _ _ x => x.elim)))
  cases r with
  | none => exact wpAny_pure h₁
  | some v =>
    refine wpAny_bind (wpAny_mono h₁ (fun _ s₀ h₀ => wpAny_bind (wpAny_mono h₀ (fun _ s₂ h₂ => wpAny_bind (wpAny_mono h₂ (fun xv s₃ h₃ => ?_) fun _ _ x => x.elim)) fun _ _ x => x.elim)) fun _ _ x => x.elim)
    refine wpAny_bind (wpAny_standAt (wpAny_bind (wpAny_of_eq (hs cenv xv) (wpAny_bind (wpAny_holding (wpAny_mono h₃ (fun it' s₄ h₄ => ?_) fun _ _ x => x.elim))))))
    refine wpAny_bind (wpAny_runOwn (codeAny_mono h₄ (fun r s' hr => ?_)))
    cases r with
    | error e => exact hr.elim
    | ok f => exact wpAny_pure ⟨rfl, hr⟩
/-- the second clause over a text's signs: a new pair a sign -/
theorem nest_in {iter iter' : Expr} {target : Expr} {x x₃ : Str} {p₃ pe pe₃ tpe : Pos} {te : Nat} {scope : Scope} {cl : List (Str × Addr)} {pos : Pos} {C D J : Addr} {kd xt : Str} {t1 tx : Tok} {ys : List Value} {tps : List (Addr × Obj)} {ps : List (Str × Str)} {m₂ : Str → Option Value} {St : Nat → Heap → Prop}
    {R : Result → Shared → Prop} (hkind : scope.kind = .function) (hx : scope.names.lookup x = some .local) (hx₃ : scope.names.lookup x₃ = some .local) (hxx : x ≠ x₃) (hdx : (x == ("__debug__" : Str)) = false) (hdx₃ : (x₃ == ("__debug__" : Str)) = false)
    (W : Walks prog w A J [J] [J] xt.cps.size (SignAt xt) St) (hst : St 0 s.heap) (hJo : ∀ i h, St i h → ∃ o, h.get? J = some o) (hDC : @Ne Nat D C) (hJD : @Ne Nat J D) (hJC : @Ne Nat J C)
    (hD : s.heap.get? D = some (lst ys)) (hn : s.heap.Ns C m₂) (hk : m₂ x = some (.str kd t1)) (htp : ∀ q ∈ tps, s.heap.get? q.1 = some q.2 ∧ (@Ne Nat q.1 D) ∧ (@Ne Nat q.1 C) ∧ (@Ne Nat q.1 J)) (hp : PairsOf tps ys ps) (hlen : ys.length + xt.cps.size ≤ 100000)
    (fin : ∀ h' tk' ys' tps' m₃, PairsOf tps' ys' (ps ++ xt.cps.toList.map fun c => (kd, (⟨#[c]⟩ : Str))) → h'.get? D = some (lst ys') → h'.Ns C m₃ → (∀ q ∈ tps', h'.get? q.1 = some q.2 ∧ (@Ne Nat q.1 D) ∧ (@Ne Nat q.1 C) ∧ (q ∈ tps ∨ @LT.lt Nat _ J q.1)) →
      (∀ b o, b ≠ C → b ≠ D → b ≠ J → s.heap.get? b = some o → h'.get? b = some o) → R (.ok .next) { s with heap := h', toks := tk' }) :
    codeAny (model prog w) A (.compLoop (.ListComp (.Tuple [.Name x pe, .Name x₃ pe₃] te tpe) [⟨target, iter, [], 0⟩, ⟨.Name x₃ p₃, iter', [], 0⟩] scope pos) 1 (.ref J) (.ref D) (compEnvC scope cl C env)) R s := by
  have hlx : xt.cps.toList.length = xt.cps.size := Array.length_toList
  refine codeAny_loop rfl (fun k s' => ∃ h' tk i ys' tps' m', s' = { s with heap := h', toks := tk } ∧ i ≤ xt.cps.size ∧ k = xt.cps.size + 1 - i ∧ St i h' ∧ h'.get? D = some (lst ys') ∧ h'.Ns C m' ∧ m' x = some (.str kd t1) ∧
      (∀ q ∈ tps', h'.get? q.1 = some q.2 ∧ (@Ne Nat q.1 D) ∧ (@Ne Nat q.1 C) ∧ (@Ne Nat q.1 J) ∧ (q ∈ tps ∨ @LT.lt Nat _ J q.1)) ∧ (∀ b o, b ≠ C → b ≠ D → b ≠ J → s.heap.get? b = some o → h'.get? b = some o) ∧
      PairsOf tps' ys' (ps ++ (xt.cps.toList.take i).map fun c => (kd, (⟨#[c]⟩ : Str))) ∧ ys'.length = ys.length + i) ?_ (xt.cps.size + 1)
    ⟨s.heap, s.toks, 0, ys, tps, m₂, rfl, Nat.zero_le _, rfl, hst, hD, hn, hk, fun q hq => ⟨(htp q hq).1, (htp q hq).2.1, (htp q hq).2.2.1, (htp q hq).2.2.2, .inl hq⟩, fun _ _ _ _ _ e => e, by simpa using hp, rfl⟩
  rintro k s' ⟨h', tk, i, ys', tps', m', rfl, hi, rfl, hst', hD', hn', hk', htp', old', hp', hyl⟩
  show wpAny _ A ((compTurn _ 1 (.ref J) (.ref D) (compEnvC scope cl C env)).onRaise (fun x => do noteFrame x (compEnvC scope cl C env); theTreesLotGoes x)) _ _ _
  refine wpAny_noted ?_
  rw [compTurn_in]
  refine wpAny_bind (wpAny_standAt (wpAny_bind ?_))
  by_cases hlt : i < xt.cps.size
  · refine W.item i _ _ _ hlt hst' fun v h₁ tk₁ hPv hst₁ hk₁ => ?_
    obtain ⟨c, u, hc, rfl⟩ := hPv
    have up1 : ∀ b o, b ≠ J → h'.get? b = some o → h₁.get? b = some o := fun b o hb e => hk₁ b o (by simpa using hb) e
    refine wpAny_bind (wpAny_of_eq (a := ()) rfl (wpAny_bind (wpAny_assign_Name (wpAny_storeName_local (lookup_relabel_local hx₃) (hn'.at' fun o e => up1 C o (Ne.symm hJC) e) (fun h₂ hn₂ hs₂ => ?_) (by simp [compEnvC, relabel, hkind])))))
    have up2 : ∀ b o, b ≠ C → h₁.get? b = some o → h₂.get? b = some o := fun b o hb e => hs₂.extBut b o hb e
    refine wpAny_bind (wpAny_bind (wpAny_Tuple (spliced_more (name_in hkind hx hn₂ (by rw [if_neg hxx]; exact hk') (spliced_more (name_in hkind hx₃ hn₂ (by rw [if_pos rfl]) (spliced_none ⟨(by show 2 ≤ sizeLine; decide), ?_⟩) hdx₃)) hdx))))
    generalize hT : h₂.objs.size = T
    have hTn : ∀ b o, h₂.get? b = some o → @LT.lt Nat _ b T := fun b o e => hT ▸ Heap.lt_size e
    generalize hH3 : h₂.push { cls := .type "tuple", data := .seq [Value.str kd t1, Value.str ⟨#[c]⟩ u].toArray } = h₃
    have up3 : ∀ b o, h₂.get? b = some o → h₃.get? b = some o := fun b o e => by
      rw [← hH3]; exact Heap.get?_push_of_some _ e
    have hT3 : h₃.get? T = some { cls := .type "tuple", data := .seq [Value.str kd t1, Value.str ⟨#[c]⟩ u].toArray } := by
      rw [← hH3, ← hT]; exact Heap.get?_push_size _ rfl
    have hD3 : h₃.get? D = some (lst ys') := up3 _ _ (up2 _ _ hDC (up1 _ _ (Ne.symm hJD) hD'))
    obtain ⟨oJ, hJ1⟩ := hJo _ _ hst₁
    have hJ2 : h₂.get? J = some oJ := up2 _ _ hJC hJ1
    have hDT := hTn D _ (up2 _ _ hDC (up1 _ _ (Ne.symm hJD) hD'))
    have hJT := hTn J _ hJ2
    have hCT : @LT.lt Nat _ C T := by
      obtain ⟨oC, eC, _⟩ := ns_obj hn₂
      exact hTn C _ eC
    refine wpAny_bind (append_lst hD3 (by omega) fun h₄ hs₄ hD₄ => wpAny_pure (wpAny_pure ⟨rfl, xt.cps.size + 1 - (i + 1), by omega, h₄, _, i + 1, ys' ++ [.ref T], (T, { cls := .type "tuple", data := .seq [Value.str kd t1, Value.str ⟨#[c]⟩ u].toArray }) :: tps', (fun y => if y = x₃ then some (.str ⟨#[c]⟩ u) else m' y), rfl, hlt, rfl, ?_, hD₄, ?_, ?_, ?_, ?_, ?_, ?_⟩))
    · have st2 : St (i + 1) h₂ := W.frame _ _ _ hst₁ fun b hb o e => up2 b o (by rw [List.mem_singleton.mp hb]; exact hJC) e
      have st3 : St (i + 1) h₃ := W.frame _ _ _ st2 fun b hb o e => up3 b o e
      exact W.frame _ _ _ st3 fun b hb o e => hs₄.extBut b o (by rw [List.mem_singleton.mp hb]; exact hJD) e
    · exact (hn₂.at' fun o e => up3 C o e).sameBut hs₄ (Ne.symm hDC)
    · simp only [if_neg hxx]; exact hk'
    · intro q hq
      rcases List.mem_cons.mp hq with rfl | hq
      · exact ⟨hs₄.extBut _ _ (Nat.ne_of_gt hDT) hT3, Nat.ne_of_gt hDT, Nat.ne_of_gt hCT, Nat.ne_of_gt hJT, .inr hJT⟩
      · obtain ⟨q1, q2, q3, q4, q5⟩ := htp' q hq
        exact ⟨hs₄.extBut _ _ q2 (up3 _ _ (up2 _ _ q3 (up1 _ _ q4 q1))), q2, q3, q4, q5⟩
    · intro b o b1 b2 b3 e
      exact hs₄.extBut _ _ b2 (up3 _ _ (up2 _ _ b1 (up1 _ _ b3 (old' b o b1 b2 b3 e))))
    · have hc' : xt.cps.toList[i]? = some c := by simpa using hc
      have htake : xt.cps.toList.take (i + 1) = xt.cps.toList.take i ++ [c] := by rw [List.take_add_one, hc']; rfl
      rw [htake, List.map_append, ← List.append_assoc]
      exact (hp'.sub fun q hq => List.mem_cons_of_mem _ hq).app (.one ⟨T, _, _, t1, u, rfl, List.mem_cons_self .., rfl, rfl⟩)
    · rw [List.length_append, List.length_singleton, hyl]; omega
  · have e : i = xt.cps.size := by omega
    subst e
    refine W.done _ _ _ hst' fun h₁ tk₁ hk₁ => wpAny_pure ?_
    have up1 : ∀ b o, b ≠ J → h'.get? b = some o → h₁.get? b = some o := fun b o hb e => hk₁ b o (by simpa using hb) e
    rw [← hlx, List.take_length] at hp'
    refine fin h₁ tk₁ ys' tps' m' hp' (up1 _ _ (Ne.symm hJD) hD') (hn'.at' fun o e => up1 C o (Ne.symm hJC) e) (fun q hq => ?_) fun b o b1 b2 b3 e => up1 _ _ b3 (old' b o b1 b2 b3 e)
    obtain ⟨q1, q2, q3, q4, q5⟩ := htp' q hq
    exact ⟨up1 _ _ q4 q1, q2, q3, q5⟩
end
end Mine
end
section
open PySem PySem.W PyProof.Rows PySem.Calls PyProof.Rows.LCg
set_option Elab.async false
set_option maxRecDepth 100000
set_option autoImplicit false
namespace Mine
def flat (ps : List (Str × Str)) : List (Str × Str) := ps.flatMap fun p => p.2.cps.toList.map fun c => (p.1, (⟨#[c]⟩ : Str))
theorem flat_take {ps : List (Str × Str)} {i : Nat} {p : Str × Str} (h : ps[i]? = some p) : flat (ps.take (i + 1)) = flat (ps.take i) ++ p.2.cps.toList.map fun c => (p.1, (⟨#[c]⟩ : Str)) := by
  unfold flat
  rw [List.take_add_one, h, List.flatMap_append]
  simp
theorem flat_le (ps : List (Str × Str)) (i : Nat) : (flat (ps.take i)).length ≤ (flat ps).length := by
  have e : flat ps = flat (ps.take i) ++ flat (ps.drop i) := by
    unfold flat
    rw [← List.flatMap_append, List.take_append_drop]
  rw [e, List.length_append]
  omega
section
variable {prog : Program} {w : World} {A : Around} {E : Value → Shared → Prop} {s : Shared} {env : Env} {h₀ : Heap} {L : Addr} {m : Str → Option Value}
/-- the pairs that a comprehension runs over -/
def SrcPairs (h₀ : Heap) (L : Addr) (m : Str → Option Value) (bound : List (Str × Str) → Nat) (Fin : List (Str × Str) → List (Addr × Obj) → Shared → Prop) (xv : Value) (s₁ : Shared) : Prop :=
  ∃ ax vs ps news, xv = .ref ax ∧ Fr h₀ L s₁.heap m ∧ News h₀ L s₁.heap news ∧ s₁.heap.IsList ax vs.toArray ∧ PairsOf news vs ps ∧ bound ps ≤ 2000 ∧ Fin ps news s₁
theorem SrcPairs.intro {bound : List (Str × Str) → Nat} {Fin : List (Str × Str) → List (Addr × Obj) → Shared → Prop} {ax : Addr} {vs : List Value} {ps : List (Str × Str)} {news : List (Addr × Obj)} {s₁ : Shared} (F : Fr h₀ L s₁.heap m) (N : News h₀ L s₁.heap news) (hl : s₁.heap.IsList ax vs.toArray) (hp : PairsOf news vs ps) (hb : bound ps ≤ 2000) (h : Fin ps news s₁) :
    SrcPairs h₀ L m bound Fin (.ref ax) s₁ := ⟨ax, vs, ps, news, rfl, F, N, hl, hp, hb, h⟩
theorem StrsAre.snoc {ys : List Value} {l : List Str} {y : Str} {t : Tok} (h : StrsAre ys l) : StrsAre (ys ++ [.str y t]) (l ++ [y]) := h.append' (.cons _ _ .nil)
/-- [sign for kind, sign in pairs] -/
theorem ListComp_snd {iter : Expr} {x x₂ : Str} {px px₂ tp pe : Pos} {tk : Nat} {scope : Scope} {cl : List (Str × Addr)} {pos : Pos} {Q : Value → Shared → Prop} (_F₀ : Fr h₀ L s.heap m) (hh : A.handled = none)
    (hclos : closureFor scope env = pure cl) (hcell : ∀ y ∈ scope.names, y.2 ≠ .cell) (hkind : scope.kind = .function) (hnames : ∀ y ∈ scope.names, y.2 = .local → scope.names.lookup y.1 = some .local)
    (hx : scope.names.lookup x = some .local) (hx₂ : scope.names.lookup x₂ = some .local) (hxx : x ≠ x₂) (hdx₂ : (x₂ == ("__debug__" : Str)) = false)
    (h : wpAny (model prog w) A (eval iter env) (SrcPairs h₀ L m List.length fun ps news s₁ => ∀ D ys h tk, StrsAre ys (ps.map (·.2)) → ys.length ≤ 2000 → Fr h₀ L h m → News h₀ L h ((D, lst ys) :: news) → Q (.ref D) { s₁ with heap := h, toks := tk }) E s)
    (hs : ∀ x, foldedSetIterable iter env x = pure x := by intro _; rfl) :
    wpAny (model prog w) A (eval (.ListComp (.Name x₂ pe) [⟨pairT x x₂ px px₂ tp tk, iter, [], 0⟩] scope pos) env) Q E s := by
  rw [eval_ListComp]
  refine wpAny_comprehension_free (use := none) rfl hs hclos hkind hnames (wpAny_mono h (fun xv s₁ h₁ => ?_) fun _ _ e => e)
  obtain ⟨ax, vs, ps, news, rfl, F, N, hl, hp, hb, fin⟩ := h₁
  refine pairs_block (fun i ys tps => tps = [] ∧ StrsAre ys ((ps.take i).map (·.2))) loopOf_plain hcell hkind hx hx₂ hxx hh F N hl hp ⟨rfl, .nil⟩ ?_ ?_
  · rintro i p t1 t2 ys tps C D m₂ s₂ hi ⟨rfl, hy⟩ hD hn e1 e2 hDC htp Nx nx
    refine name_in hkind hx₂ hn e2 (append_lst hD (by rw [hy.length, List.length_map, List.length_take]; omega) fun h' hs' hD' => ?_) hdx₂
    refine nx (ys ++ [.str p.2 t2]) [] m₂ h' s₂.toks ⟨rfl, ?_⟩ hD' (hn.sameBut hs' (Ne.symm hDC)) (fun _ hq => nomatch hq) fun b o b1 b2 e => hs'.extBut b o b2 e
    rw [List.take_add_one, hi, List.map_append]
    exact StrsAre.snoc hy
  · rintro D C h tk m' ys tps ⟨rfl, hy⟩ F' N' hn hC₀ hD₀ hCL hDL hCD off
    rw [List.take_length] at hy
    refine ⟨m', hn, fun h'' hs'' => fin D ys h'' tk hy (by rw [hy.length, List.length_map]; exact hb) (F'.change hs'' hCL hC₀) fun p hp => ?_⟩
    refine ⟨hs''.extBut _ _ ?_ (N' p hp).1, (N' p hp).2⟩
    rcases List.mem_cons.mp hp with rfl | hp
    · exact Ne.symm hCD
    · exact off p hp
/-- [sign for kind, sign in pairs if kind == key] -/
theorem ListComp_fig {iter : Expr} {x x₂ key : Str} {px px₂ tp pe pc pk pp : Pos} {tk kk : Nat} {scope : Scope} {cl : List (Str × Addr)} {pos : Pos} {Q : Value → Shared → Prop} (_F₀ : Fr h₀ L s.heap m) (hh : A.handled = none)
    (hclos : closureFor scope env = pure cl) (hcell : ∀ y ∈ scope.names, y.2 ≠ .cell) (hkind : scope.kind = .function) (hnames : ∀ y ∈ scope.names, y.2 = .local → scope.names.lookup y.1 = some .local)
    (hx : scope.names.lookup x = some .local) (hx₂ : scope.names.lookup x₂ = some .local) (hxx : x ≠ x₂) (hdx : (x == ("__debug__" : Str)) = false) (hdx₂ : (x₂ == ("__debug__" : Str)) = false)
    (h : wpAny (model prog w) A (eval iter env) (SrcPairs h₀ L m List.length fun ps news s₁ => ∀ D ys h tk, StrsAre ys ((ps.filter fun p => p.1 == key).map (·.2)) → ys.length ≤ 2000 → Fr h₀ L h m → News h₀ L h ((D, lst ys) :: news) → Q (.ref D) { s₁ with heap := h, toks := tk }) E s)
    (hs : ∀ x, foldedSetIterable iter env x = pure x := by intro _; rfl) :
    wpAny (model prog w) A (eval (.ListComp (.Name x₂ pe) [⟨pairT x x₂ px px₂ tp tk, iter, [.Compare (.Name x pc) [.Eq] [.Constant (.str key) kk pk] pp], 0⟩] scope pos) env) Q E s := by
  rw [eval_ListComp]
  refine wpAny_comprehension_free (use := none) rfl hs hclos hkind hnames (wpAny_mono h (fun xv s₁ h₁ => ?_) fun _ _ e => e)
  obtain ⟨ax, vs, ps, news, rfl, F, N, hl, hp, hb, fin⟩ := h₁
  have few : ∀ {ys : List Value} {i : Nat}, StrsAre ys (((ps.take i).filter fun p => p.1 == key).map (·.2)) → ys.length ≤ 2000 := fun hy => by
    rw [hy.length, List.length_map]
    exact Nat.le_trans (List.length_filter_le ..) (by rw [List.length_take]; omega)
  refine pairs_block (fun i ys tps => tps = [] ∧ StrsAre ys (((ps.take i).filter fun p => p.1 == key).map (·.2))) loopOf_test hcell hkind hx hx₂ hxx hh F N hl hp ⟨rfl, .nil⟩ ?_ ?_
  · rintro i p t1 t2 ys tps C D m₂ s₂ hi ⟨rfl, hy⟩ hD hn e1 e2 hDC htp Nx nx
    refine wpAny_isTrue_Compare1 (name_in hkind hx hn e1 (Calls.Constant_str (PyProof.Rows.eq_str (wpAny_truthy_bool ?_))) hdx)
    cases q : p.1 == key with
    | true =>
      simp only [if_true]
      refine name_in hkind hx₂ hn e2 (append_lst hD (by have := few hy; omega) fun h' hs' hD' => ?_) hdx₂
      refine nx (ys ++ [.str p.2 t2]) [] m₂ h' _ ⟨rfl, ?_⟩ hD' (hn.sameBut hs' (Ne.symm hDC)) (fun _ hq => nomatch hq) fun b o b1 b2 e => hs'.extBut b o b2 e
      rw [List.take_add_one, hi, List.filter_append, List.map_append]
      simp only [Option.toList_some, List.filter_cons, q, if_true, List.filter_nil, List.map_cons, List.map_nil]
      exact StrsAre.snoc hy
    | false =>
      simp only [Bool.false_eq_true, if_false]
      refine nx ys [] m₂ s₂.heap _ ⟨rfl, ?_⟩ hD hn (fun _ hq => nomatch hq) fun b o b1 b2 e => e
      rw [List.take_add_one, hi, List.filter_append, List.map_append]
      simp only [Option.toList_some, List.filter_cons, q, Bool.false_eq_true, if_false, List.filter_nil, List.map_nil, List.append_nil]
      exact hy
  · rintro D C h tk m' ys tps ⟨rfl, hy⟩ F' N' hn hC₀ hD₀ hCL hDL hCD off
    have hl2 := few hy
    rw [List.take_length] at hy
    refine ⟨m', hn, fun h'' hs'' => fin D ys h'' tk hy hl2 (F'.change hs'' hCL hC₀) fun p hp => ?_⟩
    refine ⟨hs''.extBut _ _ ?_ (N' p hp).1, (N' p hp).2⟩
    rcases List.mem_cons.mp hp with rfl | hp
    · exact Ne.symm hCD
    · exact off p hp
/-- name = [(kind, sign) for kind, text in parts for sign in text] -/
theorem Assign_nest {iter : Expr} {x x₂ x₃ y : Str} {px px₂ p₃ tp pe pe₃ pi tpe py : Pos} {tk te : Nat} {scope : Scope} {cl : List (Str × Addr)} {pos spos : Pos} {Q : Flow → Shared → Prop} (_F₀ : Fr h₀ L s.heap m) (hh : A.handled = none) (hLe : env.locals = L)
    (hsw : swapsWith (.ListComp (.Tuple [.Name x pe, .Name x₃ pe₃] te tpe) [⟨pairT x x₂ px px₂ tp tk, iter, [], 0⟩, ⟨.Name x₃ p₃, .Name x₂ pi, [], 0⟩] scope pos) (some (.Name y py)) spos.line env = pure true)
    (hclos : closureFor scope env = pure cl) (hcell : ∀ y ∈ scope.names, y.2 ≠ .cell) (hkind : scope.kind = .function) (hnames : ∀ y ∈ scope.names, y.2 = .local → scope.names.lookup y.1 = some .local)
    (hx : scope.names.lookup x = some .local) (hx₂ : scope.names.lookup x₂ = some .local) (hx₃ : scope.names.lookup x₃ = some .local) (hxx : x ≠ x₂) (hxx₃ : x ≠ x₃) (hdx : (x == ("__debug__" : Str)) = false) (hdx₂ : (x₂ == ("__debug__" : Str)) = false) (hdx₃ : (x₃ == ("__debug__" : Str)) = false)
    (hy : env.kindOf y = some .local) (hp₀ : (env.scope.kind == .class || (env.scope.kind == .module && env.locals != env.globals)) = false)
    (h : wpAny (model prog w) A (eval iter env) (SrcPairs h₀ L m (fun ps => (flat ps).length) fun ps news s₁ => ∀ D ys tps h tk, PairsOf tps ys (flat ps) → Fr h₀ L h (fun z => if z = y then some (.ref D) else m z) → News h₀ L h ((D, lst ys) :: (tps ++ news)) → Q .next { s₁ with heap := h, toks := tk }) E s)
    (hs : ∀ x, foldedSetIterable iter env x = pure x := by intro _; rfl) :
    wpAny (model prog w) A (exec (.Assign [.Name y py] (.ListComp (.Tuple [.Name x pe, .Name x₃ pe₃] te tpe) [⟨pairT x x₂ px px₂ tp tk, iter, [], 0⟩, ⟨.Name x₃ p₃, .Name x₂ pi, [], 0⟩] scope pos) spos) env) Q E s := by
  subst hLe
  rw [exec_Assign_Name_used _ _ _ _ hsw]
  refine wpAny_bind (wpAny_standAt (wpAny_bind ?_))
  show wpAny _ A (do let _ ← comprehension (.ListComp (.Tuple [.Name x pe, .Name x₃ pe₃] te tpe) [⟨pairT x x₂ px px₂ tp tk, iter, [], 0⟩, ⟨.Name x₃ p₃, .Name x₂ pi, [], 0⟩] scope pos) scope env _ (newList []) false (eval iter env) (some (assign (.Name y py) env))) _ _ s
  refine wpAny_bind (wpAny_mono (wpAny_comprehension_free (use := some (assign (.Name y py) env)) (Q := fun _ s' => Q .next s') rfl hs hclos hkind hnames
    (wpAny_mono h (fun xv s₁ h₁ => ?_) fun _ _ e => e)) (fun _ s' hq => wpAny_pure (wpAny_pure hq)) fun _ _ e => e)
  obtain ⟨ax, vs, ps, news, rfl, F, N, hl, hp, hb, fin⟩ := h₁
  refine pairs_block (fun i ys tps => PairsOf tps ys (flat (ps.take i))) (loopOf_nest fun _ _ => rfl) hcell hkind hx hx₂ hxx hh F N hl hp .nil ?_ ?_
  · rintro i p t1 t2 ys tps C D m₂ s₂ hi hJ hD hn e1 e2 hDC htp Nx nx
    have hle := flat_le ps (i + 1)
    have lc : p.2.cps.toList.length = p.2.cps.size := Array.length_toList
    rw [flat_take hi, List.length_append, List.length_map, lc, ← hJ.len] at hle
    have hb' : (flat ps).length ≤ 2000 := hb
    refine name_in hkind hx₂ hn e2 ?_ hdx₂
    have hm : (A.mark none).handled = none := hh
    have up : ∀ o b o', s₂.heap.get? b = some o' → (s₂.heap.push o).get? b = some o' := fun o b o' e => Heap.get?_push_of_some _ e
    have lt : ∀ b o', s₂.heap.get? b = some o' → @LT.lt Nat _ b s₂.heap.objs.size := fun b o' e => Heap.lt_size e
    have hCs : @LT.lt Nat _ C s₂.heap.objs.size := by
      obtain ⟨oC, eC, _⟩ := ns_obj hn
      exact lt C _ eC
    suffices main : ∀ (o : Obj) (cls : String), Walks prog w (A.mark none) s₂.heap.objs.size [s₂.heap.objs.size] [s₂.heap.objs.size] p.2.cps.size (SignAt p.2) (fun i h => h.IsStrIter s₂.heap.objs.size cls p.2 t2 i) → (s₂.heap.push o).IsStrIter s₂.heap.objs.size cls p.2 t2 0 →
        codeAny (model prog w) (A.mark none) (.compStart (.ListComp (.Tuple [.Name x pe, .Name x₃ pe₃] te tpe) [⟨pairT x x₂ px px₂ tp tk, iter, [], 0⟩, ⟨.Name x₃ p₃, .Name x₂ pi, [], 0⟩] scope pos) 1 (.ref s₂.heap.objs.size) (.ref D) (compEnvC scope cl C env)) (fun r s' => match r with | .ok _ => Nx s' | .error _ => False) { s₂ with heap := s₂.heap.push o } by
      cases ha : p.2.cps.all (· < 128)
      · exact wpAny_pyIter_wide ha (main _ _ (Walks.strWide hm _ p.2 t2) ⟨_, Heap.get?_push_size _ rfl, rfl, rfl⟩)
      · exact wpAny_pyIter_ascii ha (main _ _ (Walks.strAscii hm _ p.2 t2) ⟨_, Heap.get?_push_size _ rfl, rfl, rfl⟩)
    intro o cls W hst
    have L1 : codeAny (model prog w) (A.mark none) (.compLoop (.ListComp (.Tuple [.Name x pe, .Name x₃ pe₃] te tpe) [⟨pairT x x₂ px px₂ tp tk, iter, [], 0⟩, ⟨.Name x₃ p₃, .Name x₂ pi, [], 0⟩] scope pos) 1 (.ref s₂.heap.objs.size) (.ref D) (compEnvC scope cl C env)) (fun r s' => match r with | .ok _ => Nx s' | .error _ => False) { s₂ with heap := s₂.heap.push o } := by
      refine nest_in (s := { s₂ with heap := s₂.heap.push o }) (tx := t2) hkind hx hx₃ hxx₃ hdx hdx₃ W hst (fun i h st => by obtain ⟨o, e, _⟩ := st; exact ⟨o, e⟩) hDC (Nat.ne_of_gt (lt D _ hD)) (Nat.ne_of_gt hCs) (up _ _ _ hD) (hn.at' fun o' e => up _ _ _ e) e1 (fun q hq => ⟨up _ _ _ (htp q hq).1, (htp q hq).2.1, (htp q hq).2.2, Nat.ne_of_lt (lt _ _ (htp q hq).1)⟩) hJ (by omega) ?_
      intro h' tk' ys' tps' m₃ hp' hD' hn' htp'' old'
      refine nx ys' tps' m₃ h' tk' (by rw [flat_take hi]; exact hp') hD' hn' (fun q hq => ?_) fun b o' b1 b2 e => old' b o' b1 b2 (Nat.ne_of_lt (lt b _ e)) (up _ _ _ e)
      obtain ⟨q1, q2, q3, q4⟩ := htp'' q hq
      exact ⟨q1, q2, q3, q4.imp id Nat.le_of_lt⟩
    exact start_in L1 (W.self 0 _ _ _ hst L1)
  · rintro D C h' tk m' ys tps hJ F' N' hn hC₀ hD₀ hCL hDL hCD off
    rw [List.take_length] at hJ
    show wpAny _ A (assign (.Name y py) env (.ref D)) _ _ _
    refine wpAny_assign_Name (wpAny_storeName_local hy F'.ns (fun h₂ hn₂ hs₂ => ?_) hp₀)
    have hL₀ : h₀.get? env.locals = none := Heap.get?_none_of_le F'.above
    have F₂ : Fr h₀ env.locals h₂ (fun z => if z = y then some (.ref D) else m z) := ⟨hn₂, fun b o e => hs₂.extBut b o (fun q => by rw [q, hL₀] at e; cases e) (F'.keep b o e), F'.above⟩
    refine ⟨m', hn.sameBut hs₂ hCL, fun h'' hs'' => fin D ys tps h'' _ hJ (F₂.change hs'' hCL hC₀) fun p hp => ?_⟩
    have z : h₂.get? p.1 = some p.2 := hs₂.extBut _ _ (N' p hp).2.1 (N' p hp).1
    refine ⟨hs''.extBut _ _ ?_ z, (N' p hp).2⟩
    rcases List.mem_cons.mp hp with rfl | hp
    · exact Ne.symm hCD
    · exact off p hp
end
end Mine
end
section
open PySem PySem.W PyProof.Rows PySem.Calls PyProof.Rows.LCg PySem.NumText
set_option Elab.async false
set_option maxRecDepth 100000
set_option autoImplicit false
namespace Mine
/-! ## signs of law 3 -/
def up (sl : List (Str × Nat)) : List (Str × Str) := sl.map fun p => (p.1, (⟨#[p.2]⟩ : Str))
def codes (sl : List (Str × Nat)) : List Nat := sl.map (·.2)
def change {α : Type} (l : List α) (k t : Nat) : List α := l.take k ++ (match l[k]? with | some a => List.replicate t a | none => []) ++ l.drop (k + 1)
def seg (k : Str) (l : List Nat) : List (Str × Nat) := l.map fun c => (k, c)
abbrev kCode : Str := Str.ofString "code"
abbrev kWord : Str := Str.ofString "word"
abbrev kOpen : Str := Str.ofString "open"
abbrev kMark : Str := Str.ofString "mark"
abbrev kFig : Str := Str.ofString "figure"
abbrev kClose : Str := Str.ofString "close"
def sgn (m : Nat) (f1 f2 d : List Nat) : List (Str × Nat) :=
  seg kCode [50, 50, 57] ++ (seg kWord [32, 120] ++ (seg kOpen [40] ++ (seg kMark [m] ++ (seg kWord f1 ++ (seg kMark [m] ++ (seg kWord f2 ++ (seg kMark [m] ++ (seg kFig d ++ (seg kMark [m] ++ (seg kClose [41] ++ seg kWord [32, 101, 110, 100]))))))))))
structure MarkN (m : Nat) : Prop where
  shut : m ≠ 41
  op : m ≠ 40
  digit : ¬ (48 ≤ m ∧ m ≤ 57)
  is : m = 124 ∨ m = 33 ∨ m = 43 ∨ m = 126
structure FieldN (f : List Nat) : Prop where
  few : f.length ≤ 3
  ok : ∀ c ∈ f, c = 49 ∨ c = 58 ∨ c = 97 ∨ c = 32 ∨ c = 98
structure DigN (d : List Nat) (n : Int) : Prop where
  all : ∀ c ∈ d, 48 ≤ c ∧ c ≤ 57
  ne : d ≠ []
  few : d.length ≤ 20
  reads : PySem.intText? ⟨d.toArray⟩ = some n
structure SignsT (sl : List (Str × Nat)) (n : Int) : Prop where
  is : ∃ m f1 f2 d, MarkN m ∧ FieldN f1 ∧ FieldN f2 ∧ DigN d n ∧ sl = sgn m f1 f2 d
/-- the texts that the law writes -/
structure MarkT (x : Str) : Prop where
  is : ∃ m, x = ⟨#[m]⟩ ∧ MarkN m
structure FieldT (x : Str) : Prop where
  is : FieldN x.cps.toList
structure PortT (x : Str) (n : Int) : Prop where
  is : DigN x.cps.toList n
theorem flat_up (ps : List (Str × Str)) : flat ps = up (ps.flatMap fun p => seg p.1 p.2.cps.toList) := by
  unfold flat up seg
  rw [List.map_flatMap]
  congr 1
  funext p
  rw [List.map_map]
  rfl
theorem signs_of {mk f1 f2 fs : Str} {n : Int} (hm : MarkT mk) (h1 : FieldT f1) (h2 : FieldT f2) (h3 : PortT fs n) :
    ∃ sl, SignsT sl n ∧ flat [(Str.ofString "code", Str.ofString "229"), (Str.ofString "word", Str.ofString " x"), (Str.ofString "open", Str.ofString "("), (Str.ofString "mark", mk), (Str.ofString "word", f1), (Str.ofString "mark", mk), (Str.ofString "word", f2), (Str.ofString "mark", mk), (Str.ofString "figure", fs), (Str.ofString "mark", mk), (Str.ofString "close", Str.ofString ")"), (Str.ofString "word", Str.ofString " end")] = up sl := by
  obtain ⟨m, rfl, hm'⟩ := hm.is
  refine ⟨_, ⟨m, _, _, _, hm', h1.is, h2.is, h3.is, rfl⟩, ?_⟩
  rw [flat_up]
  have e1 : (Str.ofString "229").cps.toList = [50, 50, 57] := by decide +kernel
  have e2 : (Str.ofString " x").cps.toList = [32, 120] := by decide +kernel
  have e3 : (Str.ofString "(").cps.toList = [40] := by decide +kernel
  have e4 : (Str.ofString ")").cps.toList = [41] := by decide +kernel
  have e5 : (Str.ofString " end").cps.toList = [32, 101, 110, 100] := by decide +kernel
  simp only [List.flatMap_cons, List.flatMap_nil, List.append_nil, e1, e2, e3, e4, e5]
  rfl
theorem sgn_len {m : Nat} {f1 f2 d : List Nat} : (sgn m f1 f2 d).length = 15 + f1.length + f2.length + d.length := by
  simp only [sgn, seg, List.length_append, List.length_map, List.length_cons, List.length_nil]
  omega
theorem SignsT.few {sl : List (Str × Nat)} {n : Int} (h : SignsT sl n) : sl.length ≤ 60 := by
  obtain ⟨m, f1, f2, d, hm, h1, h2, h3, rfl⟩ := h.is
  rw [sgn_len]
  have := h1.few
  have := h2.few
  have := h3.few
  omega
theorem SignsT.plain {sl : List (Str × Nat)} {n : Int} (h : SignsT sl n) : Plain (codes sl) := by
  obtain ⟨m, f1, f2, d, hm, h1, h2, h3, rfl⟩ := h.is
  intro c hc
  unfold codes at hc
  obtain ⟨p, hp, rfl⟩ := List.mem_map.mp hc
  have key : ∀ {k : Str} {l : List Nat}, p ∈ seg k l → p.2 ∈ l := fun h => by
    obtain ⟨c', hc', e⟩ := List.mem_map.mp h
    rw [← e]
    exact hc'
  simp only [sgn, List.mem_append] at hp
  rcases hp with h | h | h | h | h | h | h | h | h | h | h | h <;> have := key h <;> (try simp only [List.mem_cons, List.not_mem_nil, or_false] at this)
  · omega
  · omega
  · omega
  · have := hm.is; omega
  · have := h1.ok _ this; omega
  · have := hm.is; omega
  · have := h2.ok _ this; omega
  · have := hm.is; omega
  · have := h3.all _ this; omega
  · have := hm.is; omega
  · omega
  · omega
theorem change_sub {α : Type} {l : List α} {k t : Nat} : ∀ a ∈ change l k t, a ∈ l := by
  intro a ha
  unfold change at ha
  rcases List.mem_append.mp ha with ha | ha
  · rcases List.mem_append.mp ha with ha | ha
    · exact List.mem_of_mem_take ha
    · split at ha
      · rename_i b hb
        rw [(List.mem_replicate.mp ha).2]
        exact List.mem_of_getElem? hb
      · cases ha
  · exact List.mem_of_mem_drop ha
theorem change_len {α : Type} {l : List α} {k t : Nat} (ht : t ≤ 2) : (change l k t).length ≤ l.length + 2 := by
  unfold change
  rw [List.length_append, List.length_append, List.length_take, List.length_drop]
  split
  · rw [List.length_replicate]; omega
  · rw [List.length_nil]; omega
theorem change_map {α β : Type} (f : α → β) (l : List α) (k t : Nat) : change (l.map f) k t = (change l k t).map f := by
  unfold change
  rw [List.map_append, List.map_append, List.map_take, List.map_drop, List.getElem?_map]
  cases l[k]? with
  | none => rfl
  | some a => simp
theorem up_change (sl : List (Str × Nat)) (k t : Nat) : up (change sl k t) = change (up sl) k t := (change_map _ sl k t).symm
theorem up_snd (sl : List (Str × Nat)) : (up sl).map (·.2) = (codes sl).map fun c => (⟨#[c]⟩ : Str) := by
  unfold up codes
  rw [List.map_map, List.map_map]; rfl
theorem up_filter (key : Str) (sl : List (Str × Nat)) : (up sl).filter (fun p => p.1 == key) = up (sl.filter fun p => p.1 == key) := by
  unfold up
  rw [List.filter_map]; rfl
theorem up_len (sl : List (Str × Nat)) : (up sl).length = sl.length := List.length_map _
theorem codes_len (sl : List (Str × Nat)) : (codes sl).length = sl.length := List.length_map _
/-- the changed list's pairs -/
theorem pairs_change {news : List (Addr × Obj)} {ys : List Value} {sl : List (Str × Nat)} {i : Nat} {v : Value} (h : PairsOf news ys (up sl)) (hv : ys[i]? = some v) (t : Nat) :
    PairsOf news (ys.take i ++ List.replicate t v ++ ys.drop (i + 1)) (up (change sl i t)) := by
  rw [up_change]
  have hi : i < ys.length := (List.getElem?_eq_some_iff.mp hv).1
  have hi' : i < (up sl).length := by rw [← h.len]; exact hi
  unfold change
  rw [List.getElem?_eq_getElem hi']
  refine ((h.take i).app ?_).app (h.drop (i + 1))
  refine ⟨by rw [List.length_replicate, List.length_replicate], fun j v' p a b => ?_⟩
  rw [List.getElem?_replicate] at a b
  split at a
  · rename_i hj
    rw [if_pos hj] at b
    rw [← Option.some.inj a, ← Option.some.inj b]
    exact h.at_ i v _ hv (List.getElem?_eq_getElem hi')
  · cases a
section
variable {prog : Program} {w : World} {A : Around} {E : Value → Shared → Prop} {s : Shared} {h₀ : Heap} {L : Addr} {m : Str → Option Value} {news : List (Addr × Obj)} {value slice : Expr}
/-- after the nested comprehension: the ledger as a whole -/
theorem pack {tps news : List (Addr × Obj)} {D : Addr} {ys : List Value} {ps : List (Str × Str)} {h : Heap} (hp : PairsOf tps ys ps) (N : News h₀ L h ((D, lst ys) :: (tps ++ news))) :
    ∃ all, PairsOf all ys ps ∧ (∀ q ∈ news, q ∈ all) ∧ News h₀ L h ((D, lst ys) :: all) :=
  ⟨tps ++ news, hp.sub fun q hq => List.mem_append_left _ hq, fun q hq => List.mem_append_right _ hq, N⟩
theorem PairsOf.cons' {news : List (Addr × Obj)} {v : Value} {vs : List Value} {ka kb : Str} {ps : List (Str × Str)} (h : ∃ a o n t1 t2, v = .ref a ∧ (a, o) ∈ news ∧ o.cls = .type "tuple" ∧ o.data = .seq #[.str ka t1, .str kb t2] n) (hs : PairsOf news vs ps) : PairsOf news (v :: vs) ((ka, kb) :: ps) :=
  (PairsOf.one (p := (ka, kb)) h).app hs
/-- the parts of a right reply, run over -/
theorem src_signs {ax : Addr} {vs : List Value} {mk f1 f2 fs y : Str} {n : Int} {s₁ : Shared} {Q : Flow → Shared → Prop} (F : Fr h₀ L s₁.heap m) (N : News h₀ L s₁.heap news) (hl : s₁.heap.IsList ax vs.toArray)
    (hp : PairsOf news vs [(Str.ofString "code", Str.ofString "229"), (Str.ofString "word", Str.ofString " x"), (Str.ofString "open", Str.ofString "("), (Str.ofString "mark", mk), (Str.ofString "word", f1), (Str.ofString "mark", mk), (Str.ofString "word", f2), (Str.ofString "mark", mk), (Str.ofString "figure", fs), (Str.ofString "mark", mk), (Str.ofString "close", Str.ofString ")"), (Str.ofString "word", Str.ofString " end")])
    (hm : MarkT mk) (h1 : FieldT f1) (h2 : FieldT f2) (h3 : PortT fs n)
    (fin : ∀ sl D ys all h tk, SignsT sl n → PairsOf all ys (up sl) → (∀ q ∈ news, q ∈ all) → Plain (codes sl) → sl.length ≤ 60 → ys.length = sl.length → Fr h₀ L h (fun z => if z = y then some (.ref D) else m z) → News h₀ L h ((D, lst ys) :: all) → Q .next { s₁ with heap := h, toks := tk }) :
    SrcPairs h₀ L m (fun ps => (flat ps).length) (fun ps news s₁ => ∀ D ys tps h tk, PairsOf tps ys (flat ps) → Fr h₀ L h (fun z => if z = y then some (.ref D) else m z) → News h₀ L h ((D, lst ys) :: (tps ++ news)) → Q .next { s₁ with heap := h, toks := tk }) (.ref ax) s₁ := by
  obtain ⟨sl, S, e⟩ := signs_of hm h1 h2 h3
  refine .intro F N hl hp ?_ fun D ys tps h tk hps F' N' => ?_
  · show (flat _).length ≤ 2000
    rw [e, up_len]
    have := S.few
    omega
  · rw [e] at hps
    obtain ⟨all, p1, p2, p3⟩ := pack hps N'
    exact fin sl D ys all h tk S p1 p2 S.plain S.few (by rw [p1.len, up_len]) F' p3
theorem step_mark {a : Int} {t u : Tok} {Q : Value → Shared → Prop} (h : ∀ y, MarkT y → y.length ≤ 1 → Q (.str y s.toks) { s with toks := s.toks + 1 })
    (hs : subscripted slice false (.str (Str.ofString "|!+~") t) (.int (a.fmod 4) u) = operate [.str (Str.ofString "|!+~") t, .int (a.fmod 4) u] (getItem (.str (Str.ofString "|!+~") t) (.int (a.fmod 4) u)) := by with_unfolding_all rfl)
    (ht : ∀ r, letTemporaryGo value (.str (Str.ofString "|!+~") t) r = pure () := by intro _; with_unfolding_all rfl) :
    wpAny (model prog w) A (subscriptTail value slice (.str (Str.ofString "|!+~") t) (.int (a.fmod 4) u)) Q E s := by
  have lo := fmod_lo a (n := 4) (by decide)
  have hi := fmod_hi a (n := 4) (by decide)
  have hl : (Str.ofString "|!+~").length = 4 := by decide +kernel
  refine item_str (fitsSsize_of (N := 9223372036854775808) (by omega) (by omega) (Int.le_refl _)) (by omega) (by omega) (fun hle => h _ ?_ hle.2) hs ht
  generalize a.fmod 4 = r at *
  have h4 : r = 0 ∨ r = 1 ∨ r = 2 ∨ r = 3 := by omega
  rcases h4 with rfl | rfl | rfl | rfl
  · exact ⟨124, by decide +kernel, by decide, by decide, by decide, by decide⟩
  · exact ⟨33, by decide +kernel, by decide, by decide, by decide, by decide⟩
  · exact ⟨43, by decide +kernel, by decide, by decide, by decide, by decide⟩
  · exact ⟨126, by decide +kernel, by decide, by decide, by decide, by decide⟩
def FieldV (v : Value) : Prop := ∃ x t, v = .str x t ∧ FieldT x ∧ x.length ≤ 3
def fieldB (x : Str) : Bool := x.cps.toList.all (fun c => c == 49 || c == 58 || c == 97 || c == 32 || c == 98) && decide (x.cps.toList.length ≤ 3)
theorem fieldV_of {x : Str} {t : Tok} (h : fieldB x = true) : FieldV (.str x t) := by
  unfold fieldB at h
  rw [Bool.and_eq_true, List.all_eq_true, decide_eq_true_eq] at h
  refine ⟨x, t, rfl, ⟨h.2, fun c hc => ?_⟩, by rw [← len_toList]; exact h.2⟩
  have := h.1 c hc
  simpa [or_assoc] using this
theorem step_field {a : Int} {l : Addr} {v0 v1 v2 v3 : Value} {u : Tok} {Q : Value → Shared → Prop} (hl : s.heap.IsList l [v0, v1, v2, v3].toArray) (h0 : FieldV v0) (h1 : FieldV v1) (h2 : FieldV v2) (h3 : FieldV v3) (h : ∀ y t, FieldT y → y.length ≤ 3 → Q (.str y t) s)
    (hs : subscripted slice false (.ref l) (.int (a.fmod 4) u) = operate [.ref l, .int (a.fmod 4) u] (getItem (.ref l) (.int (a.fmod 4) u)) := by with_unfolding_all rfl)
    (ht : ∀ r, letTemporaryGo value (.ref l) r = pure () := by intro _; with_unfolding_all rfl) :
    wpAny (model prog w) A (subscriptTail value slice (.ref l) (.int (a.fmod 4) u)) Q E s := by
  have lo := fmod_lo a (n := 4) (by decide)
  have hi := fmod_hi a (n := 4) (by decide)
  have key : ∀ v, FieldV v → Q v s := by
    rintro v ⟨x, t, rfl, hx, hxl⟩
    exact h x t hx hxl
  have h4 : (a.fmod 4).toNat = 0 ∨ (a.fmod 4).toNat = 1 ∨ (a.fmod 4).toNat = 2 ∨ (a.fmod 4).toNat = 3 := by omega
  rcases h4 with e | e | e | e
  · exact item_listL hl lo (by omega) (by rw [e]; rfl) (key v0 h0) hs ht
  · exact item_listL hl lo (by omega) (by rw [e]; rfl) (key v1 h1) hs ht
  · exact item_listL hl lo (by omega) (by rw [e]; rfl) (key v2 h2) hs ht
  · exact item_listL hl lo (by omega) (by rw [e]; rfl) (key v3 h3) hs ht
theorem port_digs {n : Nat} (h : n < 65536) : DigN (Str.ofString (toString (n : Int))).cps.toList (n : Int) := by
  have d1 : AllDigits (Str.ofString (toString (n : Int))).cps.toList := fun c hc => by
    rw [KIN.signs_num] at hc
    obtain ⟨ch, hch, e⟩ := List.mem_map.mp hc
    have r := digit_range (Nat.isDigit_of_mem_toDigits (by decide) (by decide) hch)
    rw [← e]
    exact r
  have d2 : (Str.ofString (toString (n : Int))).cps.toList ≠ [] := by
    rw [KIN.signs_num]
    intro e
    have h := toDigits_len_ge 10 n
    rw [List.map_eq_nil_iff.mp e] at h
    exact absurd h (by decide)
  have d3 : digitsVal (Str.ofString (toString (n : Int))).cps.toList = n := by rw [KIN.signs_num, KIN.val_back]
  have hl : (Str.ofString (toString (n : Int))).length ≤ 20 := toString_length_le (by omega) (by decide) (by
    have e : (10 : Int) ^ 20 = 100000000000000000000 := by decide
    omega)
  have hl2 := len_toList (Str.ofString (toString (n : Int)))
  refine ⟨d1, d2, by omega, ?_⟩
  have e := intText_digits (x := ⟨(Str.ofString (toString (n : Int))).cps.toList.toArray⟩) (by simpa using d1) (by simpa using d2) (by
    show (Str.ofString (toString (n : Int))).cps.toList.toArray.size ≤ 4300
    rw [List.size_toArray]
    omega)
  rw [e]
  show some ((digitsVal (Str.ofString (toString (n : Int))).cps.toList : Nat) : Int) = _
  rw [d3]
theorem step_port3 {a : Int} {t : Tok} {Q : Value → Shared → Prop} (h : ∀ y, PortT y (a.fmod 65536) → y.length ≤ 20 → Q (.str y s.toks) { s with toks := s.toks + 1 }) : wpAny (model prog w) A (call (.type "str") [.int (a.fmod 65536) t]) Q E s := by
  have lo := fmod_lo a (n := 65536) (by decide)
  have hi := fmod_hi a (n := 65536) (by decide)
  generalize a.fmod 65536 = r at *
  obtain ⟨n, rfl⟩ := Int.eq_ofNat_of_zero_le lo
  have D := port_digs (n := n) (by omega)
  refine P.str_of_int ?_ (h _ ⟨D⟩ (by rw [← len_toList]; exact D.few))
  by_cases hz : (n : Int).natAbs = 0
  · rw [hz]; decide
  · refine (Nat.log2_lt hz).mpr ?_
    have e2 : (2 : Nat) ^ 16 ≤ 2 ^ 1920 := Nat.pow_le_pow_right (by decide) (by decide)
    have e4 : (2 : Nat) ^ 16 = 65536 := by decide
    omega
/-- signs[k] -/
theorem step_pair {D : Addr} {ys : List Value} {sl : List (Str × Nat)} {i : Nat} {u : Tok} {Q : Value → Shared → Prop} (hp : PairsOf news ys (up sl)) (hl : s.heap.IsList D ys.toArray) (hi : i < sl.length) (hf : sl.length ≤ 60)
    (h : ∀ a o nt t1 t2 kd c, sl[i]? = some (kd, c) → ys[i]? = some (.ref a) → (a, o) ∈ news → o.cls = .type "tuple" → o.data = .seq #[.str kd t1, .str ⟨#[c]⟩ t2] nt → Q (.ref a) s)
    (hs : subscripted slice false (.ref D) (.int (i : Int) u) = operate [.ref D, .int (i : Int) u] (getItem (.ref D) (.int (i : Int) u)) := by with_unfolding_all rfl)
    (ht : ∀ r, letTemporaryGo value (.ref D) r = pure () := by intro _; with_unfolding_all rfl) :
    wpAny (model prog w) A (subscriptTail value slice (.ref D) (.int (i : Int) u)) Q E s := by
  obtain ⟨v, hv, hpv⟩ := hp.get (i := i) (by rw [up_len]; exact hi)
  obtain ⟨a, o, nt, t1, t2, rfl, ho, hoc, hod⟩ := hpv
  have e : (up sl)[i]'(by rw [up_len]; exact hi) = (sl[i].1, (⟨#[sl[i].2]⟩ : Str)) := by simp [up]
  rw [e] at hod
  refine item_listL hl (by omega) (by omega) (by rw [Int.toNat_natCast]; exact hv) (h a o nt t1 t2 _ _ (List.getElem?_eq_getElem hi) hv ho hoc hod) hs ht
theorem slice_toL {l : Addr} {ys : List Value} {k : Nat} {u : Tok} {Q : Value → Shared → Prop} (F : Fr h₀ L s.heap m) (N : News h₀ L s.heap news) (hl : s.heap.IsList l ys.toArray) (hk : k ≤ ys.length) (hz : ys.length ≤ 2000)
    (h : ∀ h', Fr h₀ L h' m → News h₀ L h' ((s.heap.objs.size + 1, W.listOf (ys.take k).toArray 0) :: news) → Q (.ref (s.heap.objs.size + 1)) { s with heap := h' })
    (hs : subscripted slice false (.ref l) (.ref s.heap.objs.size) = operate [.ref s.heap.objs.size, .ref l] (getItem (.ref l) (.ref s.heap.objs.size)) := by with_unfolding_all rfl)
    (ht : ∀ r, letTemporaryGo value (.ref l) r = pure () := by intro _; with_unfolding_all rfl) :
    wpAny (model prog w) A (subscriptTail value slice (.ref l) (.ref s.heap.objs.size)) Q E { s with heap := s.heap.push { cls := .type "slice", data := .fields #[.none, .int (k : Int) u, .none] } } := by
  refine PyProof.Rows.slice_list F N hl .none (.int _ _) (fun h' F' N' => h h' F' ?_) hs ht (by rw [List.size_toArray, sizeLine_eq]; omega)
  rw [slicePick_upto _ _ (by rw [List.size_toArray]; exact hk), List.toList_toArray] at N'
  exact N'
theorem slice_fromL {l : Addr} {ys : List Value} {k : Nat} {u : Tok} {Q : Value → Shared → Prop} (F : Fr h₀ L s.heap m) (N : News h₀ L s.heap news) (hl : s.heap.IsList l ys.toArray) (hk : k + 1 ≤ ys.length) (hz : ys.length ≤ 2000)
    (h : ∀ h', Fr h₀ L h' m → News h₀ L h' ((s.heap.objs.size + 1, W.listOf (ys.drop (k + 1)).toArray 0) :: news) → Q (.ref (s.heap.objs.size + 1)) { s with heap := h' })
    (hs : subscripted slice false (.ref l) (.ref s.heap.objs.size) = operate [.ref s.heap.objs.size, .ref l] (getItem (.ref l) (.ref s.heap.objs.size)) := by with_unfolding_all rfl)
    (ht : ∀ r, letTemporaryGo value (.ref l) r = pure () := by intro _; with_unfolding_all rfl) :
    wpAny (model prog w) A (subscriptTail value slice (.ref l) (.ref s.heap.objs.size)) Q E { s with heap := s.heap.push { cls := .type "slice", data := .fields #[.int ((k : Int) + 1) u, .none, .none] } } := by
  refine PyProof.Rows.slice_list F N hl (.int _ _) .none (fun h' F' N' => h h' F' ?_) hs ht (by rw [List.size_toArray, sizeLine_eq]; omega)
  rw [show (some ((k : Int) + 1)) = some (((k + 1 : Nat) : Int)) by rw [Int.natCast_add]; rfl, slicePick_from _ _ (by rw [List.size_toArray]; exact hk), List.toList_toArray] at N'
  exact N'
theorem mul_one {l : Addr} {v : Value} {x : Int} {u : Tok} {Q : Value → Shared → Prop} (F : Fr h₀ L s.heap m) (N : News h₀ L s.heap news) (hm : (l, W.listOf #[v] 0) ∈ news) (hx : x = 0 ∨ x = 2)
    (h : ∀ h', Fr h₀ L h' m → News h₀ L h' ((s.heap.objs.size, W.listOf (List.replicate x.toNat v).toArray 0) :: news) → Q (.ref s.heap.objs.size) { s with heap := h' }) :
    wpAny (model prog w) A (binaryOp .Mult (.ref l) (.int x u)) Q E s := by
  refine mul_list F N (N _ hm).1 (by omega) (by omega) (by rcases hx with rfl | rfl <;> (show 1 * _ ≤ _; decide)) fun h' F' N' => h h' F' ?_
  rcases hx with rfl | rfl
  · exact N'
  · exact N'
theorem join_up {D : Addr} {ys : List Value} {sl : List (Str × Nat)} {t : Tok} {Q : Value → Shared → Prop} (N : News h₀ L s.heap news) (hm : (D, lst ys) ∈ news) (hs : StrsAre ys ((up sl).map (·.2))) (hl : sl.length ≤ 100)
    (h : ∀ t' k, (⟨(codes sl).toArray⟩ : Str).length ≤ 100 → Q (.str ⟨(codes sl).toArray⟩ t') { s with toks := k }) : wpAny (model prog w) A (call (.builtin "str.join") [.str (Str.ofString "") t, .ref D]) Q E s := by
  rw [up_snd] at hs
  exact join_signs N hm hs (by rw [codes_len]; exact hl) (by decide) h
theorem join_fig {D : Addr} {ys : List Value} {sl : List (Str × Nat)} {key : Str} {t : Tok} {Q : Value → Shared → Prop} (N : News h₀ L s.heap news) (hm : (D, lst ys) ∈ news) (hs : StrsAre ys (((up sl).filter fun p => p.1 == key).map (·.2))) (hl : sl.length ≤ 100)
    (h : ∀ t' k, (⟨(codes (sl.filter fun p => p.1 == key)).toArray⟩ : Str).length ≤ 100 → Q (.str ⟨(codes (sl.filter fun p => p.1 == key)).toArray⟩ t') { s with toks := k }) : wpAny (model prog w) A (call (.builtin "str.join") [.str (Str.ofString "") t, .ref D]) Q E s := by
  rw [up_filter] at hs
  exact join_up N hm hs (Nat.le_trans (List.length_filter_le ..) hl) h
theorem len_lst {l : Addr} {ws : List Value} {Q : Value → Shared → Prop} (hl : s.heap.IsList l ws.toArray) (hz : ws.length ≤ 2000)
    (h : Q (.int ws.length (s.toks + 1)) { s with toks := s.toks + 1 + 1 }) : wpAny (model prog w) A (call (.builtin "len") [.ref l]) Q E s := by
  refine PyProof.Rows.len_list hl (by rw [List.size_toArray]; omega) ?_
  rw [List.size_toArray]
  exact h
end
end Mine
end
section
open PySem PySem.W PyProof.Rows PySem.Calls PySem.NumText
set_option Elab.async false
set_option maxRecDepth 100000
set_option autoImplicit false
namespace Mine
/-! ## law 3, plain -/
theorem P_opened {h a b c : List Nat} (ha : 40 ∉ h ++ a) (hb : 41 ∉ b) (hh : h = [50, 50, 57]) : P229 (h ++ a ++ 40 :: (b ++ 41 :: c)) = outOf (field229 b) := by
  subst hh
  have e : ([50, 50, 57] ++ a ++ 40 :: (b ++ 41 :: c)).take 3 = [50, 50, 57] := rfl
  unfold P229 inner229
  rw [if_pos e, cutAt_some ha]
  simp only [Option.bind_some, cutAt_some hb, Option.map_some]
theorem P_unshut {h a b : List Nat} (ha : 40 ∉ h ++ a) (hb : 41 ∉ b) (hh : h = [50, 50, 57]) : P229 (h ++ a ++ 40 :: b) = .proto := by
  subst hh
  have e : ([50, 50, 57] ++ a ++ 40 :: b).take 3 = [50, 50, 57] := rfl
  unfold P229 inner229
  rw [if_pos e, cutAt_some ha]
  simp only [Option.bind_some, cutAt_none hb, Option.map_none, Option.bind_none]
  rfl
theorem P_unopen {a : List Nat} (ha : 40 ∉ ([50, 50, 57] : List Nat) ++ a) : P229 ([50, 50, 57] ++ a) = .proto := by
  have e : ([50, 50, 57] ++ a).take 3 = [50, 50, 57] := rfl
  unfold P229 inner229
  rw [if_pos e, cutAt_none ha]
  rfl
theorem field_four {m : Nat} {a b d : List Nat} (ha : m ∉ a) (hb : m ∉ b) (hd : m ∉ d) : field229 (m :: (a ++ m :: (b ++ m :: (d ++ [m])))) = some d := by
  rw [field229_cons, if_pos (by rw [show m :: (a ++ m :: (b ++ m :: (d ++ [m]))) = (m :: (a ++ m :: (b ++ m :: d))) ++ [m] by simp, List.getLast?_concat])]
  have e : splitL m (m :: (a ++ m :: (b ++ m :: (d ++ [m])))) = [[], a, b, d, []] := by
    have e0 := splitL_cons (c := m) (a := []) (b := a ++ m :: (b ++ m :: (d ++ [m]))) (by simp)
    rw [List.nil_append] at e0
    rw [e0, splitL_cons ha, splitL_cons hb, splitL_cons hd]
    rfl
  rw [e]
theorem field_three {m : Nat} {a b : List Nat} (ha : m ∉ a) (hb : m ∉ b) : field229 (m :: (a ++ m :: (b ++ [m]))) = none := by
  have e : splitL m (m :: (a ++ m :: (b ++ [m]))) = [[], a, b, []] := by
    have e0 := splitL_cons (c := m) (a := []) (b := a ++ m :: (b ++ [m])) (by simp)
    rw [List.nil_append] at e0
    rw [e0, splitL_cons ha, splitL_cons hb]
    rfl
  rw [field229_cons, e]
  split <;> rfl
theorem field_five {m : Nat} {a b c d : List Nat} (ha : m ∉ a) (hb : m ∉ b) (hc : m ∉ c) (hd : m ∉ d) : field229 (m :: (a ++ m :: (b ++ m :: (c ++ m :: (d ++ [m]))))) = none := by
  have e : splitL m (m :: (a ++ m :: (b ++ m :: (c ++ m :: (d ++ [m]))))) = [[], a, b, c, d, []] := by
    have e0 := splitL_cons (c := m) (a := []) (b := a ++ m :: (b ++ m :: (c ++ m :: (d ++ [m])))) (by simp)
    rw [List.nil_append] at e0
    rw [e0, splitL_cons ha, splitL_cons hb, splitL_cons hc, splitL_cons hd]
    rfl
  rw [field229_cons, e]
  split <;> rfl
theorem field_open {m x : Nat} {a : List Nat} (hd : x ≠ m) : field229 (m :: (a ++ [x])) = none := by
  rw [field229_cons, if_neg]
  rw [show m :: (a ++ [x]) = (m :: a) ++ [x] by simp, List.getLast?_append]
  simpa using hd
def sgx (c0 w o m1 f1 m2 f2 m3 d m4 cl e : List Nat) : List (Str × Nat) :=
  seg kCode c0 ++ (seg kWord w ++ (seg kOpen o ++ (seg kMark m1 ++ (seg kWord f1 ++ (seg kMark m2 ++ (seg kWord f2 ++ (seg kMark m3 ++ (seg kFig d ++ (seg kMark m4 ++ (seg kClose cl ++ seg kWord e))))))))))
theorem codes_app (a b : List (Str × Nat)) : codes (a ++ b) = codes a ++ codes b := List.map_append ..
theorem codes_seg (k : Str) (l : List Nat) : codes (seg k l) = l := by
  unfold codes seg
  rw [List.map_map]
  exact List.map_id' l
theorem sgx_codes {c0 w o m1 f1 m2 f2 m3 d m4 cl e : List Nat} : codes (sgx c0 w o m1 f1 m2 f2 m3 d m4 cl e) = c0 ++ (w ++ (o ++ (m1 ++ (f1 ++ (m2 ++ (f2 ++ (m3 ++ (d ++ (m4 ++ (cl ++ e)))))))))) := by
  unfold sgx
  simp only [codes_app, codes_seg]
theorem seg_fig_no {k : Str} (h : (k == kFig) = false) (l : List Nat) : (seg k l).filter (fun p => p.1 == kFig) = [] := by
  rw [List.filter_eq_nil_iff]
  intro p hp
  obtain ⟨c, _, rfl⟩ := List.mem_map.mp hp
  show ¬ (k == kFig) = true
  rw [h]; exact Bool.false_ne_true
theorem seg_fig_yes (l : List Nat) : (seg kFig l).filter (fun p => p.1 == kFig) = seg kFig l := by
  rw [List.filter_eq_self]
  intro p hp
  obtain ⟨c, _, rfl⟩ := List.mem_map.mp hp
  show (kFig == kFig) = true
  exact beq_self_eq_true _
theorem k1 : (kCode == kFig) = false := by decide +kernel
theorem k2 : (kWord == kFig) = false := by decide +kernel
theorem k3 : (kOpen == kFig) = false := by decide +kernel
theorem k4 : (kMark == kFig) = false := by decide +kernel
theorem k5 : (kClose == kFig) = false := by decide +kernel
theorem sgx_figs {c0 w o m1 f1 m2 f2 m3 d m4 cl e : List Nat} : codes ((sgx c0 w o m1 f1 m2 f2 m3 d m4 cl e).filter fun p => p.1 == kFig) = d := by
  unfold sgx
  simp only [List.filter_append, seg_fig_no k1, seg_fig_no k2, seg_fig_no k3, seg_fig_no k4, seg_fig_no k5, seg_fig_yes, List.nil_append, List.append_nil, codes_seg]
theorem seg_step {k : Str} {l : List Nat} {rest : List (Str × Nat)} {i t : Nat} {kd : Str} {c : Nat} (h : (seg k l ++ rest)[i]? = some (kd, c)) :
    (i < l.length ∧ kd = k ∧ change (seg k l ++ rest) i t = seg k (change l i t) ++ rest) ∨ (l.length ≤ i ∧ rest[i - l.length]? = some (kd, c) ∧ change (seg k l ++ rest) i t = seg k l ++ change rest (i - l.length) t) := by
  have hl : (seg k l).length = l.length := List.length_map _
  by_cases hi : i < l.length
  · have e1 : (seg k l ++ rest)[i]? = (seg k l)[i]? := List.getElem?_append_left (by omega)
    refine .inl ⟨hi, ?_, ?_⟩
    · rw [e1] at h
      obtain ⟨c', _, e⟩ := List.mem_map.mp (List.mem_of_getElem? h)
      exact (congrArg Prod.fst e).symm
    · unfold seg at *
      rw [← change_map]
      unfold change
      rw [e1, List.take_append_of_le_length (by omega), List.drop_append_of_le_length (by omega)]
      simp only [List.append_assoc]
  · have e1 : (seg k l ++ rest)[i]? = rest[i - l.length]? := by rw [List.getElem?_append_right (by omega), hl]
    refine .inr ⟨by omega, by rw [← e1]; exact h, ?_⟩
    unfold change
    rw [e1, List.take_append, List.drop_append, hl, List.take_of_length_le (by omega), List.drop_of_length_le (by omega), List.nil_append, show i + 1 - l.length = i - l.length + 1 by omega]
    simp only [List.append_assoc]
/-- what a change does to a sign alone, and to a run of signs -/
theorem change_one {m i t : Nat} (h : i < [m].length) : change [m] i t = List.replicate t m := by
  have e : i = 0 := by simpa using h
  subst e
  simp [change]
theorem not_sub {l : List Nat} {x i t : Nat} (h : x ∉ l) : x ∉ change l i t := fun q => h (change_sub _ q)
structure Right3 (m : Nat) (f1 f2 d : List Nat) : Prop where
  s1 : m ≠ 41
  s2 : m ≠ 40
  a1 : m ∉ f1
  a2 : m ∉ f2
  a3 : m ∉ d
  b1 : 41 ∉ f1
  b2 : 41 ∉ f2
  b3 : 41 ∉ d
  c1 : 40 ∉ f1
  c2 : 40 ∉ f2
  c3 : 40 ∉ d
theorem right3 {m : Nat} {f1 f2 d : List Nat} {n : Int} (hm : MarkN m) (h1 : FieldN f1) (h2 : FieldN f2) (h3 : DigN d n) : Right3 m f1 f2 d := by
  have nf : ∀ {f : List Nat} {x : Nat}, FieldN f → (x ≠ 49 ∧ x ≠ 58 ∧ x ≠ 97 ∧ x ≠ 32 ∧ x ≠ 98) → x ∉ f := fun hf hx q => by
    have := hf.ok _ q
    omega
  have nd : ∀ {x : Nat}, ¬ (48 ≤ x ∧ x ≤ 57) → x ∉ d := fun hx q => hx (h3.all _ q)
  have hi := hm.is
  exact ⟨hm.shut, hm.op, nf h1 (by omega), nf h2 (by omega), nd hm.digit, nf h1 (by omega), nf h2 (by omega), nd (by omega), nf h1 (by omega), nf h2 (by omega), nd (by omega)⟩
theorem good3 {m : Nat} {f1 f2 d x r : List Nat} (hx : 40 ∉ ([50, 50, 57] : List Nat) ++ x) (R : Right3 m f1 f2 d) :
    P229 ([50, 50, 57] ++ x ++ 40 :: ((m :: (f1 ++ m :: (f2 ++ m :: (d ++ [m])))) ++ 41 :: r)) = outNum (PySem.intText? ⟨d.toArray⟩) := by
  rw [P_opened hx (by simp [R.b1, R.b2, R.b3, Ne.symm R.s1]) rfl, field_four R.a1 R.a2 R.a3]
  rfl
/-- what the law asks of a changed reply -/
structure Asked (kd : Str) (i t : Nat) (ch : List (Str × Nat)) : Prop where
  reply : kd = kCode → (t = 0 ∨ i < 2) → P229 (codes ch) = .reply
  proto : kd = kOpen ∨ kd = kMark ∨ (kd = kClose ∧ t = 0) → P229 (codes ch) = .proto
  num : ¬ (kd = kCode ∧ (t = 0 ∨ i < 2)) → ¬ (kd = kOpen ∨ kd = kMark ∨ (kd = kClose ∧ t = 0)) → P229 (codes ch) = outNum (PySem.intText? ⟨(codes (ch.filter fun p => p.1 == kFig)).toArray⟩)
theorem kne1 : kCode ≠ kOpen ∧ kCode ≠ kMark ∧ kCode ≠ kClose := by decide +kernel
theorem kne2 : kWord ≠ kCode ∧ kWord ≠ kOpen ∧ kWord ≠ kMark ∧ kWord ≠ kClose := by decide +kernel
theorem kne3 : kOpen ≠ kCode ∧ kMark ≠ kCode := by decide +kernel
theorem kne4 : kFig ≠ kCode ∧ kFig ≠ kOpen ∧ kFig ≠ kMark ∧ kFig ≠ kClose := by decide +kernel
theorem kne5 : kClose ≠ kCode ∧ kClose ≠ kOpen ∧ kClose ≠ kMark := by decide +kernel
theorem asked_good {kd : Str} {i t : Nat} {ch : List (Str × Nat)} (h : P229 (codes ch) = outNum (PySem.intText? ⟨(codes (ch.filter fun p => p.1 == kFig)).toArray⟩)) (h1 : ¬ (kd = kCode ∧ (t = 0 ∨ i < 2))) (h2 : ¬ (kd = kOpen ∨ kd = kMark ∨ (kd = kClose ∧ t = 0))) : Asked kd i t ch :=
  ⟨fun a b => absurd ⟨a, b⟩ h1, fun a => absurd a h2, fun _ _ => h⟩
theorem asked_proto {kd : Str} {i t : Nat} {ch : List (Str × Nat)} (h : P229 (codes ch) = .proto) (h1 : kd ≠ kCode) (h2 : kd = kOpen ∨ kd = kMark ∨ (kd = kClose ∧ t = 0)) : Asked kd i t ch :=
  ⟨fun a => absurd a h1, fun _ => h, fun _ b => absurd h2 b⟩
theorem asked_word {i t : Nat} {ch : List (Str × Nat)} (h : P229 (codes ch) = outNum (PySem.intText? ⟨(codes (ch.filter fun p => p.1 == kFig)).toArray⟩)) : Asked kWord i t ch :=
  asked_good h (fun q => kne2.1 q.1) (by rintro (q | q | q); exact kne2.2.1 q; exact kne2.2.2.1 q; exact kne2.2.2.2 q.1)
theorem last_app' {l : List Nat} (h : l ≠ []) : ∃ a x, l = a ++ [x] := by
  rcases last_cases l with e | ⟨r, a, e⟩
  · exact absurd e h
  · exact ⟨r, a, e⟩
theorem law3 {sl : List (Str × Nat)} {n : Int} (S : SignsT sl n) {i t : Nat} {kd : Str} {c : Nat} (hi : sl[i]? = some (kd, c)) (ht : t = 0 ∨ t = 2) : Asked kd i t (change sl i t) := by
  obtain ⟨m, f1, f2, d, hm, h1, h2, h3, rfl⟩ := S.is
  have R := right3 hm h1 h2 h3
  have r1 := R.s1
  have r2 := R.s2
  have w0 : 40 ∉ ([50, 50, 57] : List Nat) ++ [32, 120] := by decide
  -- the changed reply with its parts put together
  have whole : ∀ {c0 w o m1 f1 m2 f2 m3 d m4 cl e : List Nat}, codes (sgx c0 w o m1 f1 m2 f2 m3 d m4 cl e) = c0 ++ (w ++ (o ++ (m1 ++ (f1 ++ (m2 ++ (f2 ++ (m3 ++ (d ++ (m4 ++ (cl ++ e)))))))))) := sgx_codes
  unfold sgn at hi ⊢
  rcases seg_step (t := t) hi with ⟨hl, rfl, e⟩ | ⟨_, hi, e⟩
  · -- the code
    rw [e]
    show Asked _ i t (sgx (change [50, 50, 57] i t) [32, 120] [40] [m] f1 [m] f2 [m] d [m] [41] [32, 101, 110, 100])
    have h3' : i = 0 ∨ i = 1 ∨ i = 2 := by simp at hl; omega
    have bad : ∀ {x : List Nat}, x.take 3 ≠ [50, 50, 57] → P229 x = .reply := fun h => by unfold P229; rw [if_neg h]
    have no : ¬ (kCode = kOpen ∨ kCode = kMark ∨ (kCode = kClose ∧ t = 0)) := by rintro (q | q | q); exact kne1.1 q; exact kne1.2.1 q; exact kne1.2.2 q.1
    rcases ht with rfl | rfl
    · refine ⟨fun _ _ => ?_, fun q => absurd q no, fun q => absurd ⟨rfl, .inl rfl⟩ q⟩
      rw [whole]
      rcases h3' with rfl | rfl | rfl <;> exact bad (by simp [change])
    · rcases h3' with rfl | rfl | rfl
      · refine ⟨fun _ _ => ?_, fun q => absurd q no, fun q => absurd ⟨rfl, .inr (by decide)⟩ q⟩
        rw [whole]; exact bad (by simp [change])
      · refine ⟨fun _ _ => ?_, fun q => absurd q no, fun q => absurd ⟨rfl, .inr (by decide)⟩ q⟩
        rw [whole]; exact bad (by simp [change])
      · refine asked_good ?_ (by rintro ⟨_, q⟩; omega) no
        rw [whole, sgx_figs]
        have := good3 (x := [57, 32, 120]) (r := [32, 101, 110, 100]) (by decide) R
        rw [← this]
        simp [change]
  rw [e]; clear e
  rcases seg_step (t := t) hi with ⟨hl, rfl, e⟩ | ⟨_, hi, e⟩
  · -- the word ahead
    rw [e]
    show Asked _ i t (sgx [50, 50, 57] (change [32, 120] _ t) [40] [m] f1 [m] f2 [m] d [m] [41] [32, 101, 110, 100])
    refine asked_word ?_
    rw [whole, sgx_figs]
    have hx : 40 ∉ ([50, 50, 57] : List Nat) ++ change [32, 120] (i - [50, 50, 57].length) t := by
      rw [List.mem_append]
      rintro (q | q)
      · simp at q
      · exact not_sub (by simp) q
    rw [← good3 (r := [32, 101, 110, 100]) hx R]
    simp
  rw [e]; clear e
  rcases seg_step (t := t) hi with ⟨hl, rfl, e⟩ | ⟨_, hi, e⟩
  · -- the opening bracket
    rw [e, change_one hl]
    show Asked _ i t (sgx [50, 50, 57] [32, 120] (List.replicate t 40) [m] f1 [m] f2 [m] d [m] [41] [32, 101, 110, 100])
    refine asked_proto ?_ kne3.1 (.inl rfl)
    rw [whole]
    rcases ht with rfl | rfl
    · refine P_unopen ?_
      simp [R.c1, R.c2, R.c3, Ne.symm r2]
    · have hb : 41 ∉ (40 :: ((m :: (f1 ++ m :: (f2 ++ m :: d))) ++ [m])) := by simp [R.b1, R.b2, R.b3, Ne.symm r1]
      have e1 := P_opened (h := [50, 50, 57]) (a := [32, 120]) (c := [32, 101, 110, 100]) w0 hb rfl
      rw [field_open r2] at e1
      rw [show Out.proto = outOf none from rfl, ← e1]
      simp [List.replicate]
  rw [e]; clear e
  rcases seg_step (t := t) hi with ⟨hl, rfl, e⟩ | ⟨_, hi, e⟩
  · -- the first mark
    rw [e, change_one hl]
    show Asked _ i t (sgx [50, 50, 57] [32, 120] [40] (List.replicate t m) f1 [m] f2 [m] d [m] [41] [32, 101, 110, 100])
    refine asked_proto ?_ kne3.2 (.inr (.inl rfl))
    rw [whole]
    rcases ht with rfl | rfl
    · have e1 := P_opened (h := [50, 50, 57]) (a := [32, 120]) (b := f1 ++ m :: (f2 ++ m :: (d ++ [m]))) (c := [32, 101, 110, 100]) w0 (by simp [R.b1, R.b2, R.b3, Ne.symm r1]) rfl
      have e2 : field229 (f1 ++ m :: (f2 ++ m :: (d ++ [m]))) = none := by
        cases f1 with
        | nil => exact field_three R.a2 R.a3
        | cons x f =>
          have hx : m ≠ x := fun q => R.a1 (by rw [q]; exact List.mem_cons_self ..)
          have := field_open (a := f ++ m :: (f2 ++ m :: d)) hx
          rw [← this]
          simp
      rw [e2] at e1
      rw [show Out.proto = outOf none from rfl, ← e1]
      simp [List.replicate]
    · have e1 := P_opened (h := [50, 50, 57]) (a := [32, 120]) (b := m :: ([] ++ m :: (f1 ++ m :: (f2 ++ m :: (d ++ [m]))))) (c := [32, 101, 110, 100]) w0 (by simp [R.b1, R.b2, R.b3, Ne.symm r1]) rfl
      rw [field_five (by simp) R.a1 R.a2 R.a3] at e1
      rw [show Out.proto = outOf none from rfl, ← e1]
      simp [List.replicate]
  rw [e]; clear e
  rcases seg_step (t := t) hi with ⟨hl, rfl, e⟩ | ⟨_, hi, e⟩
  · -- the first field
    rw [e]
    show Asked _ i t (sgx [50, 50, 57] [32, 120] [40] [m] (change f1 _ t) [m] f2 [m] d [m] [41] [32, 101, 110, 100])
    refine asked_word ?_
    rw [whole, sgx_figs]
    have R' : Right3 m (change f1 (i - [50, 50, 57].length - [32, 120].length - [40].length - [m].length) t) f2 d := ⟨R.s1, R.s2, not_sub R.a1, R.a2, R.a3, not_sub R.b1, R.b2, R.b3, not_sub R.c1, R.c2, R.c3⟩
    rw [← good3 (x := [32, 120]) (r := [32, 101, 110, 100]) w0 R']
    simp
  rw [e]; clear e
  rcases seg_step (t := t) hi with ⟨hl, rfl, e⟩ | ⟨_, hi, e⟩
  · -- the second mark
    rw [e, change_one hl]
    show Asked _ i t (sgx [50, 50, 57] [32, 120] [40] [m] f1 (List.replicate t m) f2 [m] d [m] [41] [32, 101, 110, 100])
    refine asked_proto ?_ kne3.2 (.inr (.inl rfl))
    rw [whole]
    rcases ht with rfl | rfl
    · have e1 := P_opened (h := [50, 50, 57]) (a := [32, 120]) (b := m :: ((f1 ++ f2) ++ m :: (d ++ [m]))) (c := [32, 101, 110, 100]) w0 (by simp [R.b1, R.b2, R.b3, Ne.symm r1]) rfl
      rw [field_three (by simp [R.a1, R.a2]) R.a3] at e1
      rw [show Out.proto = outOf none from rfl, ← e1]
      simp [List.replicate]
    · have e1 := P_opened (h := [50, 50, 57]) (a := [32, 120]) (b := m :: (f1 ++ m :: ([] ++ m :: (f2 ++ m :: (d ++ [m]))))) (c := [32, 101, 110, 100]) w0 (by simp [R.b1, R.b2, R.b3, Ne.symm r1]) rfl
      rw [field_five R.a1 (by simp) R.a2 R.a3] at e1
      rw [show Out.proto = outOf none from rfl, ← e1]
      simp [List.replicate]
  rw [e]; clear e
  rcases seg_step (t := t) hi with ⟨hl, rfl, e⟩ | ⟨_, hi, e⟩
  · -- the second field
    rw [e]
    show Asked _ i t (sgx [50, 50, 57] [32, 120] [40] [m] f1 [m] (change f2 _ t) [m] d [m] [41] [32, 101, 110, 100])
    refine asked_word ?_
    rw [whole, sgx_figs]
    have R' : Right3 m f1 (change f2 (i - [50, 50, 57].length - [32, 120].length - [40].length - [m].length - f1.length - [m].length) t) d := ⟨R.s1, R.s2, R.a1, not_sub R.a2, R.a3, R.b1, not_sub R.b2, R.b3, R.c1, not_sub R.c2, R.c3⟩
    rw [← good3 (x := [32, 120]) (r := [32, 101, 110, 100]) w0 R']
    simp
  rw [e]; clear e
  rcases seg_step (t := t) hi with ⟨hl, rfl, e⟩ | ⟨_, hi, e⟩
  · -- the third mark
    rw [e, change_one hl]
    show Asked _ i t (sgx [50, 50, 57] [32, 120] [40] [m] f1 [m] f2 (List.replicate t m) d [m] [41] [32, 101, 110, 100])
    refine asked_proto ?_ kne3.2 (.inr (.inl rfl))
    rw [whole]
    rcases ht with rfl | rfl
    · have e1 := P_opened (h := [50, 50, 57]) (a := [32, 120]) (b := m :: (f1 ++ m :: ((f2 ++ d) ++ [m]))) (c := [32, 101, 110, 100]) w0 (by simp [R.b1, R.b2, R.b3, Ne.symm r1]) rfl
      rw [field_three R.a1 (by simp [R.a2, R.a3])] at e1
      rw [show Out.proto = outOf none from rfl, ← e1]
      simp [List.replicate]
    · have e1 := P_opened (h := [50, 50, 57]) (a := [32, 120]) (b := m :: (f1 ++ m :: (f2 ++ m :: ([] ++ m :: (d ++ [m]))))) (c := [32, 101, 110, 100]) w0 (by simp [R.b1, R.b2, R.b3, Ne.symm r1]) rfl
      rw [field_five R.a1 R.a2 (by simp) R.a3] at e1
      rw [show Out.proto = outOf none from rfl, ← e1]
      simp [List.replicate]
  rw [e]; clear e
  rcases seg_step (t := t) hi with ⟨hl, rfl, e⟩ | ⟨_, hi, e⟩
  · -- the port
    rw [e]
    show Asked _ i t (sgx [50, 50, 57] [32, 120] [40] [m] f1 [m] f2 [m] (change d _ t) [m] [41] [32, 101, 110, 100])
    refine asked_good ?_ (fun q => kne4.1 q.1) (by rintro (q | q | q); exact kne4.2.1 q; exact kne4.2.2.1 q; exact kne4.2.2.2 q.1)
    rw [whole, sgx_figs]
    have R' : Right3 m f1 f2 (change d (i - [50, 50, 57].length - [32, 120].length - [40].length - [m].length - f1.length - [m].length - f2.length - [m].length) t) := ⟨R.s1, R.s2, R.a1, R.a2, not_sub R.a3, R.b1, R.b2, not_sub R.b3, R.c1, R.c2, not_sub R.c3⟩
    rw [← good3 (x := [32, 120]) (r := [32, 101, 110, 100]) w0 R']
    simp
  rw [e]; clear e
  rcases seg_step (t := t) hi with ⟨hl, rfl, e⟩ | ⟨_, hi, e⟩
  · -- the last mark
    rw [e, change_one hl]
    show Asked _ i t (sgx [50, 50, 57] [32, 120] [40] [m] f1 [m] f2 [m] d (List.replicate t m) [41] [32, 101, 110, 100])
    refine asked_proto ?_ kne3.2 (.inr (.inl rfl))
    rw [whole]
    rcases ht with rfl | rfl
    · obtain ⟨d0, x, hd⟩ := last_app' h3.ne
      have hx : x ≠ m := fun q => R.a3 (by rw [hd, q]; simp)
      have e1 := P_opened (h := [50, 50, 57]) (a := [32, 120]) (b := m :: ((f1 ++ m :: (f2 ++ m :: d0)) ++ [x])) (c := [32, 101, 110, 100]) w0 (by
        have := R.b3
        rw [hd] at this
        simp at this
        simp [R.b1, R.b2, this, Ne.symm r1]) rfl
      rw [field_open hx] at e1
      rw [show Out.proto = outOf none from rfl, ← e1, hd]
      simp [List.replicate]
    · have e1 := P_opened (h := [50, 50, 57]) (a := [32, 120]) (b := m :: (f1 ++ m :: (f2 ++ m :: (d ++ m :: ([] ++ [m]))))) (c := [32, 101, 110, 100]) w0 (by simp [R.b1, R.b2, R.b3, Ne.symm r1]) rfl
      rw [field_five R.a1 R.a2 R.a3 (by simp)] at e1
      rw [show Out.proto = outOf none from rfl, ← e1]
      simp [List.replicate]
  rw [e]; clear e
  rcases seg_step (t := t) hi with ⟨hl, rfl, e⟩ | ⟨_, hi, e⟩
  · -- the closing bracket
    rw [e, change_one hl]
    show Asked _ i t (sgx [50, 50, 57] [32, 120] [40] [m] f1 [m] f2 [m] d [m] (List.replicate t 41) [32, 101, 110, 100])
    rcases ht with rfl | rfl
    · refine asked_proto ?_ kne5.1 (.inr (.inr ⟨rfl, rfl⟩))
      rw [whole]
      have e1 := P_unshut (h := [50, 50, 57]) (a := [32, 120]) (b := (m :: (f1 ++ m :: (f2 ++ m :: (d ++ [m])))) ++ [32, 101, 110, 100]) w0 (by simp [R.b1, R.b2, R.b3, Ne.symm r1]) rfl
      rw [← e1]
      simp [List.replicate]
    · refine asked_good ?_ (fun q => kne5.1 q.1) (by rintro (q | q | q); exact kne5.2.1 q; exact kne5.2.2 q; exact absurd q.2 (by decide))
      rw [whole, sgx_figs, ← good3 (x := [32, 120]) (r := [41, 32, 101, 110, 100]) w0 R]
      simp [List.replicate]
  rw [e]; clear e
  -- the word behind
  have hk : kd = kWord := by
    obtain ⟨c', _, e⟩ := List.mem_map.mp (List.mem_of_getElem? hi)
    exact (congrArg Prod.fst e).symm
  subst hk
  refine asked_word ?_
  unfold seg at hi ⊢
  rw [change_map]
  generalize change [32, 101, 110, 100] _ t = r
  show P229 (codes (sgx [50, 50, 57] [32, 120] [40] [m] f1 [m] f2 [m] d [m] [41] r)) = outNum (PySem.intText? ⟨(codes ((sgx [50, 50, 57] [32, 120] [40] [m] f1 [m] f2 [m] d [m] [41] r).filter fun p => p.1 == kFig)).toArray⟩)
  rw [whole, sgx_figs, ← good3 (x := [32, 120]) (r := r) w0 R]
  simp
theorem law3_right {sl : List (Str × Nat)} {n : Int} (S : SignsT sl n) : P229 (codes sl) = .ok n := by
  obtain ⟨m, f1, f2, d, hm, h1, h2, h3, rfl⟩ := S.is
  have e : codes (sgn m f1 f2 d) = codes (sgx [50, 50, 57] [32, 120] [40] [m] f1 [m] f2 [m] d [m] [41] [32, 101, 110, 100]) := rfl
  have g := good3 (x := [32, 120]) (r := [32, 101, 110, 100]) (by decide) (right3 hm h1 h2 h3)
  rw [h3.reads] at g
  rw [e, sgx_codes]
  rw [show (Out.ok n) = outNum (some n) from rfl, ← g]
  simp
theorem law3_figs {sl : List (Str × Nat)} {n : Int} (S : SignsT sl n) (i t : Nat) : ∀ c ∈ codes ((change sl i t).filter fun p => p.1 == kFig), 48 ≤ c ∧ c ≤ 57 := by
  obtain ⟨m, f1, f2, d, hm, h1, h2, h3, rfl⟩ := S.is
  intro c hc
  obtain ⟨p, hp, rfl⟩ := List.mem_map.mp hc
  obtain ⟨hp1, hp2⟩ := List.mem_filter.mp hp
  have hp3 : p ∈ (sgx [50, 50, 57] [32, 120] [40] [m] f1 [m] f2 [m] d [m] [41] [32, 101, 110, 100]).filter fun p => p.1 == kFig := List.mem_filter.mpr ⟨change_sub _ hp1, hp2⟩
  have hp4 : p.2 ∈ codes ((sgx [50, 50, 57] [32, 120] [40] [m] f1 [m] f2 [m] d [m] [41] [32, 101, 110, 100]).filter fun p => p.1 == kFig) := List.mem_map.mpr ⟨p, hp3, rfl⟩
  rw [sgx_figs] at hp4
  exact h3.all _ hp4
end Mine
end
section
open PySem PySem.W PyProof.Rows PySem.Calls PyProof.Rows.LCg
set_option Elab.async false
set_option maxRecDepth 100000
set_option autoImplicit false
namespace Mine
open Sem (wp)
section
variable {M : Model} {A : Around} {E : Value → Shared → Prop} {s : Shared} {env : Env}
theorem wpC_isTrue_Compare1 {l : Expr} {op : CmpOp} {r : Expr} {pos : Pos} {whole : Sem Value} {Q : Bool → Shared → Prop}
    (h : wpC M A (eval l env) (fun a s₁ => wpAny M A (eval r env) (fun b s₂ => wpAny M A (compareOp op a b) (fun c s₃ => wpAny M A (truthy c) Q E s₃) E s₂) E s₁) E s)
    (hm : behindInMarks op r = false := by with_unfolding_all rfl) : wpC M A (isTrue (.Compare l [op] [r] pos) env whole) Q E s := fun Γ p hΓ hC => by
  simp only [isTrue_Compare1, markedBehindIn_of_false hm, Sem.wp_bind', Sem.wp_holding, Sem.wp_cmd_standAt, Sem.wp_operate]
  exact Sem.wp_mono M Γ _ (fun a p₁ s₁ h₁ => Sem.wp_mono M Γ _ (fun b _ s₂ h₂ => Sem.wp_mono M Γ _ (fun c p₃ s₃ h₃ => h₃ Γ p₃ hΓ)
    (fun _ _ _ h' => h') _ _ (h₂ Γ _ hΓ)) (fun _ _ _ h' => h') _ _ (h₁ Γ p₁ hΓ)) (fun _ _ _ h' => h') _ _ (h Γ p hΓ hC)
theorem wpC_if_read {l : Expr} {op : CmpOp} {r : Expr} {pos pos' : Pos} {body : List Stmt} {rest : List Stmt} {Q : Flow → Shared → Prop}
    (h : wpC M A (eval l env) (fun a s₁ => wpAny M A (eval r env) (fun b s₂ => wpAny M A (compareOp op a b) (fun c s₃ => wpAny M A (truthy c)
      (fun t s₄ => if t = true then wpC M A (execs body env) (fun f s' => match f with | .next => wpC M A (execs rest env) Q E s' | f => Q f s') E s₄ else wpC M A (execs rest env) Q E s₄) E s₃) E s₂) E s₁) E s)
    (hm : behindInMarks op r = false := by with_unfolding_all rfl) : wpC M A (execs (.If (.Compare l [op] [r] pos) body [] pos' :: rest) env) Q E s := by
  refine wpC_execs_cons (wpC_If (wpC_isTrue_Compare1 (hm := hm) (wpC_mono h (fun a s₁ h₁ => wpAny_mono h₁ (fun b s₂ h₂ => wpAny_mono h₂ (fun c s₃ h₃ => wpAny_mono h₃ (fun t s₄ h₄ => ?_) fun _ _ x => x) fun _ _ x => x) fun _ _ x => x) fun _ _ x => x)))
  cases t with
  | true =>
    simp only [if_true] at h₄ ⊢
    exact wpC_mono h₄ (fun f s' hq => by cases f <;> exact hq) fun _ _ x => x
  | false =>
    simp only [Bool.false_eq_true, if_false] at h₄ ⊢
    exact wpC_any (wpAny_execs_nil h₄)
end
section
variable {prog : Program} {w : World} {A : Around} {E : Value → Shared → Prop} {s : Shared} {h₀ : Heap} {L : Addr} {news : List (Addr × Obj)} {q1 q2 : Addr × Obj}
/-- the right reply's answer -/
theorem ne_right {sl : List (Str × Nat)} {n : Int} {told v : Value} {as : List Addr} {Q : Value → Shared → Prop} (S : SignsT sl n) (hrd : ReadsIn q1 q2 told (outData (Str.ofString "there") ⟨(codes sl).toArray⟩ (P229 (⟨(codes sl).toArray⟩ : Str).cps.toList))) (N : News h₀ L s.heap news) (m1 : q1 ∈ news) (m2 : q2 ∈ news)
    (ra : Reads s.heap v (.tuple [.str (Str.ofString "there"), .int n]) as) (hu : A.units + 64 < cLine) (h : Q (.bool false) s) : wpAny (model prog w) A (compareOp .NotEq told v) Q E s := by
  obtain ⟨bs, rb⟩ := hrd _ (N _ m1).1 (N _ m2).1
  have e : (⟨(codes sl).toArray⟩ : Str).cps.toList = codes sl := List.toList_toArray
  rw [e, law3_right S] at rb
  have sh := shaped_pair (n := n) ok_there
  refine ne_dataH rb ra sh sh hu ?_
  have := eqv_out (H := Str.ofString "there") (R := Str.ofString "") (.ok n)
  simp only [outData] at this ⊢
  rw [this]
  exact h
/-- a changed reply's answer -/
theorem ne_asked {ch : List (Str × Nat)} {o : Out} {told v : Value} {as : List Addr} {Q : Value → Shared → Prop} (hP : P229 (codes ch) = o) (hpl : Plain (codes ch)) (hrd : ReadsIn q1 q2 told (outData (Str.ofString "there") ⟨(codes ch).toArray⟩ (P229 (⟨(codes ch).toArray⟩ : Str).cps.toList))) (N : News h₀ L s.heap news) (m1 : q1 ∈ news) (m2 : q2 ∈ news)
    (ra : Reads s.heap v (outData (Str.ofString "there") ⟨(codes ch).toArray⟩ o) as) (hu : A.units + 64 < cLine) (h : Q (.bool false) s) : wpAny (model prog w) A (compareOp .NotEq told v) Q E s := by
  obtain ⟨bs, rb⟩ := hrd _ (N _ m1).1 (N _ m2).1
  have e : (⟨(codes ch).toArray⟩ : Str).cps.toList = codes ch := List.toList_toArray
  rw [e, hP] at rb
  have ok : TextOk ⟨(codes ch).toArray⟩ := .list fun c hc => Nat.lt_trans (hpl c hc).2 (by decide)
  refine ne_dataH rb ra (shaped_out ok_there ok o) (shaped_out ok_there ok o) hu ?_
  rw [eqv_out]
  exact h
end
theorem codes_sub {sl ch : List (Str × Nat)} (h : ∀ p ∈ ch, p ∈ sl) (hp : Plain (codes sl)) : Plain (codes ch) := fun c hc => by
  obtain ⟨p, hp', rfl⟩ := List.mem_map.mp hc
  exact hp _ (List.mem_map.mpr ⟨p, h p hp', rfl⟩)
theorem ok_codes {ch : List (Str × Nat)} (hp : Plain (codes ch)) : Ok ⟨(codes ch).toArray⟩ := ⟨.list fun c hc => Nat.lt_trans (hp c hc).2 (by decide)⟩
theorem sub_trans {a b c : List (Addr × Obj)} (h : ∀ q ∈ b, q ∈ c) (h' : ∀ q ∈ a, q ∈ b) : ∀ q ∈ a, q ∈ c := fun q hq => h q (h' q hq)
theorem zero_two {i : Nat} {v : Value} {t0 t2 : Tok} (h : [Value.int 0 t0, Value.int 2 t2][i]? = some v) : ∃ x t, v = .int x t ∧ (x = 0 ∨ x = 2) := by
  rcases i with _ | _ | i
  · simp at h; exact ⟨0, t0, h.symm, .inl rfl⟩
  · simp at h; exact ⟨2, t2, h.symm, .inr rfl⟩
  · simp at h
/-- the changed list, its text's facts -/
structure ChangedT (sl : List (Str × Nat)) (n : Int) (i t : Nat) (ch : List (Str × Nat)) : Prop where
  is : ch = change sl i t
  plain : Plain (codes ch)
  few : ch.length ≤ 62
theorem changedT {sl : List (Str × Nat)} {n : Int} (S : SignsT sl n) (i : Nat) {t : Nat} (ht : t ≤ 2) : ChangedT sl n i t (change sl i t) :=
  ⟨rfl, codes_sub (fun p hp => change_sub p hp) S.plain, Nat.le_trans (change_len ht) (by have := S.few; omega)⟩
end Mine
end
section
open PySem PySem.W PyProof.Rows PySem.Calls PyProof.Rows.LCg PySem.NumText
set_option Elab.async false
set_option maxRecDepth 100000
set_option autoImplicit false
namespace Mine
def kdOf (sl : List (Str × Nat)) (i : Nat) : Str := ((sl[i]?).getD (Str.empty, 0)).1
def cOf (sl : List (Str × Nat)) (i : Nat) : Nat := ((sl[i]?).getD (Str.empty, 0)).2
theorem kd_at {sl : List (Str × Nat)} {i : Nat} (h : i < sl.length) : sl[i]? = some (kdOf sl i, cOf sl i) := by
  unfold kdOf cOf
  rw [List.getElem?_eq_getElem h]
  rfl
section
variable {prog : Program} {w : World} {A : Around} {E : Value → Shared → Prop} {s : Shared} {h₀ : Heap} {L : Addr} {m : Str → Option Value} {news all : List (Addr × Obj)} {value slice : Expr}
theorem step_pair2 {D : Addr} {ys : List Value} {sl : List (Str × Nat)} {i : Nat} {u : Tok} {Q : Value → Shared → Prop} (hp : PairsOf all ys (up sl)) (hl : s.heap.IsList D ys.toArray) (hi : i < sl.length) (hf : sl.length ≤ 60)
    (h : ∀ a o nt t1 t2, ys[i]? = some (.ref a) → (a, o) ∈ all → o.cls = .type "tuple" → o.data = .seq #[.str (kdOf sl i) t1, .str ⟨#[cOf sl i]⟩ t2] nt → Q (.ref a) s)
    (hs : subscripted slice false (.ref D) (.int (i : Int) u) = operate [.ref D, .int (i : Int) u] (getItem (.ref D) (.int (i : Int) u)) := by with_unfolding_all rfl)
    (ht : ∀ r, letTemporaryGo value (.ref D) r = pure () := by intro _; with_unfolding_all rfl) :
    wpAny (model prog w) A (subscriptTail value slice (.ref D) (.int (i : Int) u)) Q E s := by
  refine step_pair hp hl hi hf (fun a o nt t1 t2 kd c e hv ho hoc hod => ?_) hs ht
  rw [kd_at hi] at e
  cases e
  exact h a o nt t1 t2 hv ho hoc hod
/-- the kind of a pair -/
theorem step_kind {a : Addr} {o : Obj} {nt : Nat} {v1 v2 : Value} {u : Tok} {Q : Value → Shared → Prop} (N : News h₀ L s.heap news) (hm : (a, o) ∈ news) (hc : o.cls = .type "tuple") (hd : o.data = .seq #[v1, v2] nt) (h : Q v1 s)
    (hs : subscripted slice false (.ref a) (.int 0 u) = operate [.ref a, .int 0 u] (getItem (.ref a) (.int 0 u)) := by with_unfolding_all rfl)
    (ht : ∀ r, letTemporaryGo value (.ref a) r = pure () := by intro _; with_unfolding_all rfl) :
    wpAny (model prog w) A (subscriptTail value slice (.ref a) (.int 0 u)) Q E s :=
  item_tupleL (l := [v1, v2]) ⟨o, (N _ hm).1, hc, nt, hd⟩ (by decide) (by decide) (j := 0) (by unfold seqIndex?; simp) rfl h hs ht
theorem add_L {l b : Addr} {vs ws : List Value} {Q : Value → Shared → Prop} (F : Fr h₀ L s.heap m) (N : News h₀ L s.heap news) (hl : s.heap.IsList l vs.toArray) (hb : s.heap.IsList b ws.toArray) (hv : vs.length ≤ 2000) (hw : ws.length ≤ 2000)
    (h : ∀ h', Fr h₀ L h' m → News h₀ L h' ((s.heap.objs.size, W.listOf (vs ++ ws).toArray 0) :: news) → Q (.ref s.heap.objs.size) { s with heap := h' }) :
    wpAny (model prog w) A (binaryOp .Add (.ref l) (.ref b)) Q E s :=
  add_lists (hsz := by rw [sizeLine_eq]; omega) F N hl hb h
/-- int(figures) -/
theorem step_intF {f : Str} {t : Tok} {Q : Value → Shared → Prop} (hd : ∀ c ∈ f.cps.toList, 48 ≤ c ∧ c ≤ 57) (hne : (f == Str.ofString "") = false) (hf : f.length ≤ 640) (h : ∀ n, PySem.intText? f = some n → Q (.int n s.toks) { s with toks := s.toks + 1 }) : wpAny (model prog w) A (call (.type "int") [.str f t]) Q E s := by
  have ne : f.cps.toList ≠ [] := fun e => by
    have : f = Str.ofString "" := ext_list (by rw [e]; decide +kernel)
    rw [this] at hne
    simp at hne
  have e := intText_digits (x := f) hd ne (by omega)
  exact KIN.call_text e hf (h _ e)
end
theorem int_empty {f : Str} (h : (f == Str.ofString "") = true) : PySem.intText? f = none := by
  rw [beq_iff_eq] at h
  rw [h]
  decide +kernel
theorem changed_intro {sl : List (Str × Nat)} {n : Int} {news : List (Addr × Obj)} {ys : List Value} {i : Nat} {v : Value} (S : SignsT sl n) (h : PairsOf news ys (up sl)) (hv : ys[i]? = some v) (t : Nat) (ht : t = 0 ∨ t = 2) :
    ∃ ch, Asked (kdOf sl i) i t ch ∧ PairsOf news (ys.take i ++ List.replicate t v ++ ys.drop (i + 1)) (up ch) ∧ Plain (codes ch) ∧ ch.length ≤ 62 ∧ (∀ c ∈ (⟨(codes (ch.filter fun p => p.1 == kFig)).toArray⟩ : Str).cps.toList, 48 ≤ c ∧ c ≤ 57) := by
  have C := changedT S i (t := t) (by omega)
  have hi : i < sl.length := by
    rw [← up_len, ← h.len]
    exact (List.getElem?_eq_some_iff.mp hv).1
  exact ⟨_, law3 S (kd_at hi) ht, pairs_change h hv t, C.plain, C.few, fun c hc => law3_figs S i t c (by simpa using hc)⟩
structure IsT (x : Int) : Prop where
  is : x = 0 ∨ x = 2
theorem changed_intro2 {sl : List (Str × Nat)} {n : Int} {news : List (Addr × Obj)} {ys : List Value} {i : Nat} {v : Value} {x : Int} (hT : IsT x) (S : SignsT sl n) (h : PairsOf news ys (up sl)) (hv : ys[i]? = some v) :
    ∃ ch, Asked (kdOf sl i) i x.toNat ch ∧ PairsOf news (ys.take i ++ List.replicate x.toNat v ++ ys.drop (i + 1)) (up ch) ∧ Plain (codes ch) ∧ ch.length ≤ 62 ∧ (∀ c ∈ (⟨(codes (ch.filter fun p => p.1 == kFig)).toArray⟩ : Str).cps.toList, 48 ≤ c ∧ c ≤ 57) :=
  changed_intro S h hv _ (by have := hT.is; omega)
theorem str_true {x y : Str} (h : (x == y) = true) : x = y := beq_iff_eq.mp h
theorem str_false {x y : Str} (h : (x == y) = false) : x ≠ y := fun e => by rw [beq_eq_false_iff_ne] at h; exact h e
section
variable {kd : Str} {i : Nat} {ch : List (Str × Nat)}
abbrev figS (ch : List (Str × Nat)) : Str := ⟨(codes (ch.filter fun p => p.1 == kFig)).toArray⟩
theorem ask_r0 (A : Asked kd i (Int.toNat 0) ch) (h : (kd == Str.ofString "code") = true) : P229 (codes ch) = .reply := A.reply (str_true h) (.inl rfl)
theorem ask_r2 (A : Asked kd i (Int.toNat 2) ch) (h : (kd == Str.ofString "code") = true) (h2 : (i : Int) < 2) : P229 (codes ch) = .reply := A.reply (str_true h) (.inr (by omega))
theorem ask_po {t : Nat} (A : Asked kd i t ch) (h : (kd == Str.ofString "open") = true) : P229 (codes ch) = .proto := A.proto (.inl (str_true h))
theorem ask_pm {t : Nat} (A : Asked kd i t ch) (h : (kd == Str.ofString "mark") = true) : P229 (codes ch) = .proto := A.proto (.inr (.inl (str_true h)))
theorem ask_pc (A : Asked kd i (Int.toNat 0) ch) (h : (kd == Str.ofString "close") = true) : P229 (codes ch) = .proto := A.proto (.inr (.inr ⟨str_true h, rfl⟩))
theorem ask_n0 (A : Asked kd i (Int.toNat 0) ch) (c1 : (kd == Str.ofString "code") = false) (c2 : (kd == Str.ofString "open") = false) (c3 : (kd == Str.ofString "mark") = false) (c4 : (kd == Str.ofString "close") = false) : P229 (codes ch) = outNum (PySem.intText? (figS ch)) :=
  A.num (fun q => str_false c1 q.1) (by rintro (q | q | q); exact str_false c2 q; exact str_false c3 q; exact str_false c4 q.1)
theorem ask_n2a (A : Asked kd i (Int.toNat 2) ch) (c1 : (kd == Str.ofString "code") = false) (c2 : (kd == Str.ofString "open") = false) (c3 : (kd == Str.ofString "mark") = false) : P229 (codes ch) = outNum (PySem.intText? (figS ch)) :=
  A.num (fun q => str_false c1 q.1) (by rintro (q | q | q); exact str_false c2 q; exact str_false c3 q; exact absurd q.2 (by decide))
theorem ask_n2b (A : Asked kd i (Int.toNat 2) ch) (c1 : ¬ (i : Int) < 2) (c2 : (kd == Str.ofString "open") = false) (c3 : (kd == Str.ofString "mark") = false) : P229 (codes ch) = outNum (PySem.intText? (figS ch)) :=
  A.num (by rintro ⟨_, q | q⟩; exact absurd q (by decide); omega) (by rintro (q | q | q); exact str_false c2 q; exact str_false c3 q; exact absurd q.2 (by decide))
theorem num_val {l : List Nat} {f : Str} (h : P229 l = outNum (PySem.intText? f)) (e : (f == Str.ofString "") = true) : P229 l = .val := by rw [h, int_empty e]; rfl
theorem num_ok {l : List Nat} {f : Str} {n : Int} (h : P229 l = outNum (PySem.intText? f)) (e : PySem.intText? f = some n) : P229 l = .ok n := by rw [h, e]; rfl
end
end Mine
end
section
open PySem PySem.W PyProof.Rows PySem.Calls Mine
set_option maxRecDepth 100000
local macro_rules | `(tactic| walk_at "subscriptTail") => `(tactic| (k_here; (with_reducible show wpAny _ _ (subscriptTail _ _ (Value.str _ _) (Value.int _ _)) _ _ _); k_dflt (refine Mine.step_mark ?_); (intro yM hMk hMl)))
local macro_rules | `(tactic| walk_at "subscriptTail") => `(tactic| (k_here; (with_reducible show wpAny _ _ (subscriptTail (Expr.Name ("fields" : Str) _) _ (Value.ref _) (Value.int _ _)) _ _ _); k_dflt (refine Mine.step_field (by is_list) (Mine.fieldV_of (by decide +kernel)) (Mine.fieldV_of (by decide +kernel)) (Mine.fieldV_of (by decide +kernel)) (Mine.fieldV_of (by decide +kernel)) ?_); (intro yF tF hFd hFl)))
local macro_rules | `(tactic| walk_at "call type:str") => `(tactic| (k_here; k_dflt (refine Mine.step_port3 ?_); (intro yP hPt hPl)))
local macro_rules | `(tactic| walk_at "exec Assign") => `(tactic| (k_here; (with_reducible show wpAny _ _ (exec (Stmt.Assign [Expr.Name ("signs" : Str) _] _ _) _) _ _ _); k_dflt (refine' Mine.Assign_nest ?F ?hh ?hL ?hsw ?hclos ?hcell ?hkind ?hnames ?hx ?hx2 ?hx3 ?hxx ?hxx3 ?hd ?hd2 ?hd3 ?hy ?hp ?_; (case F => k_asm); (case hh => rfl); (case hL => rfl); (case hsw => with_unfolding_all rfl); (case hclos => with_unfolding_all rfl); (case hcell => decide); (case hkind => rfl); (case hnames => decide); (case hx => rfl); (case hx2 => rfl); (case hx3 => rfl); (case hxx => decide); (case hxx3 => decide); (case hd => decide); (case hd2 => decide); (case hd3 => decide); (case hy => rfl); (case hp => rfl))))
local macro_rules | `(tactic| walk_at "eval ListComp") => `(tactic| (k_here; k_dflt (refine' Mine.ListComp_snd ?F ?hh ?hclos ?hcell ?hkind ?hnames ?hx ?hx2 ?hxx ?hd2 ?_; (case F => k_asm); (case hh => rfl); (case hclos => with_unfolding_all rfl); (case hcell => decide); (case hkind => rfl); (case hnames => decide); (case hx => rfl); (case hx2 => rfl); (case hxx => decide); (case hd2 => decide))))
local macro_rules | `(tactic| walk_at "SrcPairs") => `(tactic| (k_here; first
  | (k_dflt (refine' Mine.src_signs ?F ?N ?l ?hp ?hm ?h1 ?h2 ?h3 ?_; (case F => k_asm); (case N => k_asm); (case l => is_list); (case hp => (repeat (first | exact Mine.PairsOf.nil | (refine Mine.PairsOf.cons' ⟨_, _, _, _, _, rfl, by k_mem, rfl, rfl⟩ ?_)))); (case hm => assumption); (case h1 => assumption); (case h2 => assumption); (case h3 => assumption)); (intro slS DS ysS allS hS tkS hSg hPr hSub hPl hFw hYl F' N'))
  | (k_dflt (refine' Mine.SrcPairs.intro ?F ?N ?l ?hp ?hb ?_; (case F => k_asm); (case N => k_asm); (case l => is_list); (case hp => exact Mine.PairsOf.sub (by assumption) (by (repeat (refine Mine.sub_cons ?_)); exact fun _ h => h)); (case hb => (show (Mine.up _).length ≤ 2000); rw [Mine.up_len]; omega)); (intro DL ysL hL tkL hsL hlL F' N'))))
local macro_rules | `(tactic| walk_at "call builtin:str.join") => `(tactic| (k_here; k_dflt (refine Mine.join_up (by k_asm) (by k_mem) (by assumption) (by omega) ?_); (intro t' k' hjl')))
local macro_rules | `(tactic| walk_at "compareOp NotEq") => `(tactic| (k_here; (with_reducible show wpAny _ _ (compareOp CmpOp.NotEq _ (Value.ref _)) _ _ _); k_dflt (refine' Mine.ne_right ?hS ?hrd ?N ?m1 ?m2 ?ra ?hu ?_; (case hrd => assumption); (case hS => assumption); (case N => k_asm); (case m1 => k_mem); (case m2 => k_mem); (case ra => ked_read); (case hu => ke_room))))
local macro_rules | `(tactic| walk_at "pyIter ref") => `(tactic| (k_here; k_dflt (refine' Mine.loopC_list (fun _ : Unit => _) (fun _ _ => True) () ["mark", "parts", "signs", "k", "times", "kind", "changed", "reply", "figures", "due"] ?k1 ?k2 ?k3 ?k4 ?k5 ?k6 ?k7 ?k8 ?k9 trivial ?_ ?_; (case k1 => rfl); (case k2 => rfl); (case k3 => rfl); (case k4 => k_asm); (case k5 => k_asm); (case k6 => intro c; k_mem); (case k7 => intro c; rfl); (case k8 => rfl); (case k9 => rfl)); (intro I l1 i v cU u it h tk hvi hpT F' N'); k_dflt (obtain ⟨xI, tI, hvI, hxI⟩ := Mine.ints_mem (by assumption) v (List.mem_of_getElem? hvi)); (subst hvI); (clear hvi); (try k_lt l1); (try dsimp only); (try k_fold); rotate_left; (intro cU u h tk hpT F' N'); (try dsimp only); rotate_left))
local macro_rules | `(tactic| walk_at "call builtin:len") => `(tactic| (k_here; (rename Mine.SignsT _ _ => phS); k_dflt (refine Mine.len_lst (by is_list) (by omega) ?_)))
local macro_rules | `(tactic| walk_at "pyIter ref") => `(tactic| (k_here; (rename Mine.SignsT _ _ => phS); (rename IsRange _ _ _ _ _ _ _ _ => hRg); k_dflt (refine' Mine.loopC_range (fun _ : Unit => _) (fun _ _ => True) () ["times", "kind", "changed", "reply", "figures", "due"] ?k1 ?k2 ?k3 ?k4 ?k5 ?k6 ?k7 ?k8 trivial ?_ ?_; (case k1 => rfl); (case k2 => rfl); (case k3 => rfl); (case k6 => exact hRg); (case k4 => k_asm); (case k5 => k_asm); (case k7 => exact small_one (by omega) (by omega) (by omega) (by omega)); (case k8 => intro c; rfl)); (intro I l1 iK tkK cU u it h tk hiK hpT F' N'); (have hKM : True := trivial); (clear hRg); (try dsimp only); (try k_fold); rotate_left; (intro cU u h tk hpT F' N'); (clear hRg); (try dsimp only); rotate_left))
local macro_rules | `(tactic| walk_at "pyIter ref") => `(tactic| (k_here; (rename Mine.SignsT _ _ => phS); (fail_if_success (rename IsRange _ _ _ _ _ _ _ _ => hRg)); k_dflt (refine' Mine.loopC_tuple (fun _ : Unit => _) (fun _ _ => True) () ["kind", "changed", "reply", "figures", "due"] ?k1 ?k2 ?k3 ?k4 ?k5 ?k6 ?k7 ?k8 ?k9 trivial ?_ ?_; (case k1 => rfl); (case k2 => rfl); (case k3 => rfl); (case k4 => k_asm); (case k5 => k_asm); (case k6 => exact ⟨_, News.get (by k_asm) (by k_mem), rfl, _, rfl⟩); (case k7 => exact News.ne (by k_asm) (by k_mem)); (case k8 => exact fun _ => ⟨_, fun _ => by k_mem⟩); (case k9 => intro c; rfl)); (intro I l1 iT vT cU u it h tk hvT hpT F' N'); k_dflt (obtain ⟨xT, tT, hveT, hxT⟩ := Mine.zero_two hvT); (subst hveT); (clear hvT); (try dsimp only); (try k_fold); rotate_left; (intro cU u h tk hpT F' N'); (try dsimp only); rotate_left))
local macro_rules | `(tactic| walk_at "TurnPost") => `(tactic| ((try k_unfold); dsimp only [Mine.TurnPost]; k_dflt (refine Mine.TurnEnd.intro (by assumption) (by k_asm) () ?sub trivial ?_); (case sub => first | ((repeat (first | exact fun _ h => h | (refine Mine.sub_cons ?_))); done) | ((repeat (first | exact Mine.sub_trans (by assumption) (by kcj_all) | (refine Mine.sub_cons ?_))); done)); intro zM hM1 hM2; (simp only [List.contains_cons, List.contains_nil, Bool.or_eq_false_iff, beq_eq_false_iff_ne, ne_eq] at hM2); (simp only [hM1, hM2, if_false, if_true, List.contains_cons, List.contains_nil, beq_iff_eq, Bool.or_eq_true, or_self, or_false, false_or, Bool.false_eq_true, not_false_eq_true])))
local macro_rules | `(tactic| walk_at "wpC") => `(tactic| first
  | ((with_reducible show Mine.wpC _ _ (execs (Stmt.Assign [Expr.Name ("kind" : Str) _] _ _ :: _) _) _ _ _); (rename _ = (0 : Int) ∨ _ => hxT); (have hIsT := Mine.IsT.mk hxT); k_dflt (rcases hxT with hxT | hxT); (all_goals (subst hxT)))
  | ((with_reducible show Mine.wpC _ _ (execs (Stmt.For _ _ _ _ _ :: _) _) _ _ _); k_dflt (refine Mine.wpC_execs_cons (Mine.wpC_For ?_)); (try k_fold))
  | ((with_reducible show Mine.wpC _ _ (execs (Stmt.If (Expr.Compare (Expr.Call _ _ _ _) _ _ _) _ _ _ :: _) _) _ _ _); k_dflt (refine Mine.wpC_if_read ?_); (try k_fold))
  | ((with_reducible show Mine.wpC _ _ (eval (Expr.Call (Expr.Name _ _) _ _ _) _) _ _ _); k_dflt (refine Mine.wpC_Call_Name ?_); (try k_fold))
  | ((with_reducible show Mine.wpC _ _ (execs (_ :: _) _) _ _ _); k_dflt (refine Mine.wpC_execs_step ?_); (try k_fold))
  | ((with_reducible show Mine.wpC _ _ (callWith _ (Value.ref _) _ _ _) _ _ _); k_here; k_dflt (refine' Mine.callWithC_K ?k1 ?k2 ?_; (case k1 => k_asm); (case k2 => k_is); k_whole))
  | ((with_reducible show Mine.wpC _ _ (PySem.call (Value.ref _) _) _ _ _); k_here; k_dflt (refine' M03.read03 ?hR ?hRo ?B ?F ?X ?N ?T ?hk ?hdp ?hun ?_; (case hR => omega); (case hRo => exact Mine.ok_codes (by assumption)); (case B => k_asm); (case F => k_asm); (case X => k_asm); (case N => k_asm); (case T => k_asm); (case hk => rfl); (case hdp => ktr_room); (case hun => ktr_units)); (intro v' a1' o1' a2' o2' h' tk' F' N' hrd'); (try dsimp only))
  | ((with_reducible show Mine.wpC _ _ (execs [] _) _ _ _); k_dflt (refine Mine.wpC_any ?_); (try k_fold)))
local macro_rules | `(tactic| walk_at "SrcPairs") => `(tactic| (k_here; first
  | (k_dflt (refine' Mine.src_signs ?F ?N ?l ?hp ?hm ?h1 ?h2 ?h3 ?_; (case F => k_asm); (case N => k_asm); (case l => is_list); (case hp => (repeat (first | exact Mine.PairsOf.nil | (refine Mine.PairsOf.cons' ⟨_, _, _, _, _, rfl, by k_mem, rfl, rfl⟩ ?_)))); (case hm => assumption); (case h1 => assumption); (case h2 => assumption); (case h3 => assumption)); (intro slS DS ysS allS hS tkS hSg hPr hSub hPl hFw hYl F' N'))
  | (k_dflt (refine' Mine.SrcPairs.intro ?F ?N ?l ?hp ?hb ?_; (case F => k_asm); (case N => k_asm); (case l => is_list); (case hp => exact Mine.PairsOf.sub (by assumption) (by (repeat (refine Mine.sub_cons ?_)); exact fun _ h => h)); (case hb => (show (Mine.up _).length ≤ 2000); rw [Mine.up_len]; omega)); (intro DL ysL hL tkL hsL hlL F' N'))))
local macro_rules | `(tactic| walk_at "TurnPost") => `(tactic| ((try k_unfold); dsimp only [Mine.TurnPost]; k_dflt (refine Mine.TurnEnd.intro (by assumption) (by k_asm) () ?sub trivial ?_); (case sub => first | ((repeat (first | exact fun _ h => h | (refine Mine.sub_cons ?_))); done) | ((repeat (first | exact Mine.sub_trans (by assumption) (by kcj_all) | (refine Mine.sub_cons ?_))); done)); intro zM hM1 hM2; (simp only [List.contains_cons, List.contains_nil, Bool.or_eq_false_iff, beq_eq_false_iff_ne, ne_eq] at hM2); (simp only [hM1, hM2, if_false, if_true, List.contains_cons, List.contains_nil, beq_iff_eq, Bool.or_eq_true, or_self, or_false, false_or, Bool.false_eq_true, not_false_eq_true])))
local macro_rules | `(tactic| walk_at "subscriptTail") => `(tactic| (k_here; (with_reducible show wpAny _ _ (subscriptTail (Expr.Name ("signs" : Str) _) _ (Value.ref _) (Value.int _ _)) _ _ _); k_dflt (refine' Mine.step_pair2 ?hp ?hl ?hi ?hf ?_; (case hl => is_list); (case hp => assumption); (case hi => omega); (case hf => omega)); (intro aP oP ntP tP1 tP2 hPv hPo hPc hPd)))
local macro_rules | `(tactic| walk_at "subscriptTail") => `(tactic| (k_here; (with_reducible show wpAny _ _ (subscriptTail _ (Expr.Constant _ _ _) (Value.ref _) (Value.int _ _)) _ _ _); k_dflt (refine' Mine.step_kind ?N ?m ?c ?d ?_; (case c => assumption); (case d => assumption); (case N => k_asm); (case m => (repeat (refine List.mem_cons_of_mem _ ?_)); assumption))))
local macro_rules | `(tactic| walk_at "subscriptTail Name Slice ref ref") => `(tactic| (k_here; first
  | ((with_reducible show wpAny _ _ (subscriptTail (Expr.Name ("signs" : Str) _) (Expr.Slice none _ _ _) _ _) _ _ _); k_dflt (refine' Mine.slice_toL ?F ?N ?l ?k ?z ?_; (case F => k_asm); (case N => k_asm); (case l => is_list); (case k => omega); (case z => omega)); (intro h' F' N'))
  | ((with_reducible show wpAny _ _ (subscriptTail (Expr.Name ("signs" : Str) _) (Expr.Slice _ none _ _) _ _) _ _ _); k_dflt (refine' Mine.slice_fromL ?F ?N ?l ?k ?z ?_; (case F => k_asm); (case N => k_asm); (case l => is_list); (case k => omega); (case z => omega)); (intro h' F' N'))))
local macro_rules | `(tactic| walk_at "binaryOp Mult ref int") => `(tactic| (k_here; k_dflt (refine' Mine.mul_one ?F ?N ?m ?x ?_; (case F => k_asm); (case N => k_asm); (case m => k_mem); (case x => first | exact Or.inl rfl | exact Or.inr rfl)); (intro h' F' N')))
local macro_rules | `(tactic| walk_at "binaryOp Add ref ref") => `(tactic| (k_here; k_dflt (refine' Mine.add_L ?F ?N ?l ?b ?v ?w ?_; (case F => k_asm); (case N => k_asm); (case l => is_list); (case b => is_list); (case v => (simp only [List.length_append, List.length_take, List.length_drop, List.length_replicate]; omega)); (case w => (simp only [List.length_append, List.length_take, List.length_drop, List.length_replicate]; omega))); (intro h' F' N')))
local macro_rules | `(tactic| walk_at "storeName") => `(tactic| (k_here; (fail_if_success (rename Mine.Asked _ _ _ _ => hAsk)); (with_reducible show wpAny _ _ (storeName _ ("changed" : Str) (Value.ref _)) _ _ _); (rename _ = some (Value.ref _) => hVI); k_dflt (obtain ⟨chT, hAsk, hPcT, hPlT, hFwT, hDgT⟩ := Mine.changed_intro2 (by assumption) (by assumption) (by assumption) hVI)))
local macro_rules | `(tactic| walk_at "eval ListComp") => `(tactic| (k_here; first
  | ((with_reducible show wpAny _ _ (eval (Expr.ListComp _ [PySem.Comprehension.mk _ _ [] _] _ _) _) _ _ _); k_dflt (refine' Mine.ListComp_snd ?F ?hh ?hclos ?hcell ?hkind ?hnames ?hx ?hx2 ?hxx ?hd2 ?_; (case F => k_asm); (case hh => rfl); (case hclos => with_unfolding_all rfl); (case hcell => decide); (case hkind => rfl); (case hnames => decide); (case hx => rfl); (case hx2 => rfl); (case hxx => decide); (case hd2 => decide)))
  | ((with_reducible show wpAny _ _ (eval (Expr.ListComp _ [PySem.Comprehension.mk _ _ [_] _] _ _) _) _ _ _); k_dflt (refine' Mine.ListComp_fig ?F ?hh ?hclos ?hcell ?hkind ?hnames ?hx ?hx2 ?hxx ?hd ?hd2 ?_; (case F => k_asm); (case hh => rfl); (case hclos => with_unfolding_all rfl); (case hcell => decide); (case hkind => rfl); (case hnames => decide); (case hx => rfl); (case hx2 => rfl); (case hxx => decide); (case hd => decide); (case hd2 => decide)))))
local macro_rules | `(tactic| walk_at "call builtin:str.join") => `(tactic| (k_here; k_dflt (first
  | (refine Mine.join_up (by k_asm) (by k_mem) (by assumption) (by omega) ?_; (intro t' k' hjl'))
  | (refine Mine.join_fig (by k_asm) (by k_mem) (by assumption) (by omega) ?_; (intro t' k' hjl')))))
local macro_rules | `(tactic| walk_at "call type:int") => `(tactic| (k_here; k_dflt (refine Mine.step_intF (by assumption) (by assumption) (by omega) ?_); (intro nF hnF)))
local macro_rules | `(tactic| walk_at "compareOp NotEq") => `(tactic| (k_here; (with_reducible show wpAny _ _ (compareOp CmpOp.NotEq _ (Value.ref _)) _ _ _); (rename Mine.Asked _ _ _ _ => hAsk); k_dflt (refine' Mine.ne_asked ?hP ?hpl ?hrd ?N ?m1 ?m2 ?ra ?hu ?_; (case hrd => assumption); (case hP => first  | exact Mine.ask_r0 hAsk (by assumption)  | exact Mine.ask_r2 hAsk (by assumption) (by assumption)  | exact Mine.ask_po hAsk (by assumption)  | exact Mine.ask_pm hAsk (by assumption)  | exact Mine.ask_pc hAsk (by assumption)  | exact Mine.num_ok (Mine.ask_n0 hAsk (by assumption) (by assumption) (by assumption) (by assumption)) (by assumption)  | exact Mine.num_ok (Mine.ask_n2a hAsk (by assumption) (by assumption) (by assumption)) (by assumption)  | exact Mine.num_ok (Mine.ask_n2b hAsk (by assumption) (by assumption) (by assumption)) (by assumption)  | exact Mine.num_val (Mine.ask_n0 hAsk (by assumption) (by assumption) (by assumption) (by assumption)) (by assumption)  | exact Mine.num_val (Mine.ask_n2a hAsk (by assumption) (by assumption) (by assumption)) (by assumption)  | exact Mine.num_val (Mine.ask_n2b hAsk (by assumption) (by assumption) (by assumption)) (by assumption)); (case hpl => assumption); (case N => k_asm); (case m1 => k_mem); (case m2 => k_mem); (case ra => (dsimp only [Mine.outData]; ked_read)); (case hu => ke_room))))
set_option maxHeartbeats 16000000 in
theorem PySem.Challenge.cw_km0015_03_holds : PySem.Challenge.rw_km0015_03.Holds :=
  M03.hd (by
    k_fill
    intro w s₀ s₁ mg mb G Y fa o pm cd doc dV kV ho hd' hcd hD hmg hg args vals as hpre hlay hrd hwl hlo
    have KX := kIn_of Y
    have X := (Ground.X G).1
    have V := (Ground.X G).2
    try w_nolog (first | (have GL := glob_more (Ground.glob G (by first | k_qdec | decide +kernel) (by first | k_qdec | decide +kernel)) V) | (have GL := glob_more (Ground.glob G (by decide +kernel)) V))
    refine Ground.open G ?_
    intro T B D TE TW
    try (refine guard_noD D (by decide +kernel) ?_; clear D)
    obtain ⟨_, _, M⟩ := bmod_of_top T
    have TA := at_of_top T
    try (obtain ⟨_, _, he, B0⟩ := based_of_top T rfl hmg ho hd'; have he' : cd = _ := he; subst he'; clear he)
    clear hmg
    wrow_args hpre hlay hrd hwl hlo
    all_goals (
      refine Mine.enterC ?_
      w_top on
      refine Mine.codeC_mono ?_ (fun _ _ g => GoodW.toG g)
      have K0 := below_caller (Top.heap T)
      have he := Dflts.none hD rfl
      subst he
      refine Mine.call_fullC (by decide) ho hd' (Top.nolimit T) hcd (BindsTo.of_eq rfl) (locs rfl) fun h₁ F => ?_
      w_binds F
      have N0 := (News.nil : News _ _ _ []).at F
      clear hd' TA
      k_drop)
    (all_goals try k_fold)
    k_steps)
end
