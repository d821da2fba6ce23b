import PyProof.Rows.All
import Wide.All
import OpenK.AllK
import Wide.FinOn
import Lean
import PySem.Challenge.RW_am6005_01
set_option Elab.async false
section
open PySem PySem.W PyProof.Rows PySem.Spec PySem.Calls
set_option Elab.async false
set_option maxRecDepth 100000
namespace Mine
set_option maxHeartbeats 0 in
open_top hd for PySem.Challenge.rw_am6005_01
theorem fill (w : World) : PySem.Challenge.rw_am6005_01 = PySem.Challenge.rw_am6005_01 ∧ Mine.hd.heap_39 w.params = Mine.hd.heap_39 w.params := by
  k_fill
  w_top off
  exact ⟨rfl, rfl⟩
abbrev PR : Program := PySem.Challenge.rw_am6005_01.row.prog
end Mine
end
section
set_option linter.unusedVariables false
namespace Mine
def isWs (c : Nat) : Bool := c == 32 || c == 9 || c == 10 || c == 13 || c == 12
def isPunct (c : Nat) : Bool := (33 ≤ c && c ≤ 47) || (58 ≤ c && c ≤ 64) || (91 ≤ c && c ≤ 96) || (123 ≤ c && c ≤ 126)
def isBl (c : Nat) : Bool := c == 32 || c == 9
/-- behind a line's end: blanks, then a line's end -/
def blankAt (r : List Nat) : Bool := (r.dropWhile isBl).head? == some 10
def escapes : List Nat → Bool
  | d :: _ => isPunct d
  | [] => false
/-- the scan of a title's signs: what is written, and how many signs are taken, the closing sign's among them -/
def scan (o c : Nat) : List Nat → Option (List Nat × Nat)
  | [] => none
  | x :: r =>
    if (x == 0 || (o == 40 && x == 40)) = true then none
    else if (x == 10 && blankAt r) = true then none
    else if (x == 92 && escapes r) = true then (match r with
      | d :: r' => (scan o c r').map fun q => (92 :: d :: q.1, q.2 + 2)
      | [] => none)
    else if (x == c) = true then some ([], 1)
    else (scan o c r).map fun q => (x :: q.1, q.2 + 1)
theorem scan_cons {o c x : Nat} {r : List Nat} : scan o c (x :: r) = (if (x == 0 || (o == 40 && x == 40)) = true then none
    else if (x == 10 && blankAt r) = true then none
    else if (x == 92 && escapes r) = true then (match r with
      | d :: r' => (scan o c r').map fun q => (92 :: d :: q.1, q.2 + 2)
      | [] => none)
    else if (x == c) = true then some ([], 1)
    else (scan o c r).map fun q => (x :: q.1, q.2 + 1)) := by rw [scan.eq_def]
def unesc : List Nat → List Nat
  | [] => []
  | x :: r => match r with
    | [] => [x]
    | d :: r' => if (x == 92 && isPunct d) = true then d :: unesc r' else x :: unesc (d :: r')
def finish (o c : Nat) (at_ : Nat) (r : List Nat) : Option (List Nat × Nat) := (scan o c r).map fun q => (unesc q.1, at_ + q.2)
/-- what the function tells: the outer none where its opening sign is none of four -/
def spec (codes : List Nat) (start fin : Nat) : Option (Option (List Nat × Nat)) :=
  match (codes.take fin).drop start with
  | [] => some none
  | x :: r =>
    if isWs x = false then some none else
    match (x :: r).dropWhile isWs with
    | [] => some none
    | o :: r' =>
      let k := start + ((x :: r).takeWhile isWs).length + 1
      if o = 34 then some (finish 34 34 k r') else if o = 39 then some (finish 39 39 k r') else if o = 40 then some (finish 40 41 k r')
      else if o = 119 then some none else none

def unitsC : List (List Nat × List Nat) := [([97], [97]), ([32], [32]), ([10, 98], [10, 98]), ([92, 34], [34]), ([92, 39], [39]), ([92, 40], [40]), ([92, 41], [41]), ([92, 92], [92]), ([92, 97], [92, 97]),
  ([38, 97, 109, 112, 59], [38, 97, 109, 112, 59]), ([34], [34]), ([39], [39]), ([41], [41]), ([40], [40]), ([233], [233])]
def pairsC : List (Nat × Nat) := [(34, 34), (39, 39), (40, 41)]
def okU (o c : Nat) (u : List Nat × List Nat) : Prop := u ∈ unitsC ∧ u.1 ≠ [c] ∧ ¬ (o = 40 ∧ u.1 = [40])
def wordsC (us : List (List Nat × List Nat)) : List Nat := (us.map (·.1)).flatten
def toldC (us : List (List Nat × List Nat)) : List Nat := (us.map (·.2)).flatten

theorem scan_plain {o c x : Nat} {r : List Nat} (h0 : x ≠ 0) (h1 : ¬ (o = 40 ∧ x = 40)) (h2 : x ≠ 10) (h3 : x ≠ 92) (h4 : x ≠ c) :
    scan o c (x :: r) = (scan o c r).map fun q => (x :: q.1, q.2 + 1) := by
  rw [scan_cons]
  have e1 : (x == 0 || (o == 40 && x == 40)) = false := by
    simp only [Bool.or_eq_false_iff, beq_eq_false_iff_ne, ne_eq, Bool.and_eq_false_iff]
    refine ⟨h0, ?_⟩
    by_cases ho : o = 40
    · exact .inr fun hx => h1 ⟨ho, hx⟩
    · exact .inl ho
  have e2 : (x == 10 && blankAt r) = false := by simp [h2]
  have e3 : (x == 92 && escapes r) = false := by simp [h3]
  have e4 : (x == c) = false := by simp [h4]
  simp only [e1, e2, e3, e4, Bool.false_eq_true, if_false]
theorem scan_esc {o c d : Nat} {r : List Nat} (hd : isPunct d = true) :
    scan o c (92 :: d :: r) = (scan o c r).map fun q => (92 :: d :: q.1, q.2 + 2) := by
  rw [scan_cons]
  have e1 : ((92 : Nat) == 0 || (o == 40 && (92 : Nat) == 40)) = false := by simp
  have e2 : ((92 : Nat) == 10 && blankAt (d :: r)) = false := by simp
  simp only [e1, e2, hd, escapes, Bool.false_eq_true, if_false, beq_self_eq_true, if_true, Bool.and_self]
theorem scan_back {o c d : Nat} {r : List Nat} (hd : isPunct d = false) (hc : c ≠ 92) :
    scan o c (92 :: d :: r) = (scan o c (d :: r)).map fun q => (92 :: q.1, q.2 + 1) := by
  rw [scan_cons]
  have e1 : ((92 : Nat) == 0 || (o == 40 && (92 : Nat) == 40)) = false := by simp
  have e2 : ((92 : Nat) == 10 && blankAt (d :: r)) = false := by simp
  have e3 : ((92 : Nat) == c) = false := by simp; omega
  simp only [e1, e2, e3, hd, escapes, Bool.false_eq_true, if_false, Bool.and_false]
theorem scan_line {o c : Nat} {r : List Nat} (h : blankAt r = false) (hc : c ≠ 10) (ho : True) :
    scan o c (10 :: r) = (scan o c r).map fun q => (10 :: q.1, q.2 + 1) := by
  rw [scan_cons]
  have e1 : ((10 : Nat) == 0 || (o == 40 && (10 : Nat) == 40)) = false := by simp
  have e3 : ((10 : Nat) == 92 && escapes r) = false := by simp
  have e4 : ((10 : Nat) == c) = false := by simp; omega
  simp only [e1, e3, e4, h, Bool.and_false, Bool.false_eq_true, if_false]
theorem scan_close {o c : Nat} {r : List Nat} (hp : (o, c) ∈ pairsC) : scan o c (c :: r) = some ([], 1) := by
  simp only [pairsC, List.mem_cons, Prod.mk.injEq, List.not_mem_nil, or_false] at hp
  rcases hp with ⟨rfl, rfl⟩ | ⟨rfl, rfl⟩ | ⟨rfl, rfl⟩ <;> simp [scan_cons]
def addTo (a : List Nat) (q : List Nat × Nat) : List Nat × Nat := (a ++ q.1, a.length + q.2)
theorem map_addTo_nil (x : Option (List Nat × Nat)) : x.map (addTo []) = x := by
  cases x with
  | none => rfl
  | some q => simp [addTo]
theorem map_addTo (a b : List Nat) (x : Option (List Nat × Nat)) : (x.map (addTo b)).map (addTo a) = x.map (addTo (a ++ b)) := by
  cases x with
  | none => rfl
  | some q => simp [addTo, Nat.add_assoc]
theorem scan_unit {o c : Nat} {u : List Nat × List Nat} {r : List Nat} (hp : (o, c) ∈ pairsC) (hu : okU o c u) : scan o c (u.1 ++ r) = (scan o c r).map (addTo u.1) := by
  obtain ⟨hm, h1, h2⟩ := hu
  simp only [pairsC, List.mem_cons, Prod.mk.injEq, List.not_mem_nil, or_false] at hp
  have hc0 : c ≠ 92 ∧ c ≠ 10 ∧ c ≠ 97 ∧ c ≠ 32 ∧ c ≠ 98 ∧ c ≠ 38 ∧ c ≠ 109 ∧ c ≠ 112 ∧ c ≠ 59 ∧ c ≠ 233 := by omega
  obtain ⟨c1, c2, c3, c4, c5, c6, c7, c8, c9, c10⟩ := hc0
  have one : ∀ x : Nat, x ≠ 0 → ¬ (o = 40 ∧ x = 40) → x ≠ 10 → x ≠ 92 → x ≠ c → ∀ r, scan o c (x :: r) = (scan o c r).map (addTo [x]) := fun x a1 a2 a3 a4 a5 r => by
    rw [scan_plain a1 a2 a3 a4 a5]
    congr 1; funext q; simp [addTo, Nat.add_comm]
  have esc : ∀ d : Nat, isPunct d = true → ∀ r, scan o c (92 :: d :: r) = (scan o c r).map (addTo [92, d]) := fun d hd r => by
    rw [scan_esc hd]
    congr 1; funext q; simp [addTo, Nat.add_comm]
  simp only [unitsC, List.mem_cons, List.not_mem_nil, or_false] at hm
  rcases hm with rfl | rfl | rfl | rfl | rfl | rfl | rfl | rfl | rfl | rfl | rfl | rfl | rfl | rfl | rfl
  · exact one 97 (by omega) (by omega) (by omega) (by omega) (by omega) r
  · exact one 32 (by omega) (by omega) (by omega) (by omega) (by omega) r
  · show scan o c (10 :: 98 :: r) = _
    rw [scan_line (by simp [blankAt, isBl]) c2 trivial, one 98 (by omega) (by omega) (by omega) (by omega) (by omega) r]
    cases scan o c r <;> simp [addTo]; omega
  · exact esc 34 (by decide) r
  · exact esc 39 (by decide) r
  · exact esc 40 (by decide) r
  · exact esc 41 (by decide) r
  · exact esc 92 (by decide) r
  · show scan o c (92 :: 97 :: r) = _
    rw [scan_back (by decide) c1, one 97 (by omega) (by omega) (by omega) (by omega) (by omega) r]
    cases scan o c r <;> simp [addTo]; omega
  · show scan o c (38 :: 97 :: 109 :: 112 :: 59 :: r) = _
    rw [one 38 (by omega) (by omega) (by omega) (by omega) (by omega), one 97 (by omega) (by omega) (by omega) (by omega) (by omega), one 109 (by omega) (by omega) (by omega) (by omega) (by omega), one 112 (by omega) (by omega) (by omega) (by omega) (by omega), one 59 (by omega) (by omega) (by omega) (by omega) (by omega)]
    simp only [map_addTo]; rfl
  · exact one 34 (by omega) (by omega) (by omega) (by omega) (by intro h; apply h1; rw [← h]) r
  · exact one 39 (by omega) (by omega) (by omega) (by omega) (by intro h; apply h1; rw [← h]) r
  · exact one 41 (by omega) (by omega) (by omega) (by omega) (by intro h; apply h1; rw [← h]) r
  · refine one 40 (by omega) (fun h => h2 ⟨h.1, rfl⟩) (by omega) (by omega) (by intro h; apply h1; rw [← h]) r
  · exact one 233 (by omega) (by omega) (by omega) (by omega) (by omega) r
theorem scan_words {o c : Nat} (hp : (o, c) ∈ pairsC) : ∀ {us : List (List Nat × List Nat)} {r : List Nat}, (∀ u ∈ us, okU o c u) → scan o c (wordsC us ++ r) = (scan o c r).map (addTo (wordsC us))
  | [], r, _ => by simp [wordsC, map_addTo_nil]
  | u :: us, r, h => by
    have e : wordsC (u :: us) = u.1 ++ wordsC us := by simp [wordsC]
    rw [e, List.append_assoc, scan_unit hp (h u (.head _)), scan_words hp fun q hq => h q (.tail _ hq), map_addTo]
theorem unesc_one {x : Nat} {r : List Nat} (h : x ≠ 92) : unesc (x :: r) = x :: unesc r := by
  cases r with
  | nil => simp [unesc]
  | cons d r => rw [unesc]; simp [h]
theorem unesc_esc {d : Nat} {r : List Nat} (h : isPunct d = true) : unesc (92 :: d :: r) = d :: unesc r := by rw [unesc]; simp [h]
theorem unesc_back {d : Nat} {r : List Nat} (h : isPunct d = false) : unesc (92 :: d :: r) = 92 :: unesc (d :: r) := by rw [unesc]; simp [h]
theorem unesc_unit {u : List Nat × List Nat} {r : List Nat} (hm : u ∈ unitsC) : unesc (u.1 ++ r) = u.2 ++ unesc r := by
  simp only [unitsC, List.mem_cons, List.not_mem_nil, or_false] at hm
  rcases hm with rfl | rfl | rfl | rfl | rfl | rfl | rfl | rfl | rfl | rfl | rfl | rfl | rfl | rfl | rfl
  all_goals simp only [List.cons_append, List.nil_append]
  · exact unesc_one (by omega)
  · exact unesc_one (by omega)
  · rw [unesc_one (by omega), unesc_one (by omega)]
  · exact unesc_esc (by decide)
  · exact unesc_esc (by decide)
  · exact unesc_esc (by decide)
  · exact unesc_esc (by decide)
  · exact unesc_esc (by decide)
  · rw [unesc_back (by decide), unesc_one (by omega)]
  · rw [unesc_one (by omega), unesc_one (by omega), unesc_one (by omega), unesc_one (by omega), unesc_one (by omega)]
  · exact unesc_one (by omega)
  · exact unesc_one (by omega)
  · exact unesc_one (by omega)
  · exact unesc_one (by omega)
  · exact unesc_one (by omega)
theorem unesc_words : ∀ {us : List (List Nat × List Nat)}, (∀ u ∈ us, u ∈ unitsC) → unesc (wordsC us) = toldC us
  | [], _ => rfl
  | u :: us, h => by
    have e : wordsC (u :: us) = u.1 ++ wordsC us := by simp [wordsC]
    have e2 : toldC (u :: us) = u.2 ++ toldC us := by simp [toldC]
    rw [e, e2, unesc_unit (h u (.head _)), unesc_words fun q hq => h q (.tail _ hq)]
-- the tails
theorem scan_nul {o c : Nat} {r : List Nat} : scan o c (0 :: r) = none := by simp [scan_cons]
theorem scan_blank {o c : Nat} {r : List Nat} (h : blankAt r = true) : scan o c (10 :: r) = none := by
  rw [scan_cons]; simp [h]
theorem scan_open {c : Nat} {r : List Nat} : scan 40 c (40 :: r) = none := by simp [scan_cons]
theorem scan_last {o c : Nat} (hp : (o, c) ∈ pairsC) : scan o c [92, c] = none := by
  simp only [pairsC, List.mem_cons, Prod.mk.injEq, List.not_mem_nil, or_false] at hp
  rcases hp with ⟨rfl, rfl⟩ | ⟨rfl, rfl⟩ | ⟨rfl, rfl⟩ <;> simp [escapes, isPunct, scan]
theorem takeWs {gap r : List Nat} {o : Nat} (hg : ∀ x ∈ gap, isWs x = true) (ho : isWs o = false) : (gap ++ o :: r).takeWhile isWs = gap ∧ (gap ++ o :: r).dropWhile isWs = o :: r := by
  induction gap with
  | nil => simp [ho]
  | cons x g ih =>
    have hx := hg x (.head _)
    obtain ⟨a, b⟩ := ih fun y hy => hg y (.tail _ hy)
    simp [hx, a, b]
theorem dropWs {gap : List Nat} (hg : ∀ x ∈ gap, isWs x = true) : gap.dropWhile isWs = [] := by
  induction gap with
  | nil => rfl
  | cons x g ih => simp [hg x (.head _), ih fun y hy => hg y (.tail _ hy)]
theorem cut_at {hd gap body : List Nat} {o fin : Nat} (hf : hd.length + gap.length + 1 ≤ fin) :
    ((hd ++ (gap ++ o :: body)).take fin).drop hd.length = gap ++ o :: body.take (fin - (hd.length + gap.length + 1)) := by
  obtain ⟨n, rfl⟩ : ∃ n, fin = hd.length + (gap.length + (n + 1)) := ⟨fin - (hd.length + gap.length + 1), by omega⟩
  rw [List.take_length_add_append, List.drop_left, List.take_length_add_append, List.take_succ_cons]
  congr 3
  omega
theorem spec_open {hd gap body : List Nat} {o fin : Nat} (hg0 : gap ≠ []) (hg : ∀ x ∈ gap, isWs x = true) (ho : isWs o = false) (hf : hd.length + gap.length + 1 ≤ fin) :
    spec (hd ++ (gap ++ o :: body)) hd.length fin =
      (let r' := body.take (fin - (hd.length + gap.length + 1)); let k := hd.length + gap.length + 1
       if o = 34 then some (finish 34 34 k r') else if o = 39 then some (finish 39 39 k r') else if o = 40 then some (finish 40 41 k r')
       else if o = 119 then some none else none) := by
  unfold spec
  rw [cut_at hf]
  cases gap with
  | nil => exact absurd rfl hg0
  | cons x g =>
    have hx := hg x (.head _)
    obtain ⟨a, b⟩ := takeWs (r := body.take (fin - (hd.length + (x :: g).length + 1))) hg ho
    simp only [List.cons_append] at a b ⊢
    simp only [hx, Bool.true_eq_false, if_false]
    rw [b]
    simp only
    rw [a]
theorem spec_pair {hd gap body : List Nat} {o c fin : Nat} (hp : (o, c) ∈ pairsC) (hg0 : gap ≠ []) (hg : ∀ x ∈ gap, isWs x = true) (hf : hd.length + gap.length + 1 ≤ fin) :
    spec (hd ++ (gap ++ o :: body)) hd.length fin = some (finish o c (hd.length + gap.length + 1) (body.take (fin - (hd.length + gap.length + 1)))) := by
  have ho : isWs o = false := by
    simp only [pairsC, List.mem_cons, Prod.mk.injEq, List.not_mem_nil, or_false] at hp
    rcases hp with ⟨rfl, rfl⟩ | ⟨rfl, rfl⟩ | ⟨rfl, rfl⟩ <;> decide
  rw [spec_open hg0 hg ho hf]
  simp only [pairsC, List.mem_cons, Prod.mk.injEq, List.not_mem_nil, or_false] at hp
  rcases hp with ⟨rfl, rfl⟩ | ⟨rfl, rfl⟩ | ⟨rfl, rfl⟩ <;> simp
theorem spec_found {hd gap body r : List Nat} {o c fin : Nat} {us : List (List Nat × List Nat)} (hp : (o, c) ∈ pairsC) (hg0 : gap ≠ []) (hg : ∀ x ∈ gap, isWs x = true) (hf : hd.length + gap.length + 1 ≤ fin)
    (hu : ∀ u ∈ us, okU o c u) (hb : body.take (fin - (hd.length + gap.length + 1)) = wordsC us ++ c :: r) :
    spec (hd ++ (gap ++ o :: body)) hd.length fin = some (some (toldC us, hd.length + gap.length + 1 + (wordsC us).length + 1)) := by
  rw [spec_pair hp hg0 hg hf, hb]
  unfold finish
  rw [scan_words hp hu, scan_close hp]
  simp [addTo, unesc_words fun u h => (hu u h).1, Nat.add_assoc]
theorem spec_lost {hd gap body r : List Nat} {o c fin : Nat} {us : List (List Nat × List Nat)} (hp : (o, c) ∈ pairsC) (hg0 : gap ≠ []) (hg : ∀ x ∈ gap, isWs x = true) (hf : hd.length + gap.length + 1 ≤ fin)
    (hu : ∀ u ∈ us, okU o c u) (hb : body.take (fin - (hd.length + gap.length + 1)) = wordsC us ++ r) (hr : scan o c r = none) :
    spec (hd ++ (gap ++ o :: body)) hd.length fin = some none := by
  rw [spec_pair hp hg0 hg hf, hb]
  unfold finish
  rw [scan_words hp hu, hr]
  rfl
theorem spec_w {hd gap body : List Nat} {fin : Nat} (hg0 : gap ≠ []) (hg : ∀ x ∈ gap, isWs x = true) (hf : hd.length + gap.length + 1 ≤ fin) :
    spec (hd ++ (gap ++ 119 :: body)) hd.length fin = some none := by
  rw [spec_open hg0 hg (by decide) hf]
  rfl
theorem spec_nows {hd body : List Nat} {o fin : Nat} (ho : isWs o = false) (hf : hd.length + 1 ≤ fin) : spec (hd ++ (o :: body)) hd.length fin = some none := by
  unfold spec
  have e := cut_at (hd := hd) (gap := []) (body := body) (o := o) (fin := fin) (by simpa using hf)
  simp only [List.nil_append] at e
  rw [e]
  simp [ho]
theorem spec_gap {hd gap body : List Nat} {j : Nat} (hg : ∀ x ∈ gap, isWs x = true) (hj : j ≤ gap.length) : spec (hd ++ (gap ++ body)) hd.length (hd.length + j) = some none := by
  have e : ((hd ++ (gap ++ body)).take (hd.length + j)).drop hd.length = gap.take j := by
    rw [List.take_length_add_append, List.drop_left, List.take_append_of_le_length hj]
  unfold spec
  rw [e]
  cases h : gap.take j with
  | nil => rfl
  | cons x r =>
    have hh : ∀ y ∈ x :: r, isWs y = true := fun y hy => hg y (List.mem_of_mem_take (h ▸ hy))
    simp only [hh x (.head _), Bool.true_eq_false, if_false]
    rw [dropWs hh]
end Mine
end
section
set_option linter.unusedVariables false
set_option linter.unusedSimpArgs false
set_option maxRecDepth 10000
namespace Mine
open PySem PySem.Sre
def escCode : Array Nat := #[14, 8, 1, 2, 2, 1, 1, 92, 0, 16, 92, 17, 0, 13, 11, 9, 0, 4227923966, 4160749569, 2013265921, 0, 0, 0, 0, 0, 17, 1, 1]
def blkCode : Array Nat := #[14, 8, 1, 2, 4294967295, 1, 1, 10, 0, 16, 10, 24, 11, 0, 4294967295, 13, 6, 16, 32, 16, 9, 0, 1, 16, 10, 1]
/-- n steps -/
theorem runFor_add : ∀ (a b : Nat) (m : M), M.runFor (a + b) m = M.runFor b (M.runFor a m)
  | 0, b, m => by rw [Nat.zero_add]; rfl
  | a + 1, b, m => by
    rw [Nat.add_right_comm]
    show (if m.outcome.isSome then m else M.runFor (a + b) m.step) = M.runFor b (if m.outcome.isSome then m else M.runFor a m.step)
    split
    · rename_i h
      cases b with
      | zero => rfl
      | succ b => show m = (if m.outcome.isSome then m else _); rw [if_pos h]
    · exact runFor_add a b m.step
theorem runFor_done {m : M} (h : m.outcome.isSome = true) : ∀ n, M.runFor n m = m
  | 0 => rfl
  | n + 1 => by show (if m.outcome.isSome then m else _) = m; rw [if_pos h]
/-- the machine at an attempt's start: the escape's pattern -/
def at9 (text : Array Nat) (lim s : Nat) (first : Bool) (marks : Array (Option Nat)) (seen : Seen) : M :=
  { code := escCode, text, lim, start := s, lastStart := lim, pc := 9, pos := s, handed := s, outermost := first, marks, frames := [{ wait := .nextStart, pc := 9, pos := s, outermost := first }], weight := 1, seen }
theorem esc_fail1 {text : Array Nat} {lim s : Nat} {first : Bool} {marks : Array (Option Nat)} {seen : Seen} (h : s < lim) (hb : (text[s]?.getD 0 == 92) = false) :
    ∃ seen', (M.runFor 2 (at9 text lim s first marks seen)) = at9 text lim (s + 1) false marks seen' := by
  have h1 : ¬ lim ≤ s := by omega
  simp [M.runFor, M.step, at9, M.exec, M.word, escCode, ops, accepts, h1, h, hb, M.say, M.resume, M.putBack, M.attemptFrom, M.hasFirstSet, M.attemptAt, M.attempt]
theorem esc_end {text : Array Nat} {lim s : Nat} {first : Bool} {marks : Array (Option Nat)} {seen : Seen} (h : lim ≤ s) :
    ∃ m, (M.runFor 3 (at9 text lim s first marks seen)) = m ∧ m.outcome = some .failed := by
  have h1 : ¬ s < lim := by omega
  simp [M.runFor, M.step, at9, M.exec, M.word, escCode, ops, accepts, h1, h, M.say, M.resume, M.putBack, M.attemptFrom, M.hasFirstSet, M.attemptAt, M.attempt]
/-- the set of the signs that may be escaped -/
def inEsc (c : Nat) : Bool := decide (c < 256 ∧ ([14, 8, 1, 2, 2, 1, 1, 92, 0, 16, 92, 17, 0, 13, 11, 9, 0, 4227923966, 4160749569, 2013265921, 0, 0, 0, 0, 0, 17, 1, 1][15 + (1 + c / 32)]?.getD 0).testBit (c % 32) = true)
theorem inEsc_low : ∀ c < 256, inEsc c = isPunct c := by decide +kernel
theorem inEsc_is (c : Nat) : inEsc c = isPunct c := by
  by_cases h : c < 256
  · exact inEsc_low c h
  · have : isPunct c = false := by
      simp only [isPunct, Bool.or_eq_false_iff, Bool.and_eq_false_iff, decide_eq_false_iff_not]
      omega
    simp [inEsc, h, this]
theorem in_set (c : Nat) (seen : Seen) : ∃ seen', inSet escCode c 28 15 true seen = .ok (isPunct c, seen') := by
  rw [← inEsc_is]
  have e : inSet escCode c 28 15 true seen = if inEsc c = true then .ok (true, seen.add 9) else .ok (false, (seen.add 9).add 0) := by
    simp [inSet, escCode, ops, inEsc]
  rw [e]
  cases inEsc c
  · exact ⟨_, rfl⟩
  · exact ⟨_, rfl⟩
theorem esc_fail2 {text : Array Nat} {lim s : Nat} {first : Bool} {marks : Array (Option Nat)} {seen : Seen} (h : s < lim) (hb : (text[s]?.getD 0 == 92) = true) (h2 : lim ≤ s + 1) :
    ∃ seen' marks', marks'.size = marks.size ∧ (M.runFor 4 (at9 text lim s first marks seen)) = at9 text lim (s + 1) false marks' seen' := by
  have h1 : ¬ lim ≤ s := by omega
  simp [M.runFor, M.step, at9, M.exec, M.word, escCode, ops, accepts, h1, h, hb, h2, M.say, M.resume, M.putBack, M.attemptFrom, M.hasFirstSet, M.attemptAt, M.attempt, itemWidth, M.mark]
  exact ⟨_, _, by simp, rfl, rfl⟩
theorem esc_fail3 {text : Array Nat} {lim s : Nat} {first : Bool} {marks : Array (Option Nat)} {seen : Seen} (h : s + 1 < lim) (hb : (text[s]?.getD 0 == 92) = true) (h2 : isPunct (text[s + 1]?.getD 0) = false) :
    ∃ seen' marks', marks'.size = marks.size ∧ (M.runFor 4 (at9 text lim s first marks seen)) = at9 text lim (s + 1) false marks' seen' := by
  have h1 : ¬ lim ≤ s := by omega
  have h3 : ¬ lim ≤ s + 1 := by omega
  have h4 : s < lim := by omega
  obtain ⟨sn, e⟩ := in_set (text[s + 1]?.getD 0) (((seen.add 16).add 17).add 13)
  rw [h2] at e
  simp only [escCode] at e
  simp [M.runFor, M.step, at9, M.exec, M.word, escCode, ops, accepts, h1, h3, h4, h, hb, e, M.say, M.resume, M.putBack, M.attemptFrom, M.hasFirstSet, M.attemptAt, M.attempt, itemWidth, M.mark]
  exact ⟨_, _, by simp, rfl, rfl⟩
theorem esc_hit {text : Array Nat} {lim s : Nat} {first : Bool} {marks : Array (Option Nat)} {seen : Seen} (h : s + 1 < lim) (hb : (text[s]?.getD 0 == 92) = true) (h2 : isPunct (text[s + 1]?.getD 0) = true) (hz : marks.size = 2) :
    ∃ m, (M.runFor 7 (at9 text lim s first marks seen)) = m ∧ m.outcome = some .matched ∧ m.start = s ∧ m.handed = s + 2 ∧ m.lastmark = 1 ∧ m.marks.getD 0 none = some (s + 1) ∧ m.marks.getD 1 none = some (s + 2) := by
  have h1 : ¬ lim ≤ s := by omega
  have h3 : ¬ lim ≤ s + 1 := by omega
  have h4 : s < lim := by omega
  obtain ⟨sn, e⟩ := in_set (text[s + 1]?.getD 0) (((seen.add 16).add 17).add 13)
  rw [h2] at e
  simp only [escCode] at e
  simp [M.runFor, M.step, at9, M.exec, M.word, escCode, ops, accepts, h1, h3, h4, h, hb, e, M.say, M.resume, M.putBack, M.attemptFrom, M.hasFirstSet, M.attemptAt, M.attempt, itemWidth, M.mark, hz]
  simp [show max (-1 : Int) (max 0 1) = 1 from rfl, show max (-1 : Int) 0 = 0 from rfl, hz]
def hit (text : Array Nat) (lim j : Nat) : Prop := j + 1 < lim ∧ text[j]?.getD 0 = 92 ∧ isPunct (text[j + 1]?.getD 0) = true
theorem esc_search {text : Array Nat} {lim : Nat} : ∀ (k s : Nat) (first : Bool) (marks : Array (Option Nat)) (seen : Seen), lim + 1 ≤ s + k → s ≤ lim → marks.size = 2 →
    ∃ n m, n ≤ 4 * k + 8 ∧ M.runFor n (at9 text lim s first marks seen) = m ∧
      ((m.outcome = some .failed ∧ ∀ j, s ≤ j → ¬ hit text lim j) ∨
       ∃ j, s ≤ j ∧ hit text lim j ∧ (∀ i, s ≤ i → i < j → ¬ hit text lim i) ∧ m.outcome = some .matched ∧ m.start = j ∧ m.handed = j + 2 ∧ m.lastmark = 1 ∧ m.marks.getD 0 none = some (j + 1) ∧ m.marks.getD 1 none = some (j + 2)) := by
  intro k
  induction k with
  | zero => intro s first marks seen h1 h2; omega
  | succ k ih =>
    intro s first marks seen h1 h2 hz
    by_cases hs : lim ≤ s
    · obtain ⟨m, e, ho⟩ := esc_end (text := text) (first := first) (marks := marks) (seen := seen) hs
      exact ⟨3, m, by omega, e, .inl ⟨ho, fun j hj hh => by have := hh.1; omega⟩⟩
    · have hs' : s < lim := by omega
      have next : ∀ (a : Nat) (seen' : Seen) (marks' : Array (Option Nat)), a ≤ 4 → marks'.size = 2 → M.runFor a (at9 text lim s first marks seen) = at9 text lim (s + 1) false marks' seen' → ¬ hit text lim s →
          ∃ n m, n ≤ 4 * (k + 1) + 8 ∧ M.runFor n (at9 text lim s first marks seen) = m ∧
      ((m.outcome = some .failed ∧ ∀ j, s ≤ j → ¬ hit text lim j) ∨
       ∃ j, s ≤ j ∧ hit text lim j ∧ (∀ i, s ≤ i → i < j → ¬ hit text lim i) ∧ m.outcome = some .matched ∧ m.start = j ∧ m.handed = j + 2 ∧ m.lastmark = 1 ∧ m.marks.getD 0 none = some (j + 1) ∧ m.marks.getD 1 none = some (j + 2)) := by
        intro a seen' marks' ha hz' e hno
        obtain ⟨n, m, hn, em, hm⟩ := ih (s + 1) false marks' seen' (by omega) (by omega) hz'
        refine ⟨a + n, m, by omega, by rw [runFor_add, e, em], ?_⟩
        rcases hm with ⟨ho, hall⟩ | ⟨j, hj, hh, hbef, r⟩
        · refine .inl ⟨ho, fun j hj => ?_⟩
          by_cases e : j = s
          · rw [e]; exact hno
          · exact hall j (by omega)
        · refine .inr ⟨j, by omega, hh, fun i hi hij => ?_, r⟩
          by_cases e : i = s
          · rw [e]; exact hno
          · exact hbef i (by omega) hij
      cases hb : (text[s]?.getD 0 == 92) with
      | false =>
        obtain ⟨seen', e⟩ := esc_fail1 (first := first) (marks := marks) (seen := seen) hs' hb
        exact next 2 seen' marks (by omega) hz e fun hh => by rw [hh.2.1] at hb; simp at hb
      | true =>
        by_cases h3 : lim ≤ s + 1
        · obtain ⟨seen', marks', hz', e⟩ := esc_fail2 (first := first) (marks := marks) (seen := seen) hs' hb h3
          exact next 4 seen' marks' (by omega) (by omega) e fun hh => by have := hh.1; omega
        · have h3' : s + 1 < lim := by omega
          cases hp : isPunct (text[s + 1]?.getD 0) with
          | false =>
            obtain ⟨seen', marks', hz', e⟩ := esc_fail3 (first := first) (marks := marks) (seen := seen) h3' hb hp
            exact next 4 seen' marks' (by omega) (by omega) e fun hh => by rw [hh.2.2] at hp; simp at hp
          | true =>
            obtain ⟨m, e, r⟩ := esc_hit (first := first) (marks := marks) (seen := seen) h3' hb hp hz
            exact ⟨7, m, by omega, e, .inr ⟨s, Nat.le_refl _, ⟨h3', beq_iff_eq.mp hb, hp⟩, fun i hi hij => by omega, r⟩⟩
theorem search_eq {text : Array Nat} {pos lim : Nat} (h : pos + 2 ≤ lim) : ∃ marks seen, marks.size = 2 ∧ forSearch escCode text 1 pos lim false = at9 text lim pos true marks seen := by
  have h1 : ¬ (lim < pos ∨ lim - pos < 2) := by omega
  unfold forSearch
  simp only [header, escCode, ops]
  simp [h1]
  exact ⟨Array.replicate 2 none, by simp, _, rfl⟩
theorem search_short {text : Array Nat} {pos lim : Nat} (h : lim < pos + 2) : ∃ m, M.runFor 1 (forSearch escCode text 1 pos lim false) = m ∧ m.outcome = some .failed := by
  have h1 : lim < pos ∨ lim - pos < 2 := by omega
  refine ⟨_, rfl, ?_⟩
  unfold forSearch
  simp only [header, escCode, ops]
  simp [h1]
  rfl
-- the pattern of a blank line
def bcount (text : Array Nat) : Nat → Nat → Nat
  | 0, _ => 0
  | n + 1, p => if isBl (text[p]?.getD 0) then bcount text n (p + 1) + 1 else 0
theorem blk_set (c : Nat) (seen : Seen) : ∃ seen', inSet blkCode c 26 17 true seen = .ok (isBl c, seen') := by
  by_cases h1 : c = 32
  · subst h1; exact ⟨_, by simp [inSet, blkCode, ops, isBl]; rfl⟩
  · by_cases h2 : c = 9
    · subst h2; exact ⟨_, by simp [inSet, blkCode, ops, isBl]; rfl⟩
    · exact ⟨_, by simp [inSet, blkCode, ops, isBl, h1, h2]; rfl⟩
theorem blk_accepts (c : Nat) (seen : Seen) : ∃ seen', accepts blkCode 15 c seen = .ok (isBl c, seen') := blk_set c seen
theorem blk_run (text : Array Nat) : ∀ (n p found : Nat) (seen : Seen), ∃ seen', run blkCode text 15 n p found seen = .ok (found + bcount text n p, seen')
  | 0, p, found, seen => ⟨seen, rfl⟩
  | n + 1, p, found, seen => by
    obtain ⟨s1, e⟩ := blk_accepts (text[p]?.getD 0) seen
    have e' : accepts blkCode 15 (text.getD p 0) seen = .ok (isBl (text[p]?.getD 0), s1) := by rw [Array.getD_eq_getD_getElem?]; exact e
    unfold Sre.run
    rw [e']
    cases h : isBl (text[p]?.getD 0) with
    | false => exact ⟨s1, by simp [bcount, h]; rfl⟩
    | true =>
      obtain ⟨s2, e2⟩ := blk_run text n (p + 1) (found + 1) s1
      refine ⟨s2, ?_⟩
      show run blkCode text 15 n (p + 1) (found + 1) s1 = _
      rw [e2]
      simp [bcount, h]
      omega
theorem bcount_le (text : Array Nat) : ∀ n p, bcount text n p ≤ n
  | 0, _ => Nat.le_refl _
  | n + 1, p => by
    unfold bcount
    split
    · have := bcount_le text n (p + 1); omega
    · omega
theorem bcount_bl (text : Array Nat) : ∀ n p i, i < bcount text n p → isBl (text[p + i]?.getD 0) = true
  | 0, _, i, h => by simp [bcount] at h
  | n + 1, p, i, h => by
    unfold bcount at h
    split at h
    · rename_i hb
      cases i with
      | zero => exact hb
      | succ i =>
        have := bcount_bl text n (p + 1) i (by omega)
        rwa [show p + 1 + i = p + (i + 1) by omega] at this
    · omega
def bl9 (text : Array Nat) (lim pos : Nat) (seen : Seen) : M := { code := blkCode, text, lim, start := pos, pc := 9, pos, handed := pos, marks := #[], seen }
/-- behind the blanks, k of them to give back -/
def blG (text : Array Nat) (lim pos q h k : Nat) (hd : Nat) (seen : Seen) : M :=
  { code := blkCode, text, lim, start := pos, pc := 23, pos := q, handed := hd, marks := #[], seen, weight := 1, frames := [{ wait := .giveBack, pc := 11, pos := q, outermost := true, count := (k : Int), kept := { lastmark := -1, lastindex := -1, whole := false, marks := #[] } }] }
theorem blG_yes {text : Array Nat} {lim pos q h k hd : Nat} {seen : Seen} (hq : q < lim) (hc : (text[q]?.getD 0 == 10) = true) : ∃ m, M.runFor 4 (blG text lim pos q h k hd seen) = m ∧ m.outcome = some .matched := by
  have h1 : ¬ lim ≤ q := by omega
  simp [M.runFor, M.step, blG, M.exec, M.word, blkCode, ops, accepts, h1, hc, M.say, M.resume, M.putBack, itemWidth]
theorem blG_no0 {text : Array Nat} {lim pos q h hd : Nat} {seen : Seen} (hc : lim ≤ q ∨ (text[q]?.getD 0 == 10) = false) : ∃ m, M.runFor 3 (blG text lim pos q h 0 hd seen) = m ∧ m.outcome = some .failed := by
  by_cases h1 : lim ≤ q
  · simp [M.runFor, M.step, blG, M.exec, M.word, blkCode, ops, accepts, h1, M.say, M.resume, M.putBack, itemWidth]
  · have hc' := hc.resolve_left h1
    simp [M.runFor, M.step, blG, M.exec, M.word, blkCode, ops, accepts, h1, hc', M.say, M.resume, M.putBack, itemWidth]
theorem blG_no {text : Array Nat} {lim pos q h k hd : Nat} {seen : Seen} (hc : lim ≤ q ∨ (text[q]?.getD 0 == 10) = false) : ∃ seen' hd', M.runFor 2 (blG text lim pos q h (k + 1) hd seen) = blG text lim pos (q - 1) h k hd' seen' := by
  have hk : ¬ ((k : Int) + 1 - 1 < 0) := by omega
  have hk2 : (k : Int) + 1 - 1 = k := by omega
  by_cases h1 : lim ≤ q
  · simp [M.runFor, M.step, blG, M.exec, M.word, blkCode, ops, accepts, h1, M.say, M.resume, M.putBack, itemWidth, M.afterRun, M.attempt, M.frame, hk, hk2]
    rw [if_neg (by omega)]
    exact ⟨_, _, rfl⟩
  · have hc' := hc.resolve_left h1
    simp [M.runFor, M.step, blG, M.exec, M.word, blkCode, ops, accepts, h1, hc', M.say, M.resume, M.putBack, itemWidth, M.afterRun, M.attempt, M.frame, hk, hk2]
    rw [if_neg (by omega)]
    exact ⟨_, _, rfl⟩
theorem blG_fails {text : Array Nat} {lim pos h : Nat} : ∀ (k q hd : Nat) (seen : Seen), (lim ≤ q ∨ (text[q]?.getD 0 == 10) = false) → (∀ i, 1 ≤ i → i ≤ k → (text[q - i]?.getD 0 == 10) = false) →
    ∃ n m, n ≤ 2 * k + 3 ∧ M.runFor n (blG text lim pos q h k hd seen) = m ∧ m.outcome = some .failed
  | 0, q, hd, seen, hc, _ => by
    obtain ⟨m, e, r⟩ := blG_no0 (h := h) (pos := pos) (hd := hd) (seen := seen) hc
    exact ⟨3, m, by omega, e, r⟩
  | k + 1, q, hd, seen, hc, hi => by
    obtain ⟨s', hd', e⟩ := blG_no (h := h) (pos := pos) (hd := hd) (seen := seen) (k := k) hc
    obtain ⟨n, m, hn, em, r⟩ := blG_fails k (q - 1) hd' s' (.inr (hi 1 (by omega) (by omega))) fun i h1 h2 => by
      have := hi (i + 1) (by omega) (by omega)
      rwa [show q - 1 - i = q - (i + 1) by omega]
    exact ⟨2 + n, m, by omega, by rw [runFor_add, e, em], r⟩
theorem bl9_go {text : Array Nat} {lim pos : Nat} {seen : Seen} (h : pos < lim) (hl : lim < 4294967295) (hc : (text[pos]?.getD 0 == 10) = true) :
    ∃ hd seen', M.runFor 2 (bl9 text lim pos seen) = blG text lim pos (pos + 1 + bcount text (lim - (pos + 1)) (pos + 1)) 0 (bcount text (lim - (pos + 1)) (pos + 1)) hd seen' := by
  have h1 : ¬ lim ≤ pos := by omega
  have h2 : ((lim : Int) - ((pos : Int) + 1)).toNat = lim - (pos + 1) := by omega
  have h3 : min 4294967295 (lim - (pos + 1)) = lim - (pos + 1) := by omega
  obtain ⟨s1, e⟩ := blk_run text (lim - (pos + 1)) (pos + 1) 0 ((((seen.add 16).add 24)).add 13)
  simp only [blkCode] at e
  have h4 : ¬ ((lim : Int) - ((pos : Int) + 1) < 0) := by omega
  simp [M.runFor, M.step, bl9, blG, M.exec, M.word, blkCode, ops, accepts, h1, hc, h2, h3, h4, e, M.say, M.resume, M.putBack, itemWidth, M.afterRun, M.attempt, M.frame, M.keep]
theorem rest_cons {text : Array Nat} {lim p : Nat} (h : p < lim) (hz : lim ≤ text.size) : (text.toList.take lim).drop p = text[p]?.getD 0 :: (text.toList.take lim).drop (p + 1) := by
  have h1 : p < (text.toList.take lim).length := by rw [List.length_take, Array.length_toList]; omega
  rw [List.drop_eq_getElem_cons h1]
  have h2 : p < text.size := by omega
  congr 1
  rw [List.getElem_take]
  simp [h2]
theorem rest_nil {text : Array Nat} {lim p : Nat} (h : lim ≤ p) : (text.toList.take lim).drop p = [] := List.drop_eq_nil_of_le (by rw [List.length_take]; omega)
theorem blank_is {text : Array Nat} {lim : Nat} (hz : lim ≤ text.size) : ∀ (d p : Nat), lim - p = d → blankAt ((text.toList.take lim).drop p) = (decide (p + bcount text d p < lim) && (text[p + bcount text d p]?.getD 0 == 10))
  | 0, p, h => by
    rw [rest_nil (by omega)]
    have : ¬ p + bcount text 0 p < lim := by omega
    simp [blankAt, this]
  | d + 1, p, h => by
    rw [rest_cons (by omega) hz]
    unfold bcount
    cases hb : isBl (text[p]?.getD 0) with
    | true =>
      have ih := blank_is hz d (p + 1) (by omega)
      have e : blankAt (text[p]?.getD 0 :: (text.toList.take lim).drop (p + 1)) = blankAt ((text.toList.take lim).drop (p + 1)) := by simp [blankAt, hb]
      rw [e, ih]
      simp only [if_true]
      rw [show p + 1 + bcount text d (p + 1) = p + (bcount text d (p + 1) + 1) by omega]
    | false =>
      have hp : p < lim := by omega
      simp only [Bool.false_eq_true, if_false, Nat.add_zero]
      simp only [blankAt, List.dropWhile_cons, hb, Bool.false_eq_true, if_false, List.head?_cons, hp, decide_true, Bool.true_and]
      rfl
theorem match_eq {text : Array Nat} {pos lim : Nat} (h : pos + 2 ≤ lim) : ∃ seen, forMatch blkCode text 0 pos lim false false = bl9 text lim pos seen := by
  have h1 : ¬ (pos ≤ lim ∧ lim - pos < 2) := by omega
  unfold forMatch
  simp only [header, blkCode, ops]
  simp [h1]
  exact ⟨_, rfl⟩
theorem match_short {text : Array Nat} {pos lim : Nat} (h0 : pos ≤ lim) (h : lim < pos + 2) : ∃ m, M.runFor 1 (forMatch blkCode text 0 pos lim false false) = m ∧ m.outcome = some .failed := by
  have h1 : pos ≤ lim ∧ lim - pos < 2 := by omega
  refine ⟨_, rfl, ?_⟩
  unfold forMatch
  simp only [header, blkCode, ops]
  simp [h1]
  rfl
theorem blk_match {text : Array Nat} {lim pos : Nat} (h : pos < lim) (hl : lim < 4294967295) (hz : lim ≤ text.size) (hc : (text[pos]?.getD 0 == 10) = true) :
    ∃ n m, n ≤ 2 * lim + 10 ∧ M.runFor n (forMatch blkCode text 0 pos lim false false) = m ∧
      ((m.outcome = some .matched ∧ blankAt ((text.toList.take lim).drop (pos + 1)) = true) ∨ (m.outcome = some .failed ∧ blankAt ((text.toList.take lim).drop (pos + 1)) = false)) := by
  by_cases h2 : lim < pos + 2
  · obtain ⟨m, e, r⟩ := match_short (text := text) (by omega) h2
    refine ⟨1, m, by omega, e, .inr ⟨r, ?_⟩⟩
    rw [rest_nil (by omega)]
    rfl
  · obtain ⟨seen, e0⟩ := match_eq (text := text) (pos := pos) (lim := lim) (by omega)
    rw [e0]
    obtain ⟨hd, s1, e1⟩ := bl9_go (seen := seen) h hl hc
    have hbl := blank_is hz (lim - (pos + 1)) (pos + 1) rfl
    have hle := bcount_le text (lim - (pos + 1)) (pos + 1)
    have hall := bcount_bl text (lim - (pos + 1)) (pos + 1)
    generalize bcount text (lim - (pos + 1)) (pos + 1) = k at e1 hbl hle hall
    by_cases hq : pos + 1 + k < lim ∧ (text[pos + 1 + k]?.getD 0 == 10) = true
    · obtain ⟨m, e2, r⟩ := blG_yes (h := 0) (k := k) (pos := pos) (hd := hd) (seen := s1) hq.1 hq.2
      refine ⟨2 + 4, m, by omega, by rw [runFor_add, e1, e2], .inl ⟨r, ?_⟩⟩
      rw [hbl, hq.2]
      simp [hq.1]
    · obtain ⟨n, m, hn, e2, r⟩ := blG_fails (text := text) (lim := lim) (pos := pos) (h := 0) k (pos + 1 + k) hd s1 (by
        by_cases hx : lim ≤ pos + 1 + k
        · exact .inl hx
        · refine .inr ?_
          cases hy : (text[pos + 1 + k]?.getD 0 == 10) with
          | false => rfl
          | true => exact absurd ⟨by omega, hy⟩ hq) fun i i1 i2 => by
        have hb := hall (k - i) (by omega)
        rw [show pos + 1 + (k - i) = pos + 1 + k - i by omega] at hb
        cases hy : (text[pos + 1 + k - i]?.getD 0 == 10) with
        | false => rfl
        | true =>
          rw [beq_iff_eq.mp hy] at hb
          simp [isBl] at hb
      refine ⟨2 + n, m, by omega, by rw [runFor_add, e1, e2], .inr ⟨r, ?_⟩⟩
      rw [hbl]
      cases hy : (text[pos + 1 + k]?.getD 0 == 10) with
      | false => simp
      | true =>
        have : ¬ pos + 1 + k < lim := fun hx => hq ⟨hx, hy⟩
        simp [this]
theorem drop_at {text : Array Nat} {d : Nat} (h : d < text.size) : text.toList.drop d = text[d]?.getD 0 :: text.toList.drop (d + 1) := by
  have e := rest_cons (text := text) (lim := text.size) h (Nat.le_refl _)
  rwa [List.take_of_length_le (by simp)] at e
theorem unesc_step {text : Array Nat} {d : Nat} (h : d < text.size) (hn : ¬ hit text text.size d) : unesc (text.toList.drop d) = text[d]?.getD 0 :: unesc (text.toList.drop (d + 1)) := by
  rw [drop_at h]
  by_cases h2 : d + 1 < text.size
  · rw [drop_at h2, unesc]
    have : ¬ (text[d]?.getD 0 == 92 && isPunct (text[d + 1]?.getD 0)) = true := fun e => by
      simp only [Bool.and_eq_true, beq_iff_eq] at e
      exact hn ⟨h2, e.1, e.2⟩
    rw [if_neg this]
  · rw [List.drop_eq_nil_of_le (by simp; omega)]
    rfl
theorem unesc_none {text : Array Nat} : ∀ (k d : Nat), text.size - d = k → (∀ j, d ≤ j → ¬ hit text text.size j) → unesc (text.toList.drop d) = text.toList.drop d
  | 0, d, h, _ => by
    rw [List.drop_eq_nil_of_le (by simp; omega)]
    rfl
  | k + 1, d, h, hn => by
    rw [unesc_step (by omega) (hn d (Nat.le_refl _)), unesc_none k (d + 1) (by omega) fun j hj => hn j (by omega), ← drop_at (by omega)]
theorem unesc_hit {text : Array Nat} {j : Nat} : ∀ (k d : Nat), j - d = k → d ≤ j → hit text text.size j → (∀ i, d ≤ i → i < j → ¬ hit text text.size i) →
    unesc (text.toList.drop d) = (text.toList.drop d).take (j - d) ++ text[j + 1]?.getD 0 :: unesc (text.toList.drop (j + 2))
  | 0, d, h, hd, hh, _ => by
    have e : d = j := by omega
    subst e
    have h1 := hh.1
    rw [drop_at (by omega), drop_at (d := d + 1) h1, hh.2.1, unesc_esc hh.2.2]
    simp
  | k + 1, d, h, hd, hh, hn => by
    have h1 := hh.1
    rw [unesc_step (by omega) (hn d (Nat.le_refl _) (by omega)), unesc_hit k (d + 1) (by omega) (by omega) hh fun i h1 h2 => hn i (by omega) h2]
    conv => rhs; rw [drop_at (d := d) (by omega)]
    rw [show j - d = (j - (d + 1)) + 1 by omega, List.take_succ_cons]
    rfl
end Mine
end
section
open PySem PySem.W PyProof.Rows PySem.Spec PySem.Calls
set_option Elab.async false
set_option maxRecDepth 100000
set_option linter.unusedVariables false
namespace Mine
theorem fill1 (w : World) : PySem.Challenge.rw_am6005_01 = PySem.Challenge.rw_am6005_01 ∧ Mine.hd.heap_39 w.params = Mine.hd.heap_39 w.params := by
  k_fill
  w_top off
  exact ⟨rfl, rfl⟩
theorem allLt_ne {d : Nat} : ∀ {l : List (Addr × Obj)}, AllLt d l → ∀ q ∈ l, q.1 ≠ d
  | [], _ => fun _ h => nomatch h
  | _ :: _, h => fun q hq => by
    rcases List.mem_cons.mp hq with rfl | hq
    · exact Nat.ne_of_lt h.1
    · exact allLt_ne h.2 q hq
local macro_rules | `(tactic| k_all) => `(tactic| first | assumption | exact allLt_ne (by assumption))
abbrev boxO (scr : Addr) (p st : Int) (tp ts : Tok) (n : Nat) : Obj := listOf #[.ref scr, .int p tp, .int st ts] n
section
variable {w : World} {loose : List Str} {mean : ExcName → Option Value} {mg mb : Str → Option Value}
  {dp un : Nat} {gd : Option (List Code)} {cn : Str} {cs : Scope} {a : Addr} {ccd : Value} {cl : List (Str × Addr)} {outer : List Env} {A₀ : Around} {base h₀ : Heap} {L : Addr} {m : Str → Option Value} {s : Shared} {Q E : Value → Shared → Prop}
  {scr bx : Addr} {vs : List Value} {ns : List Int} {p st size : Int} {tp ts tsz : Tok} {n : Nat} {rest news : List (Addr × Obj)} {g : Obj → List (Addr × Obj)}
theorem news_out {h : Heap} {x : Addr × Obj} {pre post : List (Addr × Obj)} (N : News h₀ L h (pre ++ x :: post)) : News h₀ L h (x :: (pre ++ post)) := fun q hq => N q (by
  rcases List.mem_cons.mp hq with rfl | hq
  · exact List.mem_append_right _ (.head _)
  · rcases List.mem_append.mp hq with hq | hq
    · exact List.mem_append_left _ hq
    · exact List.mem_append_right _ (.tail _ hq))
theorem news_in {h : Heap} {x : Addr × Obj} {pre post : List (Addr × Obj)} (N : News h₀ L h (x :: (pre ++ post))) : News h₀ L h (pre ++ x :: post) := fun q hq => N q (by
  rcases List.mem_append.mp hq with hq | hq
  · exact .tail _ (List.mem_append_left _ hq)
  · rcases List.mem_cons.mp hq with rfl | hq
    · exact .head _
    · exact .tail _ (List.mem_append_right _ hq))
set_option maxHeartbeats 4000000 in
theorem draw_ctr
  (B : Below A₀ base outer h₀) (F : Fr h₀ L s.heap m) (X : (Mine.hd.heap_39 w.params).In h₀)
  (N : News h₀ L s.heap ((bx, boxO scr p st tp ts n) :: rest)) (hr : ∀ q ∈ rest, q.1 ≠ bx)
  (T : Top topProg loose mean mg mb h₀) (hk : cs.kind = .function) (hl : base.IsList scr vs.toArray) (hi : IntsAre vs ns)
  (hlen : ns.length ≤ 63) (hp : 0 ≤ p) (hst : 0 ≤ st) (hst2 : st < 2147483647) (hsz : 0 < size) (hd : dp + 3 < recursionLimit) (hu : un + 20 < cLine)
  (hret : ∀ (r p' st' : Int) (t1 t2 t3 : Tok) (n' : Nat) (h' : Heap) (tk' : Nat), 0 ≤ r → r < size → 0 ≤ p' → 0 ≤ st' → st' < 2147483647 → Fr h₀ L h' m → News h₀ L h' ((bx, boxO scr p' st' t1 t2 n') :: rest) →
    Q (.int r t3) { s with heap := h', toks := tk' }) :
  wpAny (model PR w) (ktrTop dp un gd cn cs L a ccd cl outer) (call (.ref 91) [.ref bx, .int size tsz]) Q E s := by
  refine wpAny_call ?_
  k_dflt cell_enter
  k_steps
  all_goals (refine' hret _ _ _ _ _ _ _ _ _ ?a ?b ?c ?d ?e ?f ?g
             case g => assumption
             case f => assumption
             case a => exact Int.fmod_nonneg_of_pos _ hsz
             case b => exact Int.fmod_lt_of_pos _ hsz
             case c => omega
             case d => exact Int.fmod_nonneg_of_pos _ (by decide)
             case e => exact Int.fmod_lt_of_pos _ (by decide))
theorem draw_use
  (B : Below A₀ base outer h₀) (F : Fr h₀ L s.heap m) (X : (Mine.hd.heap_39 w.params).In h₀)
  (N : News h₀ L s.heap news) (U : UpdF bx (boxO scr p st tp ts n) news g)
  (T : Top topProg loose mean mg mb h₀) (hk : cs.kind = .function) (hl : base.IsList scr vs.toArray) (hi : IntsAre vs ns)
  (hlen : ns.length ≤ 63) (hp : 0 ≤ p) (hst : 0 ≤ st) (hst2 : st < 2147483647) (hsz : 0 < size) (hd : dp + 3 < recursionLimit) (hu : un + 20 < cLine)
  (hret : ∀ (r p' st' : Int) (t1 t2 t3 : Tok) (n' : Nat) (h' : Heap) (tk' : Nat), 0 ≤ r → r < size → 0 ≤ p' → 0 ≤ st' → st' < 2147483647 → Fr h₀ L h' m → News h₀ L h' (g (boxO scr p' st' t1 t2 n')) →
    Q (.int r t3) { s with heap := h', toks := tk' }) :
  wpAny (model PR w) (ktrTop dp un gd cn cs L a ccd cl outer) (call (.ref 91) [.ref bx, .int size tsz]) Q E s := by
  obtain ⟨pre, post, rfl, hg, h1, h2⟩ := U.split
  refine draw_ctr B F X (news_out N) (fun q hq => (List.mem_append.mp hq).elim (h1 q) (h2 q)) T hk hl hi hlen hp hst hst2 hsz hd hu fun r p' st' t1 t2 t3 n' h' tk' e1 e2 e3 e4 e5 F' N' => hret r p' st' t1 t2 t3 n' h' tk' e1 e2 e3 e4 e5 F' ?_
  rw [hg]
  exact news_in N'
local macro_rules | `(tactic| walk_at "call ref") => `(tactic| (k_here; (with_reducible show wpAny _ _ (call (Value.ref 91) _ _) _ _ _); k_dflt (refine' draw_use ?B ?F ?X ?N ?U ?T ?hk ?hl ?hi ?hlen ?hp ?hst ?hst2 ?hsz ?hd ?hu ?_; (case B => k_asm); (case F => k_asm); (case X => k_asm); (case N => k_asm); (case U => k_updF); (case T => k_asm); (case hk => first | exact rfl | assumption); (case hl => assumption); (case hi => assumption); (case hlen => assumption); (case hp => assumption); (case hst => assumption); (case hst2 => assumption); (case hsz => first | assumption | decide | omega); (case hd => ktr_room); (case hu => ktr_units); k_whole); intro r' p' st' t1' t2' t3' n' h' tk' e1' e2' e3' e4' e5' F' N'; (try dsimp only at N'); (try dsimp only); (try k_fold); walk_say "DRAW"))
/-- one item of a list at a place in bounds -/
theorem my_item {A : Around} {value slice : PySem.Expr} {l : Addr} {xs : List Value} {k : Int} {u : Tok}
    (hl : s.heap.IsList l xs.toArray) (h0 : 0 ≤ k) (h1 : k < xs.length) (hhi : k < 2 ^ 63) (h : ∀ v, v ∈ xs → Q v s)
    (hs : subscripted slice false (.ref l) (.int k u) = operate [.ref l, .int k u] (getItem (.ref l) (.int k u)) := by with_unfolding_all rfl) :
    wpAny (model PR w) A (subscriptTail value slice (.ref l) (.int k u)) Q E s := by
  have hk : k.toNat < xs.length := by omega
  have hx : xs[k.toNat]? = some xs[k.toNat] := List.getElem?_eq_getElem hk
  exact tail_any hl.typeIs slot_list_getitem.lookup (wpAny_getItem_list hl h0 hhi (by simpa using hx) (h _ (List.getElem_mem hk))) hs
theorem my_len {A : Around} {l : Addr} {xs : List Value} (hl : s.heap.IsList l xs.toArray) (h1 : xs.length < 2 ^ 24) (h : ∀ t tk, Q (.int (xs.length : Int) t) { s with toks := tk }) :
    wpAny (model PR w) A (call (.builtin "len") [.ref l]) Q E s := by
  refine len_list hl (by rw [List.size_toArray]; omega) ?_
  rw [List.size_toArray]
  exact h _ _
def HeldIn (g1 : Heap) (L1 bx : Addr) (rest : List (Addr × Obj)) (ra : Addr) (xs : List Value) : Prop := ∀ (h : Heap) (m' : Str → Option Value) (o : Obj), Fr g1 L1 h m' → News g1 L1 h ((bx, o) :: rest) → h.IsList ra xs.toArray
theorem HeldIn.at {g1 h : Heap} {L1 bx ra : Addr} {m' : Str → Option Value} {o : Obj} {xs : List Value} (H : HeldIn g1 L1 bx rest ra xs) (F : Fr g1 L1 h m') (N : News g1 L1 h ((bx, o) :: rest)) : h.IsList ra xs.toArray := H h m' o F N
theorem len_bounds {xs : List Value} (hx0 : 0 < xs.length) : (0 : Int) < (xs.length : Int) := by omega
local macro_rules | `(tactic| walk_at "call builtin:len") => `(tactic| (k_here; (refine my_len (HeldIn.at (by assumption) (by assumption) (by assumption)) (by assumption) ?_); intro t' tk'; (try dsimp only); (try k_fold); walk_say "MY LEN"))
local macro_rules | `(tactic| walk_at "subscriptTail") => `(tactic| (k_here; (refine my_item (HeldIn.at (by assumption) (by assumption) (by assumption)) (by assumption) (by assumption) (by omega) ?_); intro v' hv'; (try dsimp only); (try k_fold); walk_say "MY ITEM"))
set_option maxHeartbeats 4000000 in
theorem pick_any {ra : Addr} {xs : List Value}
  (B : Below A₀ base outer h₀) (F : Fr h₀ L s.heap m) (X : (Mine.hd.heap_39 w.params).In h₀)
  (N : News h₀ L s.heap ((bx, boxO scr p st tp ts n) :: rest)) (hr : ∀ q ∈ rest, q.1 ≠ bx) (hm : h₀.IsList ra xs.toArray ∨ ∃ nr, (ra, listOf xs.toArray nr) ∈ rest)
  (T : Top topProg loose mean mg mb h₀) (hk : cs.kind = .function) (hl : base.IsList scr vs.toArray) (hi : IntsAre vs ns)
  (hlen : ns.length ≤ 63) (hp : 0 ≤ p) (hst : 0 ≤ st) (hst2 : st < 2147483647) (hx0 : 0 < xs.length) (hx1 : xs.length < 2 ^ 24) (hd : dp + 6 < recursionLimit) (hu : un + 40 < cLine)
  (hret : ∀ (v : Value) (p' st' : Int) (t1 t2 : Tok) (n' : Nat) (h' : Heap) (tk' : Nat), v ∈ xs → 0 ≤ p' → 0 ≤ st' → st' < 2147483647 → Fr h₀ L h' m → News h₀ L h' ((bx, boxO scr p' st' t1 t2 n') :: rest) →
    Q v { s with heap := h', toks := tk' }) :
  wpAny (model PR w) (ktrTop dp un gd cn cs L a ccd cl outer) (call (.ref 98) [.ref bx, .ref ra]) Q E s := by
  refine wpAny_call ?_
  have hz := len_bounds hx0
  k_dflt cell_enter
  rename_i g1 L1 h1 FG F1 N1 B1 X1 T1
  have hall : HeldIn g1 L1 bx rest ra xs := fun h m' o F' N' => by
    rcases hm with hm | ⟨nr, hm⟩
    · exact F'.lst (FG.lst hm)
    · exact N'.isList (.tail _ hm)
  k_steps
  all_goals (refine' hret _ _ _ _ _ _ _ _ ?a ?b ?c ?d ?f ?g
             case g => assumption
             case f => assumption
             case a => assumption
             case b => assumption
             case c => assumption
             case d => assumption)
theorem pick_use {ra : Addr} {xs : List Value}
  (B : Below A₀ base outer h₀) (F : Fr h₀ L s.heap m) (X : (Mine.hd.heap_39 w.params).In h₀)
  (N : News h₀ L s.heap news) (U : UpdF bx (boxO scr p st tp ts n) news g) (hm : h₀.IsList ra xs.toArray ∨ ((∃ nr, (ra, listOf xs.toArray nr) ∈ news) ∧ ra ≠ bx))
  (T : Top topProg loose mean mg mb h₀) (hk : cs.kind = .function) (hl : base.IsList scr vs.toArray) (hi : IntsAre vs ns)
  (hlen : ns.length ≤ 63) (hp : 0 ≤ p) (hst : 0 ≤ st) (hst2 : st < 2147483647) (hx0 : 0 < xs.length) (hx1 : xs.length < 2 ^ 24) (hd : dp + 6 < recursionLimit) (hu : un + 40 < cLine)
  (hret : ∀ (v : Value) (p' st' : Int) (t1 t2 : Tok) (n' : Nat) (h' : Heap) (tk' : Nat), v ∈ xs → 0 ≤ p' → 0 ≤ st' → st' < 2147483647 → Fr h₀ L h' m → News h₀ L h' (g (boxO scr p' st' t1 t2 n')) →
    Q v { s with heap := h', toks := tk' }) :
  wpAny (model PR w) (ktrTop dp un gd cn cs L a ccd cl outer) (call (.ref 98) [.ref bx, .ref ra]) Q E s := by
  obtain ⟨pre, post, rfl, hg, h1, h2⟩ := U.split
  have hm' : h₀.IsList ra xs.toArray ∨ ∃ nr, (ra, listOf xs.toArray nr) ∈ pre ++ post := by
    rcases hm with hm | ⟨⟨nr, hm⟩, hne⟩
    · exact .inl hm
    · refine .inr ⟨nr, ?_⟩
      rcases List.mem_append.mp hm with hm | hm
      · exact List.mem_append_left _ hm
      · rcases List.mem_cons.mp hm with hm | hm
        · exact absurd (congrArg Prod.fst hm) hne
        · exact List.mem_append_right _ hm
  refine pick_any B F X (news_out N) (fun q hq => (List.mem_append.mp hq).elim (h1 q) (h2 q)) hm' T hk hl hi hlen hp hst hst2 hx0 hx1 hd hu fun v p' st' t1 t2 n' h' tk' e1 e2 e3 e4 F' N' => hret v p' st' t1 t2 n' h' tk' e1 e2 e3 e4 F' ?_
  rw [hg]
  exact news_in N'
local macro_rules | `(tactic| walk_at "call ref") => `(tactic| (k_here; (with_reducible show wpAny _ _ (call (Value.ref 98) _ _) _ _ _); k_dflt (refine' pick_use ?B ?F ?X ?N ?U ?hm ?T ?hk ?hl ?hi ?hlen ?hp ?hst ?hst2 ?hx0 ?hx1 ?hd ?hu ?_; (case B => k_asm); (case F => k_asm); (case X => k_asm); (case N => k_asm); (case U => k_updF); (case hm => first | exact .inl (lstK (by k_asm) (by k_is)) | exact .inr ⟨⟨_, by k_mem⟩, by k_ne⟩); (case T => k_asm); (case hk => first | exact rfl | assumption); (case hl => assumption); (case hi => assumption); (case hlen => assumption); (case hp => assumption); (case hst => assumption); (case hst2 => assumption); (case hx0 => exact Nat.le_of_ble_eq_true rfl); (case hx1 => exact Nat.le_of_ble_eq_true rfl); (case hd => ktr_room); (case hu => ktr_units); k_whole); intro v' p' st' t1' t2' n' h' tk' hv' e3' e4' e5' F' N'; (try dsimp only at N'); (try dsimp only); (try k_fold); walk_say "PICK"))
end
end Mine
end
section
open PySem PySem.W PyProof.Rows PySem.Spec PySem.Calls
set_option Elab.async false
set_option maxRecDepth 100000
set_option linter.unusedVariables false
namespace Mine
theorem fill2 (w : World) : PySem.Challenge.rw_am6005_01 = PySem.Challenge.rw_am6005_01 ∧ Mine.hd.heap_39 w.params = Mine.hd.heap_39 w.params := by
  k_fill
  w_top off
  exact ⟨rfl, rfl⟩
section
variable {w : World} {loose : List Str} {mean : ExcName → Option Value} {mg mb : Str → Option Value}
  {dp un : Nat} {gd : Option (List Code)} {cn : Str} {cs : Scope} {a : Addr} {ccd : Value} {cl : List (Str × Addr)} {outer : List Env} {A₀ : Around} {base h₀ : Heap} {L : Addr} {m : Str → Option Value} {s : Shared} {Q E : Value → Shared → Prop}
  {scr bx : Addr} {vs : List Value} {ns : List Int} {p st size : Int} {tp ts tsz : Tok} {n : Nat} {rest news : List (Addr × Obj)} {g : Obj → List (Addr × Obj)}
--MACROS
local macro_rules | `(tactic| k_all) => `(tactic| first | assumption | exact allLt_ne (by assumption))
local macro_rules | `(tactic| walk_at "call ref") => `(tactic| (k_here; (with_reducible show wpAny _ _ (call (Value.ref 91) _ _) _ _ _); k_dflt (refine' draw_use ?B ?F ?X ?N ?U ?T ?hk ?hl ?hi ?hlen ?hp ?hst ?hst2 ?hsz ?hd ?hu ?_; (case B => k_asm); (case F => k_asm); (case X => k_asm); (case N => k_asm); (case U => k_updF); (case T => k_asm); (case hk => first | exact rfl | assumption); (case hl => assumption); (case hi => assumption); (case hlen => assumption); (case hp => assumption); (case hst => assumption); (case hst2 => assumption); (case hsz => first | assumption | decide | omega); (case hd => ktr_room); (case hu => ktr_units); k_whole); intro r' p' st' t1' t2' t3' n' h' tk' e1' e2' e3' e4' e5' F' N'; (try dsimp only at N'); (try dsimp only); (try k_fold); walk_say "DRAW"))
local macro_rules | `(tactic| walk_at "call ref") => `(tactic| (k_here; (with_reducible show wpAny _ _ (call (Value.ref 98) _ _) _ _ _); k_dflt (refine' pick_use ?B ?F ?X ?N ?U ?hm ?T ?hk ?hl ?hi ?hlen ?hp ?hst ?hst2 ?hx0 ?hx1 ?hd ?hu ?_; (case B => k_asm); (case F => k_asm); (case X => k_asm); (case N => k_asm); (case U => k_updF); (case hm => first | exact .inl (lstK (by k_asm) (by k_is)) | exact .inr ⟨⟨_, by k_mem⟩, by k_ne⟩); (case T => k_asm); (case hk => first | exact rfl | assumption); (case hl => assumption); (case hi => assumption); (case hlen => assumption); (case hp => assumption); (case hst => assumption); (case hst2 => assumption); (case hx0 => exact Nat.le_of_ble_eq_true rfl); (case hx1 => exact Nat.le_of_ble_eq_true rfl); (case hd => ktr_room); (case hu => ktr_units); k_whole); intro v' p' st' t1' t2' n' h' tk' hv' e3' e4' e5' F' N'; (try dsimp only at N'); (try dsimp only); (try k_fold); walk_say "PICK"))
--END
def Halt (P : Prop) : Prop := P
theorem halt_of {P : Prop} (h : Halt P) : P := h
theorem len_z : (Str.ofString " z").length = 2 := rfl
theorem len_w : (Str.ofString "w").length = 1 := rfl
theorem len_0 : (Str.ofString "\x00").length = 1 := rfl
theorem len_p : (Str.ofString "(").length = 1 := rfl
theorem len_b : (Str.ofString "\\").length = 1 := rfl
theorem len_e : (Str.ofString "").length = 0 := rfl
def unitsL : List (Str × Str) := [("a", "a"), (" ", " "), ("\nb", "\nb"), ("\\\"", "\""), ("\\'", "'"), ("\\(", "("), ("\\)", ")"), ("\\\\", "\\"), ("\\a", "\\a"), ("&amp;", "&amp;"), ("\"", "\""), ("'", "'"), (")", ")"), ("(", "("), ("é", "é")]
def pairsL : List (Str × Str) := [("\"", "\""), ("'", "'"), ("(", ")")]
/-- a reference to a row of two texts, that stands among these -/
def RowOf (h : Heap) (rows : List (Str × Str)) (v : Value) (x y : Str) : Prop := ∃ (u : Addr) (tx ty : Tok), v = .ref u ∧ h.IsList u #[.str x tx, .str y ty] ∧ (x, y) ∈ rows
theorem unit_len {x y : Str} (h : (x, y) ∈ unitsL) : x.length ≤ 5 ∧ y.length ≤ 5 := by
  have : ∀ q ∈ unitsL, q.1.length ≤ 5 ∧ q.2.length ≤ 5 := by decide
  exact this _ h
theorem unit_row {h : Heap} (X : (Mine.hd.heap_39 w.params).In h) {v : Value} (hv : v ∈ ([.ref 65, .ref 66, .ref 67, .ref 68, .ref 69, .ref 70, .ref 71, .ref 72, .ref 73, .ref 74, .ref 75, .ref 76, .ref 77, .ref 78, .ref 79] : List Value)) :
    ∃ x y, RowOf h unitsL v x y := by
  simp only [List.mem_cons, List.not_mem_nil, or_false] at hv
  rcases hv with rfl | rfl | rfl | rfl | rfl | rfl | rfl | rfl | rfl | rfl | rfl | rfl | rfl | rfl | rfl
  all_goals (refine' ⟨_, _, _, _, _, rfl, lstK X (by k_is), ?_⟩; decide)
theorem pair_row {h : Heap} (X : (Mine.hd.heap_39 w.params).In h) {v : Value} (hv : v ∈ ([.ref 81, .ref 82, .ref 83] : List Value)) :
    ∃ x y, RowOf h pairsL v x y := by
  simp only [List.mem_cons, List.not_mem_nil, or_false] at hv
  rcases hv with rfl | rfl | rfl
  all_goals (refine' ⟨_, _, _, _, _, rfl, lstK X (by k_is), ?_⟩; decide)

theorem units_use
  (B : Below A₀ base outer h₀) (F : Fr h₀ L s.heap m) (X : (Mine.hd.heap_39 w.params).In h₀)
  (N : News h₀ L s.heap news) (U : UpdF bx (boxO scr p st tp ts n) news g)
  (T : Top topProg loose mean mg mb h₀) (hk : cs.kind = .function) (hl : base.IsList scr vs.toArray) (hi : IntsAre vs ns)
  (hlen : ns.length ≤ 63) (hp : 0 ≤ p) (hst : 0 ≤ st) (hst2 : st < 2147483647) (hd : dp + 6 < recursionLimit) (hu : un + 40 < cLine)
  (hret : ∀ (u : Addr) (x y : Str) (tx ty : Tok) (p' st' : Int) (t1 t2 : Tok) (n' : Nat) (h' : Heap) (tk' : Nat), h₀.IsList u #[.str x tx, .str y ty] → (x, y) ∈ unitsL → x.length ≤ 5 ∧ y.length ≤ 5 → 0 ≤ p' → 0 ≤ st' → st' < 2147483647 → Fr h₀ L h' m → News h₀ L h' (g (boxO scr p' st' t1 t2 n')) →
    Q (.ref u) { s with heap := h', toks := tk' }) :
  wpAny (model PR w) (ktrTop dp un gd cn cs L a ccd cl outer) (call (.ref 98) [.ref bx, .ref 80]) Q E s := by
  refine' pick_use B F X N U (.inl (lstK X (by k_is))) T hk hl hi hlen hp hst hst2 (by decide) (by decide) hd hu fun v p' st' t1 t2 n' h' tk' hv e2 e3 e4 F' N' => ?_
  obtain ⟨x, y, u, tx, ty, rfl, hu, hm⟩ := unit_row X hv
  exact hret u x y tx ty p' st' t1 t2 n' h' tk' hu hm (unit_len hm) e2 e3 e4 F' N'
theorem pair_len {x y : Str} (h : (x, y) ∈ pairsL) : x.length = 1 ∧ y.length = 1 := by
  have : ∀ q ∈ pairsL, q.1.length = 1 ∧ q.2.length = 1 := by decide
  exact this _ h
theorem pairs_use
  (B : Below A₀ base outer h₀) (F : Fr h₀ L s.heap m) (X : (Mine.hd.heap_39 w.params).In h₀)
  (N : News h₀ L s.heap news) (U : UpdF bx (boxO scr p st tp ts n) news g)
  (T : Top topProg loose mean mg mb h₀) (hk : cs.kind = .function) (hl : base.IsList scr vs.toArray) (hi : IntsAre vs ns)
  (hlen : ns.length ≤ 63) (hp : 0 ≤ p) (hst : 0 ≤ st) (hst2 : st < 2147483647) (hd : dp + 6 < recursionLimit) (hu : un + 40 < cLine)
  (hret : ∀ (u : Addr) (x y : Str) (tx ty : Tok) (p' st' : Int) (t1 t2 : Tok) (n' : Nat) (h' : Heap) (tk' : Nat), h₀.IsList u #[.str x tx, .str y ty] → (x, y) ∈ pairsL → x.length = 1 ∧ y.length = 1 → 0 ≤ p' → 0 ≤ st' → st' < 2147483647 → Fr h₀ L h' m → News h₀ L h' (g (boxO scr p' st' t1 t2 n')) →
    Q (.ref u) { s with heap := h', toks := tk' }) :
  wpAny (model PR w) (ktrTop dp un gd cn cs L a ccd cl outer) (call (.ref 98) [.ref bx, .ref 84]) Q E s := by
  refine' pick_use B F X N U (.inl (lstK X (by k_is))) T hk hl hi hlen hp hst hst2 (by decide) (by decide) hd hu fun v p' st' t1 t2 n' h' tk' hv e2 e3 e4 F' N' => ?_
  obtain ⟨x, y, u, tx, ty, rfl, hu, hm⟩ := pair_row X hv
  exact hret u x y tx ty p' st' t1 t2 n' h' tk' hu hm (pair_len hm) e2 e3 e4 F' N'
local macro_rules | `(tactic| walk_at "call ref") => `(tactic| (k_here; (with_reducible show wpAny _ _ (call (Value.ref 98) [_, Value.ref 80]) _ _ _); k_dflt (refine' units_use ?B ?F ?X ?N ?U ?T ?hk ?hl ?hi ?hlen ?hp ?hst ?hst2 ?hd ?hu ?_; (case B => k_asm); (case F => k_asm); (case X => k_asm); (case N => k_asm); (case U => k_updF); (case T => k_asm); (case hk => first | exact rfl | assumption); (case hl => assumption); (case hi => assumption); (case hlen => assumption); (case hp => assumption); (case hst => assumption); (case hst2 => assumption); (case hd => ktr_room); (case hu => ktr_units); k_whole); intro u' x' y' tx' ty' p' st' t1' t2' n' h' tk' hu' hm' hz' e3' e4' e5' F' N'; (obtain ⟨hzx', hzy'⟩ := hz'); (try dsimp only at N'); (try dsimp only); (try k_fold); walk_say "UNIT"))
local macro_rules | `(tactic| walk_at "call ref") => `(tactic| (k_here; (with_reducible show wpAny _ _ (call (Value.ref 98) [_, Value.ref 84]) _ _ _); k_dflt (refine' pairs_use ?B ?F ?X ?N ?U ?T ?hk ?hl ?hi ?hlen ?hp ?hst ?hst2 ?hd ?hu ?_; (case B => k_asm); (case F => k_asm); (case X => k_asm); (case N => k_asm); (case U => k_updF); (case T => k_asm); (case hk => first | exact rfl | assumption); (case hl => assumption); (case hi => assumption); (case hlen => assumption); (case hp => assumption); (case hst => assumption); (case hst2 => assumption); (case hd => ktr_room); (case hu => ktr_units); k_whole); intro u' x' y' tx' ty' p' st' t1' t2' n' h' tk' hu' hm' hz' e3' e4' e5' F' N'; (obtain ⟨hzx', hzy'⟩ := hz'); (try dsimp only at N'); (try dsimp only); (try k_fold); walk_say "PAIR"))
/-- the words of a body, and what is told -/
structure Built (po pc : Str) (ws : List Str) (told : Str) (us : List (Str × Str)) : Prop where
  ok : ∀ u ∈ us, u ∈ unitsL ∧ u.1 ≠ pc ∧ ¬ (po = ("(" : Str) ∧ u.1 = ("(" : Str))
  words : ws = us.map (·.1)
  told : told = us.foldl (fun (acc : Str) u => acc ++ u.2) (Str.ofString "")
abbrev strsV (ws : List (Str × Tok)) : List Value := ws.map fun q => .str q.1 q.2
structure BSt where
  p : Int
  st : Int
  t1 : Tok
  t2 : Tok
  n : Nat
  ws : List (Str × Tok)
  nw : Nat
  told : Str
  tt : Tok
  us : List (Str × Str)
abbrev bLed (wr bx scr : Addr) (rest : List (Addr × Obj)) (c : BSt) : List (Addr × Obj) := (wr, listOf (strsV c.ws).toArray c.nw) :: (bx, boxO scr c.p c.st c.t1 c.t2 c.n) :: rest
abbrev bPs (c : BSt) : List (Str × Value) := [(Str.ofString "told", .str c.told c.tt)]
def bP (po pc : Str) (pre : List Int) (c : BSt) : Prop := 0 ≤ c.p ∧ 0 ≤ c.st ∧ c.st < 2147483647 ∧ Built po pc (c.ws.map (·.1)) c.told c.us ∧ c.us.length ≤ pre.length
theorem fold_len (us : List (Str × Str)) (h : ∀ u ∈ us, u ∈ unitsL) : ∀ acc : Str, (us.foldl (fun (acc : Str) u => acc ++ u.2) acc).length ≤ acc.length + 5 * us.length := by
  induction us with
  | nil => intro acc; exact Nat.le_refl _
  | cons u r ih =>
    intro acc
    have h1 := ih (fun q hq => h q (.tail _ hq)) (acc ++ u.2)
    have h2 := (unit_len (h u (.head _))).2
    rw [Str.length_append] at h1
    rw [List.foldl_cons, List.length_cons]
    omega
theorem Built.lens {po pc : Str} {ws : List Str} {told : Str} {us : List (Str × Str)} (h : Built po pc ws told us) : told.length ≤ 5 * us.length ∧ ws.length = us.length := by
  constructor
  · have := fold_len us (fun u hu => (h.ok u hu).1) (Str.ofString "")
    rw [← h.told] at this
    have e : (Str.ofString "").length = 0 := rfl
    omega
  · rw [h.words, List.length_map]
theorem Built.snoc {po pc : Str} {ws : List Str} {told : Str} {us : List (Str × Str)} {x y : Str} (h : Built po pc ws told us) (hm : (x, y) ∈ unitsL) (h1 : x ≠ pc) (h2 : ¬ (po = Str.ofString "(" ∧ x = Str.ofString "(")) :
    Built po pc (ws ++ [x]) (told ++ y) (us ++ [(x, y)]) where
  ok := fun u hu => by
    rcases List.mem_append.mp hu with hu | hu
    · exact h.ok u hu
    · rw [List.mem_singleton.mp hu]; exact ⟨hm, h1, h2⟩
  words := by rw [h.words, List.map_append]; rfl
  told := by rw [List.foldl_append, ← h.told]; rfl
theorem body_end_skip {po pc : Str} {g1 h' : Heap} {L1 wr : Addr} {m₀ m' : Str → Option Value} {own : List (Addr × Obj)} {pre : List Int} {k : Int} {s₁ : Shared} {tk : Nat} {p st : Int} {t1 t2 : Tok} {n nw : Nat} {ws : List (Str × Tok)} {told : Str} {tt : Tok} {us : List (Str × Str)} {adr : List Addr}
    (F : Fr g1 L1 h' m') (N : News g1 L1 h' ((wr, listOf (strsV ws).toArray nw) :: (bx, boxO scr p st t1 t2 n) :: (rest ++ own))) (ha : adr = wr :: bx :: rest.map (·.1))
    (hm : m' (Str.ofString "told") = some (.str told tt)) (hr : ∀ z, z ≠ Str.ofString "turn" → (∀ p ∈ ([(Str.ofString "told", Value.str told tt)] : List (Str × Value)), z ≠ p.1) → [Str.ofString "unit"].contains z = false → m' z = m₀ z)
    (hp : 0 ≤ p) (hst : 0 ≤ st) (hst2 : st < 2147483647) (hb : Built po pc (ws.map (·.1)) told us) (hl : us.length ≤ pre.length) :
    InvEndN g1 L1 (KstS (bLed wr bx scr rest) bPs (fun _ => True) (Str.ofString "turn") [Str.ofString "unit"] m₀ (bP po pc) (pre ++ [k])) own adr s₁ { s₁ with heap := h', toks := tk } :=
  kst_end (⟨p, st, t1, t2, n, ws, nw, told, tt, us⟩ : BSt) F N
    (fun q hq => by
      rcases List.mem_cons.mp hq with rfl | hq
      · exact .head _
      · rcases List.mem_cons.mp hq with rfl | hq
        · exact .tail _ (.head _)
        · exact .tail _ (.tail _ (List.mem_append_left _ hq)))
    (fun q hq => .tail _ (.tail _ (List.mem_append_right _ hq))) ha.symm trivial
    (fun q hq => by
      rcases List.mem_cons.mp hq with rfl | hq
      · exact hm
      · nomatch hq) hr
    ⟨hp, hst, hst2, hb, by rw [List.length_append]; exact Nat.le_trans hl (Nat.le_add_right _ _)⟩
theorem push_strs {ws : List (Str × Tok)} {x : Str} {tx : Tok} : (strsV ws).toArray.push (.str x tx) = (strsV (ws ++ [(x, tx)])).toArray := by simp [strsV]
theorem body_end_push {po pc x y : Str} {tx : Tok} {g1 h' : Heap} {L1 wr : Addr} {m₀ m' : Str → Option Value} {own : List (Addr × Obj)} {pre : List Int} {k : Int} {s₁ : Shared} {tk : Nat} {p st : Int} {t1 t2 : Tok} {n nw : Nat} {ws : List (Str × Tok)} {told : Str} {tt : Tok} {us : List (Str × Str)} {adr : List Addr}
    (F : Fr g1 L1 h' m') (N : News g1 L1 h' ((wr, listOf ((strsV ws).toArray.push (.str x tx)) nw) :: (bx, boxO scr p st t1 t2 n) :: (rest ++ own))) (ha : adr = wr :: bx :: rest.map (·.1))
    (hm : m' (Str.ofString "told") = some (.str (told ++ y) tt)) (hr : ∀ z, z ≠ Str.ofString "turn" → (∀ p ∈ ([(Str.ofString "told", Value.str (told ++ y) tt)] : List (Str × Value)), z ≠ p.1) → [Str.ofString "unit"].contains z = false → m' z = m₀ z)
    (hp : 0 ≤ p) (hst : 0 ≤ st) (hst2 : st < 2147483647) (hb : Built po pc (ws.map (·.1)) told us) (hl : us.length ≤ pre.length) (hxy : (x, y) ∈ unitsL) (h1 : x ≠ pc) (h2 : ¬ (po = Str.ofString "(" ∧ x = Str.ofString "(")) :
    InvEndN g1 L1 (KstS (bLed wr bx scr rest) bPs (fun _ => True) (Str.ofString "turn") [Str.ofString "unit"] m₀ (bP po pc) (pre ++ [k])) own adr s₁ { s₁ with heap := h', toks := tk } := by
  rw [push_strs] at N
  refine kst_end (⟨p, st, t1, t2, n, ws ++ [(x, tx)], nw, told ++ y, tt, us ++ [(x, y)]⟩ : BSt) F N
    (fun q hq => by
      rcases List.mem_cons.mp hq with rfl | hq
      · exact .head _
      · rcases List.mem_cons.mp hq with rfl | hq
        · exact .tail _ (.head _)
        · exact .tail _ (.tail _ (List.mem_append_left _ hq)))
    (fun q hq => .tail _ (.tail _ (List.mem_append_right _ hq))) ha.symm trivial
    (fun q hq => by
      rcases List.mem_cons.mp hq with rfl | hq
      · exact hm
      · nomatch hq) hr
    ⟨hp, hst, hst2, ?_, ?_⟩
  · show Built po pc ((ws ++ [(x, tx)]).map (·.1)) (told ++ y) (us ++ [(x, y)])
    rw [List.map_append]
    exact hb.snoc hxy h1 h2
  · show (us ++ [(x, y)]).length ≤ _
    rw [List.length_append, List.length_append]
    exact Nat.add_le_add_right hl 1
theorem not_both1 {a b x y : Str} (h : (a == b) = false) : ¬ (a = b ∧ x = y) := fun e => by rw [e.1] at h; simp at h
theorem not_both2 {a b x y : Str} (h : (x == y) = false) : ¬ (a = b ∧ x = y) := fun e => by rw [e.2] at h; simp at h
theorem strs_size {po pc : Str} {ws : List (Str × Tok)} {told : Str} {us : List (Str × Str)} {k : Nat} (hb : Built po pc (ws.map (·.1)) told us) (hl : us.length ≤ k) (hk : k < 7) : (strsV ws).toArray.size ≤ sizeLine ∧ told.length ≤ 30 := by
  have h := hb.lens
  rw [List.length_map] at h
  rw [sizeLine_eq]
  simp only [List.size_toArray, List.length_map]
  omega
local macro_rules | `(tactic| walk_at "call builtin:list.append") => `(tactic| (k_here; (with_reducible show wpAny _ _ (call (Value.builtin _) [Value.ref _, _]) _ _ _); k_dflt (refine' append_K ?k1 ?k2 ?k3 ?_ ?z; (case k1 => k_asm); (case k2 => k_asm); (case k3 => k_upd); (case z => assumption); k_whole); intro h' F' N'; (try k_sweep); walk_say "MY APPEND"))
local macro_rules | `(tactic| walk_at "binaryOp Add str str") => `(tactic| (k_here; (refine' PyProof.Rows.add_str ?_ ?hsz; (case hsz => (rw [sizeLine_eq]; (try simp only [Str.length_append, len_z, len_w, len_0, len_p, len_b, len_e]); omega)); intro t' tk'); (try dsimp only); walk_say "MY ADD"))
local macro_rules | `(tactic| walk_at "call type:range") => `(tactic| (k_here; (rename Fr _ _ _ _ => F'); (rename News _ _ _ _ => N'); (with_unfolding_all refine range1_rows F' N' ?_; intro _ _ _ _ _ _ _ _ _)))
local macro_rules | `(tactic| walk_at "pyIter ref") => `(tactic| (k_here; refine halt_of ?_))
set_option maxHeartbeats 4000000 in
theorem body_ctr {pr : Addr} {po pc : Str} {tpo tpc : Tok}
  (B : Below A₀ base outer h₀) (F : Fr h₀ L s.heap m) (X : (Mine.hd.heap_39 w.params).In h₀)
  (N : News h₀ L s.heap ((bx, boxO scr p st tp ts n) :: rest)) (hr : ∀ q ∈ rest, q.1 ≠ bx) (hpr : h₀.IsList pr #[.str po tpo, .str pc tpc]) (hpair : (po, pc) ∈ pairsL)
  (T : Top topProg loose mean mg mb h₀) (hk : cs.kind = .function) (hl : base.IsList scr vs.toArray) (hi : IntsAre vs ns)
  (hlen : ns.length ≤ 63) (hp : 0 ≤ p) (hst : 0 ≤ st) (hst2 : st < 2147483647) (hd : dp + 9 < recursionLimit) (hu : un + 60 < cLine)
  (hret : ∀ (rr wr : Addr) (ws : List (Str × Tok)) (told : Str) (tt : Tok) (us : List (Str × Str)) (nw : Nat) (p' st' : Int) (t1 t2 : Tok) (n' : Nat) (h' : Heap) (tk' : Nat), Built po pc (ws.map (·.1)) told us → us.length ≤ 6 → bx < wr → AllLt wr rest → wr < rr → 0 ≤ p' → 0 ≤ st' → st' < 2147483647 → Fr h₀ L h' m →
    News h₀ L h' ((rr, listOf #[.ref wr, .str told tt] 0) :: (wr, listOf (strsV ws).toArray nw) :: (bx, boxO scr p' st' t1 t2 n') :: rest) → Q (.ref rr) { s with heap := h', toks := tk' }) :
  wpAny (model PR w) (ktrTop dp un gd cn cs L a ccd cl outer) (call (.ref 105) [.ref bx, .ref pr]) Q E s := by
  refine wpAny_call ?_
  k_dflt cell_enter
  rename_i g1 L1 h1 FG F1 N1 B1 X1 T1
  have hpr1 := FG.lst hpr
  k_steps
  rename_i wr h2 hwr h3 h4 F4 N4 r p4 st4 t14 t24 t34 n4 h5 tk5 e1 e2 e3 e4 e5 F5 N5 h6 tk6 ta tb tc hR F6 N6 hK6
  refine' kst_range (σ := BSt) (bLed wr bx scr rest) bPs (fun _ => True) [Str.ofString "unit"]
    (bP po pc) ⟨_, _, _, _, _, [], _, Str.ofString "", _, []⟩ rfl hR (small_one (by omega) (by omega) (by omega) (by omega)) (n := r.toNat) (by rw [rangeSize_nat]; simp) F6 N6 ?hf ?hk ?hp ?turn ?done
  case hf => trivial
  case hk =>
    intro q hq
    rcases List.mem_cons.mp hq with rfl | hq
    · with_unfolding_all rfl
    · nomatch hq
  case hp => exact ⟨by assumption, by assumption, by assumption, ⟨(fun _ h => nomatch h), rfl, rfl⟩, Nat.le_refl _⟩
  case turn =>
    intro c pre k t u h7 tk7 own hk7 hlt7 hoff7 hf7 hP7 F7 N7
    obtain ⟨p7, st7, t17, t27, n7, ws7, nw7, told7, tt7, us7⟩ := c
    dsimp only at hP7 F7 N7
    obtain ⟨hp7, hst7, hstt7, hb7, hl7⟩ := hP7
    dsimp only at hp7 hst7 hstt7 hb7 hl7
    simp only [List.cons_append] at N7
    have hro : ∀ q ∈ rest ++ own, q.1 ≠ bx := fun q hq => (List.mem_append.mp hq).elim (hr q) (hoff7.ne (.tail _ (.head _)) q)
    have hrw : ∀ q ∈ rest ++ own, q.1 ≠ wr := fun q hq => (List.mem_append.mp hq).elim (allLt_ne hwr.2 q) (hoff7.ne (.head _) q)
    have hwb := hwr.1
    have hsz7 := strs_size hb7 hl7 (by omega)
    obtain ⟨hsz8, htl7⟩ := hsz7
    k_steps
    all_goals first
      | (refine' body_end_push (by assumption) (by assumption) ?ha ?hm ?hr (by assumption) (by assumption) (by assumption) hb7 hl7 (by assumption) (bne_iff_ne.mp (by assumption)) (by first | exact not_both1 (by assumption) | exact not_both2 (by assumption))
         case ha => rfl
         case hm => with_unfolding_all rfl
         case hr => (intro z z1 z2 z3; have z4 := z2 _ (.head _); simp only [List.contains_cons, List.contains_nil, Bool.or_false, beq_eq_false_iff_ne, ne_eq] at z3; simp [kstB, z1, z4, z3]))
      | (refine' body_end_skip (by assumption) (by assumption) ?ha ?hm ?hr (by assumption) (by assumption) (by assumption) hb7 hl7
         case ha => rfl
         case hm => with_unfolding_all rfl
         case hr => (intro z z1 z2 z3; have z4 := z2 _ (.head _); simp only [List.contains_cons, List.contains_nil, Bool.or_false, beq_eq_false_iff_ne, ne_eq] at z3; simp [kstB, z1, z4, z3]))
  case done =>
    intro c u h7 tk7 hf7 hP7 F7 N7
    obtain ⟨p7, st7, t17, t27, n7, ws7, nw7, told7, tt7, us7⟩ := c
    dsimp only at hP7 F7 N7
    obtain ⟨hp7, hst7, hstt7, hb7, hl7⟩ := hP7
    dsimp only at hp7 hst7 hstt7 hb7 hl7
    rw [rangeKs_length] at hl7
    have hwb := hwr.1
    have hwl := hwr.2
    have hrw : ∀ q ∈ rest, q.1 ≠ wr := fun q hq => allLt_ne hwr.2 q hq
    k_steps
    rename_i rr h8 F8 N8 hrr kF kN Tc kX
    exact hret rr wr ws7 told7 tt7 us7 nw7 p7 st7 t17 t27 n7 h8 tk7 hb7 (by omega) hwb hwl hrr.1 hp7 hst7 hstt7 kF kN
theorem allLt_in {d : Nat} {x : Addr × Obj} : ∀ {pre post : List (Addr × Obj)}, AllLt d (pre ++ post) → x.1 < d → AllLt d (pre ++ x :: post)
  | [], _, h, hx => ⟨hx, h⟩
  | _ :: _, _, h, hx => ⟨h.1, allLt_in h.2 hx⟩
theorem body_use {pr : Addr} {po pc : Str} {tpo tpc : Tok}
  (B : Below A₀ base outer h₀) (F : Fr h₀ L s.heap m) (X : (Mine.hd.heap_39 w.params).In h₀)
  (N : News h₀ L s.heap news) (U : UpdF bx (boxO scr p st tp ts n) news g) (hpr : h₀.IsList pr #[.str po tpo, .str pc tpc]) (hpair : (po, pc) ∈ pairsL)
  (T : Top topProg loose mean mg mb h₀) (hk : cs.kind = .function) (hl : base.IsList scr vs.toArray) (hi : IntsAre vs ns)
  (hlen : ns.length ≤ 63) (hp : 0 ≤ p) (hst : 0 ≤ st) (hst2 : st < 2147483647) (hd : dp + 9 < recursionLimit) (hu : un + 60 < cLine)
  (hret : ∀ (rr wr : Addr) (ws : List (Str × Tok)) (told : Str) (tt : Tok) (us : List (Str × Str)) (nw : Nat) (p' st' : Int) (t1 t2 : Tok) (n' : Nat) (h' : Heap) (tk' : Nat), Built po pc (ws.map (·.1)) told us → us.length ≤ 6 → wr < rr → AllLt wr news → 0 ≤ p' → 0 ≤ st' → st' < 2147483647 → Fr h₀ L h' m →
    News h₀ L h' ((rr, listOf #[.ref wr, .str told tt] 0) :: (wr, listOf (strsV ws).toArray nw) :: g (boxO scr p' st' t1 t2 n')) → Q (.ref rr) { s with heap := h', toks := tk' }) :
  wpAny (model PR w) (ktrTop dp un gd cn cs L a ccd cl outer) (call (.ref 105) [.ref bx, .ref pr]) Q E s := by
  obtain ⟨pre, post, rfl, hg, h1, h2⟩ := U.split
  refine body_ctr B F X (news_out N) (fun q hq => (List.mem_append.mp hq).elim (h1 q) (h2 q)) hpr hpair T hk hl hi hlen hp hst hst2 hd hu fun rr wr ws told tt us nw p' st' t1 t2 n' h' tk' hb hus hbw hlt hwr e2 e3 e4 F' N' => ?_
  refine hret rr wr ws told tt us nw p' st' t1 t2 n' h' tk' hb hus hwr (allLt_in hlt hbw) e2 e3 e4 F' ?_
  rw [hg]
  intro q hq
  rcases List.mem_cons.mp hq with rfl | hq
  · exact N' _ (.head _)
  · rcases List.mem_cons.mp hq with rfl | hq
    · exact N' _ (.tail _ (.head _))
    · exact news_in (fun q hq => N' q (.tail _ (.tail _ hq))) q hq
local macro_rules | `(tactic| walk_at "call ref") => `(tactic| (k_here; (with_reducible show wpAny _ _ (call (Value.ref 105) _ _) _ _ _); k_dflt (refine' body_use ?B ?F ?X ?N ?U ?hpr ?hpair ?T ?hk ?hl ?hi ?hlen ?hp ?hst ?hst2 ?hd ?hu ?_; (case B => k_asm); (case F => k_asm); (case X => k_asm); (case N => k_asm); (case U => k_updF); (case T => k_asm); (case hpr => assumption); (case hpair => assumption); (case hk => first | exact rfl | assumption); (case hl => assumption); (case hi => assumption); (case hlen => assumption); (case hp => assumption); (case hst => assumption); (case hst2 => assumption); (case hd => ktr_room); (case hu => ktr_units); k_whole); intro rr' wr' ws' told' tt' us' nw' p' st' t1' t2' n' h' tk' hb' hus' hwr' hlt' e3' e4' e5' F' N'; (try simp only [AllLt, and_true] at hlt'); (replace hwr' := ltN hwr'); (try dsimp only at N'); (try dsimp only); (try k_fold); walk_say "BODY"))
end
end Mine
end
section
open PySem PySem.W PyProof.Rows PySem.Spec PySem.Calls
set_option Elab.async false
set_option maxRecDepth 100000
set_option linter.unusedVariables false
namespace Mine
theorem slot_match : Slot "re.Pattern" "match" "re.Pattern.match" :=
  .of (owner := "re.Pattern") (n := "match") (by rw [typeLookup_type, builtinLookup_eq_fast]; kernel_rfl) (by decide +kernel) (by decide +kernel) (by decide +kernel)
    (by first | exact .inl (by decide +kernel) | exact .inr (by decide +kernel)) (by rw [isSubtype_type]; kernel_rfl)
theorem slot_sub : Slot "re.Pattern" "sub" "re.Pattern.sub" :=
  .of (owner := "re.Pattern") (n := "sub") (by rw [typeLookup_type, builtinLookup_eq_fast]; kernel_rfl) (by decide +kernel) (by decide +kernel) (by decide +kernel)
    (by first | exact .inl (by decide +kernel) | exact .inr (by decide +kernel)) (by rw [isSubtype_type]; kernel_rfl)
theorem slot_group : Slot "re.Match" "group" "re.Match.group" :=
  .of (owner := "re.Match") (n := "group") (by rw [typeLookup_type, builtinLookup_eq_fast]; kernel_rfl) (by decide +kernel) (by decide +kernel) (by decide +kernel)
    (by first | exact .inl (by decide +kernel) | exact .inr (by decide +kernel)) (by rw [isSubtype_type]; kernel_rfl)
theorem entry_match : entryFor table "re.Pattern.match" = some Builtin.«re.Pattern.match» := entryFor_of_tree (by kernel_rfl)
theorem entry_sub : entryFor table "re.Pattern.sub" = some Builtin.«re.Pattern.sub» := entryFor_of_tree (by kernel_rfl)
theorem entry_loop : entryFor table "re.Pattern.sub.loop" = some Builtin.«re.Pattern.sub.loop» := entryFor_of_tree (by kernel_rfl)
theorem entry_group : entryFor table "re.Match.group" = some Builtin.«re.Match.group» := entryFor_of_tree (by kernel_rfl)
theorem args_match (a b c d : Value) : argsOk "re.Pattern.match" ⟨[a, b, c, d], []⟩ := by unfold argsOk; kernel_rfl
theorem args_sub (a b c : Value) : argsOk "re.Pattern.sub" ⟨[a, b, c], []⟩ := by unfold argsOk; kernel_rfl
theorem args_group (a b : Value) : argsOk "re.Match.group" ⟨[a, b], []⟩ := by unfold argsOk; kernel_rfl
theorem type_match : typeOf (.builtin "re.Pattern.match") = pure (.type "method_descriptor") := by show builtinType _ = _; rw [builtinType_eq_fast]; kernel_rfl
theorem type_sub : typeOf (.builtin "re.Pattern.sub") = pure (.type "method_descriptor") := by show builtinType _ = _; rw [builtinType_eq_fast]; kernel_rfl
theorem type_group : typeOf (.builtin "re.Match.group") = pure (.type "method_descriptor") := by show builtinType _ = _; rw [builtinType_eq_fast]; kernel_rfl
theorem plain_pattern : PlainAttrs "re.Pattern" where
  ga := ⟨"object.__getattribute__", by rw [typeLookup_type, builtinLookup_eq_fast]; kernel_rfl, by decide +kernel⟩
  noGetattr := by rw [typeLookup_type, builtinLookup_eq_fast]; kernel_rfl
theorem plain_match : PlainAttrs "re.Match" where
  ga := ⟨"object.__getattribute__", by rw [typeLookup_type, builtinLookup_eq_fast]; kernel_rfl, by decide +kernel⟩
  noGetattr := by rw [typeLookup_type, builtinLookup_eq_fast]; kernel_rfl
end Mine
end
section
open PySem PySem.W PyProof.Rows PySem.Spec PySem.Calls
set_option Elab.async false
set_option maxRecDepth 100000
set_option linter.unusedVariables false
namespace Mine
theorem fill4 (w : World) : PySem.Challenge.rw_am6005_01 = PySem.Challenge.rw_am6005_01 ∧ Mine.hd.heap_39 w.params = Mine.hd.heap_39 w.params := by
  k_fill
  w_top off
  exact ⟨rfl, rfl⟩
section
variable {w : World} {A : Around} {Q E : Value → Shared → Prop} {s : Shared}
theorem named3 {x : Str} {t tp tl : Tok} {pos lim : Int} {E : Value → Shared → Prop} {Q : List (Option Value) → Shared → Prop} (h : Q [some (.str x t), some (.int pos tp), some (.int lim tl)] s) :
   wpAny (model PR w) A (Builtin.Re.reNamed "re.Pattern.match" "match" ["string", "pos", "endpos"] 1 [.str x t, .int pos tp, .int lim tl] []) Q E s := by
  repeat lk
  exact h
def tupleO (xs : List Value) : Obj := { cls := .type "tuple", data := .seq xs.toArray }
abbrev rawL (l : List Int) : List Value := l.map rawInt
theorem items_of {a : Addr} {l : List Int} {Q : Array Int → Shared → Prop} {E : Value → Shared → Prop} {n : Nat} {dd : Option Addr} {sl : Array (Option Value)} (ho : s.heap.get? a = some ⟨.type "tuple", dd, .seq (rawL l).toArray n, sl⟩) (h : Q l.toArray s) :
    wpAny (model PR w) A (Builtin.Re.reRawItems (.ref a)) Q E s := by
  repeat lk
  have e : Array.map Builtin.Re.reRawOf ((some (rawL l).toArray).getD #[]) = l.toArray := by
    show Array.map Builtin.Re.reRawOf (rawL l).toArray = _
    simp only [rawL, List.map_toArray, List.map_map]
    congr 1
    rw [show (Builtin.Re.reRawOf ∘ rawInt) = id from rfl, List.map_id]
  rw [e]
  exact h
def escL : List Int := [14, 8, 1, 2, 2, 1, 1, 92, 0, 16, 92, 17, 0, 13, 11, 9, 0, 4227923966, 4160749569, 2013265921, 0, 0, 0, 0, 0, 17, 1, 1]
def blkL : List Int := [14, 8, 1, 2, 4294967295, 1, 1, 10, 0, 16, 10, 24, 11, 0, 4294967295, 13, 6, 16, 32, 16, 9, 0, 1, 16, 10, 1]
def blkO (px : Str) (tpx tfl : Tok) : Obj := { cls := .type "re.Pattern", data := .fields #[.str px tpx, .int 32 tfl, .int 0 0, .none, .none, .ref 40, .int 0 0] }
def blkT : Obj := { cls := .type "tuple", data := .seq (rawL blkL).toArray }
theorem blk_at {h : Heap} (X : (Mine.hd.heap_39 w.params).In h) : (∃ px tpx tfl, h.get? 41 = some (blkO px tpx tfl)) ∧ h.get? 40 = some blkT := by
  constructor
  · exact ⟨_, _, _, X 41 _ (by k_is)⟩
  · exact X 40 _ (by k_is)
theorem target_blk {x : Str} {t tp tl : Tok} {pos lim : Int} {E : Value → Shared → Prop} {Q : Builtin.Re.ReTarget → Shared → Prop} {px : Str} {tpx tfl : Tok}
    (h1 : s.heap.get? 41 = some (blkO px tpx tfl)) (h2 : s.heap.get? 40 = some blkT) (hp0 : 0 ≤ pos) (hp1 : pos ≤ lim) (hl : lim ≤ (x.length : Int)) (hz : x.length ≤ 1000)
    (h : Q { pattern := .ref 41, string := .str x t, code := blkCode, text := x.cps, kind := 0, groups := 0, pos := pos.toNat, lim := lim.toNat } s) :
    wpAny (model PR w) A (Builtin.Re.reTarget "re.Pattern.match" "match" ⟨[.ref 41, .str x t, .int pos tp, .int lim tl], []⟩) Q E s := by
  unfold Builtin.Re.reTarget
  dsimp only
  refine wpAny_bind (named3 ?_)
  dsimp only
  unfold blkO at h1
  have q1 : ¬ (decide (pos < -2 ^ 63) || decide (pos ≥ 2 ^ 63)) = true := by simp; omega
  have q2 : ¬ (decide (lim < -2 ^ 63) || decide (lim ≥ 2 ^ 63)) = true := by simp; omega
  repeat lk
  rw [if_neg q1]
  repeat lk
  rw [if_neg q2]
  repeat lk
  have hx : x.length = x.cps.size := rfl
  have e1 : min pos.toNat x.cps.size = pos.toNat := by omega
  have e2 : min lim.toNat x.cps.size = lim.toNat := by omega
  have e3 : Array.map (fun x => x.toNat) (Array.map Builtin.Re.reRawOf ((some (rawL blkL).toArray).getD #[])) = blkCode := by decide +kernel
  rw [e1, e2, e3]
  exact h
theorem drive_any {E : Value → Shared → Prop} : ∀ (T n : Nat) (m : Sre.M) (Q : Sre.M → Shared → Prop), n < 4 * T → (Sre.M.runFor n m).outcome.isSome = true → Q (Sre.M.runFor n m) s → wpAny (model PR w) A (Builtin.Re.reDrive T m) Q E s
  | 0, n, m, Q, hn, _, _ => by omega
  | T + 1, n, m, Q, hn, ho, hq => by
    show wpAny _ _ (if (Sre.M.runFor 4 m).outcome.isSome = true then pure (Sre.M.runFor 4 m) else (do rule "sre.turn"; Builtin.Re.reDrive T (Sre.M.runFor 4 m))) _ _ _
    by_cases h4 : (Sre.M.runFor 4 m).outcome.isSome = true
    · rw [if_pos h4]
      refine wpAny_pure ?_
      have e : Sre.M.runFor 4 m = Sre.M.runFor n m := by
        by_cases hc : n ≤ 4
        · have : (4 : Nat) = n + (4 - n) := by omega
          rw [this, runFor_add, runFor_done ho]
        · have : n = 4 + (n - 4) := by omega
          rw [this, runFor_add, runFor_done h4]
      rw [e]
      exact hq
    · rw [if_neg h4]
      have hc : 4 < n := by
        refine Nat.lt_of_not_le fun hc => h4 ?_
        have : (4 : Nat) = n + (4 - n) := by omega
        rw [this, runFor_add, runFor_done ho]
        exact ho
      have e : Sre.M.runFor n m = Sre.M.runFor (n - 4) (Sre.M.runFor 4 m) := by
        rw [← runFor_add]
        congr 1
        omega
      rw [e] at ho hq
      exact wpAny_bind (wpAny_rule (drive_any T (n - 4) _ Q (by omega) ho hq))
theorem rules_any {E : Value → Shared → Prop} {Q : PUnit → Shared → Prop} (c : Nat → Bool) (tag : Nat → String) (h : Q PUnit.unit s) : ∀ l : List Nat,
    wpAny (model PR w) A (forIn l PUnit.unit fun i _ => (if c i = true then (do rule (tag i); pure (ForInStep.yield PUnit.unit)) else pure (ForInStep.yield PUnit.unit) : Sem (ForInStep PUnit.{1}))) Q E s
  | [] => wpAny_pure h
  | i :: l => by
    rw [List.forIn_cons]
    refine wpAny_bind ?_
    have ih := rules_any (E := E) c tag h l
    by_cases hc : c i = true
    · rw [if_pos hc]
      exact wpAny_bind (wpAny_rule (wpAny_pure ih))
    · rw [if_neg hc]
      exact wpAny_pure ih
theorem end_any {E : Value → Shared → Prop} {n : Nat} {m : Sre.M} {Q : Option Sre.M → Shared → Prop} (hn : n < 4 * 2 ^ 64)
    (h : ((Sre.M.runFor n m).outcome = some .matched ∧ Q (some (Sre.M.runFor n m)) s) ∨ ((Sre.M.runFor n m).outcome = some .failed ∧ Q none s)) : wpAny (model PR w) A (Builtin.Re.reRunToEnd m) Q E s := by
  unfold Builtin.Re.reRunToEnd
  have ho : (Sre.M.runFor n m).outcome.isSome = true := by rcases h with h | h <;> rw [h.1] <;> rfl
  refine wpAny_bind (drive_any (2 ^ 64) n m _ hn ho ?_)
  refine wpAny_bind ?_
  refine wpAny_mono (rules_any (Q := fun _ s' => s' = s) _ _ rfl _) (fun _ s' e => ?_) fun _ _ x => x
  subst e
  rcases h with ⟨h1, h2⟩ | ⟨h1, h2⟩
  · rw [h1]; exact wpAny_pure h2
  · rw [h1]; exact wpAny_pure h2
theorem match_any {x : Str} {t tp tl : Tok} {pos lim : Int} {E : Value → Shared → Prop} {h₀ : Heap} {L : Addr} {m : Str → Option Value} {news : List (Addr × Obj)}
    (F : Fr h₀ L s.heap m) (X : (Mine.hd.heap_39 w.params).In h₀) (N : News h₀ L s.heap news) (hp0 : 0 ≤ pos) (hp1 : pos < lim) (hl : lim ≤ (x.length : Int)) (hz : x.length ≤ 1000) (hc : x.cps[pos.toNat]?.getD 0 = 10)
    (h : ∀ v h' tk', (blankAt ((x.cps.toList.take lim.toNat).drop (pos.toNat + 1)) = false ∧ v = .none) ∨ (blankAt ((x.cps.toList.take lim.toNat).drop (pos.toNat + 1)) = true ∧ ∃ mt o, v = .ref mt ∧ h'.get? mt = some o ∧ o.cls = .type "re.Match") → Fr h₀ L h' m → News h₀ L h' news → Q v { s with heap := h', toks := tk' }) :
    wpAny (model PR w) A (call (.builtin "re.Pattern.match") [.ref 41, .str x t, .int pos tp, .int lim tl]) Q E s := by
  obtain ⟨⟨px, tpx, tfl, h1⟩, h2⟩ := blk_at X
  have h1' := F.keep _ _ h1
  have h2' := F.keep _ _ h2
  refine wpAny_call_entry slot_match ⟨_, h1', rfl⟩ entry_match ?_ (args_match _ _ _ _)
  unfold Builtin.«re.Pattern.match»
  refine wpAny_bind (target_blk h1' h2' hp0 (by omega) hl hz ?_)
  unfold Builtin.Re.reAnswer
  dsimp only
  have hx : x.length = x.cps.size := rfl
  obtain ⟨n, mm, hn, em, hm⟩ := blk_match (text := x.cps) (lim := lim.toNat) (pos := pos.toNat) (by omega) (by omega) (by omega) (by rw [hc]; rfl)
  refine wpAny_bind (end_any (n := n) (by omega) ?_)
  rw [em]
  rcases hm with ⟨ho, hb⟩ | ⟨ho, hb⟩
  · refine .inl ⟨ho, ?_⟩
    dsimp only
    repeat lk
    exact ⟨_, rfl, h _ _ _ (.inr ⟨hb, _, _, rfl, Heap.get?_push_size _ rfl, rfl⟩) ((F.push _).push _) fun q hq => ⟨Heap.get?_push_of_some _ (Heap.get?_push_of_some _ (N q hq).1), (N q hq).2⟩⟩
  · refine .inr ⟨ho, ?_⟩
    dsimp only
    repeat lk
    exact ⟨_, rfl, h _ _ _ (.inl ⟨hb, rfl⟩) F N⟩
end
end Mine
end
section
open PySem PySem.W PyProof.Rows PySem.Spec PySem.Calls
set_option Elab.async false
set_option maxRecDepth 100000
set_option linter.unusedVariables false
namespace Mine
theorem fill5 (w : World) : PySem.Challenge.rw_am6005_01 = PySem.Challenge.rw_am6005_01 ∧ Mine.hd.heap_39 w.params = Mine.hd.heap_39 w.params := by
  k_fill
  w_top off
  exact ⟨rfl, rfl⟩
def spanO (st hd b e : Nat) : Obj := { cls := .type "tuple", data := .seq #[rawInt (st : Int), rawInt (hd : Int), rawInt (b : Int), rawInt (e : Int)] }
def matchO (x : Str) (t : Tok) (p l i : Int) (sp : Addr) : Obj := { cls := .type "re.Match", data := .fields #[.str x t, .ref 36, rawInt p, rawInt l, rawInt i, .ref sp] }
section
variable {w : World} {A : Around} {Q E : Value → Shared → Prop} {s : Shared}
theorem ite_no {α : Type} {M : Model} {c : Prop} [Decidable c] {a b : Sem α} {Q : α → Shared → Prop} {E : Value → Shared → Prop} (h : ¬ c) (k : wpAny M A b Q E s) : wpAny M A (if c then a else b) Q E s := by rw [if_neg h]; exact k
theorem ite_yes {α : Type} {M : Model} {c : Prop} [Decidable c] {a b : Sem α} {Q : α → Shared → Prop} {E : Value → Shared → Prop} (h : c) (k : wpAny M A a Q E s) : wpAny M A (if c then a else b) Q E s := by rw [if_pos h]; exact k
theorem found_any {mt sp : Addr} {x : Str} {t : Tok} {p l i : Int} {st hd b e : Nat} {E : Value → Shared → Prop} {Q : Builtin.Re.ReFound → Shared → Prop} (h1 : s.heap.get? mt = some (matchO x t p l i sp)) (h2 : s.heap.get? sp = some (spanO st hd b e))
    (h : Q { fields := #[.str x t, .ref 36, rawInt p, rawInt l, rawInt i, .ref sp], spans := #[(st : Int), (hd : Int), (b : Int), (e : Int)] } s) : wpAny (model PR w) A (Builtin.Re.reFound (.ref mt)) Q E s := by
  unfold Builtin.Re.reFound
  unfold matchO at h1
  repeat lk
  have e : Array.map Builtin.Re.reRawOf ((some #[rawInt (st : Int), rawInt (hd : Int), rawInt (b : Int), rawInt (e : Int)]).getD #[]) = #[(st : Int), (hd : Int), (b : Int), (e : Int)] := by
    simp [Builtin.Re.reRawOf, rawInt]
  rw [e]
  exact h
theorem group_any {mt sp : Addr} {x : Str} {t t1 : Tok} {p l i : Int} {st hd b e : Nat} (h1 : s.heap.get? mt = some (matchO x t p l i sp)) (h2 : s.heap.get? sp = some (spanO st hd b e)) (hz : x.length ≤ 1000)
    (h : ∀ t' tk', Q (.str ⟨x.cps.extract b e⟩ t') { s with toks := tk' }) : wpAny (model PR w) A (call (.builtin "re.Match.group") [.ref mt, .int 1 t1]) Q E s := by
  refine wpAny_call_entry slot_group ⟨_, h1, rfl⟩ entry_group ?_ (args_group _ _)
  unfold Builtin.«re.Match.group»
  repeat (first | (with_reducible refine found_any h1 h2 ?_) | lk)
  have q2 : ¬ (Str.length ⟨x.cps.extract b e⟩ > sizeLine) := by
    rw [sizeLine_eq]
    have : (Str.length ⟨x.cps.extract b e⟩) ≤ x.length := by simp only [Str.length, Array.size_extract]; omega
    omega
  refine ite_no q2 ?_
  repeat lk
  exact ⟨_, rfl, h _ _⟩
def mPos : Pos := ⟨8, 38, 8, 39⟩
def lamP : Arguments := { posonlyargs := [], args := [{ arg := Str.ofString "m", annotation := none, pos := ⟨8, 38, 8, 39⟩ }], vararg := none, kwonlyargs := [], kw_defaults := [], kwarg := none, defaults := [] }
def lamB : PySem.Expr := .Call (.Attribute (.Name (Str.ofString "m") ⟨8, 41, 8, 42⟩) (Str.ofString "group") ⟨8, 41, 8, 48⟩) [.Constant (.int 1) 0 ⟨8, 49, 8, 50⟩] [] ⟨8, 41, 8, 51⟩
def lamS : Scope := { kind := .function, names := [(Str.ofString "m", .local)], isGenerator := false, isCoroutine := false }
variable {loose : List Str} {mean : ExcName → Option Value} {mg mb : Str → Option Value}
  {dp un : Nat} {gd : Option (List Code)} {cn : Str} {cs : Scope} {a : Addr} {ccd : Value} {cl : List (Str × Addr)} {outer : List Env} {A₀ : Around} {base h₀ : Heap} {L : Addr} {m : Str → Option Value} {news : List (Addr × Obj)}
local macro_rules | `(tactic| walk_at "call builtin:re.Match.group") => `(tactic| (k_here; (refine group_any (News.get (by k_asm) (by k_mem)) (News.get (by k_asm) (by k_mem)) (by assumption) ?_); intro t' tk'; (try dsimp only); (try k_fold); walk_say "GROUP"))
local macro_rules | `(tactic| walk_at "getMethod ref") => `(tactic| (k_here; (refine getMethod_builtin (T := "re.Match") ⟨_, News.get (by k_asm) (by k_mem), rfl⟩ plain_match slot_group type_group (fun _ e => by cases e; exact ⟨_, News.get (by k_asm) (by k_mem), rfl⟩) ?_); (try dsimp only); walk_say "GET GROUP"))
set_option maxHeartbeats 4000000 in
theorem lam_ctr {name qual : Str} {pm ctv : Value} {c' f mt sp : Addr} {oc : Obj} {vs : Array Value} {tq : Tok} {x : Str} {t : Tok} {p l i : Int} {st hd b e : Nat}
  (B : Below A₀ base outer h₀) (F : Fr h₀ L s.heap m) (X : (Mine.hd.heap_39 w.params).In h₀) (N : News h₀ L s.heap news) (T : Top topProg loose mean mg mb h₀) (hk : cs.kind = .function)
  (hf : (f, kla_obj name qual lamP lamB lamS [] pm c' ctv) ∈ news) (hc1 : (c', oc) ∈ news) (hc2 : oc.data = .fields vs) (hc3 : vs[1]? = some (.str qual tq))
  (hm : (mt, matchO x t p l i sp) ∈ news) (hs : (sp, spanO st hd b e) ∈ news) (hz : x.length ≤ 1000) (hd' : dp + 3 < recursionLimit) (hu : un + 20 < cLine)
  (hret : ∀ (t' : Tok) (h' : Heap) (tk' : Nat), Fr h₀ L h' m → News h₀ L h' news → Q (.str ⟨x.cps.extract b e⟩ t') { s with heap := h', toks := tk' }) :
  wpAny (model PR w) (ktrTop dp un gd cn cs L a ccd cl outer) (call (.ref f) [.ref mt]) Q E s := by
  refine wpAny_call ?_
  refine' kla_code B F X N T rfl rfl hk hf (codeRec_news N hc1 hc2 hc3) ?k8 rfl (locs rfl) ?_ rfl rfl rfl ?c5
  case k8 => ktr_room
  case c5 => decide
  intro g' L' h' FG' F' N' B' X' T'
  (try dsimp only)
  (try k_lift B')
  unfold lamB
  (try k_fold)
  k_steps
  exact hret _ _ _ (by assumption) (by assumption)
end
end Mine
end
section
open PySem PySem.W PyProof.Rows PySem.Spec PySem.Calls
set_option Elab.async false
set_option maxRecDepth 100000
set_option linter.unusedVariables false
namespace Mine
theorem fill6 (w : World) : PySem.Challenge.rw_am6005_01 = PySem.Challenge.rw_am6005_01 ∧ Mine.hd.heap_39 w.params = Mine.hd.heap_39 w.params := by
  k_fill
  w_top off
  exact ⟨rfl, rfl⟩
def escO (px : Str) (tpx tfl : Tok) : Obj := { cls := .type "re.Pattern", data := .fields #[.str px tpx, .int 32 tfl, .int 1 0, .none, .none, .ref 35, .int 0 0] }
def escT : Obj := { cls := .type "tuple", data := .seq (rawL escL).toArray }
theorem esc_at {w : World} {h : Heap} (X : (Mine.hd.heap_39 w.params).In h) : (∃ px tpx tfl, h.get? 36 = some (escO px tpx tfl)) ∧ h.get? 35 = some escT := by
  constructor
  · exact ⟨_, _, _, X 36 _ (by k_is)⟩
  · exact X 35 _ (by k_is)
section
variable {w : World} {A : Around} {Q E : Value → Shared → Prop} {s : Shared}
theorem target_esc {x : Str} {t : Tok} {E : Value → Shared → Prop} {Q : Builtin.Re.ReTarget → Shared → Prop} {px : Str} {tpx tfl : Tok}
    (h1 : s.heap.get? 36 = some (escO px tpx tfl)) (h2 : s.heap.get? 35 = some escT)
    (h : Q { pattern := .ref 36, string := .str x t, code := escCode, text := x.cps, kind := 0, groups := 1, pos := 0, lim := x.cps.size } s) :
    wpAny (model PR w) A (Builtin.Re.reWholeTarget (.ref 36) (.str x t)) Q E s := by
  unfold Builtin.Re.reWholeTarget
  unfold escO at h1
  repeat lk
  have e3 : Array.map (fun x => x.toNat) (Array.map Builtin.Re.reRawOf ((some (rawL escL).toArray).getD #[])) = escCode := by decide +kernel
  rw [e3]
  exact h
theorem slice_any {x : Str} {b e : Nat} {E : Value → Shared → Prop} {Q : Value → Shared → Prop} (hz : x.length ≤ 1000) (h : ∀ t' tk', Q (.str ⟨x.cps.extract b e⟩ t') { s with toks := tk' }) :
    wpAny (model PR w) A (Builtin.Re.reSlice x.cps 0 b e) Q E s := by
  have q2 : ¬ (Str.length ⟨x.cps.extract b e⟩ > sizeLine) := by
    rw [sizeLine_eq]
    have : (Str.length ⟨x.cps.extract b e⟩) ≤ x.length := by simp only [Str.length, Array.size_extract]; omega
    omega
  unfold Builtin.Re.reSlice
  repeat lk
  refine ite_no q2 ?_
  repeat lk
  exact h _ _
theorem newMatch_any {x : Str} {t : Tok} {mm : Sre.M} {j : Nat} {E : Value → Shared → Prop} {Q : Value → Shared → Prop} (hs : mm.start = j) (hh : mm.handed = j + 2) (hl : mm.lastmark = 1) (h0 : mm.marks.getD 0 none = some (j + 1)) (h1 : mm.marks.getD 1 none = some (j + 2))
    (h : ∀ p l i, Q (.ref (s.heap.push (spanO j (j + 2) (j + 1) (j + 2))).objs.size) { s with heap := (s.heap.push (spanO j (j + 2) (j + 1) (j + 2))).push (matchO x t p l i s.heap.objs.size) }) :
    wpAny (model PR w) A (Builtin.Re.reNewMatch (.ref 36) (.str x t) 1 0 x.cps.size mm) Q E s := by
  unfold Builtin.Re.reNewMatch
  simp only [show List.range 1 = [0] from rfl, List.any_cons, List.any_nil, List.flatMap_cons, List.flatMap_nil, Nat.mul_zero, Nat.zero_add, h0, h1, hl, hs, hh]
  refine ite_no (by simp) ?_
  repeat lk
  exact h _ _ _
variable {loose : List Str} {mean : ExcName → Option Value} {mg mb : Str → Option Value}
  {dp un : Nat} {gd : Option (List Code)} {cn : Str} {cs : Scope} {a : Addr} {ccd : Value} {cl : List (Str × Addr)} {outer : List Env} {A₀ : Around} {base h₀ : Heap} {L : Addr} {m : Str → Option Value} {rest : List (Addr × Obj)}
abbrev strsW (ws : List (Str × Tok)) : List Value := ws.map fun q => .str q.1 q.2
def catC (ws : List (Str × Tok)) : List Nat := (ws.map fun q => q.1.cps.toList).flatten
theorem plain_loop : plainId "re.Pattern.sub.loop" = true := by decide +kernel
theorem news_put {h : Heap} {pl : Addr} {o o' : Obj} (F : Fr h₀ L h m) (N : News h₀ L h ((pl, o) :: rest)) (hr : ∀ q ∈ rest, q.1 ≠ pl) {f : Obj → Obj} (e : f o = o') (hf : o'.isFreed = false) : Fr h₀ L (h.update pl f) m ∧ News h₀ L (h.update pl f) ((pl, o') :: rest) :=
  news_upd (pre := []) F N (fun _ h => nomatch h) hr e hf
theorem push_any {pl : Addr} {ps : List (Str × Tok)} {n : Nat} {y : Str} {ty : Tok} {E : Value → Shared → Prop} {Q : Unit → Shared → Prop} (F : Fr h₀ L s.heap m) (N : News h₀ L s.heap ((pl, listOf (strsW ps).toArray n) :: rest)) (hr : ∀ q ∈ rest, q.1 ≠ pl) (hz : ps.length ≤ 2000)
    (h : ∀ h' n', Fr h₀ L h' m → News h₀ L h' ((pl, listOf (strsW (ps ++ [(y, ty)])).toArray n') :: rest) → Q () { s with heap := h' }) :
    wpAny (model PR w) A (updateSeq pl (·.push (.str y ty))) Q E s := by
  have e : Obj.mapSeq (·.push (.str y ty)) (listOf (strsW ps).toArray n) = listOf (strsW (ps ++ [(y, ty)])).toArray (n + 1) := by
    simp [Obj.mapSeq, strsW]
  obtain ⟨F', N'⟩ := news_put F N hr e rfl
  exact wpAny_updateSeq (N _ (.head _)).1 rfl (h _ _ F' N') (by rw [sizeLine_eq]; simp; omega) (by rw [sizeLine_eq]; simp; omega)
theorem next_any {A : Around} {x : Str} {pat str : Value} {kind pos start : Nat} {E : Value → Shared → Prop} {Q : Option Sre.M → Shared → Prop} (hz : x.length ≤ 1000) (hs : start ≤ x.cps.size)
    (hn : (∀ j, start ≤ j → ¬ hit x.cps x.cps.size j) → Q none s)
    (hm : ∀ j mm, start ≤ j → hit x.cps x.cps.size j → (∀ i, start ≤ i → i < j → ¬ hit x.cps x.cps.size i) → mm.start = j → mm.handed = j + 2 → mm.lastmark = 1 → mm.marks.getD 0 none = some (j + 1) → mm.marks.getD 1 none = some (j + 2) → Q (some mm) s) :
    wpAny (model PR w) A (Builtin.Re.reNextFound { pattern := pat, string := str, code := escCode, text := x.cps, kind := kind, groups := 1, pos := pos, lim := x.cps.size } start false) Q E s := by
  unfold Builtin.Re.reNextFound
  dsimp only
  have hx : x.length = x.cps.size := rfl
  by_cases h2 : start + 2 ≤ x.cps.size
  · obtain ⟨marks, seen, hmk, e⟩ := search_eq (text := x.cps) h2
    obtain ⟨n, mm, hnn, em, r⟩ := esc_search (text := x.cps) (lim := x.cps.size) (x.cps.size + 1) start true marks seen (by omega) hs hmk
    rw [e]
    refine end_any (n := n) (by omega) ?_
    rw [em]
    rcases r with ⟨ho, hall⟩ | ⟨j, hj, hh, hbef, ho, r1, r2, r3, r4, r5⟩
    · exact .inr ⟨ho, hn hall⟩
    · exact .inl ⟨ho, hm j mm hj hh hbef r1 r2 r3 r4 r5⟩
  · obtain ⟨mm, em, ho⟩ := search_short (text := x.cps) (pos := start) (lim := x.cps.size) (by omega)
    refine end_any (n := 1) (by omega) (.inr ⟨by rw [em]; exact ho, hn fun j hj hh => ?_⟩)
    have := hh.1
    omega
theorem catC_snoc (ps : List (Str × Tok)) (y : Str) (ty : Tok) : catC (ps ++ [(y, ty)]) = catC ps ++ y.cps.toList := by simp [catC]
theorem ext_codes (x : Str) (b e : Nat) : (⟨x.cps.extract b e⟩ : Str).cps.toList = (x.cps.toList.drop b).take (e - b) := by simp [List.take_drop]
theorem ext_one (x : Str) {b : Nat} (h : b < x.cps.size) : (⟨x.cps.extract b (b + 1)⟩ : Str).cps.toList = [x.cps[b]?.getD 0] := by
  rw [ext_codes, drop_at h, show b + 1 - b = 1 by omega]
  rfl
theorem glue_codes : ∀ ws : List Str, (Str.join (Str.ofString "") ws).cps.toList = (ws.map fun x => x.cps.toList).flatten
  | [] => rfl
  | [x] => by simp [Str.join]
  | x :: y :: r => by
    have ih := glue_codes (y :: r)
    show (x ++ Str.ofString "" ++ Str.join (Str.ofString "") (y :: r)).cps.toList = _
    rw [Str.cps_append, Str.cps_append, Array.toList_append, Array.toList_append, ih]
    have e : (Str.ofString "").cps.toList = [] := rfl
    rw [e]
    simp
theorem sum_len : ∀ ps : List (Str × Tok), ((ps.map (·.1)).map (·.length)).sum = (catC ps).length
  | [] => rfl
  | q :: r => by
    have ih := sum_len r
    have h2 : q.1.cps.toList.length = q.1.length := by simp [Str.length]
    simp only [catC, List.map_cons, List.sum_cons, List.flatten_cons, List.length_append] at ih ⊢
    omega
theorem join_any {A : Around} {pl : Addr} {ps : List (Str × Tok)} {z : Str} {tz : Tok} {E : Value → Shared → Prop} {Q : Value → Shared → Prop} (hz : z = Str.ofString "") (hl : s.heap.IsList pl (strsW ps).toArray) (hlen : (catC ps).length ≤ 1000)
    (h : ∀ y t' tk', y.cps.toList = catC ps → Q (.str y t') { s with toks := tk' }) : wpAny (model PR w) A (call (.builtin "str.join") [.str z tz, .ref pl]) Q E s := by
  subst hz
  refine SC.join (l := ps) hl rfl ?_ fun t' k => h _ _ _ ?_
  · have h0 : (Str.ofString "").length = 0 := rfl
    unfold JoinOk
    rw [StrLaws.joinTotal, h0, sum_len, Nat.mul_zero, Nat.add_zero]
    unfold Builtin.Str.tooLong
    have : ¬ (catC ps).length > sizeLine := by rw [sizeLine_eq]; omega
    simp [this]
  · show (Txt.join (Str.ofString "") (ps.map (·.1))).cps.toList = _
    rw [show Txt.join (Str.ofString "") (ps.map (·.1)) = Str.join (Str.ofString "") (ps.map (·.1)) from StrLaws.glued_eq_join _ _, glue_codes]
    simp [catC, Function.comp_def]
theorem unesc_len : ∀ (n : Nat) (l : List Nat), l.length ≤ n → (unesc l).length ≤ l.length
  | _, [], _ => Nat.le_refl _
  | 0, _ :: _, h => by simp at h
  | _ + 1, [x], _ => Nat.le_refl _
  | n + 1, x :: d :: r, h => by
    rw [unesc]
    have h' : r.length + 2 ≤ n + 1 := by simpa using h
    split
    · have := unesc_len n r (by omega)
      simp only [List.length_cons]; omega
    · have := unesc_len n (d :: r) (by simp only [List.length_cons]; omega)
      simp only [List.length_cons] at this ⊢; omega
theorem ext_nil (x : Str) : (⟨x.cps.extract 0 0⟩ : Str) = Str.ofString "" := Str.ext' (Array.toList_inj.mp (by simp; rfl))
set_option maxHeartbeats 4000000 in
theorem sub_turn {name qual : Str} {pm ctv : Value} {c' f pl : Addr} {oc : Obj} {vs : Array Value} {tq : Tok} {x : Str} {t : Tok} {R : Result → Shared → Prop} {s₀ : Shared}
  (B : Below A₀ base outer h₀) (X : (Mine.hd.heap_39 w.params).In h₀) (T : Top topProg loose mean mg mb h₀) (hk : cs.kind = .function)
  (hf : (f, kla_obj name qual lamP lamB lamS [] pm c' ctv) ∈ rest) (hc1 : (c', oc) ∈ rest) (hc2 : oc.data = .fields vs) (hc3 : vs[1]? = some (.str qual tq)) (hr : ∀ q ∈ rest, q.1 ≠ pl)
  (hz : x.length ≤ 1000) (hd' : dp + 4 < recursionLimit) (hu : un + 40 < cLine)
  (hR : ∀ y t' h' tk', y.cps.toList = unesc x.cps.toList → Fr h₀ L h' m → News h₀ L h' rest → R (.ok (.ret (.str y t'))) { s₀ with heap := h', toks := tk' })
  {done : Nat} {h : Heap} {tk : Nat} {ps : List (Str × Tok)} {np : Nat} {i : Int}
  (ih : ∀ (done' : Nat) (h' : Heap) (tk' : Nat) (ps' : List (Str × Tok)) (np' : Nat) (i' : Int), done < done' → done' ≤ x.cps.size → Fr h₀ L h' m → News h₀ L h' ((pl, listOf (strsW ps').toArray np') :: rest) →
    ps'.length ≤ done' → unesc x.cps.toList = catC ps' ++ unesc (x.cps.toList.drop done') →
    codeAny (model PR w) (ktrTop dp un gd cn cs L a ccd cl outer) (.builtin "re.Pattern.sub.loop" ⟨[.ref 36, .str x t, .ref f, rawInt 1, rawInt 0, rawInt i', rawInt (done' : Int), rawInt (done' : Int), .bool false, .ref pl, .bool false], []⟩) R { s₀ with heap := h', toks := tk' })
  (hk2 : done ≤ x.cps.size) (F : Fr h₀ L h m) (N : News h₀ L h ((pl, listOf (strsW ps).toArray np) :: rest))
  (hps : ps.length ≤ done) (hu1 : unesc x.cps.toList = catC ps ++ unesc (x.cps.toList.drop done)) :
    codeAny (model PR w) (ktrTop dp un gd cn cs L a ccd cl outer) (.builtin "re.Pattern.sub.loop" ⟨[.ref 36, .str x t, .ref f, rawInt 1, rawInt 0, rawInt i, rawInt (done : Int), rawInt (done : Int), .bool false, .ref pl, .bool false], []⟩) R { s₀ with heap := h, toks := tk } := by
    obtain ⟨⟨px, tpx, tfl, o1⟩, o2⟩ := esc_at X
    have o1' := F.keep _ _ o1
    have o2' := F.keep _ _ o2
    have hx : x.length = x.cps.size := rfl
    refine codeAny_builtin entry_loop ?_
    rw [Around.under_plainId plain_loop]
    unfold Builtin.«re.Pattern.sub.loop»
    repeat (first | (with_reducible refine target_esc o1' o2' ?_) | (with_reducible refine next_any hz ?_ ?_ ?_) | lk)
    · rw [Int.toNat_natCast]; exact hk2
    · rw [Int.toNat_natCast]
      intro hall
      have hun := unesc_none _ done rfl hall
      rw [hun] at hu1
      repeat lk
      have hul : (unesc x.cps.toList).length ≤ x.cps.size := Nat.le_trans (unesc_len _ x.cps.toList (Nat.le_refl _)) (Nat.le_of_eq Array.length_toList)
      by_cases hd : done < x.cps.size
      · refine ite_yes hd ?_
        repeat (first | (with_reducible refine slice_any (x := x) hz ?_) | lk)
        intro t1 k1
        repeat (first | (with_reducible refine push_any F N hr (by omega) ?_) | lk)
        intro h2 n2 F2 N2
        have o3 := (N2 _ (.head _)).1
        have ec : catC (ps ++ [((⟨x.cps.extract done x.cps.size⟩ : Str), t1)]) = unesc x.cps.toList := by
          rw [catC_snoc, ext_codes, List.take_of_length_le (by simp), hu1]
        repeat (first | (with_reducible refine slice_any (x := x) hz ?_) | lk)
        intro t2 k2
        repeat lk
        refine ite_no (by simp) ?_
        have hlc : (catC (ps ++ [((⟨x.cps.extract done x.cps.size⟩ : Str), t1)])).length ≤ 1000 := by rw [ec]; omega
        refine wpAny_bind (join_any (ext_nil x) (N2.isList (.head _)) hlc fun y t' tk' hy => ?_)
        repeat lk
        exact hR y t' h2 tk' (by rw [hy, ec]) F2 fun q hq => N2 q (.tail _ hq)
      · refine ite_no hd ?_
        have o3 := (N _ (.head _)).1
        have ec : catC ps = unesc x.cps.toList := by
          rw [hu1, List.drop_eq_nil_of_le (by simp; omega), List.append_nil]
        repeat (first | (with_reducible refine slice_any (x := x) hz ?_) | lk)
        intro t2 k2
        repeat lk
        cases ps with
        | nil =>
          refine ite_yes rfl ?_
          repeat lk
          exact hR _ t2 h k2 (by rw [← ec]; simp [catC]) F fun q hq => N q (.tail _ hq)
        | cons p1 ps =>
          refine ite_no (by simp) ?_
          have hlc : (catC (p1 :: ps)).length ≤ 1000 := by rw [ec]; omega
          refine wpAny_bind (join_any (ext_nil x) (N.isList (.head _)) hlc fun y t' tk' hy => ?_)
          repeat lk
          exact hR y t' h tk' (by rw [hy, ec]) F fun q hq => N q (.tail _ hq)
    · rw [Int.toNat_natCast]
      intro j mm hj hh hbef e1 e2 e3 e4 e5
      have hun := unesc_hit _ done rfl hj hh hbef
      rw [hun] at hu1
      have hj2 := hh.1
      have tail : ∀ (h2 : Heap) (k1 : Nat) (ps2 : List (Str × Tok)) (n2 : Nat), Fr h₀ L h2 m → News h₀ L h2 ((pl, listOf (strsW ps2).toArray n2) :: rest) → ps2.length ≤ j + 1 → catC ps2 = catC ps ++ (x.cps.toList.drop done).take (j - done) →
          ∀ (sp mt : Addr) (t3 : Tok), True := fun _ _ _ _ _ _ _ _ _ _ _ => trivial
      repeat lk
      rw [e1]
      by_cases hd : done < j
      · refine ite_yes hd ?_
        repeat (first | (with_reducible refine slice_any (x := x) hz ?_) | lk)
        intro t1 k1
        repeat (first | (with_reducible refine push_any F N hr (by omega) ?_) | lk)
        intro h2 n2 F2 N2
        repeat (first | (with_reducible refine newMatch_any e1 e2 e3 e4 e5 ?_) | lk)
        intro p l i1
        have F3 := (F2.push (spanO j (j + 2) (j + 1) (j + 2))).push (matchO x t p l i1 h2.objs.size)
        have N3 := (N2.push F2 (spanO j (j + 2) (j + 1) (j + 2))).push (F2.push _) (matchO x t p l i1 h2.objs.size)
        have hun1 : un + 1 + 20 < cLine := by omega
        refine wpAny_bind (wpAny_holding ?_)
        refine ite_yes rfl ?_
        refine lam_ctr (dp := dp) (un := un + 1) B F3 X N3 T hk (.tail _ (.tail _ (.tail _ hf))) (.tail _ (.tail _ (.tail _ hc1))) hc2 hc3 (.head _) (.tail _ (.head _)) hz (by omega) hun1 ?_
        intro t3 h3 k3 F4 N4
        have N5 : News h₀ L h3 ((pl, listOf (strsW (ps ++ [((⟨x.cps.extract done j⟩ : Str), t1)])).toArray n2) :: rest) := fun q hq => N4 q (.tail _ (.tail _ hq))
        repeat (first | (with_reducible refine push_any F4 N5 hr (by simp; omega) ?_) | lk)
        intro h4 n4 F5 N6
        repeat lk
        rw [e2]
        refine ⟨plainId_quiet plain_loop _, ?_⟩
        have eb : (j + 2 == j) = false := by simp
        rw [eb]
        refine ih (j + 2) h4 k3 _ n4 (i + 1) (by omega) (by omega) F5 N6 (by simp; omega) ?_
        rw [hu1, catC_snoc, catC_snoc, ext_codes, ext_one x hj2]
        simp
      · refine ite_no hd ?_
        have hdj : done = j := by omega
        repeat (first | (with_reducible refine newMatch_any e1 e2 e3 e4 e5 ?_) | lk)
        intro p l i1
        have F3 := (F.push (spanO j (j + 2) (j + 1) (j + 2))).push (matchO x t p l i1 h.objs.size)
        have N3 := (N.push F (spanO j (j + 2) (j + 1) (j + 2))).push (F.push _) (matchO x t p l i1 h.objs.size)
        have hun1 : un + 1 + 20 < cLine := by omega
        refine wpAny_bind (wpAny_holding ?_)
        refine ite_yes rfl ?_
        refine lam_ctr (dp := dp) (un := un + 1) B F3 X N3 T hk (.tail _ (.tail _ (.tail _ hf))) (.tail _ (.tail _ (.tail _ hc1))) hc2 hc3 (.head _) (.tail _ (.head _)) hz (by omega) hun1 ?_
        intro t3 h3 k3 F4 N4
        have N5 : News h₀ L h3 ((pl, listOf (strsW ps).toArray np) :: rest) := fun q hq => N4 q (.tail _ (.tail _ hq))
        repeat (first | (with_reducible refine push_any F4 N5 hr (by omega) ?_) | lk)
        intro h4 n4 F5 N6
        repeat lk
        rw [e2]
        refine ⟨plainId_quiet plain_loop _, ?_⟩
        have eb : (j + 2 == j) = false := by simp
        rw [eb]
        refine ih (j + 2) h4 k3 _ n4 (i + 1) (by omega) (by omega) F5 N6 (by simp; omega) ?_
        rw [hu1, catC_snoc, ext_one x hj2, hdj, Nat.sub_self]
        simp
theorem sub_loop {name qual : Str} {pm ctv : Value} {c' f pl : Addr} {oc : Obj} {vs : Array Value} {tq : Tok} {x : Str} {t : Tok} {R : Result → Shared → Prop} {s₀ : Shared}
  (B : Below A₀ base outer h₀) (X : (Mine.hd.heap_39 w.params).In h₀) (T : Top topProg loose mean mg mb h₀) (hk : cs.kind = .function)
  (hf : (f, kla_obj name qual lamP lamB lamS [] pm c' ctv) ∈ rest) (hc1 : (c', oc) ∈ rest) (hc2 : oc.data = .fields vs) (hc3 : vs[1]? = some (.str qual tq)) (hr : ∀ q ∈ rest, q.1 ≠ pl)
  (hz : x.length ≤ 1000) (hd' : dp + 4 < recursionLimit) (hu : un + 40 < cLine)
  (hR : ∀ y t' h' tk', y.cps.toList = unesc x.cps.toList → Fr h₀ L h' m → News h₀ L h' rest → R (.ok (.ret (.str y t'))) { s₀ with heap := h', toks := tk' }) :
  ∀ (k : Nat) (done : Nat) (h : Heap) (tk : Nat) (ps : List (Str × Tok)) (np : Nat) (i : Int), x.cps.size - done < k →
  done ≤ x.cps.size → Fr h₀ L h m → News h₀ L h ((pl, listOf (strsW ps).toArray np) :: rest) → ps.length ≤ done → unesc x.cps.toList = catC ps ++ unesc (x.cps.toList.drop done) →
    codeAny (model PR w) (ktrTop dp un gd cn cs L a ccd cl outer) (.builtin "re.Pattern.sub.loop" ⟨[.ref 36, .str x t, .ref f, rawInt 1, rawInt 0, rawInt i, rawInt (done : Int), rawInt (done : Int), .bool false, .ref pl, .bool false], []⟩) R { s₀ with heap := h, toks := tk }
  | 0, done, h, tk, ps, np, i, hk1, _, _, _, _, _ => absurd hk1 (Nat.not_lt_zero _)
  | k + 1, done, h, tk, ps, np, i, hk1, hk2, F, N, hps, hu1 =>
    sub_turn B X T hk hf hc1 hc2 hc3 hr hz hd' hu hR (fun done' h' tk' ps' np' i' hlt hle F' N' hp' hu' => sub_loop B X T hk hf hc1 hc2 hc3 hr hz hd' hu hR k done' h' tk' ps' np' i' (by omega) hle F' N' hp' hu') hk2 F N hps hu1
theorem fn_call : typeLookup (.type "function") "__call__" = pure (some (.builtin "function.__call__")) := by rw [typeLookup_type, builtinLookup_eq_fast]; kernel_rfl
theorem str_ba : isSubtype (.type "str") (.type "bytearray") = pure false := by rw [isSubtype_type]; kernel_rfl
theorem named_sub {A : Around} {x : Str} {t : Tok} {f : Addr} {E : Value → Shared → Prop} {Q : List (Option Value) → Shared → Prop} (h : Q [some (.ref f), some (.str x t), none] s) :
   wpAny (model PR w) A (Builtin.Re.reNamed "re.Pattern.sub" "sub" ["repl", "string", "count"] 2 [.ref f, .str x t] []) Q E s := by
  repeat lk
  exact h
set_option maxHeartbeats 4000000 in
theorem sub_any {name qual : Str} {pm ctv : Value} {c' f : Addr} {oc : Obj} {vs : Array Value} {tq : Tok} {x : Str} {t : Tok}
  (B : Below A₀ base outer h₀) (F : Fr h₀ L s.heap m) (X : (Mine.hd.heap_39 w.params).In h₀) (N : News h₀ L s.heap rest) (T : Top topProg loose mean mg mb h₀) (hk : cs.kind = .function)
  (hf : (f, kla_obj name qual lamP lamB lamS [] pm c' ctv) ∈ rest) (hc1 : (c', oc) ∈ rest) (hc2 : oc.data = .fields vs) (hc3 : vs[1]? = some (.str qual tq))
  (hz : x.length ≤ 1000) (hd' : dp + 4 < recursionLimit) (hu : un + 40 < cLine)
  (hret : ∀ y t' h' tk', y.cps.toList = unesc x.cps.toList → Fr h₀ L h' m → News h₀ L h' rest → Q (.str y t') { s with heap := h', toks := tk' }) :
  wpAny (model PR w) (ktrTop dp un gd cn cs L a ccd cl outer) (call (.builtin "re.Pattern.sub") [.ref 36, .ref f, .str x t]) Q E s := by
  obtain ⟨⟨px, tpx, tfl, o1⟩, o2⟩ := esc_at X
  have o1' := F.keep _ _ o1
  have o2' := F.keep _ _ o2
  have of' := (N _ hf).1
  have hT : s.TypeIs (.ref f) "function" := ⟨_, of', rfl⟩
  refine wpAny_call (codeAny_call_builtin slot_sub.plain entry_sub (slot_sub.check _ _ _ _ _ _ _ _ ⟨_, o1', rfl⟩ (args_sub _ _ _) ?_))
  unfold Builtin.«re.Pattern.sub»
  repeat (first | (with_reducible refine named_sub ?_) | (with_reducible refine wpAny_specialOf hT fn_call ?_) | (with_reducible refine wpAny_isInstance (typeIs_str _ _ _) str_ba ?_) | (with_reducible refine target_esc o1' o2' ?_) | lk)
  refine ⟨plainId_quiet plain_loop _, ?_⟩
  exact sub_loop (s₀ := s) (pl := s.heap.objs.size) B X T hk hf hc1 hc2 hc3 (fun q hq => Nat.ne_of_lt (Heap.lt_size (N q hq).1)) hz hd' hu (fun y t' h' tk' hy F' N' => hret y t' h' tk' hy F' N')
    (x.cps.size + 1) 0 _ _ [] 0 0 (by omega) (by omega) (F.push _) (N.push F _) (Nat.le_refl _) rfl
end
end Mine
end
section
open PySem PySem.W PyProof.Rows PySem.Spec PySem.Calls
set_option Elab.async false
set_option maxRecDepth 100000
set_option linter.unusedVariables false
namespace Mine
theorem fill7 (w : World) : PySem.Challenge.rw_am6005_01 = PySem.Challenge.rw_am6005_01 ∧ Mine.hd.heap_39 w.params = Mine.hd.heap_39 w.params := by
  k_fill
  w_top off
  exact ⟨rfl, rfl⟩
section
variable {w : World} {loose : List Str} {mean : ExcName → Option Value} {mg mb : Str → Option Value}
  {dp un : Nat} {gd : Option (List Code)} {cn : Str} {cs : Scope} {a : Addr} {ccd : Value} {cl : List (Str × Addr)} {outer : List Env} {A₀ : Around} {base h₀ : Heap} {L : Addr} {m : Str → Option Value} {s : Shared} {Q E : Value → Shared → Prop} {rest : List (Addr × Obj)}
def lamQ : Str := (Str.ofString "unescape_char" ++ Str.ofString ".<locals>.") ++ Str.ofString "<lambda>"
/-- the table of the lambda's code: empty, or with the one code object -/
def TabOk (ps : Array Value) (rest : List (Addr × Obj)) : Prop := ps = #[] ∨ ∃ (c' : Addr) (oc : Obj) (vs : Array Value) (tq : Tok), ps = #[rawInt 8, rawInt 31, .ref c'] ∧ (c', oc) ∈ rest ∧ oc.data = .fields vs ∧ vs[1]? = some (.str lamQ tq)
local macro_rules | `(tactic| k_all) => `(tactic| first | assumption)
local macro_rules | `(tactic| walk_at "eval Lambda") => `(tactic| (k_here; (refine' kla_eval ?zd0 ?_; (case zd0 => exact rfl)); (first | (k_dflt (refine' kla_nest ?zF ?zN ?zT ?zC ?zcd ?zU ?zt ?zn ?zcl ?_; (case zF => k_asm); (case zN => k_asm); (case zT => k_asm); (case zcd => exact rfl); (case zC => kn_code); (case zU => k_updF); (case zt => kn_triples); (case zn => kn_among); (case zcl => exact rfl); k_whole); intro f' c' oc' vs' t' ct' h' tk' F' N' d1' d2' l1 l2; (try dsimp only at N')) | (k_dflt (refine' kla_hit ?zF ?zN ?zT ?zC ?zcd ?zmem ?zt ?zn ?zcl ?_; (case zF => k_asm); (case zN => k_asm); (case zT => k_asm); (case zcd => exact rfl); (case zC => kn_code); (case zmem => k_mem); (case zt => kn_triples); (case zn => kn_hit); (case zcl => exact rfl); k_whole); intro f' ct' h' tk' F' N' l1; (try dsimp only at N'))); walk_say "LAMBDA"))
local macro_rules | `(tactic| walk_at "getMethod ref") => `(tactic| (k_here; (refine getMethod_builtin (T := "re.Pattern") ⟨_, Frag.In.keeps (by k_asm) (Fr.keep (by k_asm)) 36 _ (by k_is), rfl⟩ plain_pattern slot_sub type_sub (fun _ e => by cases e; exact ⟨_, Frag.In.keeps (by k_asm) (Fr.keep (by k_asm)) 36 _ (by k_is), rfl⟩) ?_); (try dsimp only); walk_say "GET SUB"))
local macro_rules | `(tactic| walk_at "call builtin:re.Pattern.sub") => `(tactic| (k_here; k_dflt (refine' sub_any ?zB ?zF ?zX ?zN ?zT ?zk ?zhf ?zc1 ?zc2 ?zc3 ?zz ?zd ?zu ?_; (case zB => k_asm); (case zF => k_asm); (case zX => k_asm); (case zN => k_asm); (case zT => k_asm); (case zk => exact rfl); (case zhf => exact List.Mem.head _); (case zc1 => first | exact .tail _ (.head _) | exact .tail _ (.tail _ (by assumption))); (case zc2 => assumption); (case zc3 => assumption); (case zz => assumption); (case zd => ktr_room); (case zu => ktr_units); k_whole); intro y' t' h' tk' hy' F' N'; (try dsimp only); (try k_fold); walk_say "SUB"))
set_option maxHeartbeats 4000000 in
theorem unesc_ctr {x : Str} {t : Tok} {ps : Array Value}
  (B : Below A₀ base outer h₀) (F : Fr h₀ L s.heap m) (X : (Mine.hd.heap_39 w.params).In h₀) (N : News h₀ L s.heap ((43, tabObj ps) :: rest)) (hr : ∀ q ∈ rest, q.1 ≠ 43) (T : Top topProg loose mean mg mb h₀) (hk : cs.kind = .function)
  (hC : CodeHd base 47 43) (htab : TabOk ps rest) (hz : x.length ≤ 1000) (hd' : dp + 8 < recursionLimit) (hu : un + 80 < cLine)
  (hret : ∀ (y : Str) (t' : Tok) (h' : Heap) (tk' : Nat) (ps' : Array Value) (ex : List (Addr × Obj)), y.cps.toList = unesc x.cps.toList → Fr h₀ L h' m → News h₀ L h' ((43, tabObj ps') :: (ex ++ rest)) → TabOk ps' (ex ++ rest) → (∀ q ∈ ex, 43 < q.1 ∧ AllLt q.1 rest) → Q (.str y t') { s with heap := h', toks := tk' }) :
  wpAny (model PR w) (ktrTop dp un gd cn cs L a ccd cl outer) (call (.ref 48) [.str x t]) Q E s := by
  refine wpAny_call ?_
  k_dflt cell_enter
  rcases htab with rfl | ⟨c1, oc, vs, tq, rfl, hc1, hc2, hc3⟩
  · k_steps
    rename_i f c1 oc vs tq ct h8 tk8 F8 N8 d1 d2 l1 l2 y t9 h9 tk9 hy F9 N9 kF kN Tc kX
    refine hret y t9 h9 tk9 #[rawInt 8, rawInt 31, .ref c1] [(c1, oc)] hy kF (fun q hq => ?_) (.inr ⟨c1, oc, vs, tq, rfl, .head _, d1, d2⟩) (fun q hq => ?_)
    · rcases List.mem_cons.mp hq with rfl | hq
      · exact kN _ (.tail _ (.tail _ (.head _)))
      · rcases List.mem_cons.mp hq with rfl | hq
        · exact kN _ (.tail _ (.head _))
        · exact kN _ (.tail _ (.tail _ (.tail _ hq)))
    · rw [List.mem_singleton.mp hq]; exact l1
  · k_steps
    rename_i f ct h8 tk8 F8 N8 l1 y t9 h9 tk9 hy F9 N9 kF kN Tc kX
    refine hret y t9 h9 tk9 #[rawInt 8, rawInt 31, .ref c1] [] hy kF (fun q hq => kN _ (.tail _ hq)) (.inr ⟨c1, oc, vs, tq, rfl, hc1, hc2, hc3⟩) (fun _ h => nomatch h)
end
end Mine
end
section
open PySem PySem.W PyProof.Rows PySem.Spec PySem.Calls
set_option Elab.async false
set_option maxRecDepth 100000
set_option linter.unusedVariables false
namespace Mine
theorem fill8 (w : World) : PySem.Challenge.rw_am6005_01 = PySem.Challenge.rw_am6005_01 ∧ Mine.hd.heap_39 w.params = Mine.hd.heap_39 w.params := by
  k_fill
  w_top off
  exact ⟨rfl, rfl⟩
def Halt2 (P : Prop) : Prop := P
theorem halt2_of {P : Prop} (h : Halt2 P) : P := h
section
variable {w : World} {loose : List Str} {mean : ExcName → Option Value} {mg mb : Str → Option Value}
  {dp un : Nat} {gd : Option (List Code)} {cn : Str} {cs : Scope} {a : Addr} {ccd : Value} {cl : List (Str × Addr)} {outer : List Env} {A₀ : Around} {base h₀ : Heap} {L : Addr} {m : Str → Option Value} {s : Shared} {Q E : Value → Shared → Prop} {news : List (Addr × Obj)}
/-- the signs that stand from a place to the end set -/
def seg (x : Str) (lim p : Int) : List Nat := (x.cps.toList.take lim.toNat).drop p.toNat
def wsN (x : Str) (lim p : Int) : Nat := ((seg x lim p).takeWhile isWs).length
def ch (x : Str) (p : Int) : Nat := x.cps[p.toNat]?.getD 0
theorem item_ch {x : Str} {p : Int} (h0 : 0 ≤ p) (h1 : p < x.length) : Txt.item x p = ⟨#[ch x p]⟩ := by
  rw [item_at h0 h1 rfl, Array.getD_eq_getD_getElem?]
  rfl
theorem ws_in {x : Str} {p : Int} (h0 : 0 ≤ p) (h1 : p < x.length) : (Builtin.Str.occurrences (Str.ofString " \t\n\x0d\x0c") (Txt.item x p) 0 (Str.ofString " \t\n\x0d\x0c").length 1).isEmpty = !isWs (ch x p) := by
  have h := StrLaws.found_one (Str.ofString " \t\n\x0d\x0c") (ch x p)
  rw [← item_ch h0 h1] at h
  have e : decide (ch x p ∈ (Str.ofString " \t\n\x0d\x0c").cps.toList) = isWs (ch x p) := by
    have : (Str.ofString " \t\n\x0d\x0c").cps.toList = [32, 9, 10, 13, 12] := rfl
    rw [this]
    rw [Bool.eq_iff_iff]
    simp [isWs, or_assoc]
  rw [e] at h
  rw [← h, Bool.not_not]
theorem seg_cons {x : Str} {lim p : Int} (h0 : 0 ≤ p) (h1 : p < lim) (hl : lim ≤ (x.length : Int)) : seg x lim p = ch x p :: seg x lim (p + 1) := by
  have hx : x.length = x.cps.size := rfl
  unfold seg ch
  rw [rest_cons (by omega) (by omega), show (p + 1).toNat = p.toNat + 1 by omega]
theorem seg_nil {x : Str} {lim p : Int} (h : lim ≤ p) : seg x lim p = [] := rest_nil (by omega)
theorem wsN_yes {x : Str} {lim p : Int} (h0 : 0 ≤ p) (h1 : p < lim) (hl : lim ≤ (x.length : Int)) (h : isWs (ch x p) = true) : wsN x lim p = wsN x lim (p + 1) + 1 := by
  unfold wsN
  rw [seg_cons h0 h1 hl]
  simp [h]
theorem wsN_no {x : Str} {lim p : Int} (h0 : 0 ≤ p) (h1 : p < lim) (hl : lim ≤ (x.length : Int)) (h : isWs (ch x p) = false) : wsN x lim p = 0 := by
  unfold wsN
  rw [seg_cons h0 h1 hl]
  simp [h]
theorem wsN_end {x : Str} {lim p : Int} (h : lim ≤ p) : wsN x lim p = 0 := by
  unfold wsN
  rw [seg_nil h]
  rfl
local macro_rules | `(tactic| walk_at "exec While BoolOp") => `(tactic| (k_here; refine halt2_of ?_))
set_option maxHeartbeats 4000000 in
theorem skip_ctr {x : Str} {t tp tl : Tok} {p lim : Int}
  (B : Below A₀ base outer h₀) (F : Fr h₀ L s.heap m) (X : (Mine.hd.heap_39 w.params).In h₀) (N : News h₀ L s.heap news) (T : Top topProg loose mean mg mb h₀) (hk : cs.kind = .function)
  (hp0 : 0 ≤ p) (hpl : p ≤ lim) (hl : lim ≤ (x.length : Int)) (hz : x.length ≤ 1000) (hd' : dp + 3 < recursionLimit) (hu : un + 20 < cLine)
  (hret : ∀ (t' : Tok) (h' : Heap) (tk' : Nat), Fr h₀ L h' m → News h₀ L h' news → Q (.int (p + wsN x lim p) t') { s with heap := h', toks := tk' }) :
  wpAny (model PR w) (ktrTop dp un gd cn cs L a ccd cl outer) (call (.ref 63) [.str x t, .int p tp, .int lim tl]) Q E s := by
  refine wpAny_call ?_
  k_dflt (refine' code_def ?k1 ?k2 ?k3 ?k4 ?k5 ?kA ?kF ?kK ?k6 ?k7 ?k8 ?k9 ?kB ?_ ?c2 ?c3 ?c4 ?c5; (case kA => exact rfl); (case kF => exact rfl); (case kK => assumption); (case k1 => k_asm); (case k2 => k_asm); (case k3 => k_asm); (case k4 => k_asm); (case k5 => k_asm); (case k6 => k_is); (case k7 => k_is); (case k8 => ktr_room); (case k9 => first | exact binds_K (by k_in) rfl (by k_is) rfl rfl rfl | exact BindsTo.of_eq rfl); (case c5 => decide); (case kB => exact locs rfl); (case c2 => exact rfl); (case c3 => exact rfl); (case c4 => exact rfl); k_whole; intro g' L' h' FG' F' N' B' X' T'; (try dsimp only); (try k_lift B'); (try k_fold))
  k_steps
  unfold Halt2
  with_unfolding_all refine' ksw_while (σ := Int × Tok) (fun _ => news) (fun c => [(Str.ofString "pos", .int c.1 c.2)]) (fun _ => True) [] (fun c => p ≤ c.1 ∧ c.1 ≤ lim ∧ c.1 + wsN x lim c.1 = p + wsN x lim p) (fun c => (lim - c.1).toNat) (p, tp) F' N' trivial ?zk ?zp ?zt
  case zk =>
    intro q hq
    rcases List.mem_cons.mp hq with rfl | hq
    · with_unfolding_all rfl
    · nomatch hq
  case zp => exact ⟨Int.le_refl _, hpl, rfl⟩
  case zt =>
    intro c u h7 tk7 _ hP F7 N7
    obtain ⟨p7, t7⟩ := c
    obtain ⟨g1, g2, g3⟩ := hP
    dsimp only at g1 g2 g3 F7 N7
    have hc0 : 0 ≤ p7 := by omega
    try k_fold
    k_steps
    · rename_i ha _ hno kF kN Tc kX
      rw [ws_in hc0 (by omega)] at hno
      have hw : isWs (ch x p7) = false := by simpa using hno
      rw [wsN_no hc0 ha hl hw] at g3
      rw [show p7 = p + (wsN x lim p : Int) by omega]
      exact hret _ _ _ kF kN
    · rename_i ha _ hyes h8 F8 N8
      rw [ws_in hc0 (by omega)] at hyes
      have hw : isWs (ch x p7) = true := by simpa using hyes
      rw [wsN_yes hc0 ha hl hw] at g3
      refine' ksw_end (p7 + 1, _) F8 N8 (fun _ h => h) trivial ?zka ?zkb ?zkc ?zkd
      case zka =>
        intro q hq
        rcases List.mem_cons.mp hq with rfl | hq
        · with_unfolding_all rfl
        · nomatch hq
      case zkb =>
        intro z z2 z3
        have z4 := z2 _ (.head _)
        simp [kstB, z4]
      case zkc => exact ⟨by dsimp only; omega, by dsimp only; omega, by dsimp only; omega⟩
      case zkd => dsimp only; omega
    · rename_i ha kF kN Tc kX
      rw [wsN_end (by omega)] at g3
      rw [show p7 = p + (wsN x lim p : Int) by omega]
      exact hret _ _ _ kF kN
end
end Mine
end
section
open PySem PySem.W PyProof.Rows PySem.Spec PySem.Calls
set_option Elab.async false
set_option maxRecDepth 100000
set_option linter.unusedVariables false
namespace Mine
theorem fill3 (w : World) : PySem.Challenge.rw_am6005_01 = PySem.Challenge.rw_am6005_01 ∧ Mine.hd.heap_39 w.params = Mine.hd.heap_39 w.params := by
  k_fill
  w_top off
  exact ⟨rfl, rfl⟩
section
variable {w : World} {loose : List Str} {mean : ExcName → Option Value} {mg mb : Str → Option Value}
  {dp un : Nat} {gd : Option (List Code)} {cn : Str} {cs : Scope} {a : Addr} {ccd : Value} {cl : List (Str × Addr)} {outer : List Env} {A₀ : Around} {base h₀ : Heap} {L : Addr} {m : Str → Option Value} {s : Shared} {Q E : Value → Shared → Prop}
  {scr bx : Addr} {vs : List Value} {ns : List Int} {p st size : Int} {tp ts tsz : Tok} {n : Nat} {rest news : List (Addr × Obj)} {g : Obj → List (Addr × Obj)}
def Short (ws : List (Str × Tok)) : Prop := (∀ q ∈ ws, q.1.length ≤ 5) ∧ ws.length ≤ 6
theorem Built.short {po pc : Str} {ws : List (Str × Tok)} {told : Str} {us : List (Str × Str)} (h : Built po pc (ws.map (·.1)) told us) (hl : us.length ≤ 6) : Short ws := by
  constructor
  · intro q hq
    have h1 : q.1 ∈ ws.map (·.1) := List.mem_map_of_mem hq
    rw [h.words] at h1
    obtain ⟨u, hu, e⟩ := List.mem_map.mp h1
    rw [← e]
    exact (unit_len (h.ok u hu).1).1
  · have := h.lens.2
    rw [List.length_map] at this
    omega
theorem Short.take {ws : List (Str × Tok)} (h : Short ws) (k : Nat) : Short (ws.take k) := ⟨fun q hq => h.1 q (List.mem_of_mem_take hq), by rw [List.length_take]; have := h.2; omega⟩
theorem Short.drop {ws : List (Str × Tok)} (h : Short ws) (k : Nat) : Short (ws.drop k) := ⟨fun q hq => h.1 q (List.mem_of_mem_drop hq), by rw [List.length_drop]; have := h.2; omega⟩
def catS (ws : List Str) : Str := Str.join (Str.ofString "") ws
theorem catS_codes : ∀ ws : List Str, (catS ws).cps.toList = (ws.map fun x => x.cps.toList).flatten
  | [] => rfl
  | [x] => by simp [catS, Str.join]
  | x :: y :: r => by
    have ih := catS_codes (y :: r)
    show (x ++ Str.ofString "" ++ catS (y :: r)).cps.toList = _
    rw [Str.cps_append, Str.cps_append, Array.toList_append, Array.toList_append, ih]
    have e : (Str.ofString "").cps.toList = [] := rfl
    rw [e]
    simp
theorem flat_len : ∀ ws : List (Str × Tok), (∀ q ∈ ws, q.1.length ≤ 5) → ((ws.map (·.1)).map fun x : Str => x.cps.toList).flatten.length ≤ 5 * ws.length
  | [], _ => Nat.le_refl _
  | q :: r, h => by
    have ih := flat_len r fun z hz => h z (.tail _ hz)
    have h1 := h q (.head _)
    have h2 : q.1.cps.toList.length = q.1.length := by simp [Str.length]
    simp only [List.map_cons, List.flatten_cons, List.length_append, List.length_cons]
    omega
theorem catS_len {ws : List (Str × Tok)} (h : Short ws) : (catS (ws.map (·.1))).length ≤ 30 := by
  have e : (catS (ws.map (·.1))).length = (catS (ws.map (·.1))).cps.toList.length := by simp [Str.length]
  rw [e, catS_codes]
  have := flat_len ws h.1
  have := h.2
  omega
theorem my_join {A : Around} {D : Addr} {ws : List (Str × Tok)} {t0 : Tok} (hl : s.heap.IsList D (strsV ws).toArray) (hs : Short ws)
    (h : ∀ t tk, (catS (ws.map (·.1))).length ≤ 30 → Q (.str (catS (ws.map (·.1))) t) { s with toks := tk }) :
    wpAny (model PR w) A (call (.builtin "str.join") [.str (Str.ofString "") t0, .ref D]) Q E s := by
  refine SC.join (l := ws) hl rfl ?_ fun t' k => ?_
  · have hB : ∀ y ∈ ws.map (·.1), y.length ≤ 5 := fun y hy => by
      obtain ⟨q, hq, e⟩ := List.mem_map.mp hy
      rw [← e]; exact hs.1 q hq
    have h0 : (Str.ofString "").length = 0 := rfl
    unfold JoinOk
    rw [StrLaws.joinFits hB (by rw [h0, List.length_map]; have := hs.2; omega)]
    rfl
  · have e : Txt.join (Str.ofString "") (ws.map (·.1)) = catS (ws.map (·.1)) := StrLaws.glued_eq_join _ _
    rw [e]
    exact h _ _ (catS_len hs)
local macro_rules | `(tactic| walk_at "call builtin:str.join") => `(tactic| (k_here; (refine my_join (News.isList (by k_asm) (by k_mem)) (by first | assumption | exact Short.take (by assumption) _ | exact Short.drop (by assumption) _) ?_); intro t' tk' hcl'; (try dsimp only); (try k_fold); walk_say "MY JOIN"))
theorem my_lenS {A : Around} {D : Addr} {ws : List (Str × Tok)} (hl : s.heap.IsList D (strsV ws).toArray) (hs : Short ws) (h : ∀ t tk, (ws.length : Int) ≤ 6 → (0 : Int) ≤ (ws.length : Int) → Q (.int (ws.length : Int) t) { s with toks := tk }) :
    wpAny (model PR w) A (call (.builtin "len") [.ref D]) Q E s := by
  have h6 := hs.2
  refine my_len hl (by rw [List.length_map]; omega) fun t tk => ?_
  rw [List.length_map]
  exact h t tk (by omega) (by omega)
local macro_rules | `(tactic| walk_at "call builtin:len") => `(tactic| (k_here; (refine my_lenS (News.isList (by k_asm) (by k_mem)) (by assumption) ?_); intro t' tk' hle' hle0'; (try dsimp only); (try k_fold); walk_say "MY LENS"))
theorem cut_front (vs : List Value) {y : Int} (h : 0 ≤ y) : slicePick vs.toArray none (some y) none = (vs.take y.toNat).toArray := by
  obtain ⟨k, rfl⟩ := Int.eq_ofNat_of_zero_le h
  have hb : sliceBounds none (some (k : Int)) none vs.toArray.size = (((0 : Nat) : Int), ((min k vs.length : Nat) : Int), 1) := by
    unfold sliceBounds
    simp
    omega
  rw [kmk_pick_nat _ hb, Int.toNat_natCast, List.take_eq_take_min (i := k)]
  rfl
theorem cut_back (vs : List Value) {x : Int} (h : 0 ≤ x) : slicePick vs.toArray (some x) none none = (vs.drop x.toNat).toArray := by
  obtain ⟨k, rfl⟩ := Int.eq_ofNat_of_zero_le h
  have hb : sliceBounds (some (k : Int)) none none vs.toArray.size = (((min k vs.length : Nat) : Int), ((vs.length : Nat) : Int), 1) := by
    unfold sliceBounds
    simp
    omega
  rw [kmk_pick_nat _ hb, Int.toNat_natCast]
  congr 1
  apply List.ext_getElem?
  intro i
  rw [List.getElem?_drop]
  simp only [List.getElem?_take, List.getElem?_drop]
  rcases Nat.lt_or_ge (k + i) vs.length with hlt | hge
  · rw [if_pos (by omega), Nat.min_eq_left (by omega)]
  · rw [List.getElem?_eq_none hge, ite_eq_right_iff]
    intro _
    exact List.getElem?_eq_none (by omega)
theorem slice_to {ws : List (Str × Tok)} {y : Int} (h : 0 ≤ y) : (slicePick (strsV ws).toArray none (some y) none).toList = strsV (ws.take y.toNat) :=
  (congrArg Array.toList (cut_front _ h)).trans List.map_take.symm
theorem slice_from {ws : List (Str × Tok)} {x : Int} (h : 0 ≤ x) : (slicePick (strsV ws).toArray (some x) none none).toList = strsV (ws.drop x.toNat) :=
  (congrArg Array.toList (cut_back _ h)).trans List.map_drop.symm
theorem short_size {ws : List (Str × Tok)} (h : Short ws) : (strsV ws).toArray.size ≤ sizeLine := by
  have := h.2
  rw [sizeLine_eq, List.size_toArray, List.length_map]
  omega
local macro_rules | `(tactic| walk_at "subscriptTail Name Slice ref ref") => `(tactic| (k_here; (with_reducible show wpAny _ _ (subscriptTail _ (PySem.Expr.Slice _ _ none _) (Value.ref _) (Value.ref _)) _ _ _); k_dflt (refine' kmk_slice_lit ?F ?N ?l ?p ?q ?e ?_ ?s ?t ?z; (case F => k_asm); (case N => k_asm); (case l => exact News.isList (by k_asm) (by k_mem)); (case p => kmk_part); (case q => kmk_part); (case e => first | exact slice_to (by assumption) | exact slice_from (by assumption)); (case s => with_unfolding_all rfl); (case t => kmk_pure); (case z => exact short_size (by assumption))); intro D' h' F' N' l1; (try k_lt l1); (try k_sweep); walk_say "MY SLICE"))
local macro_rules | `(tactic| k_all) => `(tactic| first | assumption | exact allLt_ne (by assumption))
local macro_rules | `(tactic| walk_at "call ref") => `(tactic| (k_here; (with_reducible show wpAny _ _ (call (Value.ref 91) _ _) _ _ _); k_dflt (refine' draw_use ?B ?F ?X ?N ?U ?T ?hk ?hl ?hi ?hlen ?hp ?hst ?hst2 ?hsz ?hd ?hu ?_; (case B => k_asm); (case F => k_asm); (case X => k_asm); (case N => k_asm); (case U => k_updF); (case T => k_asm); (case hk => first | exact rfl | assumption); (case hl => assumption); (case hi => assumption); (case hlen => assumption); (case hp => assumption); (case hst => assumption); (case hst2 => assumption); (case hsz => first | assumption | decide | omega); (case hd => ktr_room); (case hu => ktr_units); k_whole); intro r' p' st' t1' t2' t3' n' h' tk' e1' e2' e3' e4' e5' F' N'; (try dsimp only at N'); (try dsimp only); (try k_fold); walk_say "DRAW"))
local macro_rules | `(tactic| walk_at "binaryOp Add str str") => `(tactic| (k_here; (refine' PyProof.Rows.add_str ?_ ?hsz; (case hsz => (rw [sizeLine_eq]; (try simp only [Str.length_append, len_z, len_w, len_0, len_p, len_b, len_e]); omega)); intro t' tk'); (try dsimp only); walk_say "MY ADD"))
local macro_rules | `(tactic| walk_at "call ref") => `(tactic| (k_here; (with_reducible show wpAny _ _ (call (Value.ref 105) _ _) _ _ _); k_dflt (refine' body_use ?B ?F ?X ?N ?U ?hpr ?hpair ?T ?hk ?hl ?hi ?hlen ?hp ?hst ?hst2 ?hd ?hu ?_; (case B => k_asm); (case F => k_asm); (case X => k_asm); (case N => k_asm); (case U => k_updF); (case T => k_asm); (case hpr => assumption); (case hpair => assumption); (case hk => first | exact rfl | assumption); (case hl => assumption); (case hi => assumption); (case hlen => assumption); (case hp => assumption); (case hst => assumption); (case hst2 => assumption); (case hd => ktr_room); (case hu => ktr_units); k_whole); intro rr' wr' ws' told' tt' us' nw' p' st' t1' t2' n' h' tk' hb' hus' hwr' hlt' e3' e4' e5' F' N'; (have hsh' := Built.short hb' hus'); (try simp only [AllLt, and_true] at hlt'); (replace hwr' := ltN hwr'); (try dsimp only at N'); (try dsimp only); (try k_fold); walk_say "BODY"))

theorem mem_str3 {a b c : Str} {ta tb tc : Tok} {v : Value} (h : v ∈ ([.str a ta, .str b tb, .str c tc] : List Value)) : ∃ x t, v = .str x t ∧ x ∈ [a, b, c] := by
  simp only [List.mem_cons, List.not_mem_nil, or_false] at h
  rcases h with rfl | rfl | rfl
  · exact ⟨_, _, rfl, .head _⟩
  · exact ⟨_, _, rfl, .tail _ (.head _)⟩
  · exact ⟨_, _, rfl, .tail _ (.tail _ (.head _))⟩
theorem mem_str2 {a b : Str} {ta tb : Tok} {v : Value} (h : v ∈ ([.str a ta, .str b tb] : List Value)) : ∃ x t, v = .str x t ∧ x ∈ [a, b] := by
  simp only [List.mem_cons, List.not_mem_nil, or_false] at h
  rcases h with rfl | rfl
  · exact ⟨_, _, rfl, .head _⟩
  · exact ⟨_, _, rfl, .tail _ (.head _)⟩
theorem mem_str6 {a b c d e f : Str} {ta tb tc td te tf : Tok} {v : Value} (h : v ∈ ([.str a ta, .str b tb, .str c tc, .str d td, .str e te, .str f tf] : List Value)) : ∃ x t, v = .str x t ∧ x ∈ [a, b, c, d, e, f] := by
  simp only [List.mem_cons, List.not_mem_nil, or_false] at h
  rcases h with rfl | rfl | rfl | rfl | rfl | rfl
  · exact ⟨_, _, rfl, .head _⟩
  · exact ⟨_, _, rfl, .tail _ (.head _)⟩
  · exact ⟨_, _, rfl, .tail _ (.tail _ (.head _))⟩
  · exact ⟨_, _, rfl, .tail _ (.tail _ (.tail _ (.head _)))⟩
  · exact ⟨_, _, rfl, .tail _ (.tail _ (.tail _ (.tail _ (.head _))))⟩
  · exact ⟨_, _, rfl, .tail _ (.tail _ (.tail _ (.tail _ (.tail _ (.head _)))))⟩
abbrev headsL : List Str := [Str.ofString "", Str.ofString "x", Str.ofString "(a"]
abbrev gapsL : List Str := [Str.ofString " ", Str.ofString "\t", Str.ofString "\n", Str.ofString "\r", Str.ofString "\x0c", Str.ofString " \n\t"]
abbrev blanksL : List Str := [Str.ofString "\n\n", Str.ofString "\n \t\n"]
theorem head_len {x : Str} (h : x ∈ headsL) : x.length ≤ 2 := by
  have : ∀ q ∈ headsL, q.length ≤ 2 := by decide
  exact this _ h
theorem gap_len {x : Str} (h : x ∈ gapsL) : x.length ≤ 3 := by
  have : ∀ q ∈ gapsL, q.length ≤ 3 := by decide
  exact this _ h
theorem blank_len {x : Str} (h : x ∈ blanksL) : x.length ≤ 4 := by
  have : ∀ q ∈ blanksL, q.length ≤ 4 := by decide
  exact this _ h
local macro_rules | `(tactic| walk_at "call ref") => `(tactic| (k_here; (with_reducible show wpAny _ _ (call (Value.ref 98) _ _) _ _ _); k_dflt (refine' pick_use ?B ?F ?X ?N ?U ?hm ?T ?hk ?hl ?hi ?hlen ?hp ?hst ?hst2 ?hx0 ?hx1 ?hd ?hu ?_; (case B => k_asm); (case F => k_asm); (case X => k_asm); (case N => k_asm); (case U => k_updF); (case hm => first | exact .inl (lstK (by k_asm) (by k_is)) | exact .inr ⟨⟨_, by k_mem⟩, by k_ne⟩); (case T => k_asm); (case hk => first | exact rfl | assumption); (case hl => assumption); (case hi => assumption); (case hlen => assumption); (case hp => assumption); (case hst => assumption); (case hst2 => assumption); (case hx0 => exact Nat.le_of_ble_eq_true rfl); (case hx1 => exact Nat.le_of_ble_eq_true rfl); (case hd => ktr_room); (case hu => ktr_units); k_whole); intro v' p' st' t1' t2' n' h' tk' hv' e3' e4' e5' F' N'; (obtain ⟨x', tx', hvx', hx'⟩ := mem_str3 hv'; subst hvx'; have hlx' := head_len hx'); (try dsimp only at N'); (try dsimp only); (try k_fold); walk_say "HEAD"))
local macro_rules | `(tactic| walk_at "call ref") => `(tactic| (k_here; (with_reducible show wpAny _ _ (call (Value.ref 98) _ _) _ _ _); k_dflt (refine' pick_use ?B ?F ?X ?N ?U ?hm ?T ?hk ?hl ?hi ?hlen ?hp ?hst ?hst2 ?hx0 ?hx1 ?hd ?hu ?_; (case B => k_asm); (case F => k_asm); (case X => k_asm); (case N => k_asm); (case U => k_updF); (case hm => first | exact .inl (lstK (by k_asm) (by k_is)) | exact .inr ⟨⟨_, by k_mem⟩, by k_ne⟩); (case T => k_asm); (case hk => first | exact rfl | assumption); (case hl => assumption); (case hi => assumption); (case hlen => assumption); (case hp => assumption); (case hst => assumption); (case hst2 => assumption); (case hx0 => exact Nat.le_of_ble_eq_true rfl); (case hx1 => exact Nat.le_of_ble_eq_true rfl); (case hd => ktr_room); (case hu => ktr_units); k_whole); intro v' p' st' t1' t2' n' h' tk' hv' e3' e4' e5' F' N'; (obtain ⟨x', tx', hvx', hx'⟩ := mem_str2 hv'; subst hvx'; have hlx' := blank_len hx'); (try dsimp only at N'); (try dsimp only); (try k_fold); walk_say "BLANK"))
local macro_rules | `(tactic| walk_at "call ref") => `(tactic| (k_here; (with_reducible show wpAny _ _ (call (Value.ref 98) [_, Value.ref 64]) _ _ _); k_dflt (refine' pick_use ?B ?F ?X ?N ?U ?hm ?T ?hk ?hl ?hi ?hlen ?hp ?hst ?hst2 ?hx0 ?hx1 ?hd ?hu ?_; (case B => k_asm); (case F => k_asm); (case X => k_asm); (case N => k_asm); (case U => k_updF); (case hm => first | exact .inl (lstK (by k_asm) (by k_is)) | exact .inr ⟨⟨_, by k_mem⟩, by k_ne⟩); (case T => k_asm); (case hk => first | exact rfl | assumption); (case hl => assumption); (case hi => assumption); (case hlen => assumption); (case hp => assumption); (case hst => assumption); (case hst2 => assumption); (case hx0 => exact Nat.le_of_ble_eq_true rfl); (case hx1 => exact Nat.le_of_ble_eq_true rfl); (case hd => ktr_room); (case hu => ktr_units); k_whole); intro v' p' st' t1' t2' n' h' tk' hv' e3' e4' e5' F' N'; (obtain ⟨x', tx', hvx', hx'⟩ := mem_str6 hv'; subst hvx'; have hlx' := gap_len hx'); (try dsimp only at N'); (try dsimp only); (try k_fold); walk_say "GAP"))
local macro_rules | `(tactic| walk_at "call ref") => `(tactic| (k_here; (with_reducible show wpAny _ _ (call (Value.ref 98) [_, Value.ref 80]) _ _ _); k_dflt (refine' units_use ?B ?F ?X ?N ?U ?T ?hk ?hl ?hi ?hlen ?hp ?hst ?hst2 ?hd ?hu ?_; (case B => k_asm); (case F => k_asm); (case X => k_asm); (case N => k_asm); (case U => k_updF); (case T => k_asm); (case hk => first | exact rfl | assumption); (case hl => assumption); (case hi => assumption); (case hlen => assumption); (case hp => assumption); (case hst => assumption); (case hst2 => assumption); (case hd => ktr_room); (case hu => ktr_units); k_whole); intro u' x' y' tx' ty' p' st' t1' t2' n' h' tk' hu' hm' hz' e3' e4' e5' F' N'; (obtain ⟨hzx', hzy'⟩ := hz'); (try dsimp only at N'); (try dsimp only); (try k_fold); walk_say "UNIT"))
local macro_rules | `(tactic| walk_at "call ref") => `(tactic| (k_here; (with_reducible show wpAny _ _ (call (Value.ref 98) [_, Value.ref 84]) _ _ _); k_dflt (refine' pairs_use ?B ?F ?X ?N ?U ?T ?hk ?hl ?hi ?hlen ?hp ?hst ?hst2 ?hd ?hu ?_; (case B => k_asm); (case F => k_asm); (case X => k_asm); (case N => k_asm); (case U => k_updF); (case T => k_asm); (case hk => first | exact rfl | assumption); (case hl => assumption); (case hi => assumption); (case hlen => assumption); (case hp => assumption); (case hst => assumption); (case hst2 => assumption); (case hd => ktr_room); (case hu => ktr_units); k_whole); intro u' x' y' tx' ty' p' st' t1' t2' n' h' tk' hu' hm' hz' e3' e4' e5' F' N'; (obtain ⟨hzx', hzy'⟩ := hz'); (try dsimp only at N'); (try dsimp only); (try k_fold); walk_say "PAIR"))
abbrev C (x : Str) : List Nat := x.cps.toList
theorem C_append (x y : Str) : C (x ++ y) = C x ++ C y := by show (x ++ y).cps.toList = _; rw [Str.cps_append, Array.toList_append]
theorem C_len (x : Str) : x.length = (C x).length := by simp [Str.length]
structure CaseOk (text : Str) (start fin : Int) (v3 v4 : Value) : Prop where
  s0 : 0 ≤ start
  sf : start ≤ fin
  fl : fin ≤ (text.length : Int)
  tl : text.length ≤ 200
  ans : (spec (C text) start.toNat fin.toNat = some none ∧ v3 = .none ∧ v4 = .none) ∨ ∃ told tt p tp, spec (C text) start.toNat fin.toNat = some (some (C told, p)) ∧ v3 = .str told tt ∧ v4 = .int (p : Int) tp ∧ PyData.strOk told = true
structure KF (hd gp po pc : Str) (ws : List (Str × Tok)) (told : Str) (us : List (Str × Str)) : Prop where
  hh : hd ∈ headsL
  hg : gp ∈ gapsL
  hp : (po, pc) ∈ pairsL
  hb : Built po pc (ws.map (·.1)) told us
  hus : us.length ≤ 6
structure KC (hd gp po pc : Str) (ws : List (Str × Tok)) (told : Str) (o c : Nat) (uc : List (List Nat × List Nat)) : Prop where
  hpo : C po = [o]
  hpc : C pc = [c]
  hp : (o, c) ∈ pairsC
  hg0 : C gp ≠ []
  hg : ∀ x ∈ C gp, isWs x = true
  hu : ∀ u ∈ uc, okU o c u
  hw : C (catS (ws.map (·.1))) = wordsC uc
  ht : ∀ k, C (catS ((ws.take k).map (·.1))) = wordsC (uc.take k)
  hd' : ∀ k, C (catS ((ws.drop k).map (·.1))) = wordsC (uc.drop k)
  told : C told = toldC uc
  lh : (C hd).length ≤ 2
  lg : (C gp).length ≤ 3
  lw : (C (catS (ws.map (·.1)))).length ≤ 30
  lt : ∀ k, (C (catS ((ws.take k).map (·.1)))).length ≤ 30
  ld : ∀ k, (C (catS ((ws.drop k).map (·.1)))).length ≤ 30
theorem pair_codes {x y : Str} (h : (x, y) ∈ pairsL) : ∃ o c, C x = [o] ∧ C y = [c] ∧ (o, c) ∈ pairsC := by
  simp only [pairsL, List.mem_cons, Prod.mk.injEq, List.not_mem_nil, or_false] at h
  rcases h with ⟨rfl, rfl⟩ | ⟨rfl, rfl⟩ | ⟨rfl, rfl⟩
  · exact ⟨34, 34, rfl, rfl, by decide⟩
  · exact ⟨39, 39, rfl, rfl, by decide⟩
  · exact ⟨40, 41, rfl, rfl, by decide⟩
theorem gap_codes {x : Str} (h : x ∈ gapsL) : C x ≠ [] ∧ ∀ y ∈ C x, isWs y = true := by
  have : ∀ q ∈ gapsL, C q ≠ [] ∧ ∀ y ∈ C q, isWs y = true := by decide
  exact this _ h
theorem unit_codes {x y : Str} (h : (x, y) ∈ unitsL) : (C x, C y) ∈ unitsC := by
  have : ∀ q ∈ unitsL, (C q.1, C q.2) ∈ unitsC := by decide
  exact this _ h
theorem C_inj {x y : Str} (h : C x = C y) : x = y := Str.ext' (Array.toList_inj.mp h)
theorem fold_codes : ∀ (us : List (Str × Str)) (acc : Str), C (us.foldl (fun (acc : Str) u => acc ++ u.2) acc) = C acc ++ (us.map fun u => C u.2).flatten
  | [], acc => by simp
  | u :: us, acc => by
    rw [List.foldl_cons, fold_codes us, C_append]
    simp
theorem cat_codes (us : List (Str × Str)) : C (catS (us.map (·.1))) = wordsC (us.map fun u => (C u.1, C u.2)) := by
  show (catS (us.map (·.1))).cps.toList = _
  rw [catS_codes]
  simp [wordsC, Function.comp_def]
theorem KF.kc {hd gp po pc : Str} {ws : List (Str × Tok)} {told : Str} {us : List (Str × Str)} (k : KF hd gp po pc ws told us) : ∃ o c uc, KC hd gp po pc ws told o c uc := by
  obtain ⟨o, c, e1, e2, hp⟩ := pair_codes k.hp
  obtain ⟨g0, g1⟩ := gap_codes k.hg
  have sh := k.hb.short k.hus
  have hw := k.hb.words
  have tk : ∀ j, (ws.take j).map (·.1) = (us.take j).map (·.1) := fun j => by rw [List.map_take, hw, List.map_take]
  have dp : ∀ j, (ws.drop j).map (·.1) = (us.drop j).map (·.1) := fun j => by rw [List.map_drop, hw, List.map_drop]
  refine ⟨o, c, us.map fun u => (C u.1, C u.2), ⟨e1, e2, hp, g0, g1, ?_, ?_, ?_, ?_, ?_, ?_, ?_, ?_, ?_, ?_⟩⟩
  · intro u hu
    obtain ⟨v, hv, rfl⟩ := List.mem_map.mp hu
    obtain ⟨h1, h2, h3⟩ := k.hb.ok v hv
    refine ⟨unit_codes h1, fun e => h2 (C_inj (by rw [e2]; exact e)), fun e => h3 ⟨C_inj ?_, C_inj ?_⟩⟩
    · rw [e1, e.1]; rfl
    · rw [show C v.1 = [40] from e.2]; rfl
  · rw [hw]; exact cat_codes us
  · intro j; rw [tk, cat_codes, List.map_take]
  · intro j; rw [dp, cat_codes, List.map_drop]
  · rw [k.hb.told, fold_codes]
    have : C (Str.ofString "") = [] := rfl
    rw [this, List.nil_append]
    simp [toldC, Function.comp_def]
  · rw [← C_len]; exact head_len k.hh
  · rw [← C_len]; exact gap_len k.hg
  · rw [← C_len]; exact catS_len sh
  · intro j; rw [← C_len]; exact catS_len (sh.take j)
  · intro j; rw [← C_len]; exact catS_len (sh.drop j)
theorem C_z : C (Str.ofString " z") = [32, 122] := rfl
theorem C_w : C (Str.ofString "w") = [119] := rfl
theorem C_0 : C (Str.ofString "\x00") = [0] := rfl
theorem C_p : C (Str.ofString "(") = [40] := rfl
theorem C_b : C (Str.ofString "\\") = [92] := rfl
section
variable {hd gp po pc : Str} {ws : List (Str × Tok)} {told : Str} {us : List (Str × Str)}
theorem KC.toldOk {o c : Nat} {uc : List (List Nat × List Nat)} (k : KC hd gp po pc ws told o c uc) : PyData.strOk told = true := by
  unfold PyData.strOk
  rw [← Array.all_toList, show told.cps.toList = toldC uc from k.told, List.all_eq_true]
  intro z hz
  obtain ⟨l, hl, hz⟩ := List.mem_flatten.mp hz
  obtain ⟨u, hu, rfl⟩ := List.mem_map.mp hl
  have key : ∀ u ∈ unitsC, ∀ z ∈ u.2, z < 0x110000 := by decide
  exact decide_eq_true (key u (k.hu u hu).1 z hz)
/-- the whole text, by its signs -/
theorem KC.text {o c : Nat} {uc : List (List Nat × List Nat)} (k : KC hd gp po pc ws told o c uc) :
    C (hd ++ gp ++ po ++ catS (ws.map (·.1)) ++ pc ++ Str.ofString " z" ++ pc) = C hd ++ (C gp ++ o :: (wordsC uc ++ c :: [32, 122, c])) := by
  simp only [C_append, k.hpo, k.hpc, k.hw, C_z, List.append_assoc, List.cons_append, List.nil_append]
theorem case0 {tt tp : Tok} (k : KF hd gp po pc ws told us) :
    CaseOk (hd ++ gp ++ po ++ catS (ws.map (·.1)) ++ pc ++ Str.ofString " z" ++ pc) (hd.length : Int) ((hd.length + gp.length + po.length + (catS (ws.map (·.1))).length + pc.length + (Str.ofString " z").length + pc.length : Nat) : Int)
      (.str told tt) (.int ((hd.length : Int) + (gp.length : Int) + 1 + ((catS (ws.map (·.1))).length : Int) + 1) tp) := by
  obtain ⟨o, c, uc, q⟩ := k.kc
  have e1 : po.length = 1 := by rw [C_len, q.hpo]; rfl
  have e2 : pc.length = 1 := by rw [C_len, q.hpc]; rfl
  have l1 := q.lh; have l2 := q.lg; have l3 := q.lw
  rw [← C_len] at l1 l2 l3
  refine ⟨by omega, by omega, ?_, ?_, .inr ⟨told, tt, hd.length + gp.length + 1 + (catS (ws.map (·.1))).length + 1, tp, ?_, rfl, ?_, q.toldOk⟩⟩
  · simp only [Str.length_append, len_z]; omega
  · simp only [Str.length_append, len_z]; omega
  · rw [Int.toNat_natCast, Int.toNat_natCast, q.text, q.told, C_len hd, C_len gp, C_len (catS _), q.hw]
    refine spec_found q.hp q.hg0 q.hg (by simp only [len_z]; omega) q.hu (List.take_of_length_le ?_)
    have := q.hw
    simp only [List.length_append, List.length_cons, List.length_nil, len_z]
    omega
  · simp only [Int.natCast_add, Int.natCast_one]
theorem case1 {tt tp : Tok} (k : KF hd gp po pc ws told us) :
    CaseOk (hd ++ gp ++ po ++ catS (ws.map (·.1)) ++ pc ++ Str.ofString " z" ++ pc) (hd.length : Int) ((hd.length : Int) + (gp.length : Int) + 1 + ((catS (ws.map (·.1))).length : Int) + 1)
      (.str told tt) (.int ((hd.length : Int) + (gp.length : Int) + 1 + ((catS (ws.map (·.1))).length : Int) + 1) tp) := by
  obtain ⟨o, c, uc, q⟩ := k.kc
  have e1 : po.length = 1 := by rw [C_len, q.hpo]; rfl
  have e2 : pc.length = 1 := by rw [C_len, q.hpc]; rfl
  have l1 := q.lh; have l2 := q.lg; have l3 := q.lw
  rw [← C_len] at l1 l2 l3
  refine ⟨by omega, by omega, ?_, ?_, .inr ⟨told, tt, hd.length + gp.length + 1 + (catS (ws.map (·.1))).length + 1, tp, ?_, rfl, ?_, q.toldOk⟩⟩
  · simp only [Str.length_append, len_z]; omega
  · simp only [Str.length_append, len_z]; omega
  · rw [Int.toNat_natCast, show ((hd.length : Int) + (gp.length : Int) + 1 + ((catS (ws.map (·.1))).length : Int) + 1).toNat = hd.length + gp.length + 1 + (catS (ws.map (·.1))).length + 1 by omega, q.text, q.told, C_len hd, C_len gp, C_len (catS _), q.hw]
    refine spec_found (r := []) q.hp q.hg0 q.hg (by omega) q.hu ?_
    rw [show (C hd).length + (C gp).length + 1 + (wordsC uc).length + 1 - ((C hd).length + (C gp).length + 1) = (wordsC uc).length + 1 by omega, List.take_length_add_append]
    rfl
  · simp only [Int.natCast_add, Int.natCast_one]
theorem case8 (k : KF hd gp po pc ws told us) :
    CaseOk (hd ++ gp ++ po ++ catS (ws.map (·.1)) ++ pc ++ Str.ofString " z" ++ pc) (hd.length : Int) ((hd.length : Int) + (gp.length : Int) + 1 + ((catS (ws.map (·.1))).length : Int)) .none .none := by
  obtain ⟨o, c, uc, q⟩ := k.kc
  have e1 : po.length = 1 := by rw [C_len, q.hpo]; rfl
  have e2 : pc.length = 1 := by rw [C_len, q.hpc]; rfl
  have l1 := q.lh; have l2 := q.lg; have l3 := q.lw
  rw [← C_len] at l1 l2 l3
  refine ⟨by omega, by omega, ?_, ?_, .inl ⟨?_, rfl, rfl⟩⟩
  · simp only [Str.length_append, len_z]; omega
  · simp only [Str.length_append, len_z]; omega
  · rw [Int.toNat_natCast, show ((hd.length : Int) + (gp.length : Int) + 1 + ((catS (ws.map (·.1))).length : Int)).toNat = hd.length + gp.length + 1 + (catS (ws.map (·.1))).length by omega, q.text, C_len hd, C_len gp, C_len (catS _), q.hw]
    refine spec_lost (r := []) q.hp q.hg0 q.hg (by omega) q.hu ?_ rfl
    rw [show (C hd).length + (C gp).length + 1 + (wordsC uc).length - ((C hd).length + (C gp).length + 1) = (wordsC uc).length by omega, List.take_left, List.append_nil]
theorem case9 {r : Int} (k : KF hd gp po pc ws told us) (h0 : 0 ≤ r) (h1 : r < (gp.length : Int) + 1) :
    CaseOk (hd ++ gp ++ po ++ catS (ws.map (·.1)) ++ pc ++ Str.ofString " z" ++ pc) (hd.length : Int) ((hd.length : Int) + r) .none .none := by
  obtain ⟨o, c, uc, q⟩ := k.kc
  have e1 : po.length = 1 := by rw [C_len, q.hpo]; rfl
  have e2 : pc.length = 1 := by rw [C_len, q.hpc]; rfl
  have l1 := q.lh; have l2 := q.lg; have l3 := q.lw
  rw [← C_len] at l1 l2 l3
  refine ⟨by omega, by omega, ?_, ?_, .inl ⟨?_, rfl, rfl⟩⟩
  · simp only [Str.length_append, len_z]; omega
  · simp only [Str.length_append, len_z]; omega
  · rw [Int.toNat_natCast, show ((hd.length : Int) + r).toNat = hd.length + r.toNat by omega, q.text, C_len hd]
    exact spec_gap q.hg (by rw [← C_len]; omega)
theorem case10 (k : KF hd gp po pc ws told us) :
    CaseOk (hd ++ gp ++ po ++ catS (ws.map (·.1)) ++ pc ++ Str.ofString " z" ++ pc) (hd.length : Int) (hd.length : Int) .none .none := by
  have := case9 (r := 0) k (Int.le_refl _) (by omega)
  rwa [Int.add_zero] at this
theorem C_slice {x : Str} {j : Int} (h0 : 0 ≤ j) (h1 : j ≤ ((C x).length : Int)) : C (Txt.slice x none (some j)) = (C x).take j.toNat := by
  rw [eq_of_beq (slice_closes_to (x := x) (j := j) ⟨h0, h1⟩)]
  simp [C]
theorem case2 (k : KF hd gp po pc ws told us) :
    CaseOk (Txt.slice (hd ++ gp ++ po ++ catS (ws.map (·.1)) ++ pc ++ Str.ofString " z" ++ pc) none (some ((hd.length : Int) + (gp.length : Int) + 1 + ((catS (ws.map (·.1))).length : Int))) ++ Str.ofString "\\" ++ pc) (hd.length : Int)
      ((hd.length : Int) + (gp.length : Int) + 1 + ((catS (ws.map (·.1))).length : Int) + 2) .none .none := by
  obtain ⟨o, c, uc, q⟩ := k.kc
  have e1 : po.length = 1 := by rw [C_len, q.hpo]; rfl
  have e2 : pc.length = 1 := by rw [C_len, q.hpc]; rfl
  have l1 := q.lh; have l2 := q.lg; have l3 := q.lw
  rw [← C_len] at l1 l2 l3
  have hsl : C (Txt.slice (hd ++ gp ++ po ++ catS (ws.map (·.1)) ++ pc ++ Str.ofString " z" ++ pc) none (some ((hd.length : Int) + (gp.length : Int) + 1 + ((catS (ws.map (·.1))).length : Int)))) = C hd ++ (C gp ++ o :: wordsC uc) := by
    rw [C_slice (by omega) (by rw [← C_len]; simp only [Str.length_append, len_z]; omega), show ((hd.length : Int) + (gp.length : Int) + 1 + ((catS (ws.map (·.1))).length : Int)).toNat = hd.length + (gp.length + ((catS (ws.map (·.1))).length + 1)) by omega, q.text, C_len hd, C_len gp, C_len (catS _), q.hw,
      List.take_length_add_append, List.take_length_add_append, List.take_succ_cons, List.take_left]
  have lsl : (Txt.slice (hd ++ gp ++ po ++ catS (ws.map (·.1)) ++ pc ++ Str.ofString " z" ++ pc) none (some ((hd.length : Int) + (gp.length : Int) + 1 + ((catS (ws.map (·.1))).length : Int)))).length = hd.length + gp.length + 1 + (catS (ws.map (·.1))).length := by
    rw [C_len, hsl, C_len hd, C_len gp, C_len (catS _), q.hw]
    simp only [List.length_append, List.length_cons]
    omega
  generalize Txt.slice (hd ++ gp ++ po ++ catS (ws.map (·.1)) ++ pc ++ Str.ofString " z" ++ pc) none (some ((hd.length : Int) + (gp.length : Int) + 1 + ((catS (ws.map (·.1))).length : Int))) = Z at hsl lsl
  refine ⟨by omega, by omega, ?_, ?_, .inl ⟨?_, rfl, rfl⟩⟩
  · simp only [Str.length_append, len_b]; omega
  · simp only [Str.length_append, len_b]; omega
  · rw [Int.toNat_natCast, show ((hd.length : Int) + (gp.length : Int) + 1 + ((catS (ws.map (·.1))).length : Int) + 2).toNat = hd.length + gp.length + 1 + (catS (ws.map (·.1))).length + 2 by omega]
    simp only [C_append, hsl, q.hpc, C_b, List.append_assoc, List.cons_append, List.nil_append]
    rw [C_len hd, C_len gp, C_len (catS _), q.hw]
    refine spec_lost (r := [92, c]) q.hp q.hg0 q.hg (by omega) q.hu (List.take_of_length_le ?_) (scan_last q.hp)
    simp only [List.length_append, List.length_cons, List.length_nil]
    omega
theorem case3 (k : KF hd gp po pc ws told us) :
    CaseOk (hd ++ po ++ catS (ws.map (·.1)) ++ pc) (hd.length : Int) ((hd.length : Int) + ((catS (ws.map (·.1))).length : Int) + 2) .none .none := by
  obtain ⟨o, c, uc, q⟩ := k.kc
  have e1 : po.length = 1 := by rw [C_len, q.hpo]; rfl
  have e2 : pc.length = 1 := by rw [C_len, q.hpc]; rfl
  have l1 := q.lh; have l2 := q.lg; have l3 := q.lw
  rw [← C_len] at l1 l2 l3
  refine ⟨by omega, by omega, ?_, ?_, .inl ⟨?_, rfl, rfl⟩⟩
  · simp only [Str.length_append]; omega
  · simp only [Str.length_append]; omega
  · rw [Int.toNat_natCast, C_append, C_append, C_append, q.hpo, List.append_assoc, List.append_assoc, List.cons_append, C_len hd]
    refine spec_nows ?_ (by omega)
    have hp := q.hp
    simp only [pairsC, List.mem_cons, Prod.mk.injEq, List.not_mem_nil, or_false] at hp
    rcases hp with ⟨rfl, rfl⟩ | ⟨rfl, rfl⟩ | ⟨rfl, rfl⟩ <;> decide
theorem case4 (k : KF hd gp po pc ws told us) :
    CaseOk (hd ++ gp ++ Str.ofString "w" ++ po ++ catS (ws.map (·.1)) ++ pc) (hd.length : Int) (((hd ++ gp).length : Int) + 3 + ((catS (ws.map (·.1))).length : Int)) .none .none := by
  obtain ⟨o, c, uc, q⟩ := k.kc
  have e1 : po.length = 1 := by rw [C_len, q.hpo]; rfl
  have e2 : pc.length = 1 := by rw [C_len, q.hpc]; rfl
  have l1 := q.lh; have l2 := q.lg; have l3 := q.lw
  rw [← C_len] at l1 l2 l3
  rw [Str.length_append]
  refine ⟨by omega, by omega, ?_, ?_, .inl ⟨?_, rfl, rfl⟩⟩
  · simp only [Str.length_append, len_w]; omega
  · simp only [Str.length_append, len_w]; omega
  · rw [Int.toNat_natCast]
    simp only [C_append, C_w, List.append_assoc, List.cons_append, List.nil_append]
    rw [C_len hd]
    exact spec_w q.hg0 q.hg (by rw [← C_len, ← C_len]; omega)
/-- a title spoiled within -/
theorem case_in {X : Str} {j : Nat} {r : List Nat} {x : Nat} (k : KF hd gp po pc ws told us) (lx : X.length ≤ 4) (hX : C X = x :: r) (hs : ∀ o c, (o, c) ∈ pairsC → C po = [o] → C pc = [c] → ∀ t, scan o c (x :: (r ++ t)) = none) :
    CaseOk (hd ++ gp ++ po ++ catS ((ws.take j).map (·.1)) ++ X ++ (catS ((ws.drop j).map (·.1)) ++ pc)) (hd.length : Int)
      ((hd.length + gp.length + po.length + (catS ((ws.take j).map (·.1))).length + X.length + ((catS ((ws.drop j).map (·.1))).length + pc.length) : Nat) : Int) .none .none := by
  obtain ⟨o, c, uc, q⟩ := k.kc
  have e1 : po.length = 1 := by rw [C_len, q.hpo]; rfl
  have e2 : pc.length = 1 := by rw [C_len, q.hpc]; rfl
  have l1 := q.lh; have l2 := q.lg; have l3 := q.lt j; have l4 := q.ld j
  rw [← C_len] at l1 l2 l3 l4
  refine ⟨by omega, by omega, ?_, ?_, .inl ⟨?_, rfl, rfl⟩⟩
  · simp only [Str.length_append]; omega
  · simp only [Str.length_append]; omega
  · rw [Int.toNat_natCast, Int.toNat_natCast]
    have et : C (hd ++ gp ++ po ++ catS ((ws.take j).map (·.1)) ++ X ++ (catS ((ws.drop j).map (·.1)) ++ pc)) = C hd ++ (C gp ++ o :: (wordsC (uc.take j) ++ (x :: (r ++ (wordsC (uc.drop j) ++ [c]))))) := by
      simp only [C_append, q.hpo, q.hpc, q.ht, q.hd', hX, List.append_assoc, List.cons_append, List.nil_append]
    rw [et]
    have hj1 := q.ht j
    have hj2 := q.hd' j
    have lX : X.length = r.length + 1 := by rw [C_len, hX]; rfl
    rw [C_len (catS _), hj1] at l3
    rw [C_len (catS _), hj2] at l4
    rw [C_len hd, C_len gp, e1, C_len (catS _), hj1, lX, C_len (catS _), hj2, e2]
    refine spec_lost (r := x :: (r ++ (wordsC (uc.drop j) ++ [c]))) q.hp q.hg0 q.hg (by omega) (fun u hu => q.hu u (List.mem_of_mem_take hu)) (List.take_of_length_le ?_) (hs o c q.hp q.hpo q.hpc _)
    simp only [List.length_append, List.length_cons, List.length_nil]
    omega
theorem case5 {j : Nat} (k : KF hd gp po pc ws told us) :
    CaseOk (hd ++ gp ++ po ++ catS ((ws.take j).map (·.1)) ++ Str.ofString "\x00" ++ (catS ((ws.drop j).map (·.1)) ++ pc)) (hd.length : Int)
      ((hd.length + gp.length + po.length + (catS ((ws.take j).map (·.1))).length + (Str.ofString "\x00").length + ((catS ((ws.drop j).map (·.1))).length + pc.length) : Nat) : Int) .none .none :=
  case_in k (by rw [len_0]; omega) C_0 fun o c _ _ _ t => scan_nul
theorem case7 {j : Nat} (k : KF hd gp po pc ws told us) (ho : (po == Str.ofString "(") = true) :
    CaseOk (hd ++ gp ++ po ++ catS ((ws.take j).map (·.1)) ++ Str.ofString "(" ++ (catS ((ws.drop j).map (·.1)) ++ pc)) (hd.length : Int)
      ((hd.length + gp.length + po.length + (catS ((ws.take j).map (·.1))).length + (Str.ofString "(").length + ((catS ((ws.drop j).map (·.1))).length + pc.length) : Nat) : Int) .none .none :=
  case_in k (by rw [len_p]; omega) C_p fun o c _ h _ t => by
    rw [beq_iff_eq.mp ho, C_p] at h
    cases h
    exact scan_open
theorem case6 {j : Nat} {X : Str} (k : KF hd gp po pc ws told us) (hX : X ∈ blanksL) :
    CaseOk (hd ++ gp ++ po ++ catS ((ws.take j).map (·.1)) ++ X ++ (catS ((ws.drop j).map (·.1)) ++ pc)) (hd.length : Int)
      ((hd.length + gp.length + po.length + (catS ((ws.take j).map (·.1))).length + X.length + ((catS ((ws.drop j).map (·.1))).length + pc.length) : Nat) : Int) .none .none := by
  simp only [List.mem_cons, List.not_mem_nil, or_false] at hX
  rcases hX with rfl | rfl
  · exact case_in (x := 10) (r := [10]) k (by decide) rfl fun o c _ _ _ t => scan_blank (by simp [blankAt, isBl])
  · exact case_in (x := 10) (r := [32, 9, 10]) k (by decide) rfl fun o c _ _ _ t => scan_blank (by simp [blankAt, isBl])
end
theorem news3 {h : Heap} {x : Addr × Obj} {o : Obj} (N : News h₀ L h (x :: news)) (hm : (bx, o) ∈ news) (hs : ∀ q ∈ rest, q ∈ news) : News h₀ L h (x :: (bx, o) :: rest) := fun q hq => N q (by
  rcases List.mem_cons.mp hq with rfl | hq
  · exact .head _
  · rcases List.mem_cons.mp hq with rfl | hq
    · exact .tail _ hm
    · exact .tail _ (hs q hq))
theorem ltA {a b : Nat} (h : a < b) : @LT.lt Addr instLTNat a b := h
set_option maxHeartbeats 16000000 in
theorem case_ctr
  (B : Below A₀ base outer h₀) (F : Fr h₀ L s.heap m) (X : (Mine.hd.heap_39 w.params).In h₀)
  (N : News h₀ L s.heap ((bx, boxO scr p st tp ts n) :: rest)) (hr : ∀ q ∈ rest, q.1 ≠ bx)
  (T : Top topProg loose mean mg mb h₀) (hk : cs.kind = .function) (hl : base.IsList scr vs.toArray) (hi : IntsAre vs ns)
  (hlen : ns.length ≤ 63) (hp : 0 ≤ p) (hst : 0 ≤ st) (hst2 : st < 2147483647) (hd : dp + 12 < recursionLimit) (hu : un + 80 < cLine)
  (hret : ∀ (rr : Addr) (text : Str) (tt ts' tf : Tok) (start fin : Int) (v3 v4 : Value) (p' st' : Int) (t1 t2 : Tok) (n' : Nat) (h' : Heap) (tk' : Nat), CaseOk text start fin v3 v4 → bx < rr → AllLt rr rest → 0 ≤ p' → 0 ≤ st' → st' < 2147483647 → Fr h₀ L h' m →
    News h₀ L h' ((rr, listOf #[.str text tt, .int start ts', .int fin tf, v3, v4] 0) :: (bx, boxO scr p' st' t1 t2 n') :: rest) → Q (.ref rr) { s with heap := h', toks := tk' }) :
  wpAny (model PR w) (ktrTop dp un gd cn cs L a ccd cl outer) (call (.ref 112) [.ref bx]) Q E s := by
  refine wpAny_call ?_
  k_dflt cell_enter
  k_steps
  all_goals (
    refine' hret _ _ _ _ _ _ _ _ _ _ _ _ _ _ _ _ ?zc ?zl1 ?zl2 ?zp ?zq ?zr ?zF ?zN
    case zN => (refine' news3 (by assumption) ?znm ?zns; (case znm => k_mem); (case zns => (intro q hq; repeat' (first | exact hq | apply List.Mem.tail))))
    case zF => assumption
    case zl1 => (refine ltA ?_; omega)
    case zl2 => ((with_reducible rename (_ ∧ _) => l9); (repeat (replace l9 := l9.2)); exact l9)
    case zp => assumption
    case zq => assumption
    case zr => assumption
    case zc => first
      | ((with_reducible refine' case0 ?zk); (case zk => exact ⟨by assumption, by assumption, by assumption, by assumption, by assumption⟩))
      | ((with_reducible refine' case1 ?zk); (case zk => exact ⟨by assumption, by assumption, by assumption, by assumption, by assumption⟩))
      | ((with_reducible refine' case2 ?zk); (case zk => exact ⟨by assumption, by assumption, by assumption, by assumption, by assumption⟩))
      | ((with_reducible refine' case3 ?zk); (case zk => exact ⟨by assumption, by assumption, by assumption, by assumption, by assumption⟩))
      | ((with_reducible refine' case4 ?zk); (case zk => exact ⟨by assumption, by assumption, by assumption, by assumption, by assumption⟩))
      | ((with_reducible refine' case5 ?zk); (case zk => exact ⟨by assumption, by assumption, by assumption, by assumption, by assumption⟩))
      | ((with_reducible refine' case7 ?zk ?ze0); (case zk => exact ⟨by assumption, by assumption, by assumption, by assumption, by assumption⟩); (case ze0 => assumption))
      | ((with_reducible refine' case6 ?zk ?ze0); (case zk => exact ⟨by assumption, by assumption, by assumption, by assumption, by assumption⟩); (case ze0 => assumption))
      | ((with_reducible refine' case8 ?zk); (case zk => exact ⟨by assumption, by assumption, by assumption, by assumption, by assumption⟩))
      | ((with_reducible refine' case10 ?zk); (case zk => exact ⟨by assumption, by assumption, by assumption, by assumption, by assumption⟩))
      | ((with_reducible refine' case9 ?zk ?ze0 ?ze1); (case zk => exact ⟨by assumption, by assumption, by assumption, by assumption, by assumption⟩); (case ze0 => assumption); (case ze1 => assumption)))
theorem case_use
  (B : Below A₀ base outer h₀) (F : Fr h₀ L s.heap m) (X : (Mine.hd.heap_39 w.params).In h₀)
  (N : News h₀ L s.heap news) (U : UpdF bx (boxO scr p st tp ts n) news g)
  (T : Top topProg loose mean mg mb h₀) (hk : cs.kind = .function) (hl : base.IsList scr vs.toArray) (hi : IntsAre vs ns)
  (hlen : ns.length ≤ 63) (hp : 0 ≤ p) (hst : 0 ≤ st) (hst2 : st < 2147483647) (hd : dp + 12 < recursionLimit) (hu : un + 80 < cLine)
  (hret : ∀ (rr : Addr) (text : Str) (tt ts' tf : Tok) (start fin : Int) (v3 v4 : Value) (p' st' : Int) (t1 t2 : Tok) (n' : Nat) (h' : Heap) (tk' : Nat), CaseOk text start fin v3 v4 → AllLt rr news → 0 ≤ p' → 0 ≤ st' → st' < 2147483647 → Fr h₀ L h' m →
    News h₀ L h' ((rr, listOf #[.str text tt, .int start ts', .int fin tf, v3, v4] 0) :: g (boxO scr p' st' t1 t2 n')) → Q (.ref rr) { s with heap := h', toks := tk' }) :
  wpAny (model PR w) (ktrTop dp un gd cn cs L a ccd cl outer) (call (.ref 112) [.ref bx]) Q E s := by
  obtain ⟨pre, post, rfl, hg, h1, h2⟩ := U.split
  refine case_ctr B F X (news_out N) (fun q hq => (List.mem_append.mp hq).elim (h1 q) (h2 q)) T hk hl hi hlen hp hst hst2 hd hu fun rr text tt ts' tf start fin v3 v4 p' st' t1 t2 n' h' tk' hc hbr hlt e2 e3 e4 F' N' => ?_
  refine hret rr text tt ts' tf start fin v3 v4 p' st' t1 t2 n' h' tk' hc (allLt_in hlt hbr) e2 e3 e4 F' ?_
  rw [hg]
  intro q hq
  rcases List.mem_cons.mp hq with rfl | hq
  · exact N' _ (.head _)
  · exact news_in (fun q hq => N' q (.tail _ hq)) q hq
end
end Mine
end
section
open PySem PySem.W PyProof.Rows PySem.Spec PySem.Calls
set_option Elab.async false
set_option maxRecDepth 100000
set_option linter.unusedVariables false
namespace Mine
theorem fill9 (w : World) : PySem.Challenge.rw_am6005_01 = PySem.Challenge.rw_am6005_01 ∧ Mine.hd.heap_39 w.params = Mine.hd.heap_39 w.params := by
  k_fill
  w_top off
  exact ⟨rfl, rfl⟩
section
variable {w : World} {loose : List Str} {mean : ExcName → Option Value} {mg mb : Str → Option Value}
  {dp un : Nat} {gd : Option (List Code)} {cn : Str} {cs : Scope} {a : Addr} {ccd : Value} {cl : List (Str × Addr)} {outer : List Env} {A₀ : Around} {base h₀ : Heap} {L : Addr} {m : Str → Option Value} {s : Shared} {Q E : Value → Shared → Prop} {rest news : List (Addr × Obj)}
local macro_rules | `(tactic| k_all) => `(tactic| first | assumption | exact allLt_ne (by assumption))
local macro_rules | `(tactic| walk_at "call ref") => `(tactic| (k_here; (with_reducible show wpAny _ _ (call (Value.ref 63) _ _) _ _ _); k_dflt (refine' skip_ctr ?zB ?zF ?zX ?zN ?zT ?zk ?zp0 ?zpl ?zl ?zz ?zd ?zu ?_; (case zB => k_asm); (case zF => k_asm); (case zX => k_asm); (case zN => k_asm); (case zT => k_asm); (case zk => exact rfl); (case zp0 => assumption); (case zpl => omega); (case zl => assumption); (case zz => assumption); (case zd => ktr_room); (case zu => ktr_units); k_whole); intro t' h' tk' F' N'; (try dsimp only); (try k_fold); walk_say "SKIP"))
theorem flat_get {v : Value} {key : Str} {t1 t2 t3 t4 t5 t6 : Tok} (hv : PyProof.V.Flat v ((Spec.lookup (PyData.str key) (strData [(.str (Str.ofString "'") t1, .str (Str.ofString "'") t2), (.str (Str.ofString "\"") t3, .str (Str.ofString "\"") t4), (.str (Str.ofString "(") t5, .str (Str.ofString ")") t6)])).getD PyData.none)) :
    (key = Str.ofString "w" → v = .none) ∧ (∀ cc, (key, cc) ∈ pairsL → ∃ t, v = .str cc t) := by
  constructor
  · rintro rfl
    have h : PyProof.V.Flat v PyData.none := hv
    have h' := h ({} : Heap)
    cases h'
    rfl
  · intro cc hc
    simp only [pairsL, List.mem_cons, Prod.mk.injEq, List.not_mem_nil, or_false] at hc
    rcases hc with ⟨rfl, rfl⟩ | ⟨rfl, rfl⟩ | ⟨rfl, rfl⟩
    · have h : PyProof.V.Flat v (PyData.str (Str.ofString "\"")) := hv
      have h' := h ({} : Heap)
      cases h'
      exact ⟨_, rfl⟩
    · have h : PyProof.V.Flat v (PyData.str (Str.ofString "'")) := hv
      have h' := h ({} : Heap)
      cases h'
      exact ⟨_, rfl⟩
    · have h : PyProof.V.Flat v (PyData.str (Str.ofString ")")) := hv
      have h' := h ({} : Heap)
      cases h'
      exact ⟨_, rfl⟩
theorem drop_while {α : Type} (f : α → Bool) : ∀ l : List α, l.dropWhile f = l.drop (l.takeWhile f).length
  | [] => rfl
  | y :: r => by
    by_cases h : f y = true
    · simp [h, drop_while f r]
    · simp [h]
theorem spec_end {x : Str} {lim p : Int} (h : lim ≤ p) : spec x.cps.toList p.toNat lim.toNat = some none := by
  unfold spec
  have := seg_nil (x := x) h
  unfold seg at this
  rw [this]
theorem spec_no {x : Str} {lim p : Int} (h0 : 0 ≤ p) (h1 : p < lim) (hl : lim ≤ (x.length : Int)) (hw : isWs (ch x p) = false) : spec x.cps.toList p.toNat lim.toNat = some none := by
  unfold spec
  have := seg_cons h0 h1 hl
  unfold seg at this
  rw [this]
  simp [hw]
theorem spec_ws {x : Str} {lim p : Int} (h0 : 0 ≤ p) (h1 : p < lim) (hl : lim ≤ (x.length : Int)) (hw : isWs (ch x p) = true) (hq : lim ≤ p + wsN x lim p) : spec x.cps.toList p.toNat lim.toNat = some none := by
  have hx : x.length = x.cps.size := rfl
  have e := seg_cons h0 h1 hl
  have d := drop_while isWs (seg x lim p)
  have hd : (seg x lim p).drop (wsN x lim p) = [] := by
    refine List.drop_eq_nil_of_le ?_
    unfold seg
    rw [List.length_drop, List.length_take, Array.length_toList]
    omega
  unfold wsN at hd
  rw [hd] at d
  unfold spec
  unfold seg at e d
  rw [e]
  rw [e] at d
  simp only [hw, Bool.true_eq_false, if_false]
  rw [d]
theorem spec_go {x : Str} {lim p : Int} (h0 : 0 ≤ p) (h1 : p < lim) (hl : lim ≤ (x.length : Int)) (hw : isWs (ch x p) = true) (hq : p + wsN x lim p < lim) : spec x.cps.toList p.toNat lim.toNat =
    (let o := ch x (p + wsN x lim p); let k := (p + wsN x lim p + 1).toNat; let r' := seg x lim (p + wsN x lim p + 1)
     if o = 34 then some (finish 34 34 k r') else if o = 39 then some (finish 39 39 k r') else if o = 40 then some (finish 40 41 k r') else if o = 119 then some none else none) := by
  have e := seg_cons h0 h1 hl
  have d := drop_while isWs (seg x lim p)
  have hd : (seg x lim p).drop (wsN x lim p) = seg x lim (p + wsN x lim p) := by
    unfold seg
    rw [List.drop_drop]
    congr 1
    omega
  have hk : ((seg x lim p).takeWhile isWs).length = wsN x lim p := rfl
  rw [hk, hd, seg_cons (by omega) hq hl] at d
  unfold spec
  have ee : (x.cps.toList.take lim.toNat).drop p.toNat = seg x lim p := rfl
  rw [ee, e]
  rw [e] at d
  simp only [hw, Bool.true_eq_false, if_false]
  rw [d]
  rw [e] at hk
  simp only
  rw [hk, show p.toNat + wsN x lim p + 1 = (p + wsN x lim p + 1).toNat by omega]
theorem spec_four {x : Str} {lim p : Int} {r : Option (List Nat × Nat)} (h0 : 0 ≤ p) (h1 : p < lim) (hl : lim ≤ (x.length : Int)) (hw : isWs (ch x p) = true) (hq : p + wsN x lim p < lim) (hs : spec x.cps.toList p.toNat lim.toNat = some r) :
    (Txt.item x (p + wsN x lim p) = Str.ofString "w" ∧ r = none) ∨ ∃ oo cc o c, Txt.item x (p + wsN x lim p) = oo ∧ (oo, cc) ∈ pairsL ∧ C oo = [o] ∧ C cc = [c] ∧ (o, c) ∈ pairsC ∧ r = finish o c (p + wsN x lim p + 1).toNat (seg x lim (p + wsN x lim p + 1)) := by
  rw [spec_go h0 h1 hl hw hq] at hs
  have hi := item_ch (x := x) (p := p + wsN x lim p) (by omega) (by omega)
  dsimp only at hs
  split at hs
  · rename_i ho
    exact .inr ⟨Str.ofString "\"", Str.ofString "\"", 34, 34, by rw [hi, ho]; rfl, by decide, rfl, rfl, by decide, (Option.some.inj hs).symm⟩
  · split at hs
    · rename_i ho
      exact .inr ⟨Str.ofString "'", Str.ofString "'", 39, 39, by rw [hi, ho]; rfl, by decide, rfl, rfl, by decide, (Option.some.inj hs).symm⟩
    · split at hs
      · rename_i ho
        exact .inr ⟨Str.ofString "(", Str.ofString ")", 40, 41, by rw [hi, ho]; rfl, by decide, rfl, rfl, by decide, (Option.some.inj hs).symm⟩
      · split at hs
        · rename_i ho
          exact .inl ⟨by rw [hi, ho]; rfl, (Option.some.inj hs).symm⟩
        · cases hs
def Ans (r : Option (List Nat × Nat)) (v1 v2 : Value) : Prop := (r = none ∧ v1 = .none ∧ v2 = .none) ∨ ∃ told n y ty tn, r = some (told, n) ∧ v1 = .str y ty ∧ C y = told ∧ v2 = .int ((n : Nat) : Int) tn
abbrev tupO (v1 v2 : Value) : Obj := { cls := .type "tuple", data := .seq #[v1, v2] }
theorem news_tl {h : Heap} {y : Addr × Obj} {l : List (Addr × Obj)} (N : News h₀ L h (y :: l)) : News h₀ L h l := fun q hq => N q (.tail _ hq)
structure LSt where
  pos : Int
  tpos : Tok
  ts : List (Str × Tok)
  nt : Nat
abbrev lLed (tl : Addr) (ps : Array Value) (rest : List (Addr × Obj)) (c : LSt) : List (Addr × Obj) := (tl, listOf (strsV c.ts).toArray c.nt) :: (43, tabObj ps) :: rest
abbrev lPs (c : LSt) : List (Str × Value) := [(Str.ofString "pos", .int c.pos c.tpos)]
def lP (x : Str) (o c : Nat) (lim p0 : Int) (d : LSt) : Prop := p0 ≤ d.pos ∧ d.pos ≤ lim ∧ scan o c (seg x lim p0) = (scan o c (seg x lim d.pos)).map (addTo (catC d.ts)) ∧ (catC d.ts).length = (d.pos - p0).toNat ∧ d.ts.length ≤ (d.pos - p0).toNat
theorem ch_of {x : Str} {p : Int} {k : Nat} {z : Str} (hz : C z = [k]) (h0 : 0 ≤ p) (h1 : p < x.length) : (Txt.item x p == z) = (ch x p == k) := by
  rw [item_ch h0 h1, Bool.eq_iff_iff, beq_iff_eq, beq_iff_eq]
  constructor
  · intro e
    have : C ⟨#[ch x p]⟩ = [k] := by rw [e, hz]
    exact (List.cons.inj this).1
  · intro e
    refine C_inj ?_
    rw [hz, ← e]
theorem ch_line {x : Str} {p : Int} (h0 : 0 ≤ p) (h1 : p < x.length) (h : (Txt.item x p == Str.ofString "\n") = true) : x.cps[p.toNat]?.getD 0 = 10 := by
  rw [ch_of (k := 10) rfl h0 h1] at h
  exact beq_iff_eq.mp h

theorem ws_yes {x : Str} {p : Int} (h0 : 0 ≤ p) (h1 : p < x.length) (h : (Builtin.Str.occurrences (Str.ofString " \t\n\x0d\x0c") (Txt.item x p) 0 (Str.ofString " \t\n\x0d\x0c").length 1).isEmpty = false) : isWs (ch x p) = true := by
  rw [ws_in h0 h1] at h
  simpa using h
theorem news_sk {h : Heap} {a b : Addr × Obj} {l : List (Addr × Obj)} (N : News h₀ L h (a :: b :: l)) : News h₀ L h (a :: l) := fun q hq => N q (by
  rcases List.mem_cons.mp hq with rfl | hq
  · exact .head _
  · exact .tail _ (.tail _ hq))
theorem noBool_match : typeLookup (.type "re.Match") "__bool__" = pure none := by rw [typeLookup_type, builtinLookup_eq_fast]; kernel_rfl
theorem noLen_match : typeLookup (.type "re.Match") "__len__" = pure none := by rw [typeLookup_type, builtinLookup_eq_fast]; kernel_rfl
theorem truthy_match {A : Around} {mt : Addr} {mo : Obj} {E : Value → Shared → Prop} {Q : Bool → Shared → Prop} (hm : s.heap.get? mt = some mo) (hc : mo.cls = .type "re.Match") (h : Q true s) : wpAny (model PR w) A (truthy (.ref mt)) Q E s := by
  have hT : s.TypeIs (.ref mt) "re.Match" := ⟨mo, hm, hc⟩
  unfold truthy
  first
    | refine wpAny_bind (wpAny_callSpecial?_none (name := Str.ofString "__bool__") hT noBool_match ?_)
    | refine wpAny_bind (wpAny_pure (wpAny_bind (wpAny_callSpecial?_none (name := Str.ofString "__bool__") hT noBool_match ?_)))
  refine wpAny_bind (wpAny_specialOf (name := Str.ofString "__len__") hT noLen_match ?_)
  exact wpAny_pure h
theorem join_len {y : Str} {l : List Nat} (h : y.cps.toList = l) (hl : l.length ≤ 1000) : y.length ≤ 1000 := by
  have hy : y.length = y.cps.toList.length := by rw [Array.length_toList]; rfl
  rw [hy, h]; exact hl
theorem escO_eq {o : Nat} {oo : Str} (hoo : C oo = [o]) : (oo == Str.ofString "(") = (o == 40) := by
  rw [Bool.eq_iff_iff, beq_iff_eq, beq_iff_eq]
  constructor
  · rintro rfl
    exact (List.cons.inj hoo).1.symm
  · rintro rfl
    exact C_inj hoo
theorem puncts_codes : (Str.ofString "!\"#$%&'()*+,-./:;<=>?\x40[\\]^_`{|}~").cps.toList = [33, 34, 35, 36, 37, 38, 39, 40, 41, 42, 43, 44, 45, 46, 47, 58, 59, 60, 61, 62, 63, 64, 91, 92, 93, 94, 95, 96, 123, 124, 125, 126] := rfl
theorem punct_in {x : Str} {p : Int} (h0 : 0 ≤ p) (h1 : p < x.length) : (Builtin.Str.occurrences (Str.ofString "!\"#$%&'()*+,-./:;<=>?\x40[\\]^_`{|}~") (Txt.item x p) 0 (Str.ofString "!\"#$%&'()*+,-./:;<=>?\x40[\\]^_`{|}~").length 1).isEmpty = !isPunct (ch x p) := by
  have h := StrLaws.found_one (Str.ofString "!\"#$%&'()*+,-./:;<=>?\x40[\\]^_`{|}~") (ch x p)
  rw [← item_ch h0 h1] at h
  have e : decide (ch x p ∈ (Str.ofString "!\"#$%&'()*+,-./:;<=>?\x40[\\]^_`{|}~").cps.toList) = isPunct (ch x p) := by
    rw [puncts_codes, Bool.eq_iff_iff]
    simp only [decide_eq_true_eq, List.mem_cons, List.not_mem_nil, or_false, isPunct, Bool.or_eq_true, Bool.and_eq_true]
    omega
  rw [e] at h
  rw [← h, Bool.not_not]
section
variable {x : Str} {o c : Nat} {lim p p0 : Int} {oo cc : Str} {r : Option (List Nat × Nat)} {d : LSt}
theorem s_end (h : ¬ p < lim) : scan o c (seg x lim p) = none := by rw [seg_nil (by omega)]; rfl
theorem s_nul (h0 : 0 ≤ p) (h1 : p < lim) (hl : lim ≤ (x.length : Int)) (h : (Txt.item x p == Str.ofString "\x00") = true) : scan o c (seg x lim p) = none := by
  rw [ch_of (k := 0) rfl h0 (by omega), beq_iff_eq] at h
  rw [seg_cons h0 h1 hl, h]; exact scan_nul
theorem s_open (h0 : 0 ≤ p) (h1 : p < lim) (hl : lim ≤ (x.length : Int)) (hoo : C oo = [o]) (h2 : (oo == Str.ofString "(") = true) (h : (Txt.item x p == Str.ofString "(") = true) : scan o c (seg x lim p) = none := by
  rw [ch_of (k := 40) rfl h0 (by omega), beq_iff_eq] at h
  rw [escO_eq hoo, beq_iff_eq] at h2
  rw [seg_cons h0 h1 hl, h, h2]; exact scan_open
theorem s_blank (h0 : 0 ≤ p) (h1 : p < lim) (hl : lim ≤ (x.length : Int)) (h : (Txt.item x p == Str.ofString "\n") = true) (hb : blankAt ((x.cps.toList.take lim.toNat).drop (p.toNat + 1)) = true) : scan o c (seg x lim p) = none := by
  rw [ch_of (k := 10) rfl h0 (by omega), beq_iff_eq] at h
  rw [seg_cons h0 h1 hl, h]
  refine scan_blank ?_
  unfold seg
  rw [show (p + 1).toNat = p.toNat + 1 by omega]
  exact hb
theorem s_close (h0 : 0 ≤ p) (h1 : p < lim) (hl : lim ≤ (x.length : Int)) (hcc : C cc = [c]) (hpc : (o, c) ∈ pairsC) (h : (Txt.item x p == cc) = true) : scan o c (seg x lim p) = some ([], 1) := by
  rw [ch_of (k := c) hcc h0 (by omega), beq_iff_eq] at h
  rw [seg_cons h0 h1 hl, h]; exact scan_close hpc
theorem turn_none (hP : lP x o c lim p0 d) (hrr : r = finish o c p0.toNat (seg x lim p0)) (hs : scan o c (seg x lim d.pos) = none) : r = none := by
  rw [hrr, finish, hP.2.2.1, hs]; rfl
theorem turn_some (hp0 : 0 ≤ p0) (hP : lP x o c lim p0 d) (hrr : r = finish o c p0.toNat (seg x lim p0)) (hs : scan o c (seg x lim d.pos) = some ([], 1)) : r = some (unesc (catC d.ts), (d.pos + 1).toNat) := by
  obtain ⟨q1, q2, q3, q4, q5⟩ := hP
  rw [hrr, finish, q3, hs]
  simp only [Option.map_some, addTo, List.append_nil, q4]
  rw [show p0.toNat + ((d.pos - p0).toNat + 1) = (d.pos + 1).toNat by omega]
/-- what does not make the sign at a place anything but a plain one -/
theorem s_one (h0 : 0 ≤ p) (h1 : p < lim) (hl : lim ≤ (x.length : Int)) (a1 : ch x p ≠ 0) (a2 : ¬ (o = 40 ∧ ch x p = 40)) (a3 : ¬ (ch x p = 10 ∧ blankAt (seg x lim (p + 1)) = true)) (a4 : ¬ (ch x p = 92 ∧ escapes (seg x lim (p + 1)) = true)) (a5 : ch x p ≠ c) :
    scan o c (seg x lim p) = (scan o c (seg x lim (p + 1))).map (addTo [ch x p]) := by
  rw [seg_cons h0 h1 hl, scan_cons]
  have e1 : (ch x p == 0 || (o == 40 && ch x p == 40)) = false := by
    rw [Bool.eq_false_iff]; intro h
    simp only [Bool.or_eq_true, Bool.and_eq_true, beq_iff_eq] at h
    exact h.elim a1 a2
  have e2 : (ch x p == 10 && blankAt (seg x lim (p + 1))) = false := by
    rw [Bool.eq_false_iff]; intro h
    simp only [Bool.and_eq_true, beq_iff_eq] at h
    exact a3 h
  have e3 : (ch x p == 92 && escapes (seg x lim (p + 1))) = false := by
    rw [Bool.eq_false_iff]; intro h
    simp only [Bool.and_eq_true, beq_iff_eq] at h
    exact a4 h
  have e4 : (ch x p == c) = false := beq_eq_false_iff_ne.mpr a5
  simp only [e1, e2, e3, e4, Bool.false_eq_true, if_false]
  congr 1; funext q; simp [addTo, Nat.add_comm]
theorem a1_of (h0 : 0 ≤ p) (h1 : p < x.length) (h : (Txt.item x p == Str.ofString "\x00") = false) : ch x p ≠ 0 := by
  rw [ch_of (k := 0) rfl h0 h1] at h; exact beq_eq_false_iff_ne.mp h
theorem a2_of1 (hoo : C oo = [o]) (h : (oo == Str.ofString "(") = false) : ¬ (o = 40 ∧ ch x p = 40) := by
  rw [escO_eq hoo] at h; exact fun e => beq_eq_false_iff_ne.mp h e.1
theorem a2_of2 (h0 : 0 ≤ p) (h1 : p < x.length) (h : (Txt.item x p == Str.ofString "(") = false) : ¬ (o = 40 ∧ ch x p = 40) := by
  rw [ch_of (k := 40) rfl h0 h1] at h; exact fun e => beq_eq_false_iff_ne.mp h e.2
theorem a3_of1 (h0 : 0 ≤ p) (h1 : p < x.length) (h : (Txt.item x p == Str.ofString "\n") = false) : ¬ (ch x p = 10 ∧ blankAt (seg x lim (p + 1)) = true) := by
  rw [ch_of (k := 10) rfl h0 h1] at h; exact fun e => beq_eq_false_iff_ne.mp h e.1
theorem a3_of2 (h0 : 0 ≤ p) (hb : blankAt ((x.cps.toList.take lim.toNat).drop (p.toNat + 1)) = false) : ¬ (ch x p = 10 ∧ blankAt (seg x lim (p + 1)) = true) := by
  unfold seg
  rw [show (p + 1).toNat = p.toNat + 1 by omega, hb]
  exact fun e => nomatch e.2
theorem a4_of1 (h0 : 0 ≤ p) (h1 : p < x.length) (h : (Txt.item x p == Str.ofString "\\") = false) : ¬ (ch x p = 92 ∧ escapes (seg x lim (p + 1)) = true) := by
  rw [ch_of (k := 92) rfl h0 h1] at h; exact fun e => beq_eq_false_iff_ne.mp h e.1
theorem a4_of2 (h : ¬ p + 1 < lim) : ¬ (ch x p = 92 ∧ escapes (seg x lim (p + 1)) = true) := by
  rw [seg_nil (by omega)]; exact fun e => nomatch e.2
theorem a4_of3 (h0 : 0 ≤ p) (h1 : p + 1 < lim) (hl : lim ≤ (x.length : Int)) (h : (Builtin.Str.occurrences (Str.ofString "!\"#$%&'()*+,-./:;<=>?\x40[\\]^_`{|}~") (Txt.item x (p + 1)) 0 (Str.ofString "!\"#$%&'()*+,-./:;<=>?\x40[\\]^_`{|}~").length 1).isEmpty = true) : ¬ (ch x p = 92 ∧ escapes (seg x lim (p + 1)) = true) := by
  rw [punct_in (by omega) (by omega), Bool.not_eq_true'] at h
  rw [seg_cons (by omega) h1 hl, escapes, h]
  exact fun e => nomatch e.2
theorem a5_of (h0 : 0 ≤ p) (h1 : p < x.length) (hcc : C cc = [c]) (h : (Txt.item x p == cc) = false) : ch x p ≠ c := by
  rw [ch_of hcc h0 h1] at h; exact beq_eq_false_iff_ne.mp h
theorem s_two (h0 : 0 ≤ p) (h1 : p + 1 < lim) (hl : lim ≤ (x.length : Int)) (hb : (Txt.item x p == Str.ofString "\\") = true) (h : (Builtin.Str.occurrences (Str.ofString "!\"#$%&'()*+,-./:;<=>?\x40[\\]^_`{|}~") (Txt.item x (p + 1)) 0 (Str.ofString "!\"#$%&'()*+,-./:;<=>?\x40[\\]^_`{|}~").length 1).isEmpty = false) :
    scan o c (seg x lim p) = (scan o c (seg x lim (p + 2))).map (addTo [ch x p, ch x (p + 1)]) := by
  rw [punct_in (by omega) (by omega)] at h
  have h' : isPunct (ch x (p + 1)) = true := by simpa using h
  rw [ch_of (k := 92) rfl h0 (by omega), beq_iff_eq] at hb
  rw [seg_cons h0 (by omega) hl, seg_cons (by omega) h1 hl, hb, scan_esc h', show p + 1 + 1 = p + 2 by omega]
  congr 1; funext q; simp [addTo, Nat.add_comm]
theorem item_codes (h0 : 0 ≤ p) (h1 : p < x.length) : (Txt.item x p).cps.toList = [ch x p] := by rw [item_ch h0 h1]
theorem slice_codes (h0 : 0 ≤ p) (h1 : p + 1 < x.length) : (Txt.slice x (some p) (some (p + 2))).cps.toList = [ch x p, ch x (p + 1)] := by
  have hx : x.length = x.cps.size := rfl
  rw [beq_iff_eq.mp (slice_closes (x := x) (i := p) (j := p + 2) ⟨h0, by omega, by rw [Array.length_toList]; omega⟩)]
  show (x.cps.toList.drop p.toNat).take (p + 2 - p).toNat = _
  rw [show (p + 2 - p).toNat = 2 by omega, List.drop_eq_getElem_cons (by rw [Array.length_toList]; omega), List.drop_eq_getElem_cons (i := p.toNat + 1) (by rw [Array.length_toList]; omega)]
  unfold ch
  rw [show (p + 1).toNat = p.toNat + 1 by omega, Array.getElem?_eq_getElem (by omega), Array.getElem?_eq_getElem (by omega)]
  simp
theorem lP_step {pp : Int} {t1 t2 ty : Tok} {ts : List (Str × Tok)} {n1 n2 : Nat} {y : Str} (hP : lP x o c lim p0 ⟨p, t1, ts, n1⟩) (hpp : p < pp) (hpl : pp ≤ lim) (hs : scan o c (seg x lim p) = (scan o c (seg x lim pp)).map (addTo y.cps.toList)) (hy : y.cps.toList.length = (pp - p).toNat) :
    lP x o c lim p0 ⟨pp, t2, ts ++ [(y, ty)], n2⟩ := by
  obtain ⟨q1, q2, q3, q4, q5⟩ := hP
  dsimp only at q1 q2 q3 q4 q5
  refine ⟨by dsimp only; omega, by dsimp only; omega, ?_, ?_, ?_⟩
  · dsimp only
    rw [q3, hs, map_addTo, catC_snoc]
  · dsimp only
    rw [catC_snoc, List.length_append, q4, hy]; omega
  · dsimp only
    rw [List.length_append, List.length_singleton]; omega
theorem step_one {t1 t2 ty : Tok} {ts : List (Str × Tok)} {n1 n2 : Nat} (hP : lP x o c lim p0 ⟨p, t1, ts, n1⟩) (h0 : 0 ≤ p) (h1 : p < lim) (hl : lim ≤ (x.length : Int)) (a1 : ch x p ≠ 0) (a2 : ¬ (o = 40 ∧ ch x p = 40)) (a3 : ¬ (ch x p = 10 ∧ blankAt (seg x lim (p + 1)) = true)) (a4 : ¬ (ch x p = 92 ∧ escapes (seg x lim (p + 1)) = true)) (a5 : ch x p ≠ c) :
    lP x o c lim p0 ⟨p + 1, t2, ts ++ [(Txt.item x p, ty)], n2⟩ := by
  refine lP_step hP (by omega) (by omega) ?_ ?_
  · rw [item_codes h0 (by omega)]; exact s_one h0 h1 hl a1 a2 a3 a4 a5
  · rw [item_codes h0 (by omega), List.length_singleton]; omega
theorem step_two {t1 t2 ty : Tok} {ts : List (Str × Tok)} {n1 n2 : Nat} (hP : lP x o c lim p0 ⟨p, t1, ts, n1⟩) (h0 : 0 ≤ p) (h1 : p + 1 < lim) (hl : lim ≤ (x.length : Int)) (hs : scan o c (seg x lim p) = (scan o c (seg x lim (p + 2))).map (addTo [ch x p, ch x (p + 1)])) :
    lP x o c lim p0 ⟨p + 2, t2, ts ++ [(Txt.slice x (some p) (some (p + 2)), ty)], n2⟩ := by
  refine lP_step hP (by omega) (by omega) ?_ ?_
  · rw [slice_codes h0 (by omega)]; exact hs
  · rw [slice_codes h0 (by omega)]; show 2 = _; omega
end
end
end Mine
end
section
open PySem PySem.W PyProof.Rows PySem.Spec PySem.Calls
set_option Elab.async false
set_option maxRecDepth 100000
set_option linter.unusedVariables false
namespace Mine
section
variable {σ : Type}
/-- how a turn of the law's loop ends: the ledger may have grown -/
def LawEnd (h₀ : Heap) (L : Addr) (Led : σ → List (Addr × Obj)) (stored : List Str) (x : Str) (m₀ : Str → Option Value) (P : σ → Prop) (own : List (Addr × Obj)) (I : Addr) (s₁ s₂ : Shared) : Prop :=
  ∃ (c : σ) (h' : Heap) (tk : Nat) (m' : Str → Option Value) (news' : List (Addr × Obj)), s₂ = { s₁ with heap := h', toks := tk } ∧ Fr h₀ L h' m' ∧ News h₀ L h' news' ∧ (∀ p ∈ Led c, p ∈ news') ∧ (∀ p ∈ own, p ∈ news') ∧ (∀ q ∈ Led c, q.1 ≠ I) ∧ (∀ z, z ≠ x → stored.contains z = false → m' z = m₀ z) ∧ P c
def LawPost (h₀ : Heap) (L : Addr) (Led : σ → List (Addr × Obj)) (stored : List Str) (x : Str) (m₀ : Str → Option Value) (P : σ → Prop) (own : List (Addr × Obj)) (I : Addr) (s₁ : Shared) (Q : Flow → Shared → Prop) (f : Flow) (s₂ : Shared) : Prop :=
  match f with
  | .ret v => Q (.ret v) s₂
  | .brk => Q .next s₂
  | _ => LawEnd h₀ L Led stored x m₀ P own I s₁ s₂
theorem law_end {h₀ : Heap} {L : Addr} {Led : σ → List (Addr × Obj)} {stored : List Str} {x : Str} {m₀ m' : Str → Option Value} {P : σ → Prop} {own news' : List (Addr × Obj)} {I : Addr} {s₁ : Shared} {h' : Heap} {tk : Nat} (c : σ)
    (F : Fr h₀ L h' m') (N : News h₀ L h' news') (hn : ∀ p ∈ Led c, p ∈ news') (ho : ∀ p ∈ own, p ∈ news') (hI : ∀ q ∈ Led c, q.1 ≠ I) (hr : ∀ z, z ≠ x → stored.contains z = false → m' z = m₀ z) (hp : P c) :
    LawEnd h₀ L Led stored x m₀ P own I s₁ { s₁ with heap := h', toks := tk } := ⟨c, h', tk, m', news', rfl, F, N, hn, ho, hI, hr, hp⟩
variable {prog : Program} {w : World} {A : Around} {E : Value → Shared → Prop} {s : Shared} {env : Env} {h₀ : Heap} {x : Str} {body : List Stmt} {Q : Flow → Shared → Prop}
theorem law_range {r : Addr} {a₀ b₀ : Int} {t₀ u₀ v₀ : Tok} {n : Nat} {m₀ : Str → Option Value} (Led : σ → List (Addr × Obj)) (stored : List Str) (P : σ → Prop) (c₀ : σ)
    (hh : A.handled = none) (hr : IsRange s.heap r a₀ b₀ 1 t₀ u₀ v₀) (hsmall : Builtin.Range.small a₀ b₀ 1 = true) (hn : Builtin.Range.rangeSize a₀ b₀ 1 = (n : Int)) (F : Fr h₀ env.locals s.heap m₀) (N : News h₀ env.locals s.heap (Led c₀)) (hp : P c₀)
    (turn : ∀ (c : σ) (k : Int) t (u : Str → Option Value) h tk own I, (∃ o, (I, o) ∈ own) → (∀ q ∈ own, q.1 = I ∧ ∃ i j l, q.2.data = .fields #[rawInt i, rawInt j, rawInt l]) → (∀ q ∈ Led c, q.1 ≠ I) → P c →
      Fr h₀ env.locals h (fun y => if y = x then some (.int k t) else kstB (fun z => if stored.contains z then u z else m₀ z) [] y) → News h₀ env.locals h (Led c ++ own) →
      wpAny (model prog w) A (execs body env) (LawPost h₀ env.locals Led stored x m₀ P own I { s with heap := h, toks := tk } Q) E { s with heap := h, toks := tk })
    (done : ∀ (c : σ) (u : Str → Option Value) h tk, P c → Fr h₀ env.locals h (fun y => if y = x then u y else kstB (fun z => if stored.contains z then u z else m₀ z) [] y) → News h₀ env.locals h (Led c) → Q .next { s with heap := h, toks := tk }) :
    wpAny (model prog w) A (pyIter (.ref r)) (fun it s₂ => LoopAtV prog w A h₀ env x body Q E it s₂) E s := by
  have hnew : h₀.get? s.heap.objs.size = none := next_is_new F
  have hL : env.locals ∉ [s.heap.objs.size] := fun e => Nat.ne_of_lt F.ns.lt (List.eq_of_mem_singleton e)
  have hled : ∀ p ∈ Led c₀, p.1 ∉ [s.heap.objs.size] := fun p hp e => Nat.ne_of_lt (Heap.lt_size (N p hp).1) (List.eq_of_mem_singleton e)
  refine wpAny_pyIter_range hr hsmall ⟨_, _, _, n, _, _, m₀, Led c₀, fun _ m nx => ∃ c, nx = Led c ∧ (∀ z, z ≠ x → stored.contains z = false → m z = m₀ z) ∧ P c,
    rfl, (Walks.range hh s.heap.objs.size a₀ 1 n).bound, hL, fun b hb => List.eq_of_mem_singleton hb ▸ hnew, hled, ?_, F.push _, fun p hp => ⟨Heap.get?_push_of_some _ (N p hp).1, (N p hp).2⟩, ⟨c₀, rfl, fun _ _ _ => rfl, hp⟩, ?_, ?_⟩
  · unfold IsRangeIter
    rw [Heap.get?_push_size _ rfl, hn]
    simp
  · rintro i v m₁ nx s₁ own ⟨h, tk, rfl⟩ hi ⟨_, t, rfl⟩ ⟨c, rfl, hz, hP⟩ hnw hown _ hmem hSt F₁ N₁
    have N₂ : News h₀ env.locals h (Led c ++ own) := fun p hp => N₁ p ((List.mem_append.mp hp).elim (fun h => List.mem_append.mpr (.inr h)) fun h => List.mem_append.mpr (.inl h))
    refine wpAny_mono (turn c _ t m₁ h tk own s.heap.objs.size ⟨_, hmem _ (.head _) hnew _ hSt⟩ (fun q hq => ⟨List.mem_singleton.mp (hown q hq), by
      have e1 := (N₁ q (List.mem_append_left _ hq)).1
      rw [List.mem_singleton.mp (hown q hq)] at e1
      have e2 := e1.symm.trans hSt
      rw [Option.some.inj e2]
      exact ⟨_, _, _, rfl⟩⟩) (fun q hq e => hnw q hq (e ▸ .head _)) hP (kst_fr (ps := []) (fun _ h => nomatch h) (fun z h1 _ h3 => hz z h1 h3) F₁) N₂) (fun f s₂ p => ?_) fun _ _ e => e
    have fin : LawEnd h₀ env.locals Led stored x m₀ P own s.heap.objs.size { s with heap := h, toks := tk } s₂ → LoopStepU h₀ env.locals [s.heap.objs.size] own (fun m nx => ∃ c, nx = Led c ∧ (∀ z, z ≠ x → stored.contains z = false → m z = m₀ z) ∧ P c) { s with heap := h, toks := tk } .next s₂ := by
      rintro ⟨c', h', tk', m', news', e, F', N', hn', ho, hI, hr', hp'⟩
      refine ⟨rfl, h', tk', m', Led c', e, F', fun p hp => N' p ((List.mem_append.mp hp).elim (ho p) (hn' p)), fun p hp hq => hI p hp (List.mem_singleton.mp hq), c', rfl, hr', hp'⟩
    cases f with
    | ret v => exact .ret p
    | brk => exact .brk p
    | next => exact .next (fin p)
    | cont => exact .cont (fin p)
  · rintro h' tk m' news' F' N' _ ⟨c, rfl, hz, hP⟩
    exact done c m' h' tk hP (kst_frOut (ps := []) (fun _ h => nomatch h) (fun z h1 _ h3 => hz z h1 h3) F') N'
end
theorem CaseOk.spec_of {text : Str} {start fin : Int} {v3 v4 : Value} (h : CaseOk text start fin v3 v4) : ∃ r, spec text.cps.toList start.toNat fin.toNat = some r ∧ ((r = none ∧ v3 = .none ∧ v4 = .none) ∨ ∃ told tt n tp, r = some (C told, n) ∧ v3 = .str told tt ∧ v4 = .int ((n : Nat) : Int) tp ∧ PyData.strOk told = true) := by
  rcases h.ans with ⟨h1, h2, h3⟩ | ⟨told, tt, n, tp, h1, h2, h3, h4⟩
  · exact ⟨none, h1, .inl ⟨rfl, h2, h3⟩⟩
  · exact ⟨_, h1, .inr ⟨told, tt, n, tp, rfl, h2, h3, h4⟩⟩
def Same (v1 v2 v3 v4 : Value) : Prop := (v1 = .none ∧ v2 = .none ∧ v3 = .none ∧ v4 = .none) ∨ ∃ y t1 t2 n t3 t4, v1 = .str y t1 ∧ v2 = .int n t3 ∧ v3 = .str y t2 ∧ v4 = .int n t4 ∧ PyData.strOk y = true
theorem same_of {r : Option (List Nat × Nat)} {v1 v2 v3 v4 : Value} (ha : Ans r v1 v2) (hb : (r = none ∧ v3 = .none ∧ v4 = .none) ∨ ∃ told tt n tp, r = some (C told, n) ∧ v3 = .str told tt ∧ v4 = .int ((n : Nat) : Int) tp ∧ PyData.strOk told = true) : Same v1 v2 v3 v4 := by
  rcases ha with ⟨h1, h2, h3⟩ | ⟨told, n, y, ty, tn, h1, h2, h3, h4⟩
  · rcases hb with ⟨_, h5, h6⟩ | ⟨_, _, _, _, h5, _⟩
    · exact .inl ⟨h2, h3, h5, h6⟩
    · rw [h1] at h5; cases h5
  · rcases hb with ⟨h5, _⟩ | ⟨told', tt, n', tp, h5, h6, h7, h8⟩
    · rw [h1] at h5; cases h5
    · rw [h1] at h5
      obtain ⟨e1, e2⟩ := Prod.mk.inj (Option.some.inj h5)
      have : y = told' := C_inj (by rw [← e1]; exact h3)
      subst this e2
      exact .inr ⟨y, ty, tt, _, tn, tp, h2, h4, h6, h7, h8⟩
theorem news_3 {h₀ h : Heap} {L : Addr} {a b y : Addr × Obj} {l : List (Addr × Obj)} (N : News h₀ L h (a :: b :: y :: l)) : News h₀ L h (y :: a :: b :: l) := fun q hq => N q (by
  simp only [List.mem_cons] at hq ⊢
  rcases hq with h | h | h | h <;> simp [h])
theorem news_4 {h₀ h : Heap} {L : Addr} {z a b y : Addr × Obj} {e l : List (Addr × Obj)} (N : News h₀ L h (z :: y :: (e ++ (a :: b :: l)))) : News h₀ L h (z :: a :: b :: y :: (e ++ l)) := fun q hq => N q (by
  simp only [List.mem_cons, List.mem_append] at hq ⊢
  rcases hq with h | h | h | h | h | h <;> simp [h])
structure WSt where
  p : Int
  st : Int
  t1 : Tok
  t2 : Tok
  n : Nat
  ps : Array Value
  ex : List (Addr × Obj)
abbrev wLed (bx scr : Addr) (c : WSt) : List (Addr × Obj) := (bx, boxO scr c.p c.st c.t1 c.t2 c.n) :: (43, tabObj c.ps) :: c.ex
def wP (bx : Addr) (c : WSt) : Prop := 0 ≤ c.p ∧ 0 ≤ c.st ∧ c.st < 2147483647 ∧ TabOk c.ps c.ex ∧ (∀ q ∈ c.ex, bx < q.1)
theorem len63 {ns : List Int} (h : ¬ ((63 : Nat) : Int) < (ns.length : Int)) : ns.length ≤ 63 := by omega
theorem ne43 {rr bx : Addr} {o1 o2 o3 o4 : Obj} {l : List (Addr × Obj)} (h : AllLt rr ((bx, o1) :: (43, o2) :: l)) (h1 : 43 < bx) (h2 : ∀ q ∈ l, q.1 ≠ 43) : ∀ q ∈ (rr, o3) :: (bx, o4) :: l, q.1 ≠ 43 := fun q hq => by
  rcases List.mem_cons.mp hq with rfl | hq
  · exact Nat.ne_of_gt h.2.1
  · rcases List.mem_cons.mp hq with rfl | hq
    · exact Nat.ne_of_gt h1
    · exact h2 q hq
theorem tab_up {ps : Array Value} {a b : Addr × Obj} {ex own : List (Addr × Obj)} (h : TabOk ps ex) : TabOk ps (a :: b :: (ex ++ own)) := by
  rcases h with h | ⟨c', oc, vs, tq, h1, h2, h3, h4⟩
  · exact .inl h
  · exact .inr ⟨c', oc, vs, tq, h1, .tail _ (.tail _ (List.mem_append_left _ h2)), h3, h4⟩
theorem allLt_mem {d : Nat} : ∀ {l : List (Addr × Obj)}, AllLt d l → ∀ q ∈ l, q.1 < d
  | [], _ => fun _ h => nomatch h
  | _ :: _, h => fun q hq => by
    rcases List.mem_cons.mp hq with rfl | hq
    · exact h.1
    · exact allLt_mem h.2 q hq
/-- what of the ledger the next turn needs -/
theorem turn_led {rr bx scr : Addr} {I : Addr} {its : Array Value} {nr : Nat} {p st : Int} {t1 t2 : Tok} {n : Nat} {ps' : Array Value} {e ex own : List (Addr × Obj)}
    (htab : TabOk ps' (e ++ ((rr, listOf its nr) :: (bx, boxO scr p st t1 t2 n) :: (ex ++ own)))) (he : ∀ q ∈ e, 43 < q.1 ∧ AllLt q.1 ((rr, listOf its nr) :: (bx, boxO scr p st t1 t2 n) :: (ex ++ own)))
    (hI : ∃ o, (I, o) ∈ own) (hown : ∀ q ∈ own, q.1 = I ∧ ∃ i j l, q.2.data = .fields #[rawInt i, rawInt j, rawInt l]) (hx : ∀ q ∈ ex, bx < q.1) (hxI : ∀ q ∈ ex, q.1 ≠ I) :
    ∃ ex', TabOk ps' ex' ∧ (∀ q ∈ ex', q ∈ e ++ (ex ++ own)) ∧ (∀ q ∈ ex', bx < q.1) ∧ ∀ q ∈ ex', q.1 ≠ I := by
  rcases htab with h | ⟨c', oc, vs, tq, h1, h2, h3, h4⟩
  · exact ⟨[], .inl h, (fun _ h => nomatch h), (fun _ h => nomatch h), (fun _ h => nomatch h)⟩
  · have key : (c', oc) ∈ e ++ (ex ++ own) ∧ bx < c' ∧ c' ≠ I := by
      rcases List.mem_append.mp h2 with h5 | h5
      · have h6 := (he _ h5).2
        obtain ⟨o, ho⟩ := hI
        exact ⟨List.mem_append_left _ h5, h6.2.1, Nat.ne_of_gt (allLt_mem h6.2.2 _ (List.mem_append_right _ ho))⟩
      · rcases List.mem_cons.mp h5 with h6 | h6
        · cases h6; cases h3
        · rcases List.mem_cons.mp h6 with h6 | h6
          · cases h6; cases h3
          · rcases List.mem_append.mp h6 with h7 | h7
            · exact ⟨List.mem_append_right _ (List.mem_append_left _ h7), hx _ h7, hxI _ h7⟩
            · obtain ⟨_, i, j, l, hd⟩ := hown _ h7
              rw [h3] at hd
              cases hd
              cases h4
    refine ⟨[(c', oc)], .inr ⟨c', oc, vs, tq, h1, .head _, h3, h4⟩, fun q hq => ?_, fun q hq => ?_, fun q hq => ?_⟩
    · rw [List.mem_singleton.mp hq]; exact key.1
    · rw [List.mem_singleton.mp hq]; exact key.2.1
    · rw [List.mem_singleton.mp hq]; exact key.2.2
theorem law_ne {w : World} {A : Around} {s : Shared} {E Q : Value → Shared → Prop} {h₀ : Heap} {L rr rt : Addr} {news : List (Addr × Obj)} {v1 v2 v3 v4 : Value} (hs : Same v1 v2 v3 v4) (N : News h₀ L s.heap news) (h1 : (rr, tupO v1 v2) ∈ news) (h2 : (rt, tupO v3 v4) ∈ news) (hu : A.units + 64 < cLine) (h : Q (.bool false) s) :
    wpAny (model PR w) A (compareOp .NotEq (.ref rr) (.ref rt)) Q E s := by
  rcases hs with ⟨rfl, rfl, rfl, rfl⟩ | ⟨y, t1, t2, n, t3, t4, rfl, rfl, rfl, rfl, hy⟩
  · refine ne_dataH (reads_tuple_at (N.get h1) rfl rfl (ReadsAll.cons Reads.none (ReadsAll.cons Reads.none ReadsAll.nil))) (reads_tuple_at (N.get h2) rfl rfl (ReadsAll.cons Reads.none (ReadsAll.cons Reads.none ReadsAll.nil))) (by rfl) (by rfl) hu ?_
    simpa [PyData.eqv, PyData.eqvAll] using h
  · have hsh : SeqAt.shaped (.tuple [.str y, .int n]) = true := by simp [SeqAt.shaped, PyData.canLay0, PyData.canLayAll0, PyData.depth, PyData.depthAll, hy]
    refine ne_dataH (reads_tuple_at (N.get h1) rfl rfl (ReadsAll.cons (Reads.str y t1) (ReadsAll.cons (Reads.int n t3) ReadsAll.nil))) (reads_tuple_at (N.get h2) rfl rfl (ReadsAll.cons (Reads.str y t2) (ReadsAll.cons (Reads.int n t4) ReadsAll.nil))) hsh hsh hu ?_
    simpa [PyData.eqv, PyData.eqvAll] using h
theorem units64 {e : Env} : (callerA.deeper e).units + 64 < cLine := by ktr_units
theorem room12 : callerA.depth + 1 + 12 < recursionLimit := by ktr_room
theorem units80 : callerA.units + 3 + 80 < cLine := by ktr_units
theorem units120 : callerA.units + 3 + 120 < cLine := by ktr_units
end Mine
end
section
open PySem PySem.W PyProof.Rows PySem.Spec PySem.Calls
set_option Elab.async false
set_option maxRecDepth 100000
set_option linter.unusedVariables false
namespace Mine
theorem fill10 (w : World) : PySem.Challenge.rw_am6005_01 = PySem.Challenge.rw_am6005_01 ∧ Mine.hd.heap_39 w.params = Mine.hd.heap_39 w.params := by
  k_fill
  w_top off
  exact ⟨rfl, rfl⟩
section
variable {w : World} {loose : List Str} {mean : ExcName → Option Value} {mg mb : Str → Option Value}
  {dp un : Nat} {gd : Option (List Code)} {cn : Str} {cs : Scope} {a : Addr} {ccd : Value} {cl : List (Str × Addr)} {outer : List Env} {A₀ : Around} {base h₀ : Heap} {L : Addr} {m : Str → Option Value} {s : Shared} {Q E : Value → Shared → Prop} {rest news : List (Addr × Obj)}
local macro_rules | `(tactic| k_all) => `(tactic| first | assumption | exact allLt_ne (by assumption))
local macro_rules | `(tactic| walk_at "call ref") => `(tactic| (k_here; (with_reducible show wpAny _ _ (call (Value.ref 63) _ _) _ _ _); k_dflt (refine' skip_ctr ?zB ?zF ?zX ?zN ?zT ?zk ?zp0 ?zpl ?zl ?zz ?zd ?zu ?_; (case zB => k_asm); (case zF => k_asm); (case zX => k_asm); (case zN => k_asm); (case zT => k_asm); (case zk => exact rfl); (case zp0 => assumption); (case zpl => omega); (case zl => assumption); (case zz => assumption); (case zd => ktr_room); (case zu => ktr_units); k_whole); intro t' h' tk' F' N'; (try dsimp only); (try k_fold); walk_say "SKIP"))
local macro_rules | `(tactic| walk_at "call ref") => `(tactic| (k_here; (with_reducible show wpAny _ _ (call (Value.ref 48) _ _) _ _ _); k_dflt (refine' unesc_ctr ?zB ?zF ?zX ?zN ?zr ?zT ?zk ?zC ?zt ?zz ?zd ?zu ?_; (case zB => k_asm); (case zF => k_asm); (case zX => k_asm); (case zN => exact news_tl (by k_asm)); (case zr => assumption); (case zT => k_asm); (case zk => exact rfl); (case zC => assumption); (case zt => assumption); (case zz => assumption); (case zd => ktr_room); (case zu => ktr_units); k_whole); intro y' t' h' tk' ps' ex' hy' F' N' htab' hex'; (try dsimp only at N'); (try dsimp only); (try k_fold); walk_say "UNESC"))
local macro_rules | `(tactic| walk_at "call builtin:str.join") => `(tactic| (k_here; (with_reducible show wpAny _ _ (call (Value.builtin _) [Value.str _ _, Value.ref _]) _ _ _); k_dflt (refine' join_any ?ze ?zl ?zn ?_; (case ze => exact rfl); (case zl => exact News.isList (by k_asm) (by k_mem)); (case zn => assumption); k_whole); intro y' t' tk' hy'; (have hyl' := join_len hy' (by assumption)); (try dsimp only); (try k_fold); walk_say "JOIN"))
local macro_rules | `(tactic| walk_at "truthy ref") => `(tactic| (k_here; (with_reducible show wpAny _ _ (truthy (Value.ref _)) _ _ _); (refine truthy_match (by assumption) (by assumption) ?_); (try dsimp only); (try k_fold); walk_say "TRUTHY MATCH"))
local macro_rules | `(tactic| walk_at "call builtin:list.append") => `(tactic| (k_here; (with_reducible show wpAny _ _ (call (Value.builtin _) [Value.ref _, _]) _ _ _); k_dflt (refine' append_K ?k1 ?k2 ?k3 ?_ ?z; (case k1 => k_asm); (case k2 => k_asm); (case k3 => k_upd); (case z => assumption); k_whole); intro h' F' N'; (try k_sweep); walk_say "MY APPEND"))
local macro_rules | `(tactic| walk_at "getMethod ref") => `(tactic| (k_here; (with_reducible show wpAny _ _ (getMethod (Value.ref 41) _ _) _ _ _); (refine getMethod_builtin (T := "re.Pattern") ⟨_, Frag.In.keeps (by k_asm) (Fr.keep (by k_asm)) 41 _ (by k_is), rfl⟩ plain_pattern slot_match type_match (fun _ e => by cases e; exact ⟨_, Frag.In.keeps (by k_asm) (Fr.keep (by k_asm)) 41 _ (by k_is), rfl⟩) ?_); (try dsimp only); walk_say "GET MATCH"))
local macro_rules | `(tactic| walk_at "call builtin:re.Pattern.match") => `(tactic| (k_here; k_dflt (refine' match_any ?zF ?zX ?zN ?zp0 ?zp1 ?zl ?zz ?zc ?_; (case zF => k_asm); (case zX => k_asm); (case zN => k_asm); (case zp0 => assumption); (case zp1 => assumption); (case zl => assumption); (case zz => assumption); (case zc => exact ch_line (by assumption) (by omega) (by assumption))); intro v' h' tk' hv' F' N'; (rcases hv' with ⟨hbl', hvv'⟩ | ⟨hbl', mt', mo', hvv', hmt', hmc'⟩) <;> subst hvv' <;> (try dsimp only) <;> (try k_fold); walk_say "MATCH"))
local macro_rules | `(tactic| walk_at "exec While Compare cons nil") => `(tactic| (k_here; refine halt2_of ?_))
set_option maxHeartbeats 8000000 in
theorem parse_ctr {x : Str} {t tp tl : Tok} {p lim : Int} {ps : Array Value} {r : Option (List Nat × Nat)}
  (B : Below A₀ base outer h₀) (F : Fr h₀ L s.heap m) (X : (Mine.hd.heap_39 w.params).In h₀) (N : News h₀ L s.heap ((43, tabObj ps) :: rest)) (hr : ∀ q ∈ rest, q.1 ≠ 43) (T : Top topProg loose mean mg mb h₀) (hk : cs.kind = .function)
  (hC : CodeHd base 47 43) (htab : TabOk ps rest) (hz : x.length ≤ 1000) (hp0 : 0 ≤ p) (hpl : p ≤ lim) (hl : lim ≤ (x.length : Int)) (hsp : spec x.cps.toList p.toNat lim.toNat = some r) (hd' : dp + 12 < recursionLimit) (hu : un + 120 < cLine)
  (hret : ∀ (rr : Addr) (v1 v2 : Value) (h' : Heap) (tk' : Nat) (ps' : Array Value) (ex : List (Addr × Obj)), Ans r v1 v2 → Fr h₀ L h' m → News h₀ L h' ((rr, tupO v1 v2) :: (43, tabObj ps') :: (ex ++ rest)) → TabOk ps' (ex ++ rest) → (∀ q ∈ ex, 43 < q.1 ∧ AllLt q.1 rest) → Q (.ref rr) { s with heap := h', toks := tk' }) :
  wpAny (model PR w) (ktrTop dp un gd cn cs L a ccd cl outer) (call (.ref 55) [.str x t, .int p tp, .int lim tl]) Q E s := by
  have hnone : r = none → ∀ (rr : Addr) (h' : Heap) (tk' : Nat), Fr h₀ L h' m → News h₀ L h' ((rr, tupO .none .none) :: (43, tabObj ps) :: rest) → Q (.ref rr) { s with heap := h', toks := tk' } :=
    fun e rr h' tk' F' N' => hret rr .none .none h' tk' ps [] (.inl ⟨e, rfl, rfl⟩) F' N' htab (fun _ h => nomatch h)
  refine wpAny_call ?_
  k_dflt cell_enter
  k_steps
  · rename_i _ ha _ _ _ _ _ kF kN _ _
    rw [spec_end ha] at hsp
    exact hnone (Option.some.inj hsp).symm _ _ _ kF kN
  · rename_i ha _ hb _ _ _ _ _ kF kN _ _
    rw [ws_in hp0 (by omega)] at hb
    rw [spec_no hp0 (by omega) hl (by simpa using hb)] at hsp
    exact hnone (Option.some.inj hsp).symm _ _ _ kF kN
  · rename_i ha _ hb _ _ _ _ _ hc _ _ _ _ _ kF kN _ _
    rw [ws_in hp0 (by omega)] at hb
    rw [spec_ws hp0 (by omega) hl (by simpa using hb) hc] at hsp
    exact hnone (Option.some.inj hsp).symm _ _ _ kF kN
  · rename_i od lo hdd hff hap hl1 v hv h7 F7 N7
    have hw := ws_yes (x := x) (p := p) hp0 (by omega) (by assumption)
    rcases spec_four hp0 (by omega) hl hw (by omega) hsp with ⟨ho, hr0⟩ | ⟨oo, cc, o, c, ho, hpair, hoo, hcc, hpc, hrr⟩
    · have hv1 := (flat_get hv).1 ho
      clear hv hff hdd
      subst hv1
      k_steps
      rename_i kF kN _ _
      exact hnone hr0 _ _ _ kF fun q hq => kN q (by
        rcases List.mem_cons.mp hq with rfl | hq
        · exact .head _
        · exact .tail _ (.tail _ hq))
    · obtain ⟨tc, hv1⟩ := (flat_get hv).2 cc (ho ▸ hpair)
      clear hv hff hdd
      subst hv1
      rw [ho] at F7
      k_steps
      rename_i h8 tl h9 htl h10 F10 N10
      have N11 := news_sk N10
      clear N10
      have htl1 := htl.2.1
      have htl2 := htl.2.2
      unfold Halt2
      with_unfolding_all refine' ksw_while (lLed tl ps rest) lPs (fun _ => True) [Str.ofString "c"] (lP x o c lim (p + wsN x lim p + 1)) (fun d => (lim - d.pos).toNat) ⟨p + wsN x lim p + 1, _, [], 0⟩ F10 N11 trivial ?zk ?zp ?zt
      case zk =>
        intro q hq
        rcases List.mem_cons.mp hq with rfl | hq
        · with_unfolding_all rfl
        · nomatch hq
      case zp => exact ⟨Int.le_refl _, by dsimp only; omega, by simp [catC, map_addTo_nil], by simp [catC], by simp⟩
      case zt =>
        intro d u h7 tk7 _ hP F7 N7
        obtain ⟨p7, t7, ts7, nt7⟩ := d
        have hP7 := hP
        obtain ⟨q1, q2, q3, q4, q5⟩ := hP
        dsimp only [lLed, lPs] at q1 q2 q3 q4 q5 F7 N7
        have hc0 : 0 ≤ p7 := by omega
        have hsz8 : (strsV ts7).toArray.size ≤ sizeLine := by rw [sizeLine_eq, List.size_toArray, List.length_map]; omega
        have hcl8 : (catC ts7).length ≤ 1000 := by omega
        try k_fold
        k_steps
        all_goals first
          | (refine' hnone (turn_none hP7 hrr ?zs) _ _ _ (by assumption) ?zn
             case zs => (dsimp only; first | exact s_end (by assumption) | exact s_nul hc0 (by assumption) hl (by assumption) | exact s_open hc0 (by assumption) hl hoo (by assumption) (by assumption) | exact s_blank hc0 (by assumption) hl (by assumption) (by assumption))
             case zn => (rename_i kF kN _ _; exact fun q hq => kN q (by
                rcases List.mem_cons.mp hq with rfl | hq
                · exact .head _
                · exact .tail _ (.tail _ hq))))
          | (rename_i y0 t0 tk0 hy0 hyl0 y9 t9 h9 tk9 ps9 ex9 hy9 htab9 hex9 D9 h11 F11 N12 l19 kF kN Tc kX
             refine' hret D9 (.str y9 t9) (.int (p7 + 1) _) _ _ ps9 ex9 (.inr ⟨_, (p7 + 1).toNat, y9, t9, _, turn_some (by omega) hP7 hrr (s_close hc0 (by assumption) hl hcc hpc (by assumption)), rfl, ?zy, ?zv⟩) kF kN htab9 hex9
             case zy => (show y9.cps.toList = _; rw [hy9, hy0])
             case zv => (rw [Int.toNat_of_nonneg (by omega)]))
          | (rename_i F8 N8
             rw [push_strs] at N8
             refine' ksw_end ⟨p7 + 1, _, ts7 ++ [(Txt.item x p7, _)], _⟩ F8 N8 (fun _ h => h) trivial ?zka ?zkb ?zkc ?zkd
             case zka => (intro q hq; rcases List.mem_cons.mp hq with rfl | hq; (with_unfolding_all rfl); nomatch hq)
             case zkb => (intro z z2 z3; have z4 := z2 _ (.head _); simp only [List.contains_cons, List.contains_nil, Bool.or_false, beq_eq_false_iff_ne, ne_eq] at z3; simp [kstB, z4, z3])
             case zkc => exact step_one hP7 hc0 (by assumption) hl (a1_of hc0 (by omega) (by assumption)) (by first | exact a2_of1 hoo (by assumption) | exact a2_of2 hc0 (by omega) (by assumption)) (by first | exact a3_of1 hc0 (by omega) (by assumption) | exact a3_of2 hc0 (by assumption)) (by first | exact a4_of1 hc0 (by omega) (by assumption) | exact a4_of2 (by assumption) | exact a4_of3 hc0 (by assumption) hl (by assumption)) (a5_of hc0 (by omega) hcc (by assumption))
             case zkd => (dsimp only; omega))
          | (rename_i F8 N8
             rw [push_strs] at N8
             refine' ksw_end ⟨p7 + 2, _, ts7 ++ [(Txt.slice x (some p7) (some (p7 + 2)), _)], _⟩ F8 N8 (fun _ h => h) trivial ?zka ?zkb ?zkc ?zkd
             case zka => (intro q hq; rcases List.mem_cons.mp hq with rfl | hq; (with_unfolding_all rfl); nomatch hq)
             case zkb => (intro z z2 z3; have z4 := z2 _ (.head _); simp only [List.contains_cons, List.contains_nil, Bool.or_false, beq_eq_false_iff_ne, ne_eq] at z3; simp [kstB, z4, z3])
             case zkc => exact step_two hP7 hc0 (by assumption) hl (s_two hc0 (by assumption) hl (by assumption) (by assumption))
             case zkd => (dsimp only; omega))
end
end Mine
end
section
open PySem PySem.W PyProof.Rows PySem.Spec PySem.Calls
set_option Elab.async false
set_option maxRecDepth 100000
set_option linter.unusedVariables false
namespace Mine
theorem fill11 (w : World) : PySem.Challenge.rw_am6005_01 = PySem.Challenge.rw_am6005_01 ∧ Mine.hd.heap_39 w.params = Mine.hd.heap_39 w.params := by
  k_fill
  w_top off
  exact ⟨rfl, rfl⟩
section
local macro_rules | `(tactic| k_all) => `(tactic| first | assumption | exact allLt_ne (by assumption))
local macro_rules | `(tactic| walk_at "LawPost") => `(tactic| (dsimp only [LawPost]))
local macro_rules | `(tactic| walk_at "call type:range") => `(tactic| (k_here; (rename Fr _ _ _ _ => F'); (rename News _ _ _ _ => N'); (with_unfolding_all refine range1_rows F' N' ?_; intro _ _ _ _ _ _ _ _ _)))
local macro_rules | `(tactic| walk_at "pyIter ref") => `(tactic| (k_here; refine halt_of ?_))
local macro_rules | `(tactic| walk_at "call ref") => `(tactic| (k_here; (with_reducible show wpAny _ _ (call (Value.ref 112) _ _) _ _ _); k_dflt (refine' case_use ?zB ?zF ?zX ?zN ?zU ?zT ?zk ?zl ?zi ?zln ?zp ?zs ?zs2 ?zd ?zu ?_; (case zB => k_asm); (case zF => k_asm); (case zX => k_asm); (case zN => k_asm); (case zU => k_updF); (case zT => k_asm); (case zk => first | exact rfl | assumption); (case zl => assumption); (case zi => assumption); (case zln => assumption); (case zp => assumption); (case zs => assumption); (case zs2 => assumption); (case zd => exact room12); (case zu => exact units80); k_whole); intro rr' x' tt' ts' tf' start' fin' v3' v4' p' st' t1' t2' n' h' tk' hc' hlt' e3' e4' e5' F' N'; (obtain ⟨r', hsp', hv'⟩ := CaseOk.spec_of hc'); (have g0' := hc'.s0); (have g1' := hc'.sf); (have g2' := hc'.fl); (have g3' := Nat.le_trans hc'.tl (Nat.le_of_ble_eq_true (n := 200) (m := 1000) rfl)); (try dsimp only at N'); (try dsimp only); (try k_fold); walk_say "CASE"))
local macro_rules | `(tactic| walk_at "call ref") => `(tactic| (k_here; (with_reducible show wpAny _ _ (call (Value.ref 55) _ _) _ _ _); k_dflt (refine' parse_ctr ?zB ?zF ?zX ?zN ?zr ?zT ?zk ?zC ?zt ?zz ?zp0 ?zpl ?zl ?zsp ?zd ?zu ?_; (case zB => k_asm); (case zF => k_asm); (case zX => k_asm); (case zN => exact news_3 (by k_asm)); (case zr => exact ne43 (by assumption) (by assumption) (by assumption)); (case zT => k_asm); (case zk => exact rfl); (case zC => assumption); (case zt => exact tab_up (by assumption)); (case zz => assumption); (case zp0 => assumption); (case zpl => assumption); (case zl => assumption); (case zsp => assumption); (case zd => exact room12); (case zu => exact units120); k_whole); intro rr' v1' v2' h' tk' ps' ex' hans' F' N' htab' hex'; (replace N' := news_4 N'); (have hsame' := same_of hans' (by assumption)); (try dsimp only); (try k_fold); walk_say "PARSE"))
local macro_rules | `(tactic| walk_at "compareOp NotEq ref ref") => `(tactic| (k_here; k_dflt (refine' law_ne ?zs ?zN ?z1 ?z2 ?zu ?_; (case zs => assumption); (case zN => k_asm); (case z1 => k_mem); (case z2 => k_mem); (case zu => exact units64); k_whole); (try dsimp only); (try k_fold); walk_say "NOT EQUAL"))
set_option maxHeartbeats 8000000 in
theorem tt : PySem.Challenge.rw_am6005_01.Holds := Mine.hd (by
  k_go0
  all_goals try k_fold
  all_goals k_steps
  rename_i bx hA l1 hB F8 N8 h9 tk9 t1 u1 v1 hR F9 N9 hK9
  have hln := len63 (by assumption)
  refine' law_range (σ := WSt) (wLed bx _) [Str.ofString "case"] (wP bx) ⟨0, 1, _, _, _, #[], []⟩ rfl hR (small_one (by omega) (by omega) (by omega) (by omega)) (n := 8) (by rw [rangeSize_nat]; rfl) F9 N9 ?hp ?turn ?done
  case hp => exact ⟨Int.le_refl _, Int.le_of_lt Int.zero_lt_one, by dsimp only; omega, .inl rfl, fun _ h => nomatch h⟩
  case turn =>
    intro c k t u h7 tk7 own I hI hown hIx hP F7 N7
    obtain ⟨p7, st7, t17, t27, n7, ps7, ex7⟩ := c
    obtain ⟨hp7, hst7, hstt7, htab7, hex7⟩ := hP
    dsimp only [wLed] at hp7 hst7 hstt7 htab7 hex7 F7 N7 hIx
    simp only [List.cons_append] at N7
    have hIbx : I ≠ bx := fun e => hIx _ (.head _) e.symm
    have hI43 : I ≠ 43 := fun e => hIx _ (.tail _ (.head _)) e.symm
    have hbx7 : ∀ q ∈ ex7 ++ own, q.1 ≠ bx := fun q hq => (List.mem_append.mp hq).elim (fun h => Nat.ne_of_gt (hex7 q h)) (fun h => (hown q h).1 ▸ hIbx)
    have h437 : ∀ q ∈ ex7 ++ own, q.1 ≠ 43 := fun q hq => (List.mem_append.mp hq).elim (fun h => Nat.ne_of_gt (Nat.lt_trans l1 (hex7 q h))) (fun h => (hown q h).1 ▸ hI43)
    have hCd : CodeHd _ 47 43 := codeHd
    try k_fold
    k_steps
    rename_i p8 st8 t18 t28 n8 hq8 tkq hcc hlt e3 e4 e5 r8 hsp hv g0 g1 g2 g3 hh8 tk8 rr2 v18 v28 h28 tk28 ps8 ex8 hans htb hex hsame D8 h99 F99 N99 l19
    obtain ⟨ex9, ht9, hmem9, hgt9, hne9⟩ := turn_led htb hex hI hown hex7 (fun q hq => hIx q (.tail _ (.tail _ hq)))
    refine law_end ⟨p8, st8, t18, t28, n8, ps8, ex9⟩ F99 N99 ?_ ?_ ?_ ?_ ⟨e3, e4, e5, ht9, hgt9⟩
    · intro q hq
      rcases List.mem_cons.mp hq with rfl | hq
      · exact .tail _ (.tail _ (.tail _ (.head _)))
      · rcases List.mem_cons.mp hq with rfl | hq
        · exact .tail _ (.tail _ (.tail _ (.tail _ (.head _))))
        · exact .tail _ (.tail _ (.tail _ (.tail _ (.tail _ (hmem9 q hq)))))
    · intro q hq
      exact .tail _ (.tail _ (.tail _ (.tail _ (.tail _ (List.mem_append_right _ (List.mem_append_right _ hq))))))
    · intro q hq
      rcases List.mem_cons.mp hq with rfl | hq
      · exact hIbx.symm
      · rcases List.mem_cons.mp hq with rfl | hq
        · exact hI43.symm
        · exact hne9 q hq
    · intro z z1 z3
      simp only [List.contains_cons, List.contains_nil, Bool.or_false, beq_eq_false_iff_ne, ne_eq] at z3
      simp [kstB, z1, z3]
  case done =>
    intro c u h7 tk7 hP F7 N7
    obtain ⟨p7, st7, t17, t27, n7, ps7, ex7⟩ := c
    dsimp only [wLed] at F7 N7
    k_steps)
end
end Mine
end
set_option maxRecDepth 100000 in
theorem PySem.Challenge.cw_am6005_01_holds : PySem.Challenge.rw_am6005_01.Holds := by
  exact Mine.tt
