import PyProof.Rows.All
import Wide.All
import OpenK.AllK
import Wide.FinOn
import Lean
import PySem.Challenge.RW_wn0093_01
set_option Elab.async false
set_option maxRecDepth 100000
section
open PySem PySem.W PyProof.Rows
set_option Elab.async false
namespace Mine
/-! plain facts on texts as lists of numbers -/
noncomputable def mkS (l : List Nat) : PySem.Str := ⟨l.toArray⟩
noncomputable def cl (x : PySem.Str) : List Nat := x.cps.toList
theorem cl_mkS (l : List Nat) : cl (mkS l) = l := rfl
theorem mkS_cl (x : PySem.Str) : mkS (cl x) = x := PySem.Str.ext' (by simp [mkS, cl])
theorem cl_inj {x y : PySem.Str} (h : cl x = cl y) : x = y := by rw [← mkS_cl x, ← mkS_cl y, h]
theorem cl_append (x y : PySem.Str) : cl (x ++ y) = cl x ++ cl y := by
  simp [cl, PySem.Str.cps_append]
theorem cl_len (x : PySem.Str) : x.length = (cl x).length := by simp [PySem.Str.length, cl]
theorem beq_cl (x y : PySem.Str) : (x == y) = decide (cl x = cl y) := by
  by_cases h : cl x = cl y
  · have := cl_inj h
    subst this
    simp
  · have : x ≠ y := fun e => h (by rw [e])
    simp [h, this]
theorem bne_cl (x y : PySem.Str) : (x != y) = decide (cl x ≠ cl y) := by
  rw [bne, beq_cl]
  by_cases h : cl x = cl y <;> simp [h]

theorem slice_nat (x : PySem.Str) {a b : Nat} (hab : a ≤ b) (hb : b ≤ (cl x).length) : cl (Txt.slice x (some (a : Int)) (some (b : Int))) = ((cl x).drop a).take (b - a) := by
  have := StrLaws.sliceText_nat x hab (by rw [cl_len]; exact hb)
  show cl (StrLaws.sliceText x _ _) = _
  rw [this]; rfl
theorem slice_to (x : PySem.Str) {j : Int} (h0 : 0 ≤ j) (h1 : j ≤ ((cl x).length : Int)) : cl (Txt.slice x none (some j)) = (cl x).take j.toNat := by
  have := StrLaws.sliceText_to (x := x) (j := j) ⟨h0, h1⟩
  show cl (StrLaws.sliceText x _ _) = _
  rw [this]
  simp [cl]
theorem slice_from (x : PySem.Str) {i : Int} (h0 : 0 ≤ i) (h1 : i ≤ ((cl x).length : Int)) : cl (Txt.slice x (some i) none) = (cl x).drop i.toNat := by
  have := StrLaws.sliceText_from (x := x) (i := i) ⟨h0, h1⟩
  show cl (StrLaws.sliceText x _ _) = _
  rw [this]
  show ((cl x).drop i.toNat).take (((cl x).length : Int) - i).toNat = _
  apply List.take_of_length_le
  rw [List.length_drop]; omega
theorem slice_neg (x : PySem.Str) {j : Int} (h0 : j < 0) (h1 : -((cl x).length : Int) ≤ j) : cl (Txt.slice x none (some j)) = (cl x).take ((cl x).length - (-j).toNat) := by
  have := StrLaws.sliceText_neg_hi x none (j := j) h0 (by rw [cl_len]; exact h1)
  show cl (StrLaws.sliceText x _ _) = _
  rw [this]
  have h2 := slice_to x (j := j + x.length) (by rw [cl_len]; omega) (by rw [cl_len]; omega)
  rw [show StrLaws.sliceText x none (some (j + x.length)) = Txt.slice x none (some (j + x.length)) from rfl, h2]
  congr 1
  rw [cl_len]; omega
theorem slice_all (x : PySem.Str) : Txt.slice x none none = x := by
  unfold Txt.slice
  split
  · rfl
  · rename_i h
    exfalso
    apply h
    have : (Builtin.Str.strSliceIndices none none 1 x.length).length = x.length := by
      rw [StrLaws.sliceIdx_none_lo, StrLaws.sliceIdx_none_hi]
      have := StrLaws.strSliceIndices_plain (a := 0) (b := x.length) (len := x.length) (Nat.zero_le _) (Nat.le_refl _)
      rw [show ((0 : Nat) : Int) = 0 from rfl] at this
      rw [this]; simp
    simp [this]

theorem item_at (x : PySem.Str) {i : Int} (h0 : 0 ≤ i) (h1 : i < ((cl x).length : Int)) : ∃ c, (cl x)[i.toNat]? = some c ∧ cl (Txt.item x i) = [c] := by
  obtain ⟨n, hn⟩ := StrLaws.some_at (x := x) h0 (by rw [cl_len]; exact h1)
  refine ⟨n, by rw [← hn]; simp [cl], ?_⟩
  unfold Txt.item Txt.charAt
  rw [StrLaws.at_nonneg h0 hn]; rfl
theorem item_drop (x : PySem.Str) {i : Int} (h0 : 0 ≤ i) (h1 : i < ((cl x).length : Int)) : ∃ c, cl (Txt.item x i) = [c] ∧ (cl x).drop i.toNat = c :: (cl x).drop (i + 1).toNat := by
  obtain ⟨c, hc, e⟩ := item_at x h0 h1
  refine ⟨c, e, ?_⟩
  obtain ⟨hlt, hc⟩ := List.getElem?_eq_some_iff.mp hc
  rw [← hc, List.drop_eq_getElem_cons hlt, show (i + 1).toNat = i.toNat + 1 by omega]
theorem item_neg (x : PySem.Str) {i : Int} (h0 : i < 0) (h1 : -((cl x).length : Int) ≤ i) : ∃ c, (cl x)[(cl x).length - (-i).toNat]? = some c ∧ cl (Txt.item x i) = [c] := by
  have hlt : (cl x).length - (-i).toNat < (cl x).length := by omega
  refine ⟨(cl x)[(cl x).length - (-i).toNat], by simp [hlt], ?_⟩
  unfold Txt.item Txt.charAt
  have hx : x.cps[(i + x.length).toNat]? = some (cl x)[(cl x).length - (-i).toNat] := by
    have e : (i + x.length).toNat = (cl x).length - (-i).toNat := by rw [cl_len]; omega
    rw [e]
    have : (cl x)[(cl x).length - (-i).toNat]? = some (cl x)[(cl x).length - (-i).toNat] := by simp [hlt]
    rw [← this]; simp [cl]
  rw [StrLaws.at_neg h0 (by rw [cl_len]; exact h1) hx]; rfl

/-! parse257 -/
noncomputable def told : List Nat → List Nat
  | [] => []
  | [c] => if c = 34 then [] else [c]
  | c :: d :: r => if c = 34 then (if d = 34 then 34 :: told r else []) else c :: told (d :: r)
theorem told_cons {c : Nat} (h : c ≠ 34) (r : List Nat) : told (c :: r) = c :: told r := by
  cases r <;> simp [told, h]
theorem told_quotes (r : List Nat) : told (34 :: 34 :: r) = 34 :: told r := by simp [told]
theorem told_one {r : List Nat} (h : r.head? ≠ some 34) : told (34 :: r) = [] := by
  cases r with
  | nil => simp [told]
  | cons d r => simp only [List.head?_cons, ne_eq, Option.some.injEq] at h; simp [told, h]
theorem told_len : ∀ l, (told l).length ≤ l.length
  | [] => by simp [told]
  | [c] => by simp only [told]; split <;> simp
  | c :: d :: r => by
    simp only [told]
    split
    · split
      · have := told_len r; simp; omega
      · simp
    · have := told_len (d :: r); simp at this ⊢; omega
noncomputable def toldS (y : PySem.Str) : PySem.Str := mkS (told (cl y))
theorem toldS_len (y : PySem.Str) : (toldS y).length ≤ y.length := by
  rw [cl_len, cl_len]; exact told_len _

theorem lit257 : cl (PySem.Str.ofString "257 \"") = [50, 53, 55, 32, 34] := by decide +kernel
theorem litQuote : cl (PySem.Str.ofString "\"") = [34] := by decide +kernel

theorem p257_a {y : PySem.Str} (h : (Txt.slice (PySem.Str.ofString "257 \"" ++ y) none (some 3) != PySem.Str.ofString "257") = true) : False := by
  rw [bne_cl, slice_to _ (by decide) (by rw [cl_append, lit257]; simp; omega), cl_append, lit257] at h
  revert h
  show decide ([50, 53, 55] ≠ cl (PySem.Str.ofString "257")) = true → False
  decide +kernel
theorem p257_b {y : PySem.Str} (h : (Txt.slice (PySem.Str.ofString "257 \"" ++ y) (some 3) (some 5) != PySem.Str.ofString " \"") = true) : False := by
  have e := slice_nat (PySem.Str.ofString "257 \"" ++ y) (a := 3) (b := 5) (by decide) (by rw [cl_append, lit257]; simp)
  rw [bne_cl] at h
  rw [show ((3 : Nat) : Int) = 3 from rfl, show ((5 : Nat) : Int) = 5 from rfl] at e
  rw [e, cl_append, lit257] at h
  revert h
  show decide ([32, 34] ≠ cl (PySem.Str.ofString " \"")) = true → False
  decide +kernel

abbrev P257 (x y : PySem.Str) (i : Int) (d : PySem.Str) : Prop := 5 ≤ i ∧ i ≤ (x.length : Int) ∧ (d.length : Int) ≤ i ∧ cl d ++ told ((cl x).drop i.toNat) = told (cl y)
theorem p257_start {y : PySem.Str} : P257 (PySem.Str.ofString "257 \"" ++ y) y 5 (PySem.Str.ofString "") := by
  have e : cl (PySem.Str.ofString "") = [] := by decide +kernel
  have e2 : (PySem.Str.ofString "257 \"" ++ y).length = 5 + y.length := by rw [cl_len, cl_append, lit257, cl_len]; simp; omega
  refine ⟨by decide, by omega, by rw [cl_len, e]; decide, ?_⟩
  rw [e, cl_append, lit257]; rfl
theorem item_one {x : PySem.Str} {i : Int} {c : Nat} (h : cl (Txt.item x i) = [c]) : (Txt.item x i == PySem.Str.ofString "\"") = decide (c = 34) ∧ (Txt.item x i).length = 1 := by
  refine ⟨?_, by rw [cl_len, h]; rfl⟩
  rw [beq_cl, h, litQuote]; simp
theorem p257_plain {x y d : PySem.Str} {i : Int} (inv : P257 x y i d) (hi : i < (x.length : Int)) (hq : (Txt.item x i == PySem.Str.ofString "\"") = false) : P257 x y (i + 1) (d ++ Txt.item x i) := by
  obtain ⟨h5, hl, hd, he⟩ := inv
  obtain ⟨c, hc, hr⟩ := item_drop x (i := i) (by omega) (by rw [← cl_len]; exact hi)
  obtain ⟨e1, e2⟩ := item_one hc
  rw [e1] at hq
  have hne : c ≠ 34 := by simpa using hq
  refine ⟨by omega, by omega, by rw [PySem.Str.length_append, e2]; omega, ?_⟩
  rw [cl_append, hc, ← he, hr, told_cons hne]; simp
theorem p257_quote {x y d : PySem.Str} {i : Int} (inv : P257 x y i d) (hi : i < (x.length : Int)) (hq : (Txt.item x i == PySem.Str.ofString "\"") = true) (hn : ¬ (x.length : Int) ≤ i + 1)
    (hq2 : (Txt.item x (i + 1) != PySem.Str.ofString "\"") = false) : P257 x y (i + 1 + 1) (d ++ Txt.item x i) := by
  obtain ⟨h5, hl, hd, he⟩ := inv
  obtain ⟨c, hc, hr⟩ := item_drop x (i := i) (by omega) (by rw [← cl_len]; exact hi)
  obtain ⟨c2, hc2, hr2⟩ := item_drop x (i := i + 1) (by omega) (by rw [← cl_len]; omega)
  obtain ⟨e1, e2⟩ := item_one hc
  obtain ⟨e3, e4⟩ := item_one hc2
  rw [e1] at hq
  rw [bne, e3] at hq2
  have h34 : c = 34 := by simpa using hq
  have h34' : c2 = 34 := by simpa using hq2
  subst h34; subst h34'
  refine ⟨by omega, by omega, by rw [PySem.Str.length_append, e2]; omega, ?_⟩
  rw [cl_append, hc, ← he, hr, hr2, told_quotes]; simp
theorem p257_end {x y d : PySem.Str} {i : Int} (inv : P257 x y i d) (hi : ¬ i < (x.length : Int)) : d = toldS y := by
  obtain ⟨h5, hl, hd, he⟩ := inv
  apply cl_inj
  rw [toldS, cl_mkS, ← he, List.drop_eq_nil_of_le (by rw [← cl_len]; omega)]; simp [told]
theorem p257_stop1 {x y d : PySem.Str} {i : Int} (inv : P257 x y i d) (hi : i < (x.length : Int)) (hq : (Txt.item x i == PySem.Str.ofString "\"") = true) (hn : (x.length : Int) ≤ i + 1) : d = toldS y := by
  obtain ⟨h5, hl, hd, he⟩ := inv
  obtain ⟨c, hc, hr⟩ := item_drop x (i := i) (by omega) (by rw [← cl_len]; exact hi)
  obtain ⟨e1, e2⟩ := item_one hc
  rw [e1] at hq
  have h34 : c = 34 := by simpa using hq
  subst h34
  apply cl_inj
  rw [toldS, cl_mkS, ← he, hr, List.drop_eq_nil_of_le (by rw [← cl_len]; omega)]; simp [told]
theorem p257_stop2 {x y d : PySem.Str} {i : Int} (inv : P257 x y i d) (hi : i < (x.length : Int)) (hq : (Txt.item x i == PySem.Str.ofString "\"") = true) (hn : ¬ (x.length : Int) ≤ i + 1)
    (hq2 : (Txt.item x (i + 1) != PySem.Str.ofString "\"") = true) : d = toldS y := by
  obtain ⟨h5, hl, hd, he⟩ := inv
  obtain ⟨c, hc, hr⟩ := item_drop x (i := i) (by omega) (by rw [← cl_len]; exact hi)
  obtain ⟨c2, hc2, hr2⟩ := item_drop x (i := i + 1) (by omega) (by rw [← cl_len]; omega)
  obtain ⟨e1, e2⟩ := item_one hc
  obtain ⟨e3, e4⟩ := item_one hc2
  rw [e1] at hq
  rw [bne, e3] at hq2
  have h34 : c = 34 := by simpa using hq
  have h34' : c2 ≠ 34 := by simpa using hq2
  subst h34
  apply cl_inj
  rw [toldS, cl_mkS, ← he, hr, hr2, told_one (by simpa using h34')]; simp
end Mine
end
section
open PySem PySem.W PyProof.Rows
set_option Elab.async false
namespace Mine
/-! replace of one sign -/
noncomputable def sub1 (k : Nat) (r l : List Nat) : List Nat := l.flatMap fun d => if d = k then r else [d]
theorem sub1_append (k : Nat) (r a b : List Nat) : sub1 k r (a ++ b) = sub1 k r a ++ sub1 k r b := by simp [sub1]
theorem sub1_free (k : Nat) (r : List Nat) : ∀ l : List Nat, k ∉ l → sub1 k r l = l
  | [], _ => rfl
  | d :: l, h => by
    have h1 : ¬ d = k := fun e => h (e ▸ List.mem_cons_self ..)
    have h2 : k ∉ l := fun m => h (List.mem_cons_of_mem _ m)
    have ih := sub1_free k r l h2
    unfold sub1 at ih ⊢
    rw [List.flatMap_cons, ih, if_neg h1]; rfl
theorem sub1_one (k : Nat) (r : List Nat) : sub1 k r [k] = r := by simp [sub1]
theorem cl_one (k : Nat) : cl ⟨#[k]⟩ = [k] := rfl
theorem sub1_join (k : Nat) (r : PySem.Str) : ∀ parts : List PySem.Str, (∀ p ∈ parts, k ∉ p.cps.toList) → sub1 k (cl r) (cl (PySem.Str.join ⟨#[k]⟩ parts)) = cl (PySem.Str.join r parts)
  | [], _ => rfl
  | [p], h => sub1_free k _ _ (h p (List.mem_singleton.mpr rfl))
  | p :: q :: rs, h => by
    have ih := sub1_join k r (q :: rs) fun a ha => h a (List.mem_cons_of_mem _ ha)
    show sub1 k (cl r) (cl (p ++ ⟨#[k]⟩ ++ PySem.Str.join ⟨#[k]⟩ (q :: rs))) = cl (p ++ r ++ PySem.Str.join r (q :: rs))
    simp only [cl_append, sub1_append]
    rw [ih, cl_one, sub1_one, sub1_free k (cl r) (cl p) (h p (List.mem_cons_self ..))]
theorem cl_replace1 (x r : PySem.Str) (k : Nat) : cl (Txt.replace x ⟨#[k]⟩ r) = sub1 k (cl r) (cl x) := by
  rw [StrLaws.replace_one, ← sub1_join k r _ (StrLaws.split_free x k), StrLaws.join_split]
theorem one_of_length {c : PySem.Str} (h : c.length = 1) : ∃ k, c = ⟨#[k]⟩ := by
  obtain ⟨a⟩ := c
  have : a.toList.length = 1 := by simpa [PySem.Str.length] using h
  obtain ⟨k, hk⟩ := List.length_eq_one_iff.mp this
  exact ⟨k, by congr 1; apply Array.ext'; simpa using hk⟩
theorem cl_replace {x c r : PySem.Str} {k : Nat} (h : cl c = [k]) : cl (Txt.replace x c r) = sub1 k (cl r) (cl x) := by
  have : c = ⟨#[k]⟩ := cl_inj (by rw [h]; rfl)
  rw [this, cl_replace1]
theorem replace_none {x c r : PySem.Str} (hc : c.length = 1) (h : (Builtin.Str.occurrences x c 0 x.length 1).isEmpty = true) : Txt.replace x c r = x := by
  obtain ⟨k, rfl⟩ := one_of_length hc
  have := StrLaws.found_one x k
  rw [h] at this
  have hk : k ∉ cl x := by
    have h2 : decide (k ∈ x.cps.toList) = false := by rw [← this]; rfl
    exact of_decide_eq_false h2
  apply cl_inj
  rw [cl_replace1, sub1_free _ _ _ hk]
theorem sub1_grows (k : Nat) {r : List Nat} (hr : 1 ≤ r.length) : ∀ l : List Nat, l.length ≤ (sub1 k r l).length
  | [] => Nat.le_refl _
  | d :: l => by
    have ih := sub1_grows k hr l
    unfold sub1 at ih ⊢
    rw [List.flatMap_cons, List.length_append, List.length_cons]
    split
    · omega
    · rw [List.length_singleton]; omega
theorem replace_grows {x c r : PySem.Str} (hc : c.length = 1) (hr : 1 ≤ r.length) : x.length ≤ (Txt.replace x c r).length := by
  obtain ⟨k, rfl⟩ := one_of_length hc
  rw [cl_len, cl_len, cl_replace1]
  exact sub1_grows k (by rw [← cl_len]; exact hr) _

/-! the five hands -/
noncomputable def refs : List (List (Nat × List Nat)) :=
  [[(38, [38, 97, 109, 112, 59]), (60, [38, 108, 116, 59]), (62, [38, 103, 116, 59])],
   [(38, [38, 97, 109, 112, 59]), (60, [38, 108, 116, 59]), (62, [38, 103, 116, 59]), (34, [38, 113, 117, 111, 116, 59]), (13, [38, 35, 49, 51, 59]), (10, [38, 35, 49, 48, 59]), (9, [38, 35, 48, 57, 59])],
   [(38, [38, 97, 109, 112, 59]), (62, [38, 103, 116, 59]), (34, [38, 113, 117, 111, 116, 59])],
   [(38, [38, 97, 109, 112, 59]), (60, [38, 108, 116, 59]), (62, [38, 103, 116, 59]), (13, [38, 35, 120, 68, 59])],
   [(38, [38, 97, 109, 112, 59]), (60, [38, 108, 116, 59]), (34, [38, 113, 117, 111, 116, 59]), (9, [38, 35, 120, 57, 59]), (10, [38, 35, 120, 65, 59]), (13, [38, 35, 120, 68, 59])]]
noncomputable def tabOf (place : Nat) : List (Nat × List Nat) := refs.getD place []
noncomputable def ref (place d : Nat) : List Nat := ((tabOf place).lookup d).getD [d]
noncomputable def page (place : Nat) (l : List Nat) : List Nat := l.flatMap (ref place)
noncomputable def pageS (place : Nat) (x : PySem.Str) : PySem.Str := mkS (page place (cl x))
/-- the replaces, one behind the other -/
noncomputable def runTab (t : List (Nat × List Nat)) (l : List Nat) : List Nat := t.foldl (fun l p => sub1 p.1 p.2 l) l
theorem runTab_append (t : List (Nat × List Nat)) : ∀ a b : List Nat, runTab t (a ++ b) = runTab t a ++ runTab t b := by
  induction t with
  | nil => intro a b; rfl
  | cons p t ih => intro a b; show runTab t (sub1 _ _ (a ++ b)) = runTab t (sub1 _ _ a) ++ runTab t (sub1 _ _ b); rw [sub1_append, ih]
theorem runTab_free {d : Nat} : ∀ (t : List (Nat × List Nat)), t.lookup d = none → runTab t [d] = [d]
  | [], _ => rfl
  | p :: t, h => by
    obtain ⟨k, r⟩ := p
    rw [List.lookup_cons] at h
    split at h
    · cases h
    · rename_i hk
      have hk : ¬ d = k := by simpa using hk
      show runTab t (sub1 k r [d]) = [d]
      rw [sub1_free k r [d] (by simp [Ne.symm (Ne.intro hk)])]
      exact runTab_free t h
theorem runTab_page (t : List (Nat × List Nat)) (ht : ∀ p ∈ t, runTab t [p.1] = (t.lookup p.1).getD [p.1]) : ∀ l : List Nat, runTab t l = l.flatMap fun d => (t.lookup d).getD [d]
  | [] => by
    have : ∀ t : List (Nat × List Nat), runTab t [] = [] := by
      intro t
      induction t with
      | nil => rfl
      | cons p t ih => exact ih
    rw [this]; rfl
  | d :: l => by
    rw [show d :: l = [d] ++ l from rfl, runTab_append, runTab_page t ht l, List.flatMap_append]
    congr 1
    rw [List.flatMap_singleton]
    cases hd : t.lookup d with
    | none => exact runTab_free t hd
    | some r =>
      have hm : (d, r) ∈ t := by
        clear ht
        induction t with
        | nil => cases hd
        | cons p t ih =>
          obtain ⟨k, q⟩ := p
          rw [List.lookup_cons] at hd
          split at hd
          · rename_i hk
            have : d = k := by simpa using hk
            cases hd; subst this; exact List.mem_cons_self ..
          · exact List.mem_cons_of_mem _ (ih hd)
      have := ht _ hm
      rw [hd] at this
      exact this
theorem tab_ok : ∀ t ∈ refs, ∀ p ∈ t, runTab t [p.1] = (t.lookup p.1).getD [p.1] := by decide +kernel
theorem page_run {place : Nat} (hp : place < 5) (l : List Nat) : runTab (tabOf place) l = page place l := by
  refine runTab_page _ (tab_ok _ ?_) l
  have : place < refs.length := hp
  unfold tabOf
  rw [List.getD_eq_getElem?_getD, List.getElem?_eq_getElem this]
  exact List.getElem_mem _
theorem ref_len (place d : Nat) : 1 ≤ (ref place d).length ∧ (ref place d).length ≤ 6 := by
  unfold ref
  have key : ∀ t ∈ ([] : List (Nat × List Nat)) :: refs, ∀ p ∈ t, 1 ≤ p.2.length ∧ p.2.length ≤ 6 := by decide +kernel
  have ht : tabOf place ∈ ([] : List (Nat × List Nat)) :: refs := by
    unfold tabOf
    rw [List.getD_eq_getElem?_getD]
    cases h : refs[place]? with
    | none => exact List.mem_cons_self ..
    | some t => exact List.mem_cons_of_mem _ (List.mem_of_getElem? h)
  cases hd : (tabOf place).lookup d with
  | none => simp
  | some r =>
    have hm : ∃ k, (k, r) ∈ tabOf place := by
      generalize tabOf place = t at hd
      clear key ht
      induction t with
      | nil => cases hd
      | cons p t ih =>
        obtain ⟨k, q⟩ := p
        rw [List.lookup_cons] at hd
        split at hd
        · cases hd; exact ⟨k, List.mem_cons_self ..⟩
        · obtain ⟨k', h'⟩ := ih hd; exact ⟨k', List.mem_cons_of_mem _ h'⟩
    obtain ⟨k, hk⟩ := hm
    exact key _ ht _ hk
theorem page_len (place : Nat) : ∀ l : List Nat, l.length ≤ (page place l).length ∧ (page place l).length ≤ 6 * l.length
  | [] => by simp [page]
  | d :: l => by
    have ih := page_len place l
    have h := ref_len place d
    unfold page at ih ⊢
    rw [List.flatMap_cons, List.length_append, List.length_cons]
    omega
theorem pageS_len (place : Nat) (x : PySem.Str) : (pageS place x).length ≤ 6 * x.length := by
  rw [cl_len, cl_len]; exact (page_len place (cl x)).2
end Mine
end
section
open PySem PySem.W PyProof.Rows
set_option Elab.async false
namespace Mine
/-! the cost of one sign for another -/
noncomputable def scS (x y : PySem.Str) : Int := if x == y then 0 else if Txt.lower x == Txt.lower y then 1 else 2
noncomputable def sc (c d : Nat) : Int := scS (mkS [c]) (mkS [d])
theorem scS_le (x y : PySem.Str) : 0 ≤ scS x y ∧ scS x y ≤ 2 := by
  unfold scS
  split
  · omega
  · split <;> omega
theorem sc_le (c d : Nat) : 0 ≤ sc c d ∧ sc c d ≤ 2 := scS_le _ _
theorem scS_comm (x y : PySem.Str) : scS x y = scS y x := by
  unfold scS
  rw [show (x == y) = (y == x) from Bool.beq_comm, show (Txt.lower x == Txt.lower y) = (Txt.lower y == Txt.lower x) from Bool.beq_comm]
theorem sc_comm (c d : Nat) : sc c d = sc d c := scS_comm _ _
theorem sc_self (c : Nat) : sc c c = 0 := by simp [sc, scS]
theorem one_low : ∀ p ∈ UnicodeData.oneLower, 97 ≤ p.2.2 := by decide +kernel
theorem shifted_low : ∀ (t : List (Nat × Nat × Nat)) (_ : ∀ p ∈ t, 97 ≤ p.2.2) {c v : Nat}, Unicode.shifted t c = some v → 97 ≤ v
  | [], _, _, _, h => by cases h
  | (a, b, u) :: t, ht, c, v, h => by
    unfold Unicode.shifted at h
    split at h
    · cases h
    · split at h
      · cases h
        have := ht _ (List.mem_cons_self ..)
        show 97 ≤ u + (c - a)
        simp at this
        omega
      · exact shifted_low t (fun p hp => ht p (List.mem_cons_of_mem _ hp)) h
theorem lowerOf_low {c d : Nat} (hc : c < 97) (h : Unicode.lowerOf d = [c]) : d = c := by
  unfold Unicode.lowerOf Unicode.image at h
  split at h
  · rename_i cs hcs
    subst h
    unfold UnicodeData.severalLower UnicodeData.severalLower0 at hcs
    rw [List.lookup_cons] at hcs
    split at hcs
    · cases hcs
    · cases hcs
  · cases hs : Unicode.shifted UnicodeData.oneLower d with
    | none => rw [hs] at h; simpa using h
    | some v =>
      rw [hs] at h
      have := shifted_low _ one_low hs
      have : v = c := by simpa using h
      omega
theorem lower_one (d : Nat) : cl (Txt.lower (mkS [d])) = Unicode.lowerAt #[d] 0 := by
  show ((#[d].mapIdx fun i _ => (Unicode.lowerAt #[d] i).toArray).flatten).toList = _
  simp
theorem lowerAt_low {c d : Nat} (hc : c < 97) (h : Unicode.lowerAt #[d] 0 = [c]) : d = c := by
  unfold Unicode.lowerAt at h
  simp only [List.getElem?_toArray, List.getElem?_cons_zero] at h
  split at h
  · have : 962 = c := by simpa using h
    omega
  · exact lowerOf_low hc h
theorem lowerOf_small {c : Nat} (hc : c < 65) : Unicode.lowerOf c = [c] := by
  have key : ∀ c < 65, Unicode.lowerOf c = [c] := by decide +kernel
  exact key c hc
theorem lowerAt_small {c : Nat} (hc : c < 65) : Unicode.lowerAt #[c] 0 = [c] := by
  unfold Unicode.lowerAt
  simp only [List.getElem?_toArray, List.getElem?_cons_zero]
  rw [if_neg (by simp; omega), lowerOf_small hc]
theorem sc_small {c d : Nat} (hc : c < 65) (h : c ≠ d) : sc c d = 2 := by
  unfold sc scS
  rw [if_neg (by rw [beq_cl, cl_mkS, cl_mkS]; simpa using h), if_neg]
  rw [beq_cl, lower_one, lower_one, lowerAt_small hc]
  intro h2
  have := (of_decide_eq_true h2).symm
  exact h (lowerAt_low (by omega) this).symm

/-! the edit price, on the two texts read from behind -/
noncomputable def ed : List Nat → List Nat → Int
  | [], b => 2 * b.length
  | x :: a, [] => 2 * (a.length + 1)
  | x :: a, y :: b => min (min (ed a (y :: b)) (ed (x :: a) b) + 2) (ed a b + sc x y)
theorem ed_nil (a : List Nat) : ed a [] = 2 * a.length := by
  cases a with
  | nil => simp [ed]
  | cons x a => simp [ed]
theorem ed_nil' (b : List Nat) : ed [] b = 2 * b.length := by simp [ed]
theorem ed_cons (x y : Nat) (a b : List Nat) : ed (x :: a) (y :: b) = min (min (ed a (y :: b)) (ed (x :: a) b) + 2) (ed a b + sc x y) := by rw [ed]
theorem ed_comm : ∀ a b : List Nat, ed a b = ed b a
  | [], b => by rw [ed_nil, ed_nil']
  | x :: a, [] => by rw [ed_nil, ed_nil']
  | x :: a, y :: b => by
    rw [ed_cons, ed_cons, ed_comm a (y :: b), ed_comm (x :: a) b, ed_comm a b, sc_comm x y, Int.min_comm (ed (y :: b) a)]
/-- every prefix of one side is passed at some prefix of the other, no dearer than the whole -/
theorem ed_pass : ∀ (a b : List Nat) (k : Nat), k ≤ b.length → ∃ l, l ≤ a.length ∧ ed (a.drop l) (b.drop k) ≤ ed a b
  | [], b, k, hk => ⟨0, Nat.le_refl _, by rw [List.drop_nil, ed_nil', ed_nil', List.length_drop]; omega⟩
  | x :: a, [], k, hk => ⟨0, Nat.zero_le _, by
      have : k = 0 := by simpa using hk
      subst this; exact Int.le_refl _⟩
  | x :: a, y :: b, 0, hk => ⟨0, Nat.zero_le _, Int.le_refl _⟩
  | x :: a, y :: b, k + 1, hk => by
    rw [ed_cons]
    have hk' : k ≤ b.length := by simpa using hk
    obtain ⟨l1, h1, e1⟩ := ed_pass a (y :: b) (k + 1) hk
    obtain ⟨l2, h2, e2⟩ := ed_pass (x :: a) b k hk'
    obtain ⟨l3, h3, e3⟩ := ed_pass a b k hk'
    have h4 := sc_le x y
    rw [List.drop_succ_cons] at e1 ⊢
    by_cases c1 : ed a (y :: b) + 2 ≤ ed a b + sc x y ∧ ed a (y :: b) ≤ ed (x :: a) b
    · exact ⟨l1 + 1, by simp; omega, by rw [List.drop_succ_cons]; omega⟩
    · by_cases c2 : ed (x :: a) b + 2 ≤ ed a b + sc x y
      · exact ⟨l2, h2, by omega⟩
      · exact ⟨l3 + 1, by simp; omega, by rw [List.drop_succ_cons]; omega⟩

/-! the rows -/
noncomputable def inner (ch : Nat) : List Nat → List Int → Int → Int → List Int
  | x :: a, r :: row, dist, res => min (min res r + 2) (dist + sc ch x) :: inner ch a row r (min (min res r + 2) (dist + sc ch x))
  | _, _, _, _ => []
/-- the row of the prices of a prefix rb (from behind) against the prefixes of pa.reverse ++ a that go beyond pa -/
noncomputable def rowOf (rb : List Nat) : List Nat → List Nat → List Int
  | _, [] => []
  | pa, x :: a => ed (x :: pa) rb :: rowOf rb (x :: pa) a
theorem rowOf_len (rb : List Nat) : ∀ (a pa : List Nat), (rowOf rb pa a).length = a.length
  | [], _ => rfl
  | x :: a, pa => by simp [rowOf, rowOf_len rb a (x :: pa)]
theorem inner_more (ch : Nat) (rb : List Nat) : ∀ (a pa : List Nat) (res : Int), pa ≠ [] → res = ed pa (ch :: rb) →
    inner ch a (rowOf rb pa a) (ed pa rb) res = rowOf (ch :: rb) pa a
  | [], _, _, _, _ => rfl
  | x :: a, pa, res, hne, hr => by
    have e : min (min res (ed (x :: pa) rb) + 2) (ed pa rb + sc ch x) = ed (x :: pa) (ch :: rb) := by
      rw [ed_cons, hr, sc_comm]
    rw [rowOf, inner, e, rowOf, inner_more ch rb a (x :: pa) _ (by simp) rfl]
theorem inner_row (ch : Nat) (rb a : List Nat) : inner ch a (rowOf rb [] a) (2 * rb.length) (2 * rb.length) = rowOf (ch :: rb) [] a := by
  cases a with
  | nil => rfl
  | cons x a =>
    have h4 := sc_le ch x
    have e : min (min (2 * (rb.length : Int)) (ed [x] rb) + 2) (2 * (rb.length : Int) + sc ch x) = ed [x] (ch :: rb) := by
      rw [ed_cons, ed_nil', ed_nil', sc_comm x ch, List.length_cons]
      omega
    rw [rowOf, inner, e, rowOf]
    have := inner_more ch rb a [x] (ed [x] (ch :: rb)) (by simp) rfl
    rw [this]
noncomputable def minOf (row : List Int) : Int := row.foldl (fun m r => if r < m then r else m) 9223372036854775807
theorem minOf_from : ∀ (row : List Int) (m : Int), row.foldl (fun m r => if r < m then r else m) m ≤ m ∧ ∀ r ∈ row, row.foldl (fun m r => if r < m then r else m) m ≤ r
  | [], m => by simp
  | r :: row, m => by
    obtain ⟨h1, h2⟩ := minOf_from row (if r < m then r else m)
    rw [List.foldl_cons]
    have hz : (if r < m then r else m) ≤ m ∧ (if r < m then r else m) ≤ r := by split <;> omega
    refine ⟨Int.le_trans h1 hz.1, fun q hq => ?_⟩
    rcases List.mem_cons.mp hq with rfl | hq
    · exact Int.le_trans h1 hz.2
    · exact h2 q hq
theorem minOf_le {row : List Int} {r : Int} (h : r ∈ row) : minOf row ≤ r := (minOf_from row _).2 r h
noncomputable def dp (a : List Nat) (mx : Int) : List Nat → Int → List Int → Int → Int
  | [], _, _, res => res
  | c :: b, i, row, _ => if minOf (inner c a row (2 * i) (2 * i)) > mx then mx + 1 else dp a mx b (i + 1) (inner c a row (2 * i) (2 * i)) ((inner c a row (2 * i) (2 * i)).getLastD 0)
theorem rowOf_last (rb : List Nat) : ∀ (a pa : List Nat), a ≠ [] → (rowOf rb pa a).getLastD 0 = ed (a.reverse ++ pa) rb
  | [x], pa, _ => by simp [rowOf]
  | x :: y :: a, pa, _ => by
    have ih := rowOf_last rb (y :: a) (x :: pa) (by simp)
    rw [rowOf, rowOf, List.getLastD_cons, List.getLastD_cons]
    rw [rowOf, List.getLastD_cons] at ih
    rw [ih, List.reverse_cons, List.append_assoc, List.reverse_cons, List.append_assoc, List.reverse_cons]
    simp
theorem rowOf_has (rb : List Nat) : ∀ (a pa : List Nat) (l : Nat), l < a.length → ed ((a.reverse ++ pa).drop l) rb ∈ rowOf rb pa a
  | x :: a, pa, l, hl => by
    rw [rowOf]
    by_cases h : l = a.length
    · subst h
      rw [List.reverse_cons, List.append_assoc, List.drop_append_of_le_length (by simp), List.drop_of_length_le (by simp)]
      exact List.mem_cons_self ..
    · have hl' : l < a.length := by simp at hl; omega
      have := rowOf_has rb a (x :: pa) l hl'
      rw [List.reverse_cons, List.append_assoc]
      exact List.mem_cons_of_mem _ this
theorem dp_ed (a : List Nat) (ha : a ≠ []) (mx : Int) : ∀ (b rb : List Nat) (res : Int), (b = [] → res = ed a.reverse rb) →
    (dp a mx b rb.length (rowOf rb [] a) res = ed a.reverse (b.reverse ++ rb) ∨ dp a mx b rb.length (rowOf rb [] a) res = mx + 1) ∧
    (ed a.reverse (b.reverse ++ rb) ≤ mx → dp a mx b rb.length (rowOf rb [] a) res = ed a.reverse (b.reverse ++ rb))
  | [], rb, res, h => by
    rw [dp, h rfl]
    simp
  | c :: b, rb, res, _ => by
    have hrow := inner_row c rb a
    have hlast := rowOf_last (c :: rb) a [] ha
    rw [List.append_nil] at hlast
    have hlen : ((rb.length : Int) + 1) = (((c :: rb).length : Nat) : Int) := by simp
    rw [dp, hrow, hlast, hlen, List.reverse_cons, List.append_assoc]
    obtain ⟨i1, i2⟩ := dp_ed a ha mx b (c :: rb) (ed a.reverse (c :: rb)) (fun _ => rfl)
    rw [show [c] ++ rb = c :: rb from rfl]
    split
    · rename_i hgt
      refine ⟨.inr rfl, fun hle => ?_⟩
      exfalso
      obtain ⟨l, h1, h2⟩ := ed_pass a.reverse (b.reverse ++ c :: rb) b.length (by simp)
      rw [show (b.reverse ++ c :: rb).drop b.length = c :: rb by rw [List.drop_append_of_le_length (by simp), List.drop_of_length_le (by simp)]; rfl] at h2
      by_cases hl : l < a.length
      · have := minOf_le (rowOf_has (c :: rb) a [] l hl)
        rw [List.append_nil] at this
        omega
      · have hd : a.reverse.drop l = [] := List.drop_of_length_le (by simp; omega)
        rw [hd, ed_nil'] at h2
        cases a with
        | nil => exact ha rfl
        | cons x a =>
          have hm : ed [x] (c :: rb) ∈ rowOf (c :: rb) [] (x :: a) := by rw [rowOf]; exact List.mem_cons_self ..
          have := minOf_le hm
          have h3 : ed [x] (c :: rb) ≤ 2 * ((c :: rb).length : Int) := by
            have h4 := sc_le x c
            rw [ed_cons, ed_nil', ed_nil', List.length_cons]; omega
          omega
    · exact ⟨i1, i2⟩
end Mine
end
section
open PySem PySem.W PyProof.Rows
set_option Elab.async false
namespace Mine
/-! the law's own reading: told by pieces between pairs of quotes -/
noncomputable def quoted (l : List Nat) : Prop := ∃ k, l[k]? = some 34 ∧ l[k + 1]? = some 34
theorem told_free : ∀ (l : List Nat), (∀ k, ¬ (l[k]? = some 34 ∧ l[k + 1]? = some 34)) → told l = l.takeWhile (· ≠ 34)
  | [], _ => by simp [told]
  | [c], _ => by by_cases h : c = 34 <;> simp [told, h]
  | c :: d :: r, h => by
    by_cases hc : c = 34
    · subst hc
      have hd : d ≠ 34 := fun e => h 0 (by simp [e])
      rw [told_one (by simpa using hd)]; simp
    · rw [told_cons hc, told_free (d :: r) (fun k hk => h (k + 1) (by simpa using hk))]
      simp [hc]
theorem told_seg : ∀ (l : List Nat) (d : Nat), (∀ k < d, ¬ (l[k]? = some 34 ∧ l[k + 1]? = some 34)) → l[d]? = some 34 → l[d + 1]? = some 34 →
    told l = if 34 ∈ l.take d then (l.take d).takeWhile (· ≠ 34) else l.take d ++ 34 :: told (l.drop (d + 2))
  | [], d, _, h1, _ => by simp at h1
  | [c], d, _, _, h2 => by simp at h2
  | c :: e :: r, 0, _, h1, h2 => by
    have hc : c = 34 := by simpa using h1
    have he : e = 34 := by simpa using h2
    subst hc; subst he
    rw [told_quotes]; simp
  | c :: e :: r, d + 1, h, h1, h2 => by
    by_cases hc : c = 34
    · subst hc
      have he : e ≠ 34 := fun q => h 0 (by omega) (by simp [q])
      rw [told_one (by simpa using he)]; simp
    · have ih := told_seg (e :: r) d (fun k hk hh => h (k + 1) (by omega) (by simpa using hh)) (by simpa using h1) (by simpa using h2)
      rw [told_cons hc, ih, List.take_succ_cons]
      have hm : (34 ∈ c :: (e :: r).take d) ↔ 34 ∈ (e :: r).take d := by
        rw [List.mem_cons]; exact ⟨fun q => q.resolve_left (fun z => hc z.symm), .inr⟩
      by_cases hq : 34 ∈ (e :: r).take d
      · rw [if_pos hq, if_pos (hm.mpr hq)]; simp [hc]
      · rw [if_neg hq, if_neg (fun z => hq (hm.mp z)), List.drop_succ_cons]; rfl
noncomputable def toldP : List (List Nat) → List Nat
  | [] => []
  | [p] => p.takeWhile (· ≠ 34)
  | p :: rest => if 34 ∈ p then p.takeWhile (· ≠ 34) else p ++ 34 :: toldP rest
theorem toldP_cons (p : List Nat) {rest : List (List Nat)} (h : rest ≠ []) : toldP (p :: rest) = if 34 ∈ p then p.takeWhile (· ≠ 34) else p ++ 34 :: toldP rest := by
  cases rest with
  | nil => exact absurd rfl h
  | cons q r => rfl
noncomputable def qq : PySem.Str := ⟨#[34, 34]⟩
open Builtin Builtin.Str StrLaws in
theorem at_qq (x : PySem.Str) (i : Nat) : At x qq x.length i ↔ (cl x)[i]? = some 34 ∧ (cl x)[i + 1]? = some 34 := by
  have hlen : qq.length = 2 := rfl
  have hx : x.length = (cl x).length := cl_len x
  unfold At
  rw [subAt_eq, hlen, hx]
  show (i + 2 ≤ (cl x).length ∧ ((((cl x).drop i).take 2) == [34, 34]) = true) ↔ _
  rw [beq_iff_eq]
  constructor
  · rintro ⟨h1, h2⟩
    have g0 : (((cl x).drop i).take 2)[0]? = some 34 := by rw [h2]; rfl
    have g1 : (((cl x).drop i).take 2)[1]? = some 34 := by rw [h2]; rfl
    rw [List.getElem?_take_of_lt (by decide), List.getElem?_drop] at g0 g1
    exact ⟨g0, g1⟩
  · rintro ⟨h1, h2⟩
    obtain ⟨k1, e1⟩ := List.getElem?_eq_some_iff.mp h1
    obtain ⟨k2, e2⟩ := List.getElem?_eq_some_iff.mp h2
    refine ⟨by omega, ?_⟩
    rw [List.drop_eq_getElem_cons k1, List.drop_eq_getElem_cons k2, e1, e2]; rfl
open Builtin Builtin.Str StrLaws in
theorem told_parts (x : PySem.Str) : ∀ (cuts : List Nat) (a f : Nat), ChainG x qq x.length a cuts f → (∀ k, f ≤ k → ¬ At x qq x.length k) → told ((cl x).drop a) = toldP ((partsFrom x 2 a cuts).map cl)
  | [], a, f, h, hn => by
    have e : f = a := h
    subst e
    rw [partsFrom]
    show _ = (cl (strSub x f x.length)).takeWhile _
    have hs : cl (strSub x f x.length) = (cl x).drop f := by
      show (strSub x f x.length).cps.toList = _
      rw [strSub_toList]
      exact List.take_of_length_le (by rw [List.length_drop, cl_len]; exact Nat.le_refl _)
    rw [hs, told_free]
    intro k hk
    refine hn (f + k) (by omega) ((at_qq x _).mpr ?_)
    rw [List.getElem?_drop, List.getElem?_drop] at hk
    exact ⟨hk.1, by rw [show f + k + 1 = f + (k + 1) by omega]; exact hk.2⟩
  | d :: r, a, f, h, hn => by
    obtain ⟨h1, h2, h3, h4⟩ := h
    have ih := told_parts x r (d + 2) f h4 hn
    have hA := (at_qq x d).mp h2
    have hs : cl (strSub x a d) = ((cl x).drop a).take (d - a) := strSub_toList x a d
    obtain ⟨q, rs, hq⟩ := partsFrom_ne x 2 (d + 2) r
    rw [partsFrom, List.map_cons, toldP_cons _ (by rw [hq]; simp), hs, ← ih]
    have := told_seg ((cl x).drop a) (d - a) (fun k hk hh => by
      rw [List.getElem?_drop, List.getElem?_drop] at hh
      exact h3 (a + k) (by omega) (by omega) ((at_qq x _).mpr ⟨hh.1, by rw [show a + k + 1 = a + (k + 1) by omega]; exact hh.2⟩))
      (by rw [List.getElem?_drop, show a + (d - a) = d by omega]; exact hA.1) (by rw [List.getElem?_drop, show a + (d - a + 1) = d + 1 by omega]; exact hA.2)
    rw [this, List.drop_drop, show a + (d - a + 2) = d + 2 by omega]
open Builtin Builtin.Str StrLaws in
theorem told_split (x : PySem.Str) : told (cl x) = toldP ((Txt.split x qq).map cl) ∧ Txt.split x qq ≠ [] := by
  obtain ⟨f, hc, hn⟩ := occ_tight x qq (by decide)
  have one : occurrences x qq 0 x.length (x.length + 1) = [] → told (cl x) = toldP ([x].map cl) := by
    intro e
    rw [e] at hc
    have hf : f = 0 := hc
    subst hf
    show _ = (cl x).takeWhile _
    refine told_free _ fun k hk => hn k (Nat.zero_le _) ((at_qq x k).mpr hk)
  unfold Txt.split
  split
  · rename_i h
    refine ⟨one ?_, by simp⟩
    rw [Bool.or_eq_true, decide_eq_true_eq, decide_eq_true_eq] at h
    have hlt : x.length < 2 := by
      rcases h with h | h
      · exact h
      · exfalso
        have : Builtin.Str.strKind qq = 1 := by decide +kernel
        rw [this] at h
        unfold Builtin.Str.strKind at h
        split at h
        · omega
        · split at h <;> omega
    cases ho : occurrences x qq 0 x.length (x.length + 1) with
    | nil => rfl
    | cons d r =>
      rw [ho] at hc
      have := hc.2.1.1
      rw [show qq.length = 2 from rfl] at this
      omega
  · split
    · rename_i h
      exact ⟨one (by simpa using h), by simp⟩
    · rw [partsBetween_eq]
      have := told_parts x _ 0 f hc hn
      rw [List.drop_zero] at this
      refine ⟨this, ?_⟩
      obtain ⟨p, r, e⟩ := partsFrom_ne x qq.length 0 (occurrences x qq 0 x.length (x.length + 1))
      rw [e]; simp
theorem takeWhile_free : ∀ {l : List Nat}, 34 ∉ l → l.takeWhile (· ≠ 34) = l
  | [], _ => rfl
  | c :: l, h => by
    have hc : c ≠ 34 := fun e => h (e ▸ List.mem_cons_self ..)
    have ih := takeWhile_free (l := l) fun hm => h (List.mem_cons_of_mem _ hm)
    rw [List.takeWhile_cons, if_pos (by simpa using hc), ih]
open Builtin Builtin.Str StrLaws in
theorem head_split (p : PySem.Str) : ∃ q r, Txt.split p ⟨#[34]⟩ = q :: r ∧ cl q = (cl p).takeWhile (· ≠ 34) := by
  have hj := join_split p ⟨#[34]⟩
  have hf := split_free p 34
  cases hs : Txt.split p ⟨#[34]⟩ with
  | nil =>
    exfalso
    unfold Txt.split at hs
    split at hs
    · simp at hs
    · split at hs
      · simp at hs
      · rw [partsBetween_eq] at hs
        obtain ⟨q, r, e⟩ := partsFrom_ne p (⟨#[34]⟩ : PySem.Str).length 0 (occurrences p ⟨#[34]⟩ 0 p.length (p.length + 1))
        rw [e] at hs; simp at hs
  | cons q r =>
    refine ⟨q, r, rfl, ?_⟩
    rw [hs] at hj hf
    have hq : 34 ∉ cl q := hf q (List.mem_cons_self ..)
    have hall : (cl q).takeWhile (· ≠ 34) = cl q := takeWhile_free hq
    cases r with
    | nil =>
      have : p = q := hj.symm
      rw [this, hall]
    | cons y r =>
      have e : cl p = cl q ++ 34 :: cl (PySem.Str.join ⟨#[34]⟩ (y :: r)) := by
        rw [← hj]
        show cl (q ++ ⟨#[34]⟩ ++ PySem.Str.join ⟨#[34]⟩ (y :: r)) = _
        rw [cl_append, cl_append, List.append_assoc]; rfl
      rw [e, List.takeWhile_append_of_pos (by
        intro c hc
        have : c ≠ 34 := fun e => hq (e ▸ hc)
        simpa using this)]
      simp
/-- the pieces glued -/
theorem cl_join_cons (q y : PySem.Str) (r : List PySem.Str) : cl (PySem.Str.join ⟨#[34]⟩ (q :: y :: r)) = cl q ++ 34 :: cl (PySem.Str.join ⟨#[34]⟩ (y :: r)) := by
  show cl (q ++ ⟨#[34]⟩ ++ PySem.Str.join ⟨#[34]⟩ (y :: r)) = _
  rw [cl_append, cl_append, List.append_assoc]; rfl
theorem toldP_all : ∀ ps : List PySem.Str, ps ≠ [] → (∀ p ∈ ps, 34 ∉ cl p) → toldP (ps.map cl) = cl (PySem.Str.join ⟨#[34]⟩ ps)
  | [], h, _ => absurd rfl h
  | [p], _, h => takeWhile_free (h p (List.mem_cons_self ..))
  | p :: y :: r, _, h => by
    rw [cl_join_cons, ← toldP_all (y :: r) (by simp) (fun q hq => h q (List.mem_cons_of_mem _ hq)), List.map_cons, toldP_cons _ (by simp), if_neg (h p (List.mem_cons_self ..))]
theorem toldP_stop : ∀ (as : List PySem.Str) (p q : PySem.Str) (r : List PySem.Str), (∀ a ∈ as, 34 ∉ cl a) → 34 ∈ cl p → cl q = (cl p).takeWhile (· ≠ 34) →
    toldP ((as ++ p :: r).map cl) = cl (PySem.Str.join ⟨#[34]⟩ (as ++ [q]))
  | [], p, q, [], _, _, e => by show (cl p).takeWhile _ = cl q; rw [e]
  | [], p, q, y :: r, _, hp, e => by
    show toldP (cl p :: (y :: r).map cl) = cl q
    rw [toldP_cons _ (by simp), if_pos hp, e]
  | a :: as, p, q, r, h, hp, e => by
    have ih := toldP_stop as p q r (fun z hz => h z (List.mem_cons_of_mem _ hz)) hp e
    show toldP (cl a :: (as ++ p :: r).map cl) = cl (PySem.Str.join ⟨#[34]⟩ (a :: (as ++ [q])))
    rw [toldP_cons _ (by simp), if_neg (h a (List.mem_cons_self ..)), ih]
    cases as with
    | nil => rw [List.nil_append, cl_join_cons]
    | cons z as => rw [List.cons_append, cl_join_cons]
end Mine
end
section
open PySem PySem.W PyProof.Rows
set_option Elab.async false
set_option maxRecDepth 100000
namespace Mine
set_option maxHeartbeats 400000 in
theorem if_repl {prog : Program} {w : World} {A : Around} {E : Value → Shared → Prop} {s : Shared} {name : PySem.Str} {scope : Scope} {L a : Addr} {cd : Value} {h₀ : Heap} {m : PySem.Str → Option Value} {news : List (Addr × Obj)}
    {x c r : PySem.Str} {t : Tok} {k1 k2 k3 : Nat} {p1 p2 p3 p4 p5 p6 p7 p8 p9 p10 p11 : Pos} {Q : Flow → Shared → Prop}
    (F : Fr h₀ L s.heap m) (N : News h₀ L s.heap news) (hm : m (PySem.Str.ofString "text") = some (.str x t)) (hc1 : c.length = 1) (hcr : (c == r) = false)
    (hx : x.length ≤ 1048576) (hr : r.length ≤ 14)
    (h : ∀ t' h' tk', Fr h₀ L h' (fun y => if y = PySem.Str.ofString "text" then some (.str (Txt.replace x c r) t') else m y) → News h₀ L h' news → Q .next { s with heap := h', toks := tk' })
    (hk : scope.kind = .function := by rfl) (hl : (envOf name scope L a cd).kindOf (PySem.Str.ofString "text") = some .local := by rfl)
    {pl : Sem Bool}
    (he : PySem.eval (.Call (.Attribute (PySem.Expr.Name (PySem.Str.ofString "text") p6) (PySem.Str.ofString "replace") p7) [PySem.Expr.Constant (Const.str c) k2 p8, PySem.Expr.Constant (Const.str r) k3 p9] [] p10) (envOf name scope L a cd) = (do
      let ov ← PySem.eval (PySem.Expr.Name (PySem.Str.ofString "text") p6) (envOf name scope L a cd)
      standAt p7.atName
      let (f, first) ← holding [ov] (getMethod ov (PySem.Str.ofString "replace") pl)
      callWith p10 f first (backTo p10 (starEach [PySem.Expr.Constant (Const.str c) k2 p8, PySem.Expr.Constant (Const.str r) k3 p9] (envOf name scope L a cd))) []) := by rfl) :
    wpAny (model prog w) A (exec (Stmt.If (PySem.Expr.Compare (PySem.Expr.Constant (Const.str c) k1 p1) [CmpOp.In] [PySem.Expr.Name (PySem.Str.ofString "text") p2] p3)
      [Stmt.Assign [PySem.Expr.Name (PySem.Str.ofString "text") p4] (PySem.Expr.Call (PySem.Expr.Attribute (PySem.Expr.Name (PySem.Str.ofString "text") p6) (PySem.Str.ofString "replace") p7) [PySem.Expr.Constant (Const.str c) k2 p8, PySem.Expr.Constant (Const.str r) k3 p9] [] p10) p11] [] p5) (envOf name scope L a cd)) Q E s := by
  refine wpAny_If (wpAny_isTrue_Compare1 (wpAny_Constant_str (ld F hm (in_str (wpAny_truthy_bool ?_)) hk hl)))
  split
  · rename_i hc
    refine wpAny_execs_cons ?_
    refine wpAny_Assign_Name ?_
    refine MethodCall_ ?_ he
    refine ld F hm ?_ hk hl
    repeat' ((fail_if_success (with_reducible show wpAny _ _ (storeName _ _ _) _ _ _)); walk1)
    refine stN F N ?_ hk hl
    intro h' F' N'
    refine wpAny_execs_nil ?_
    exact h _ _ _ F' N'

  · rename_i hc
    refine wpAny_execs_nil ?_
    have e : Txt.replace x c r = x := replace_none hc1 (by simpa using hc)
    refine h t _ _ ?_ N
    rw [e]
    have : (fun y => if y = PySem.Str.ofString "text" then some (Value.str x t) else m y) = m := by
      funext y
      split
      · rename_i hy; rw [hy, hm]
      · rfl
    rw [this]
    exact F
end Mine
end
section
open PySem PySem.W PyProof.Rows
set_option Elab.async false
namespace Mine
theorem esc0 {x : PySem.Str} (h : x.length ≤ 100000) : (x).length ≤ 1048576 ∧ (Txt.replace (x) (PySem.Str.ofString "&") (PySem.Str.ofString "&amp;")).length ≤ 1048576 ∧ (Txt.replace (Txt.replace (x) (PySem.Str.ofString "&") (PySem.Str.ofString "&amp;")) (PySem.Str.ofString "<") (PySem.Str.ofString "&lt;")).length ≤ 1048576 ∧ Txt.replace (Txt.replace (Txt.replace (x) (PySem.Str.ofString "&") (PySem.Str.ofString "&amp;")) (PySem.Str.ofString "<") (PySem.Str.ofString "&lt;")) (PySem.Str.ofString ">") (PySem.Str.ofString "&gt;") = pageS 0 x := by
  have g0 : (x).length ≤ (Txt.replace (x) (PySem.Str.ofString "&") (PySem.Str.ofString "&amp;")).length := replace_grows (by decide +kernel) (by decide +kernel)
  have g1 : (Txt.replace (x) (PySem.Str.ofString "&") (PySem.Str.ofString "&amp;")).length ≤ (Txt.replace (Txt.replace (x) (PySem.Str.ofString "&") (PySem.Str.ofString "&amp;")) (PySem.Str.ofString "<") (PySem.Str.ofString "&lt;")).length := replace_grows (by decide +kernel) (by decide +kernel)
  have g2 : (Txt.replace (Txt.replace (x) (PySem.Str.ofString "&") (PySem.Str.ofString "&amp;")) (PySem.Str.ofString "<") (PySem.Str.ofString "&lt;")).length ≤ (Txt.replace (Txt.replace (Txt.replace (x) (PySem.Str.ofString "&") (PySem.Str.ofString "&amp;")) (PySem.Str.ofString "<") (PySem.Str.ofString "&lt;")) (PySem.Str.ofString ">") (PySem.Str.ofString "&gt;")).length := replace_grows (by decide +kernel) (by decide +kernel)
  have e : Txt.replace (Txt.replace (Txt.replace (x) (PySem.Str.ofString "&") (PySem.Str.ofString "&amp;")) (PySem.Str.ofString "<") (PySem.Str.ofString "&lt;")) (PySem.Str.ofString ">") (PySem.Str.ofString "&gt;") = pageS 0 x := by
    apply cl_inj
    rw [pageS, cl_mkS, ← page_run (by decide)]
    rw [cl_replace (k := 62) (by decide +kernel), show cl (PySem.Str.ofString "&gt;") = [38, 103, 116, 59] from by decide +kernel, cl_replace (k := 60) (by decide +kernel), show cl (PySem.Str.ofString "&lt;") = [38, 108, 116, 59] from by decide +kernel, cl_replace (k := 38) (by decide +kernel), show cl (PySem.Str.ofString "&amp;") = [38, 97, 109, 112, 59] from by decide +kernel]
    rfl
  have hl := pageS_len 0 x
  rw [← e] at hl
  refine ⟨by omega, by omega, by omega, e⟩
theorem esc1 {x : PySem.Str} (h : x.length ≤ 100000) : (x).length ≤ 1048576 ∧ (Txt.replace (x) (PySem.Str.ofString "&") (PySem.Str.ofString "&amp;")).length ≤ 1048576 ∧ (Txt.replace (Txt.replace (x) (PySem.Str.ofString "&") (PySem.Str.ofString "&amp;")) (PySem.Str.ofString "<") (PySem.Str.ofString "&lt;")).length ≤ 1048576 ∧ (Txt.replace (Txt.replace (Txt.replace (x) (PySem.Str.ofString "&") (PySem.Str.ofString "&amp;")) (PySem.Str.ofString "<") (PySem.Str.ofString "&lt;")) (PySem.Str.ofString ">") (PySem.Str.ofString "&gt;")).length ≤ 1048576 ∧ (Txt.replace (Txt.replace (Txt.replace (Txt.replace (x) (PySem.Str.ofString "&") (PySem.Str.ofString "&amp;")) (PySem.Str.ofString "<") (PySem.Str.ofString "&lt;")) (PySem.Str.ofString ">") (PySem.Str.ofString "&gt;")) (PySem.Str.ofString "\"") (PySem.Str.ofString "&quot;")).length ≤ 1048576 ∧ (Txt.replace (Txt.replace (Txt.replace (Txt.replace (Txt.replace (x) (PySem.Str.ofString "&") (PySem.Str.ofString "&amp;")) (PySem.Str.ofString "<") (PySem.Str.ofString "&lt;")) (PySem.Str.ofString ">") (PySem.Str.ofString "&gt;")) (PySem.Str.ofString "\"") (PySem.Str.ofString "&quot;")) (PySem.Str.ofString "\r") (PySem.Str.ofString "&#13;")).length ≤ 1048576 ∧ (Txt.replace (Txt.replace (Txt.replace (Txt.replace (Txt.replace (Txt.replace (x) (PySem.Str.ofString "&") (PySem.Str.ofString "&amp;")) (PySem.Str.ofString "<") (PySem.Str.ofString "&lt;")) (PySem.Str.ofString ">") (PySem.Str.ofString "&gt;")) (PySem.Str.ofString "\"") (PySem.Str.ofString "&quot;")) (PySem.Str.ofString "\r") (PySem.Str.ofString "&#13;")) (PySem.Str.ofString "\n") (PySem.Str.ofString "&#10;")).length ≤ 1048576 ∧ Txt.replace (Txt.replace (Txt.replace (Txt.replace (Txt.replace (Txt.replace (Txt.replace (x) (PySem.Str.ofString "&") (PySem.Str.ofString "&amp;")) (PySem.Str.ofString "<") (PySem.Str.ofString "&lt;")) (PySem.Str.ofString ">") (PySem.Str.ofString "&gt;")) (PySem.Str.ofString "\"") (PySem.Str.ofString "&quot;")) (PySem.Str.ofString "\r") (PySem.Str.ofString "&#13;")) (PySem.Str.ofString "\n") (PySem.Str.ofString "&#10;")) (PySem.Str.ofString "\t") (PySem.Str.ofString "&#09;") = pageS 1 x := by
  have g0 : (x).length ≤ (Txt.replace (x) (PySem.Str.ofString "&") (PySem.Str.ofString "&amp;")).length := replace_grows (by decide +kernel) (by decide +kernel)
  have g1 : (Txt.replace (x) (PySem.Str.ofString "&") (PySem.Str.ofString "&amp;")).length ≤ (Txt.replace (Txt.replace (x) (PySem.Str.ofString "&") (PySem.Str.ofString "&amp;")) (PySem.Str.ofString "<") (PySem.Str.ofString "&lt;")).length := replace_grows (by decide +kernel) (by decide +kernel)
  have g2 : (Txt.replace (Txt.replace (x) (PySem.Str.ofString "&") (PySem.Str.ofString "&amp;")) (PySem.Str.ofString "<") (PySem.Str.ofString "&lt;")).length ≤ (Txt.replace (Txt.replace (Txt.replace (x) (PySem.Str.ofString "&") (PySem.Str.ofString "&amp;")) (PySem.Str.ofString "<") (PySem.Str.ofString "&lt;")) (PySem.Str.ofString ">") (PySem.Str.ofString "&gt;")).length := replace_grows (by decide +kernel) (by decide +kernel)
  have g3 : (Txt.replace (Txt.replace (Txt.replace (x) (PySem.Str.ofString "&") (PySem.Str.ofString "&amp;")) (PySem.Str.ofString "<") (PySem.Str.ofString "&lt;")) (PySem.Str.ofString ">") (PySem.Str.ofString "&gt;")).length ≤ (Txt.replace (Txt.replace (Txt.replace (Txt.replace (x) (PySem.Str.ofString "&") (PySem.Str.ofString "&amp;")) (PySem.Str.ofString "<") (PySem.Str.ofString "&lt;")) (PySem.Str.ofString ">") (PySem.Str.ofString "&gt;")) (PySem.Str.ofString "\"") (PySem.Str.ofString "&quot;")).length := replace_grows (by decide +kernel) (by decide +kernel)
  have g4 : (Txt.replace (Txt.replace (Txt.replace (Txt.replace (x) (PySem.Str.ofString "&") (PySem.Str.ofString "&amp;")) (PySem.Str.ofString "<") (PySem.Str.ofString "&lt;")) (PySem.Str.ofString ">") (PySem.Str.ofString "&gt;")) (PySem.Str.ofString "\"") (PySem.Str.ofString "&quot;")).length ≤ (Txt.replace (Txt.replace (Txt.replace (Txt.replace (Txt.replace (x) (PySem.Str.ofString "&") (PySem.Str.ofString "&amp;")) (PySem.Str.ofString "<") (PySem.Str.ofString "&lt;")) (PySem.Str.ofString ">") (PySem.Str.ofString "&gt;")) (PySem.Str.ofString "\"") (PySem.Str.ofString "&quot;")) (PySem.Str.ofString "\r") (PySem.Str.ofString "&#13;")).length := replace_grows (by decide +kernel) (by decide +kernel)
  have g5 : (Txt.replace (Txt.replace (Txt.replace (Txt.replace (Txt.replace (x) (PySem.Str.ofString "&") (PySem.Str.ofString "&amp;")) (PySem.Str.ofString "<") (PySem.Str.ofString "&lt;")) (PySem.Str.ofString ">") (PySem.Str.ofString "&gt;")) (PySem.Str.ofString "\"") (PySem.Str.ofString "&quot;")) (PySem.Str.ofString "\r") (PySem.Str.ofString "&#13;")).length ≤ (Txt.replace (Txt.replace (Txt.replace (Txt.replace (Txt.replace (Txt.replace (x) (PySem.Str.ofString "&") (PySem.Str.ofString "&amp;")) (PySem.Str.ofString "<") (PySem.Str.ofString "&lt;")) (PySem.Str.ofString ">") (PySem.Str.ofString "&gt;")) (PySem.Str.ofString "\"") (PySem.Str.ofString "&quot;")) (PySem.Str.ofString "\r") (PySem.Str.ofString "&#13;")) (PySem.Str.ofString "\n") (PySem.Str.ofString "&#10;")).length := replace_grows (by decide +kernel) (by decide +kernel)
  have g6 : (Txt.replace (Txt.replace (Txt.replace (Txt.replace (Txt.replace (Txt.replace (x) (PySem.Str.ofString "&") (PySem.Str.ofString "&amp;")) (PySem.Str.ofString "<") (PySem.Str.ofString "&lt;")) (PySem.Str.ofString ">") (PySem.Str.ofString "&gt;")) (PySem.Str.ofString "\"") (PySem.Str.ofString "&quot;")) (PySem.Str.ofString "\r") (PySem.Str.ofString "&#13;")) (PySem.Str.ofString "\n") (PySem.Str.ofString "&#10;")).length ≤ (Txt.replace (Txt.replace (Txt.replace (Txt.replace (Txt.replace (Txt.replace (Txt.replace (x) (PySem.Str.ofString "&") (PySem.Str.ofString "&amp;")) (PySem.Str.ofString "<") (PySem.Str.ofString "&lt;")) (PySem.Str.ofString ">") (PySem.Str.ofString "&gt;")) (PySem.Str.ofString "\"") (PySem.Str.ofString "&quot;")) (PySem.Str.ofString "\r") (PySem.Str.ofString "&#13;")) (PySem.Str.ofString "\n") (PySem.Str.ofString "&#10;")) (PySem.Str.ofString "\t") (PySem.Str.ofString "&#09;")).length := replace_grows (by decide +kernel) (by decide +kernel)
  have e : Txt.replace (Txt.replace (Txt.replace (Txt.replace (Txt.replace (Txt.replace (Txt.replace (x) (PySem.Str.ofString "&") (PySem.Str.ofString "&amp;")) (PySem.Str.ofString "<") (PySem.Str.ofString "&lt;")) (PySem.Str.ofString ">") (PySem.Str.ofString "&gt;")) (PySem.Str.ofString "\"") (PySem.Str.ofString "&quot;")) (PySem.Str.ofString "\r") (PySem.Str.ofString "&#13;")) (PySem.Str.ofString "\n") (PySem.Str.ofString "&#10;")) (PySem.Str.ofString "\t") (PySem.Str.ofString "&#09;") = pageS 1 x := by
    apply cl_inj
    rw [pageS, cl_mkS, ← page_run (by decide)]
    rw [cl_replace (k := 9) (by decide +kernel), show cl (PySem.Str.ofString "&#09;") = [38, 35, 48, 57, 59] from by decide +kernel, cl_replace (k := 10) (by decide +kernel), show cl (PySem.Str.ofString "&#10;") = [38, 35, 49, 48, 59] from by decide +kernel, cl_replace (k := 13) (by decide +kernel), show cl (PySem.Str.ofString "&#13;") = [38, 35, 49, 51, 59] from by decide +kernel, cl_replace (k := 34) (by decide +kernel), show cl (PySem.Str.ofString "&quot;") = [38, 113, 117, 111, 116, 59] from by decide +kernel, cl_replace (k := 62) (by decide +kernel), show cl (PySem.Str.ofString "&gt;") = [38, 103, 116, 59] from by decide +kernel, cl_replace (k := 60) (by decide +kernel), show cl (PySem.Str.ofString "&lt;") = [38, 108, 116, 59] from by decide +kernel, cl_replace (k := 38) (by decide +kernel), show cl (PySem.Str.ofString "&amp;") = [38, 97, 109, 112, 59] from by decide +kernel]
    rfl
  have hl := pageS_len 1 x
  rw [← e] at hl
  refine ⟨by omega, by omega, by omega, by omega, by omega, by omega, by omega, e⟩
theorem esc2 {x : PySem.Str} (h : x.length ≤ 100000) : (x).length ≤ 1048576 ∧ (Txt.replace (x) (PySem.Str.ofString "&") (PySem.Str.ofString "&amp;")).length ≤ 1048576 ∧ (Txt.replace (Txt.replace (x) (PySem.Str.ofString "&") (PySem.Str.ofString "&amp;")) (PySem.Str.ofString ">") (PySem.Str.ofString "&gt;")).length ≤ 1048576 ∧ Txt.replace (Txt.replace (Txt.replace (x) (PySem.Str.ofString "&") (PySem.Str.ofString "&amp;")) (PySem.Str.ofString ">") (PySem.Str.ofString "&gt;")) (PySem.Str.ofString "\"") (PySem.Str.ofString "&quot;") = pageS 2 x := by
  have g0 : (x).length ≤ (Txt.replace (x) (PySem.Str.ofString "&") (PySem.Str.ofString "&amp;")).length := replace_grows (by decide +kernel) (by decide +kernel)
  have g1 : (Txt.replace (x) (PySem.Str.ofString "&") (PySem.Str.ofString "&amp;")).length ≤ (Txt.replace (Txt.replace (x) (PySem.Str.ofString "&") (PySem.Str.ofString "&amp;")) (PySem.Str.ofString ">") (PySem.Str.ofString "&gt;")).length := replace_grows (by decide +kernel) (by decide +kernel)
  have g2 : (Txt.replace (Txt.replace (x) (PySem.Str.ofString "&") (PySem.Str.ofString "&amp;")) (PySem.Str.ofString ">") (PySem.Str.ofString "&gt;")).length ≤ (Txt.replace (Txt.replace (Txt.replace (x) (PySem.Str.ofString "&") (PySem.Str.ofString "&amp;")) (PySem.Str.ofString ">") (PySem.Str.ofString "&gt;")) (PySem.Str.ofString "\"") (PySem.Str.ofString "&quot;")).length := replace_grows (by decide +kernel) (by decide +kernel)
  have e : Txt.replace (Txt.replace (Txt.replace (x) (PySem.Str.ofString "&") (PySem.Str.ofString "&amp;")) (PySem.Str.ofString ">") (PySem.Str.ofString "&gt;")) (PySem.Str.ofString "\"") (PySem.Str.ofString "&quot;") = pageS 2 x := by
    apply cl_inj
    rw [pageS, cl_mkS, ← page_run (by decide)]
    rw [cl_replace (k := 34) (by decide +kernel), show cl (PySem.Str.ofString "&quot;") = [38, 113, 117, 111, 116, 59] from by decide +kernel, cl_replace (k := 62) (by decide +kernel), show cl (PySem.Str.ofString "&gt;") = [38, 103, 116, 59] from by decide +kernel, cl_replace (k := 38) (by decide +kernel), show cl (PySem.Str.ofString "&amp;") = [38, 97, 109, 112, 59] from by decide +kernel]
    rfl
  have hl := pageS_len 2 x
  rw [← e] at hl
  refine ⟨by omega, by omega, by omega, e⟩
theorem esc3 {x : PySem.Str} (h : x.length ≤ 100000) : (x).length ≤ 1048576 ∧ (Txt.replace (x) (PySem.Str.ofString "&") (PySem.Str.ofString "&amp;")).length ≤ 1048576 ∧ (Txt.replace (Txt.replace (x) (PySem.Str.ofString "&") (PySem.Str.ofString "&amp;")) (PySem.Str.ofString "<") (PySem.Str.ofString "&lt;")).length ≤ 1048576 ∧ (Txt.replace (Txt.replace (Txt.replace (x) (PySem.Str.ofString "&") (PySem.Str.ofString "&amp;")) (PySem.Str.ofString "<") (PySem.Str.ofString "&lt;")) (PySem.Str.ofString ">") (PySem.Str.ofString "&gt;")).length ≤ 1048576 ∧ Txt.replace (Txt.replace (Txt.replace (Txt.replace (x) (PySem.Str.ofString "&") (PySem.Str.ofString "&amp;")) (PySem.Str.ofString "<") (PySem.Str.ofString "&lt;")) (PySem.Str.ofString ">") (PySem.Str.ofString "&gt;")) (PySem.Str.ofString "\r") (PySem.Str.ofString "&#xD;") = pageS 3 x := by
  have g0 : (x).length ≤ (Txt.replace (x) (PySem.Str.ofString "&") (PySem.Str.ofString "&amp;")).length := replace_grows (by decide +kernel) (by decide +kernel)
  have g1 : (Txt.replace (x) (PySem.Str.ofString "&") (PySem.Str.ofString "&amp;")).length ≤ (Txt.replace (Txt.replace (x) (PySem.Str.ofString "&") (PySem.Str.ofString "&amp;")) (PySem.Str.ofString "<") (PySem.Str.ofString "&lt;")).length := replace_grows (by decide +kernel) (by decide +kernel)
  have g2 : (Txt.replace (Txt.replace (x) (PySem.Str.ofString "&") (PySem.Str.ofString "&amp;")) (PySem.Str.ofString "<") (PySem.Str.ofString "&lt;")).length ≤ (Txt.replace (Txt.replace (Txt.replace (x) (PySem.Str.ofString "&") (PySem.Str.ofString "&amp;")) (PySem.Str.ofString "<") (PySem.Str.ofString "&lt;")) (PySem.Str.ofString ">") (PySem.Str.ofString "&gt;")).length := replace_grows (by decide +kernel) (by decide +kernel)
  have g3 : (Txt.replace (Txt.replace (Txt.replace (x) (PySem.Str.ofString "&") (PySem.Str.ofString "&amp;")) (PySem.Str.ofString "<") (PySem.Str.ofString "&lt;")) (PySem.Str.ofString ">") (PySem.Str.ofString "&gt;")).length ≤ (Txt.replace (Txt.replace (Txt.replace (Txt.replace (x) (PySem.Str.ofString "&") (PySem.Str.ofString "&amp;")) (PySem.Str.ofString "<") (PySem.Str.ofString "&lt;")) (PySem.Str.ofString ">") (PySem.Str.ofString "&gt;")) (PySem.Str.ofString "\r") (PySem.Str.ofString "&#xD;")).length := replace_grows (by decide +kernel) (by decide +kernel)
  have e : Txt.replace (Txt.replace (Txt.replace (Txt.replace (x) (PySem.Str.ofString "&") (PySem.Str.ofString "&amp;")) (PySem.Str.ofString "<") (PySem.Str.ofString "&lt;")) (PySem.Str.ofString ">") (PySem.Str.ofString "&gt;")) (PySem.Str.ofString "\r") (PySem.Str.ofString "&#xD;") = pageS 3 x := by
    apply cl_inj
    rw [pageS, cl_mkS, ← page_run (by decide)]
    rw [cl_replace (k := 13) (by decide +kernel), show cl (PySem.Str.ofString "&#xD;") = [38, 35, 120, 68, 59] from by decide +kernel, cl_replace (k := 62) (by decide +kernel), show cl (PySem.Str.ofString "&gt;") = [38, 103, 116, 59] from by decide +kernel, cl_replace (k := 60) (by decide +kernel), show cl (PySem.Str.ofString "&lt;") = [38, 108, 116, 59] from by decide +kernel, cl_replace (k := 38) (by decide +kernel), show cl (PySem.Str.ofString "&amp;") = [38, 97, 109, 112, 59] from by decide +kernel]
    rfl
  have hl := pageS_len 3 x
  rw [← e] at hl
  refine ⟨by omega, by omega, by omega, by omega, e⟩
theorem esc4 {x : PySem.Str} (h : x.length ≤ 100000) : (x).length ≤ 1048576 ∧ (Txt.replace (x) (PySem.Str.ofString "&") (PySem.Str.ofString "&amp;")).length ≤ 1048576 ∧ (Txt.replace (Txt.replace (x) (PySem.Str.ofString "&") (PySem.Str.ofString "&amp;")) (PySem.Str.ofString "<") (PySem.Str.ofString "&lt;")).length ≤ 1048576 ∧ (Txt.replace (Txt.replace (Txt.replace (x) (PySem.Str.ofString "&") (PySem.Str.ofString "&amp;")) (PySem.Str.ofString "<") (PySem.Str.ofString "&lt;")) (PySem.Str.ofString "\"") (PySem.Str.ofString "&quot;")).length ≤ 1048576 ∧ (Txt.replace (Txt.replace (Txt.replace (Txt.replace (x) (PySem.Str.ofString "&") (PySem.Str.ofString "&amp;")) (PySem.Str.ofString "<") (PySem.Str.ofString "&lt;")) (PySem.Str.ofString "\"") (PySem.Str.ofString "&quot;")) (PySem.Str.ofString "\t") (PySem.Str.ofString "&#x9;")).length ≤ 1048576 ∧ (Txt.replace (Txt.replace (Txt.replace (Txt.replace (Txt.replace (x) (PySem.Str.ofString "&") (PySem.Str.ofString "&amp;")) (PySem.Str.ofString "<") (PySem.Str.ofString "&lt;")) (PySem.Str.ofString "\"") (PySem.Str.ofString "&quot;")) (PySem.Str.ofString "\t") (PySem.Str.ofString "&#x9;")) (PySem.Str.ofString "\n") (PySem.Str.ofString "&#xA;")).length ≤ 1048576 ∧ Txt.replace (Txt.replace (Txt.replace (Txt.replace (Txt.replace (Txt.replace (x) (PySem.Str.ofString "&") (PySem.Str.ofString "&amp;")) (PySem.Str.ofString "<") (PySem.Str.ofString "&lt;")) (PySem.Str.ofString "\"") (PySem.Str.ofString "&quot;")) (PySem.Str.ofString "\t") (PySem.Str.ofString "&#x9;")) (PySem.Str.ofString "\n") (PySem.Str.ofString "&#xA;")) (PySem.Str.ofString "\r") (PySem.Str.ofString "&#xD;") = pageS 4 x := by
  have g0 : (x).length ≤ (Txt.replace (x) (PySem.Str.ofString "&") (PySem.Str.ofString "&amp;")).length := replace_grows (by decide +kernel) (by decide +kernel)
  have g1 : (Txt.replace (x) (PySem.Str.ofString "&") (PySem.Str.ofString "&amp;")).length ≤ (Txt.replace (Txt.replace (x) (PySem.Str.ofString "&") (PySem.Str.ofString "&amp;")) (PySem.Str.ofString "<") (PySem.Str.ofString "&lt;")).length := replace_grows (by decide +kernel) (by decide +kernel)
  have g2 : (Txt.replace (Txt.replace (x) (PySem.Str.ofString "&") (PySem.Str.ofString "&amp;")) (PySem.Str.ofString "<") (PySem.Str.ofString "&lt;")).length ≤ (Txt.replace (Txt.replace (Txt.replace (x) (PySem.Str.ofString "&") (PySem.Str.ofString "&amp;")) (PySem.Str.ofString "<") (PySem.Str.ofString "&lt;")) (PySem.Str.ofString "\"") (PySem.Str.ofString "&quot;")).length := replace_grows (by decide +kernel) (by decide +kernel)
  have g3 : (Txt.replace (Txt.replace (Txt.replace (x) (PySem.Str.ofString "&") (PySem.Str.ofString "&amp;")) (PySem.Str.ofString "<") (PySem.Str.ofString "&lt;")) (PySem.Str.ofString "\"") (PySem.Str.ofString "&quot;")).length ≤ (Txt.replace (Txt.replace (Txt.replace (Txt.replace (x) (PySem.Str.ofString "&") (PySem.Str.ofString "&amp;")) (PySem.Str.ofString "<") (PySem.Str.ofString "&lt;")) (PySem.Str.ofString "\"") (PySem.Str.ofString "&quot;")) (PySem.Str.ofString "\t") (PySem.Str.ofString "&#x9;")).length := replace_grows (by decide +kernel) (by decide +kernel)
  have g4 : (Txt.replace (Txt.replace (Txt.replace (Txt.replace (x) (PySem.Str.ofString "&") (PySem.Str.ofString "&amp;")) (PySem.Str.ofString "<") (PySem.Str.ofString "&lt;")) (PySem.Str.ofString "\"") (PySem.Str.ofString "&quot;")) (PySem.Str.ofString "\t") (PySem.Str.ofString "&#x9;")).length ≤ (Txt.replace (Txt.replace (Txt.replace (Txt.replace (Txt.replace (x) (PySem.Str.ofString "&") (PySem.Str.ofString "&amp;")) (PySem.Str.ofString "<") (PySem.Str.ofString "&lt;")) (PySem.Str.ofString "\"") (PySem.Str.ofString "&quot;")) (PySem.Str.ofString "\t") (PySem.Str.ofString "&#x9;")) (PySem.Str.ofString "\n") (PySem.Str.ofString "&#xA;")).length := replace_grows (by decide +kernel) (by decide +kernel)
  have g5 : (Txt.replace (Txt.replace (Txt.replace (Txt.replace (Txt.replace (x) (PySem.Str.ofString "&") (PySem.Str.ofString "&amp;")) (PySem.Str.ofString "<") (PySem.Str.ofString "&lt;")) (PySem.Str.ofString "\"") (PySem.Str.ofString "&quot;")) (PySem.Str.ofString "\t") (PySem.Str.ofString "&#x9;")) (PySem.Str.ofString "\n") (PySem.Str.ofString "&#xA;")).length ≤ (Txt.replace (Txt.replace (Txt.replace (Txt.replace (Txt.replace (Txt.replace (x) (PySem.Str.ofString "&") (PySem.Str.ofString "&amp;")) (PySem.Str.ofString "<") (PySem.Str.ofString "&lt;")) (PySem.Str.ofString "\"") (PySem.Str.ofString "&quot;")) (PySem.Str.ofString "\t") (PySem.Str.ofString "&#x9;")) (PySem.Str.ofString "\n") (PySem.Str.ofString "&#xA;")) (PySem.Str.ofString "\r") (PySem.Str.ofString "&#xD;")).length := replace_grows (by decide +kernel) (by decide +kernel)
  have e : Txt.replace (Txt.replace (Txt.replace (Txt.replace (Txt.replace (Txt.replace (x) (PySem.Str.ofString "&") (PySem.Str.ofString "&amp;")) (PySem.Str.ofString "<") (PySem.Str.ofString "&lt;")) (PySem.Str.ofString "\"") (PySem.Str.ofString "&quot;")) (PySem.Str.ofString "\t") (PySem.Str.ofString "&#x9;")) (PySem.Str.ofString "\n") (PySem.Str.ofString "&#xA;")) (PySem.Str.ofString "\r") (PySem.Str.ofString "&#xD;") = pageS 4 x := by
    apply cl_inj
    rw [pageS, cl_mkS, ← page_run (by decide)]
    rw [cl_replace (k := 13) (by decide +kernel), show cl (PySem.Str.ofString "&#xD;") = [38, 35, 120, 68, 59] from by decide +kernel, cl_replace (k := 10) (by decide +kernel), show cl (PySem.Str.ofString "&#xA;") = [38, 35, 120, 65, 59] from by decide +kernel, cl_replace (k := 9) (by decide +kernel), show cl (PySem.Str.ofString "&#x9;") = [38, 35, 120, 57, 59] from by decide +kernel, cl_replace (k := 34) (by decide +kernel), show cl (PySem.Str.ofString "&quot;") = [38, 113, 117, 111, 116, 59] from by decide +kernel, cl_replace (k := 60) (by decide +kernel), show cl (PySem.Str.ofString "&lt;") = [38, 108, 116, 59] from by decide +kernel, cl_replace (k := 38) (by decide +kernel), show cl (PySem.Str.ofString "&amp;") = [38, 97, 109, 112, 59] from by decide +kernel]
    rfl
  have hl := pageS_len 4 x
  rw [← e] at hl
  refine ⟨by omega, by omega, by omega, by omega, by omega, by omega, e⟩
end Mine
end
section
open PySem PySem.W PyProof.Rows
set_option Elab.async false
namespace Mine
noncomputable def JoinEnd (R : Shared → Prop) (f : Flow) (s' : Shared) : Prop := f = .next ∧ R s'
theorem JoinEnd.intro {R : Shared → Prop} {s' : Shared} (h : R s') : JoinEnd R .next s' := ⟨rfl, h⟩
theorem stmt_join {M : Model} {A : Around} {E : Value → Shared → Prop} {s : Shared} {env : Env} {st : Stmt} {Q : Flow → Shared → Prop} (R : Shared → Prop)
    (h : wpAny M A (PySem.exec st env) (JoinEnd R) E s) (k : ∀ s', R s' → Q .next s') : wpAny M A (PySem.exec st env) Q E s :=
  wpAny_mono h (fun f s' r => by obtain ⟨e, r⟩ := r; subst e; exact k s' r) (fun _ _ x => x)
theorem stmt_joinO {M : Model} {A : Around} {E : Value → Shared → Prop} {s : Shared} {env : Env} {st : Stmt} {Q : Flow → Shared → Prop} (R : Shared → Prop)
    (h : ∀ R' : Shared → Prop, (∀ s', R s' → R' s') → wpAny M A (PySem.exec st env) (JoinEnd R') E s) (k : ∀ s', R s' → Q .next s') : wpAny M A (PySem.exec st env) Q E s :=
  stmt_join R (h R fun _ x => x) k
theorem fr_norm {h₀ h : Heap} {L : Addr} {m : PySem.Str → Option Value} {ps : List (PySem.Str × Value)} (F : Fr h₀ L h m) (hk : ∀ p ∈ ps, m p.1 = some p.2) : Fr h₀ L h (kstB m ps) := by
  have : kstB m ps = m := by
    funext z
    exact kstB_eq hk fun _ => rfl
  rw [this]; exact F

/-! what is stripped ahead and behind -/
noncomputable def dropPre : List Nat → List Nat → List Nat × List Nat
  | x :: a, y :: b => if x = y then dropPre a b else (x :: a, y :: b)
  | a, b => (a, b)
theorem dropPre_nil (b : List Nat) : dropPre [] b = ([], b) := by simp [dropPre]
theorem dropPre_nil' (a : List Nat) : dropPre a [] = (a, []) := by cases a <;> simp [dropPre]
theorem dropPre_ne {x y : Nat} (h : x ≠ y) (a b : List Nat) : dropPre (x :: a) (y :: b) = (x :: a, y :: b) := by simp [dropPre, h]
theorem dropPre_eq (x : Nat) (a b : List Nat) : dropPre (x :: a) (x :: b) = dropPre a b := by simp [dropPre]
noncomputable def dropSuf (a b : List Nat) : List Nat × List Nat := ((dropPre a.reverse b.reverse).1.reverse, (dropPre a.reverse b.reverse).2.reverse)
theorem dropSuf_nil (b : List Nat) : dropSuf [] b = ([], b) := by simp [dropSuf, dropPre_nil]
theorem dropSuf_nil' (a : List Nat) : dropSuf a [] = (a, []) := by simp [dropSuf, dropPre_nil']
theorem dropSuf_ne {x y : Nat} (h : x ≠ y) (a b : List Nat) : dropSuf (a ++ [x]) (b ++ [y]) = (a ++ [x], b ++ [y]) := by simp [dropSuf, dropPre_ne h]
theorem dropSuf_eq (x : Nat) (a b : List Nat) : dropSuf (a ++ [x]) (b ++ [x]) = dropSuf a b := by simp [dropSuf, dropPre_eq]

/-! the first while -/
abbrev LPre (a b : PySem.Str) (p : Int) : Prop := 0 ≤ p ∧ p ≤ (a.length : Int) ∧ p ≤ (b.length : Int) ∧ dropPre (cl a) (cl b) = dropPre ((cl a).drop p.toNat) ((cl b).drop p.toNat)
theorem lpre_start (a b : PySem.Str) : LPre a b 0 := by
  refine ⟨by omega, by omega, by omega, ?_⟩
  simp
theorem lpre_turn {a b : PySem.Str} {p : Int} (h : LPre a b p) (ha : p < (a.length : Int)) (hb : p < (b.length : Int)) (he : (Txt.item a p == Txt.item b p) = true) : LPre a b (p + 1) := by
  obtain ⟨h0, h1, h2, h3⟩ := h
  obtain ⟨c, e1, d1⟩ := item_drop a (i := p) h0 (by rw [← cl_len]; exact ha)
  obtain ⟨d, e2, d2⟩ := item_drop b (i := p) h0 (by rw [← cl_len]; exact hb)
  rw [beq_cl, e1, e2] at he
  have : c = d := by simpa using he
  subst this
  refine ⟨by omega, by omega, by omega, ?_⟩
  rw [h3, d1, d2, dropPre_eq]
theorem lpre_end1 {a b : PySem.Str} {p : Int} (h : LPre a b p) (ha : ¬ p < (a.length : Int)) : dropPre (cl a) (cl b) = ((cl a).drop p.toNat, (cl b).drop p.toNat) := by
  obtain ⟨h0, h1, h2, h3⟩ := h
  rw [h3, List.drop_eq_nil_of_le (as := cl a) (by rw [← cl_len]; omega), dropPre_nil]
theorem lpre_end2 {a b : PySem.Str} {p : Int} (h : LPre a b p) (ha : ¬ p < (b.length : Int)) : dropPre (cl a) (cl b) = ((cl a).drop p.toNat, (cl b).drop p.toNat) := by
  obtain ⟨h0, h1, h2, h3⟩ := h
  rw [h3, List.drop_eq_nil_of_le (as := cl b) (by rw [← cl_len]; omega), dropPre_nil']
theorem lpre_end3 {a b : PySem.Str} {p : Int} (h : LPre a b p) (ha : p < (a.length : Int)) (hb : p < (b.length : Int)) (he : (Txt.item a p == Txt.item b p) = false) : dropPre (cl a) (cl b) = ((cl a).drop p.toNat, (cl b).drop p.toNat) := by
  obtain ⟨h0, h1, h2, h3⟩ := h
  obtain ⟨c, e1, d1⟩ := item_drop a (i := p) h0 (by rw [← cl_len]; exact ha)
  obtain ⟨d, e2, d2⟩ := item_drop b (i := p) h0 (by rw [← cl_len]; exact hb)
  rw [beq_cl, e1, e2] at he
  have : c ≠ d := by simpa using he
  rw [h3, d1, d2, dropPre_ne this]
end Mine
end
section
open PySem PySem.W PyProof.Rows
set_option Elab.async false
namespace Mine
noncomputable def cut (a : PySem.Str) (q : Int) : PySem.Str := mkS ((cl a).take ((cl a).length - (-q).toNat))
theorem cut_len {a : PySem.Str} {q : Int} (h0 : q ≤ 0) (h1 : -q ≤ (a.length : Int)) : ((cut a q).length : Int) = (a.length : Int) + q := by
  rw [cl_len, cl_len] at *
  rw [cut, cl_mkS, List.length_take]; omega
theorem cut_zero (a : PySem.Str) : Txt.slice a none none = cut a 0 := by
  rw [slice_all]; apply cl_inj; rw [cut, cl_mkS]; simp
theorem cut_neg {a : PySem.Str} {q : Int} (h0 : q < 0) (h1 : -q ≤ (a.length : Int)) : Txt.slice a none (some q) = cut a q := by
  apply cl_inj; rw [slice_neg a h0 (by rw [← cl_len]; omega), cut, cl_mkS]
set_option maxRecDepth 100000
set_option maxHeartbeats 400000 in
theorem cut_expr {prog : Program} {w : World} {A : Around} {E : Value → Shared → Prop} {s : Shared} {name : PySem.Str} {scope : Scope} {L ad : Addr} {cd : Value} {h₀ : Heap} {m : PySem.Str → Option Value} {news : List (Addr × Obj)}
    {x y a : PySem.Str} {q : Int} {t u : Tok} {k1 : Nat} {p1 p2 p3 p4 p5 p6 : Pos} {Q : Value → Shared → Prop}
    (F : Fr h₀ L s.heap m) (N : News h₀ L s.heap news) (hx : m x = some (.str a t)) (hy : m y = some (.int q u)) (hq : q ≤ 0) (hqa : -q ≤ (a.length : Int)) (ha : a.length ≤ 100000)
    (h : ∀ t' h' tk', Fr h₀ L h' m → News h₀ L h' news → ((cut a q).length : Int) = (a.length : Int) + q → Q (.str (cut a q) t') { s with heap := h', toks := tk' })
    (hk : scope.kind = .function := by rfl) (hl : (envOf name scope L ad cd).kindOf x = some .local := by rfl) (hl2 : (envOf name scope L ad cd).kindOf y = some .local := by rfl)
    (hd : (x == ("__debug__" : PySem.Str)) = false := by decide) (hd2 : (y == ("__debug__" : PySem.Str)) = false := by decide) :
    wpAny (model prog w) A (PySem.eval (PySem.Expr.Subscript (PySem.Expr.Name x p1) (PySem.Expr.Slice none (some (PySem.Expr.BoolOp BoolOp.Or [PySem.Expr.Name y p2, PySem.Expr.Constant Const.none k1 p3] p4)) none p5) p6) (envOf name scope L ad cd)) Q E s := by
  walk1
  refine ld F hx ?_ hk hl hd
  repeat' ((fail_if_success (with_reducible show wpAny _ _ (PySem.eval (PySem.Expr.Name _ _) _) _ _ _)); walk1)
  refine ld F hy ?_ hk hl2 hd2
  have hsz : a.length ≤ sizeLine := by rw [sizeLine_eq]; omega
  repeat' ((fail_if_success (with_reducible show wpAny _ _ (subscriptTail _ _ _ _) _ _ _)); walk1)
  · rename_i hne
    refine slice_strN_ns F N (fun h' t' k F' N' => ?_) (hsz := hsz)
    have hneg : q < 0 := by omega
    rw [cut_neg hneg hqa]
    exact h _ _ _ F' N' (cut_len hq hqa)
  · rename_i he
    refine slice_strN_nn F N (fun h' t' k F' N' => ?_) (hsz := hsz)
    rw [cut_zero]
    subst he
    exact h _ _ _ F' N' (cut_len hq hqa)
/-! the second while -/
abbrev LSuf (a b : PySem.Str) (q : Int) : Prop := q ≤ 0 ∧ -q ≤ (a.length : Int) ∧ -q ≤ (b.length : Int) ∧ dropSuf (cl a) (cl b) = dropSuf (cl (cut a q)) (cl (cut b q))
theorem lsuf_start (a b : PySem.Str) : LSuf a b 0 := by
  refine ⟨by omega, by omega, by omega, ?_⟩
  rw [← cut_zero, ← cut_zero, slice_all, slice_all]
theorem cut_snoc {a : PySem.Str} {q : Int} (h0 : q ≤ 0) (ha : -q < (a.length : Int)) : ∃ c, cl (Txt.item a (q - 1)) = [c] ∧ cl (cut a q) = cl (cut a (q - 1)) ++ [c] := by
  rw [cl_len] at ha
  obtain ⟨c, hc, e⟩ := item_neg a (i := q - 1) (by omega) (by omega)
  refine ⟨c, e, ?_⟩
  rw [cut, cut, cl_mkS, cl_mkS]
  have e1 : (cl a).length - (-q).toNat = (cl a).length - (-(q - 1)).toNat + 1 := by omega
  rw [e1, List.take_add_one, hc]; rfl
theorem lsuf_turn {a b : PySem.Str} {q : Int} (h : LSuf a b q) (ha : -q < (a.length : Int)) (hb : -q < (b.length : Int)) (he : (Txt.item a (q - 1) == Txt.item b (q - 1)) = true) : LSuf a b (q - 1) := by
  obtain ⟨h0, h1, h2, h3⟩ := h
  obtain ⟨c, e1, d1⟩ := cut_snoc h0 ha
  obtain ⟨d, e2, d2⟩ := cut_snoc h0 hb
  rw [beq_cl, e1, e2] at he
  have : c = d := by simpa using he
  subst this
  refine ⟨by omega, by omega, by omega, ?_⟩
  rw [h3, d1, d2, dropSuf_eq]
theorem cut_nil {a : PySem.Str} {q : Int} (h : ¬ -q < (a.length : Int)) : cl (cut a q) = [] := by
  rw [cl_len] at h
  rw [cut, cl_mkS]
  apply List.eq_nil_of_length_eq_zero
  rw [List.length_take]; omega
theorem lsuf_end1 {a b : PySem.Str} {q : Int} (h : LSuf a b q) (ha : ¬ -q < (a.length : Int)) : dropSuf (cl a) (cl b) = (cl (cut a q), cl (cut b q)) := by
  obtain ⟨h0, h1, h2, h3⟩ := h
  rw [h3, cut_nil ha, dropSuf_nil]
theorem lsuf_end2 {a b : PySem.Str} {q : Int} (h : LSuf a b q) (ha : ¬ -q < (b.length : Int)) : dropSuf (cl a) (cl b) = (cl (cut a q), cl (cut b q)) := by
  obtain ⟨h0, h1, h2, h3⟩ := h
  rw [h3, cut_nil ha, dropSuf_nil']
theorem lsuf_end3 {a b : PySem.Str} {q : Int} (h : LSuf a b q) (ha : -q < (a.length : Int)) (hb : -q < (b.length : Int)) (he : (Txt.item a (q - 1) == Txt.item b (q - 1)) = false) : dropSuf (cl a) (cl b) = (cl (cut a q), cl (cut b q)) := by
  obtain ⟨h0, h1, h2, h3⟩ := h
  obtain ⟨c, e1, d1⟩ := cut_snoc h0 ha
  obtain ⟨d, e2, d2⟩ := cut_snoc h0 hb
  rw [beq_cl, e1, e2] at he
  have : c ≠ d := by simpa using he
  rw [h3, d1, d2, dropSuf_ne this]
end Mine
end
section
open PySem PySem.W PyProof.Rows PyProof.V
set_option Elab.async false
set_option maxRecDepth 100000
namespace Mine
/-! what the distance tells, as a plain function -/
noncomputable def levH (a b : List Nat) (mx : Int) : Int := if (b.length - a.length : Int) * 2 > mx then mx + 1 else dp a mx b 0 (rowOf [] [] a) 0
noncomputable def levG (a b : List Nat) (mx : Int) : Int :=
  if a.length = 0 ∨ b.length = 0 then 2 * (a.length + b.length : Int)
  else if 40 < a.length ∨ 40 < b.length then mx + 1
  else if b.length < a.length then levH b a mx else levH a b mx
noncomputable def levF (a b : List Nat) (mx : Int) : Int :=
  if a = b then 0 else levG (dropSuf (dropPre a b).1 (dropPre a b).2).1 (dropSuf (dropPre a b).1 (dropPre a b).2).2 mx
theorem levF_same {a b : PySem.Str} {mx : Int} (h : (a == b) = true) : 0 = levF (cl a) (cl b) mx := by
  rw [beq_cl] at h
  rw [levF, if_pos (of_decide_eq_true h)]
theorem levF_ne {a b a1 b1 : PySem.Str} {q mx : Int} (h : (a == b) = false) (ha : cl a1 = (dropPre (cl a) (cl b)).1) (hb : cl b1 = (dropPre (cl a) (cl b)).2) (hs : dropSuf (cl a1) (cl b1) = (cl (cut a1 q), cl (cut b1 q))) :
    levF (cl a) (cl b) mx = levG (cl (cut a1 q)) (cl (cut b1 q)) mx := by
  rw [beq_cl] at h
  rw [levF, if_neg (of_decide_eq_false h), ← ha, ← hb, hs]
theorem levG_nil {a b : PySem.Str} {mx : Int} (h : (a.length : Int) = 0 ∨ (b.length : Int) = 0) : levG (cl a) (cl b) mx = 2 * (a.length + b.length : Int) := by
  rw [cl_len, cl_len] at *
  rw [levG, if_pos (by omega)]
theorem levG_long {a b : PySem.Str} {mx : Int} (ha : (a.length : Int) ≠ 0) (hb : (b.length : Int) ≠ 0) (h : (40 : Int) < a.length ∨ (40 : Int) < b.length) : levG (cl a) (cl b) mx = mx + 1 := by
  rw [cl_len] at ha hb
  rw [cl_len, cl_len] at h
  rw [levG, if_neg (by omega), if_pos (by omega)]
theorem levG_swap {a b : PySem.Str} {mx : Int} (ha : (a.length : Int) ≠ 0) (hb : (b.length : Int) ≠ 0) (h1 : ¬ (40 : Int) < a.length) (h2 : ¬ (40 : Int) < b.length) (h : (b.length : Int) < a.length) : levG (cl a) (cl b) mx = levH (cl b) (cl a) mx := by
  rw [cl_len] at ha hb h1 h2
  rw [cl_len, cl_len] at h
  rw [levG, if_neg (by omega), if_neg (by omega), if_pos (by omega)]
theorem levG_stay {a b : PySem.Str} {mx : Int} (ha : (a.length : Int) ≠ 0) (hb : (b.length : Int) ≠ 0) (h1 : ¬ (40 : Int) < a.length) (h2 : ¬ (40 : Int) < b.length) (h : ¬ (b.length : Int) < a.length) : levG (cl a) (cl b) mx = levH (cl a) (cl b) mx := by
  rw [cl_len] at ha hb h1 h2
  rw [cl_len, cl_len] at h
  rw [levG, if_neg (by omega), if_neg (by omega), if_neg (by omega)]
theorem levH_far {a b : PySem.Str} {mx : Int} (h : mx < ((b.length : Int) - (a.length : Int)) * 2) : levH (cl a) (cl b) mx = mx + 1 := by
  rw [cl_len, cl_len] at h
  rw [levH, if_pos (by omega)]
theorem levH_dp {a b : PySem.Str} {mx : Int} (h : ¬ mx < ((b.length : Int) - (a.length : Int)) * 2) : levH (cl a) (cl b) mx = dp (cl a) mx (cl b) 0 (rowOf [] [] (cl a)) 0 := by
  rw [cl_len, cl_len] at h
  rw [levH, if_neg (by omega)]

/-! list(range(2, 2 * (n + 1), 2)) -/
theorem fitsL {x : Int} (h0 : -1000 ≤ x) (h1 : x ≤ 1000) : Builtin.Range.rangeFitsLong x = true := by
  unfold Builtin.Range.rangeFitsLong
  rw [Bool.and_eq_true]
  exact ⟨decide_eq_true (by omega), decide_eq_true (by omega)⟩
theorem ints_row : ∀ (us : List Value) (a pa : List Nat), us.length = a.length → (∀ (j : Nat) (v : Value), us[j]? = some v → ∃ t, v = .int (2 * ((pa.length : Int) + 1) + j * 2) t) → IntsAre us (rowOf [] pa a)
  | [], [], _, _, _ => IntsAre.nil
  | [], _ :: _, _, e, _ => by cases e
  | _ :: _, [], _, e, _ => by cases e
  | v :: r, x :: a, pa, e, h => by
    obtain ⟨t, ht⟩ := h 0 v rfl
    have hv : v = .int (ed (x :: pa) []) t := by
      rw [ht, ed_nil]; congr 1
    subst hv
    rw [rowOf]
    refine IntsAre.cons _ _ (ints_row r a (x :: pa) (by simpa using e) fun j v hj => ?_)
    obtain ⟨t', ht'⟩ := h (j + 1) v hj
    refine ⟨t', ht'.trans ?_⟩
    congr 1
    simp; omega
section
variable {prog : Program} {w : World} {A : Around} {E : Value → Shared → Prop} {s : Shared} {h₀ : Heap} {L r : Addr} {m : PySem.Str → Option Value} {news : List (Addr × Obj)} {b : Int} {t₀ u₀ v₀ : Tok} {Q : Value → Shared → Prop}
theorem list_range2 {a : List Nat} (hh : A.handled = none) (F : Fr h₀ L s.heap m) (N : News h₀ L s.heap news) (hr : IsRange s.heap r 2 b 2 t₀ u₀ v₀) (hb : b = 2 * ((a.length : Int) + 1)) (h0 : 1 ≤ a.length) (h1 : a.length ≤ 40)
    (h : ∀ D us c h' tk, Fr h₀ L h' m → News h₀ L h' ((D, listOf (List.toArray us) c) :: news) → (∀ p ∈ news, p.1 < D) → IntsAre us (rowOf [] [] a) → Q (.ref D) { s with heap := h', toks := tk }) :
    wpAny (model prog w) A (PySem.call (.type "list") [.ref r]) Q E s := by
  subst hb
  have hsz : Builtin.Range.rangeSize 2 (2 * ((a.length : Int) + 1)) 2 = ((a.length : Nat) : Int) := by
    unfold Builtin.Range.rangeSize
    rw [if_pos (by omega), if_pos (by omega)]; omega
  have hsm : Builtin.Range.small 2 (2 * ((a.length : Int) + 1)) 2 = true := by
    unfold Builtin.Range.small
    rw [hsz, fitsL (by omega) (by omega), fitsL (by omega) (by omega), fitsL (by omega) (by omega), if_pos (by decide), fitsL (by omega) (by omega)]
    simp
  refine call_list_range hh hr hsm hsz (by omega) fun h' tk acc c hk hD hI => ?_
  have hD' : h'.get? s.heap.objs.size = some (listOf (List.toArray acc.toList) c) := by
    rw [Array.toArray_toList]
    exact hD
  refine h _ acc.toList c h' tk (F.keeps hk) (news_pushed F N hk hD' rfl) (fun p hp => Heap.lt_size (N p hp).1) (ints_row _ _ _ (by rw [Array.length_toList]; exact hI.1) fun j v hj => ?_)
  obtain ⟨t, ht⟩ := hI.2 j v (by rw [← hj, Array.getElem?_toList])
  exact ⟨t, ht⟩
end
/-! a turn of the row -/
theorem inner_len (ch : Nat) : ∀ (a : List Nat) (row : List Int) (d r : Int), row.length = a.length → (inner ch a row d r).length = a.length
  | [], [], _, _, _ => rfl
  | [], _ :: _, _, _, h => by cases h
  | _ :: _, [], _, _, h => by cases h
  | x :: a, y :: row, d, r, h => by
    rw [inner, List.length_cons, inner_len ch a row _ _ (by simpa using h), List.length_cons]
/-- between two turns of the inner loop: j places are done -/
noncomputable def Turn (ch : Nat) (a : List Nat) (row₀ : List Int) (d₀ : Int) (j : Nat) (row : List Int) (d r mn : Int) : Prop :=
  row.length = a.length ∧ row.take j ++ inner ch (a.drop j) (row.drop j) d r = inner ch a row₀ d₀ d₀ ∧ mn = minOf (row.take j) ∧ (row.take j).getLastD r = r
theorem turn_start (ch : Nat) (a : List Nat) (row₀ : List Int) (d₀ : Int) (h : row₀.length = a.length) : Turn ch a row₀ d₀ 0 row₀ d₀ d₀ 9223372036854775807 := ⟨h, by simp, rfl, rfl⟩
theorem minOf_snoc (l : List Int) (r : Int) : minOf (l ++ [r]) = if r < minOf l then r else minOf l := by
  unfold minOf
  rw [List.foldl_append]; rfl
theorem turn_step {ch x : Nat} {a : List Nat} {row₀ row : List Int} {d₀ d r mn old : Int} {j : Nat} (h : Turn ch a row₀ d₀ j row d r mn) (hx : a[j]? = some x) (ho : row[j]? = some old) :
    Turn ch a row₀ d₀ (j + 1) (row.set j (min (min r old + 2) (d + sc ch x))) old (min (min r old + 2) (d + sc ch x)) (if min (min r old + 2) (d + sc ch x) < mn then min (min r old + 2) (d + sc ch x) else mn) := by
  obtain ⟨h1, h2, h3, h4⟩ := h
  obtain ⟨hj, ho⟩ := List.getElem?_eq_some_iff.mp ho
  obtain ⟨hja, hx⟩ := List.getElem?_eq_some_iff.mp hx
  generalize hz : min (min r old + 2) (d + sc ch x) = z
  have ht : (row.set j z).take (j + 1) = row.take j ++ [z] := by
    rw [List.take_add_one, List.take_set_of_le (Nat.le_refl j), List.getElem?_set_self hj]; rfl
  have hdr : (row.set j z).drop (j + 1) = row.drop (j + 1) := List.drop_set_of_lt (by omega)
  refine ⟨by rw [List.length_set, h1], ?_, ?_, ?_⟩
  · rw [ht, hdr, ← h2, List.drop_eq_getElem_cons hja, List.drop_eq_getElem_cons hj, hx, ho, inner, hz, List.append_assoc]; rfl
  · rw [ht, minOf_snoc, ← h3]
  · rw [ht]; simp
theorem turn_end {ch : Nat} {a : List Nat} {row₀ row : List Int} {d₀ d r mn : Int} (ha : a ≠ []) (h : Turn ch a row₀ d₀ a.length row d r mn) :
    row = inner ch a row₀ d₀ d₀ ∧ mn = minOf row ∧ row.getLastD 0 = r := by
  obtain ⟨h1, h2, h3, h4⟩ := h
  have ht : row.take a.length = row := List.take_of_length_le (by omega)
  rw [ht] at h2 h3 h4
  rw [List.drop_of_length_le (Nat.le_refl _)] at h2
  have : row.getLastD 0 = row.getLastD r := by
    cases row with
    | nil => exact absurd (List.eq_nil_of_length_eq_zero (by simpa using h1.symm)) ha
    | cons y row => rw [List.getLastD_cons, List.getLastD_cons]
  refine ⟨by rw [← h2]; simp [inner], h3, by rw [this, h4]⟩
/-- between two turns of the outer loop: i signs of b are read -/
noncomputable def Rows (a b : List Nat) (mx : Int) (i : Nat) (row : List Int) (res : Int) : Prop :=
  row.length = a.length ∧ dp a mx b 0 (rowOf [] [] a) 0 = dp a mx (b.drop i) i row res
theorem rows_start (a b : List Nat) (mx : Int) : Rows a b mx 0 (rowOf [] [] a) 0 := ⟨rowOf_len _ _ _, rfl⟩
theorem rows_step {a b : List Nat} {mx : Int} {i c : Nat} {row row' : List Int} {res res' mn : Int} (h : Rows a b mx i row res) (hc : b[i]? = some c) (h1 : row' = inner c a row (2 * i) (2 * i)) (h2 : mn = minOf row') (h3 : row'.getLastD 0 = res') (hm : ¬ mx < mn) :
    Rows a b mx (i + 1) row' res' := by
  obtain ⟨e1, e2⟩ := h
  obtain ⟨hi, hc⟩ := List.getElem?_eq_some_iff.mp hc
  subst h1
  refine ⟨inner_len _ _ _ _ _ e1, ?_⟩
  rw [e2, List.drop_eq_getElem_cons hi, hc, dp, if_neg (by rw [← h2]; omega), h3]; rfl
theorem rows_stop {a b : List Nat} {mx : Int} {i c : Nat} {row row' : List Int} {res mn : Int} (h : Rows a b mx i row res) (hc : b[i]? = some c) (h1 : row' = inner c a row (2 * i) (2 * i)) (h2 : mn = minOf row') (hm : mx < mn) :
    dp a mx b 0 (rowOf [] [] a) 0 = mx + 1 := by
  obtain ⟨e1, e2⟩ := h
  obtain ⟨hi, hc⟩ := List.getElem?_eq_some_iff.mp hc
  subst h1
  rw [e2, List.drop_eq_getElem_cons hi, hc, dp, if_pos (by rw [← h2]; omega)]
theorem rows_end {a b : List Nat} {mx : Int} {row : List Int} {res : Int} (h : Rows a b mx b.length row res) : dp a mx b 0 (rowOf [] [] a) 0 = res := by
  obtain ⟨e1, e2⟩ := h
  rw [e2, List.drop_of_length_le (Nat.le_refl _), dp]
theorem inner_start {x y : PySem.Str} {mx : Int} {i : Nat} {row : List Int} {res k : Int} (h : Rows (cl x) (cl y) mx i row res) (hk : k = 0 + (i : Int)) (hi : i < y.length) :
    ([] : List Int).length ≤ x.length ∧ row.length = x.length ∧ ∃ row₀ res₀ ch, Rows (cl x) (cl y) mx i row₀ res₀ ∧ (cl y)[i]? = some ch ∧ Turn ch (cl x) row₀ (2 * i) ([] : List Int).length row (k * 2) (k * 2) 9223372036854775807 := by
  have hi' : i < (cl y).length := by rw [← cl_len]; exact hi
  refine ⟨Nat.zero_le _, by rw [cl_len]; exact h.1, row, res, (cl y)[i], h, List.getElem?_eq_getElem hi', ?_⟩
  have e : k * 2 = 2 * (i : Int) := by omega
  rw [e]
  exact turn_start _ _ _ _ h.1
noncomputable def DpIn (x y : PySem.Str) (mx : Int) (i j : Nat) (row : List Int) (d r mn : Int) : Prop :=
  ∃ row₀ res₀ ch, Rows (cl x) (cl y) mx i row₀ res₀ ∧ (cl y)[i]? = some ch ∧ Turn ch (cl x) row₀ (2 * i) j row d r mn
theorem dpIn_start {x y : PySem.Str} {mx : Int} {i : Nat} {row : List Int} {res k : Int} (h : Rows (cl x) (cl y) mx i row res) (hk : k = 0 + (i : Int)) (hi : i < y.length) :
    ([] : List Int).length ≤ x.length ∧ row.length = x.length ∧ DpIn x y mx i ([] : List Int).length row (k * 2) (k * 2) 9223372036854775807 := inner_start h hk hi
theorem sc_item {x y : PySem.Str} {k l : Int} {c d : Nat} (hk : 0 ≤ k) (hl : 0 ≤ l) (hy : (cl y)[k.toNat]? = some c) (hx : (cl x)[l.toNat]? = some d) : scS (Txt.item y k) (Txt.item x l) = sc c d := by
  obtain ⟨h1, e1⟩ := List.getElem?_eq_some_iff.mp hy
  obtain ⟨h2, e2⟩ := List.getElem?_eq_some_iff.mp hx
  obtain ⟨c', hc, ec⟩ := item_at y (i := k) hk (by omega)
  obtain ⟨d', hd, edd⟩ := item_at x (i := l) hl (by omega)
  rw [hy] at hc; rw [hx] at hd
  cases hc; cases hd
  have f1 : Txt.item y k = mkS [c] := cl_inj (by rw [ec, cl_mkS])
  have f2 : Txt.item x l = mkS [d] := cl_inj (by rw [edd, cl_mkS])
  rw [f1, f2]; rfl
theorem dpIn_turn {x y : PySem.Str} {mx : Int} {i : Nat} {pre row : List Int} {d r mn mn' kB kN : Int} (h : DpIn x y mx i pre.length row d r mn) (hlen : row.length = x.length) (hk : kN = 0 + (pre.length : Int)) (hB : kB = 0 + (i : Int)) (hlt : pre.length < x.length)
    (hm : (if (if d + scS (Txt.item y kB) (Txt.item x kN) < (if row.getD kN.toNat 0 < r then row.getD kN.toNat 0 else r) + 2 then d + scS (Txt.item y kB) (Txt.item x kN) else (if row.getD kN.toNat 0 < r then row.getD kN.toNat 0 else r) + 2) < mn then (if d + scS (Txt.item y kB) (Txt.item x kN) < (if row.getD kN.toNat 0 < r then row.getD kN.toNat 0 else r) + 2 then d + scS (Txt.item y kB) (Txt.item x kN) else (if row.getD kN.toNat 0 < r then row.getD kN.toNat 0 else r) + 2) else mn) = mn') :
    (pre ++ [kN]).length ≤ x.length ∧ (row.set kN.toNat (if d + scS (Txt.item y kB) (Txt.item x kN) < (if row.getD kN.toNat 0 < r then row.getD kN.toNat 0 else r) + 2 then d + scS (Txt.item y kB) (Txt.item x kN) else (if row.getD kN.toNat 0 < r then row.getD kN.toNat 0 else r) + 2)).length = x.length ∧
      DpIn x y mx i (pre ++ [kN]).length (row.set kN.toNat (if d + scS (Txt.item y kB) (Txt.item x kN) < (if row.getD kN.toNat 0 < r then row.getD kN.toNat 0 else r) + 2 then d + scS (Txt.item y kB) (Txt.item x kN) else (if row.getD kN.toNat 0 < r then row.getD kN.toNat 0 else r) + 2)) (row.getD kN.toNat 0) (if d + scS (Txt.item y kB) (Txt.item x kN) < (if row.getD kN.toNat 0 < r then row.getD kN.toNat 0 else r) + 2 then d + scS (Txt.item y kB) (Txt.item x kN) else (if row.getD kN.toNat 0 < r then row.getD kN.toNat 0 else r) + 2) mn' := by
  obtain ⟨row₀, res₀, ch, hR, hc, hT⟩ := h
  have ek : kN.toNat = pre.length := by omega
  have eB : kB.toNat = i := by omega
  have hrow : pre.length < row.length := by omega
  have ho : row[pre.length]? = some (row.getD pre.length 0) := by
    rw [List.getD_eq_getElem?_getD, List.getElem?_eq_getElem hrow]; rfl
  have hx' : pre.length < (cl x).length := by rw [← cl_len]; exact hlt
  have hx : (cl x)[pre.length]? = some (cl x)[pre.length] := List.getElem?_eq_getElem hx'
  have hs : scS (Txt.item y kB) (Txt.item x kN) = sc ch (cl x)[pre.length] := sc_item (by omega) (by omega) (by rw [eB]; exact hc) (by rw [ek]; exact hx)
  subst hm
  rw [hs, ek]
  have hmin : (if d + sc ch (cl x)[pre.length] < (if row.getD pre.length 0 < r then row.getD pre.length 0 else r) + 2 then d + sc ch (cl x)[pre.length] else (if row.getD pre.length 0 < r then row.getD pre.length 0 else r) + 2) = min (min r (row.getD pre.length 0) + 2) (d + sc ch (cl x)[pre.length]) := by
    generalize row.getD pre.length 0 = o
    generalize d + sc ch (cl x)[pre.length] = e
    by_cases h1 : o < r
    · rw [if_pos h1]
      by_cases h2 : e < o + 2
      · rw [if_pos h2]; omega
      · rw [if_neg h2]; omega
    · rw [if_neg h1]
      by_cases h2 : e < r + 2
      · rw [if_pos h2]; omega
      · rw [if_neg h2]; omega
  rw [hmin]
  refine ⟨by rw [List.length_append]; simp; omega, by rw [List.length_set]; exact hlen, row₀, res₀, ch, hR, hc, ?_⟩
  rw [show (pre ++ [kN]).length = pre.length + 1 by simp]
  exact turn_step hT hx ho
theorem dpIn_lt {x y : PySem.Str} {mx : Int} {i : Nat} {pre row : List Int} {d r mn kB kN : Int} (h : DpIn x y mx i pre.length row d r mn) (hlen : row.length = x.length) (hk : kN = 0 + (pre.length : Int)) (hB : kB = 0 + (i : Int)) (hlt : pre.length < x.length)
    (hm : (if d + scS (Txt.item y kB) (Txt.item x kN) < (if row.getD kN.toNat 0 < r then row.getD kN.toNat 0 else r) + 2 then d + scS (Txt.item y kB) (Txt.item x kN) else (if row.getD kN.toNat 0 < r then row.getD kN.toNat 0 else r) + 2) < mn) :
    (pre ++ [kN]).length ≤ x.length ∧ (row.set kN.toNat (if d + scS (Txt.item y kB) (Txt.item x kN) < (if row.getD kN.toNat 0 < r then row.getD kN.toNat 0 else r) + 2 then d + scS (Txt.item y kB) (Txt.item x kN) else (if row.getD kN.toNat 0 < r then row.getD kN.toNat 0 else r) + 2)).length = x.length ∧
      DpIn x y mx i (pre ++ [kN]).length (row.set kN.toNat (if d + scS (Txt.item y kB) (Txt.item x kN) < (if row.getD kN.toNat 0 < r then row.getD kN.toNat 0 else r) + 2 then d + scS (Txt.item y kB) (Txt.item x kN) else (if row.getD kN.toNat 0 < r then row.getD kN.toNat 0 else r) + 2)) (row.getD kN.toNat 0) (if d + scS (Txt.item y kB) (Txt.item x kN) < (if row.getD kN.toNat 0 < r then row.getD kN.toNat 0 else r) + 2 then d + scS (Txt.item y kB) (Txt.item x kN) else (if row.getD kN.toNat 0 < r then row.getD kN.toNat 0 else r) + 2) (if d + scS (Txt.item y kB) (Txt.item x kN) < (if row.getD kN.toNat 0 < r then row.getD kN.toNat 0 else r) + 2 then d + scS (Txt.item y kB) (Txt.item x kN) else (if row.getD kN.toNat 0 < r then row.getD kN.toNat 0 else r) + 2) :=
  dpIn_turn h hlen hk hB hlt (if_pos hm)
theorem dpIn_ge {x y : PySem.Str} {mx : Int} {i : Nat} {pre row : List Int} {d r mn kB kN : Int} (h : DpIn x y mx i pre.length row d r mn) (hlen : row.length = x.length) (hk : kN = 0 + (pre.length : Int)) (hB : kB = 0 + (i : Int)) (hlt : pre.length < x.length)
    (hm : ¬ (if d + scS (Txt.item y kB) (Txt.item x kN) < (if row.getD kN.toNat 0 < r then row.getD kN.toNat 0 else r) + 2 then d + scS (Txt.item y kB) (Txt.item x kN) else (if row.getD kN.toNat 0 < r then row.getD kN.toNat 0 else r) + 2) < mn) :
    (pre ++ [kN]).length ≤ x.length ∧ (row.set kN.toNat (if d + scS (Txt.item y kB) (Txt.item x kN) < (if row.getD kN.toNat 0 < r then row.getD kN.toNat 0 else r) + 2 then d + scS (Txt.item y kB) (Txt.item x kN) else (if row.getD kN.toNat 0 < r then row.getD kN.toNat 0 else r) + 2)).length = x.length ∧
      DpIn x y mx i (pre ++ [kN]).length (row.set kN.toNat (if d + scS (Txt.item y kB) (Txt.item x kN) < (if row.getD kN.toNat 0 < r then row.getD kN.toNat 0 else r) + 2 then d + scS (Txt.item y kB) (Txt.item x kN) else (if row.getD kN.toNat 0 < r then row.getD kN.toNat 0 else r) + 2)) (row.getD kN.toNat 0) (if d + scS (Txt.item y kB) (Txt.item x kN) < (if row.getD kN.toNat 0 < r then row.getD kN.toNat 0 else r) + 2 then d + scS (Txt.item y kB) (Txt.item x kN) else (if row.getD kN.toNat 0 < r then row.getD kN.toNat 0 else r) + 2) mn :=
  dpIn_turn h hlen hk hB hlt (if_neg hm)
theorem dpIn_end {x y : PySem.Str} {mx : Int} {pre row : List Int} {d r mn kN : Int} (h : DpIn x y mx pre.length (rangeKs 0 ((x.length : Int) - 0).toNat).length row d r mn) (hx : 1 ≤ x.length) (hi : pre.length < y.length) (hm : ¬ mx < mn) :
    (pre ++ [kN]).length ≤ y.length ∧ Rows (cl x) (cl y) mx (pre ++ [kN]).length row r := by
  obtain ⟨row₀, res₀, ch, hR, hc, hT⟩ := h
  rw [rangeKs_length, show ((x.length : Int) - 0).toNat = (cl x).length by rw [cl_len]; omega] at hT
  have hne : cl x ≠ [] := fun e => by rw [cl_len, e] at hx; simp at hx
  obtain ⟨e1, e2, e3⟩ := turn_end hne hT
  refine ⟨by rw [List.length_append]; simp; omega, ?_⟩
  rw [show (pre ++ [kN]).length = pre.length + 1 by simp]
  exact rows_step hR hc e1 e2 e3 hm
theorem dpIn_stop {x y : PySem.Str} {mx : Int} {i : Nat} {row : List Int} {d r mn : Int} (h : DpIn x y mx i (rangeKs 0 ((x.length : Int) - 0).toNat).length row d r mn) (hx : 1 ≤ x.length) (hm : mx < mn) :
    mx + 1 = dp (cl x) mx (cl y) 0 (rowOf [] [] (cl x)) 0 := by
  obtain ⟨row₀, res₀, ch, hR, hc, hT⟩ := h
  rw [rangeKs_length, show ((x.length : Int) - 0).toNat = (cl x).length by rw [cl_len]; omega] at hT
  have hne : cl x ≠ [] := fun e => by rw [cl_len, e] at hx; simp at hx
  obtain ⟨e1, e2, e3⟩ := turn_end hne hT
  exact (rows_stop hR hc e1 e2 hm).symm
theorem rows_done {x y : PySem.Str} {mx : Int} {row : List Int} {r : Int} (h : Rows (cl x) (cl y) mx (rangeKs 0 ((y.length : Int) - 0).toNat).length row r) : r = dp (cl x) mx (cl y) 0 (rowOf [] [] (cl x)) 0 := by
  rw [rangeKs_length, show ((y.length : Int) - 0).toNat = (cl y).length by rw [cl_len]; omega] at h
  exact (rows_end h).symm
theorem led_in0 {q : Addr × Obj} {l : List (Addr × Obj)} : ∀ p ∈ q :: l, p ∈ q :: l := fun _ h => h
theorem led_in1 {q : Addr × Obj} {l own : List (Addr × Obj)} : ∀ p ∈ q :: l, p ∈ q :: (l ++ own) := fun p h => by
  rcases List.mem_cons.mp h with h | h
  · exact h ▸ List.mem_cons_self ..
  · exact List.mem_cons_of_mem _ (List.mem_append.mpr (.inl h))
end Mine
end
section
open PySem PySem.W PyProof.Rows
set_option Elab.async false
namespace Mine
theorem strs_at : ∀ {us : List Value} {qs : List PySem.Str}, StrsAre us qs → ∀ {i : Nat} {v : Value}, us[i]? = some v → ∃ p t, qs[i]? = some p ∧ v = .str p t
  | _, _, .nil, i, v, h => by simp at h
  | _, _, .cons y t r, 0, v, h => by
    have : Value.str y t = v := by simpa using h
    exact ⟨y, t, rfl, this.symm⟩
  | _, _, .cons y t r, i + 1, v, h => by
    obtain ⟨p, u, e1, e2⟩ := strs_at r (i := i) (v := v) (by simpa using h)
    exact ⟨p, u, by simpa using e1, e2⟩
theorem strs_len {us : List Value} {qs : List PySem.Str} (h : StrsAre us qs) : us.length = qs.length := by
  induction h with
  | nil => rfl
  | cons y t r ih => simp [ih]
theorem litQQ : PySem.Str.ofString "\"\"" = qq := by decide +kernel
theorem litQ1 : PySem.Str.ofString "\"" = ⟨#[34]⟩ := by decide +kernel
open Builtin Builtin.Str StrLaws in
theorem partsFrom_len (x : PySem.Str) (w : Nat) : ∀ (cuts : List Nat) (a : Nat), (partsFrom x w a cuts).length = cuts.length + 1
  | [], _ => rfl
  | d :: r, a => by rw [partsFrom, List.length_cons, partsFrom_len x w r]; rfl
open Builtin Builtin.Str StrLaws in
theorem split_count (x y : PySem.Str) : (Txt.split x y).length ≤ x.length + 2 := by
  unfold Txt.split
  split
  · simp
  · split
    · simp
    · rw [partsBetween_eq, partsFrom_len]
      have := occ_length_le x y 0 x.length (x.length + 1)
      omega
theorem join_cl (sep : PySem.Str) (ys : List PySem.Str) : Txt.join sep ys = PySem.Str.join sep ys := StrLaws.glued_eq_join sep ys
theorem join_sum {ys : List PySem.Str} {B n s : Nat} (h : ∀ y ∈ ys, y.length ≤ B) (hn : ys.length ≤ n) (hs : n * B + n * s ≤ 16777216) : (ys.map (·.length)).sum + ys.length * s ≤ 16777216 := by
  have h1 := StrLaws.sumLen_le ys h
  have h2 : ys.length * B ≤ n * B := Nat.mul_le_mul_right _ hn
  have h3 : ys.length * s ≤ n * s := Nat.mul_le_mul_right _ hn
  omega
section
variable {prog : Program} {w : World} {A : Around} {E : Value → Shared → Prop} {s : Shared} {x : PySem.Str} {t : Tok} {Q : Value → Shared → Prop} {h₀ : Heap} {L D : Addr} {news : List (Addr × Obj)} {us : List Value} {ys : List PySem.Str} {c : Nat}
theorem join_made (N : News h₀ L s.heap news) (hm : (D, W.listOf us.toArray c) ∈ news) (hi : StrsAre us ys) (hok : (ys.map (·.length)).sum + ys.length * x.length ≤ 16777216)
    (h : ∀ t' k, Q (.str (PySem.Str.join x ys) t') { s with toks := k }) : wpAny (model prog w) A (PySem.call (.builtin "str.join") [.str x t, .ref D]) Q E s := by
  have hl : s.heap.IsList D us.toArray := ⟨_, (N _ hm).1, rfl, c, rfl⟩
  exact join_list hl (by simpa using hi) hok (by rw [join_cl]; exact h)
end
theorem told_done {y : PySem.Str} {ps qs : List PySem.Str} {n : Nat} (hs : ps = Txt.split y (PySem.Str.ofString "\"\"")) (hq : qs = ps.take n) (hn : n = ps.length) (hf : ∀ p ∈ qs, 34 ∉ cl p) : PySem.Str.join (PySem.Str.ofString "\"") qs = toldS y := by
  rw [litQQ] at hs
  have e : qs = ps := by rw [hq, hn, List.take_length]
  obtain ⟨h1, h2⟩ := told_split y
  rw [e] at hf ⊢
  apply cl_inj
  rw [toldS, cl_mkS, h1, litQ1, ← hs]
  exact (toldP_all ps (by rw [hs]; exact h2) hf).symm
theorem told_brk {y p p0 : PySem.Str} {ps qs : List PySem.Str} {i : Nat} (hs : ps = Txt.split y (PySem.Str.ofString "\"\"")) (hq : qs = ps.take i) (hp : ps[i]? = some p) (hf : ∀ p ∈ qs, 34 ∉ cl p) (h34 : 34 ∈ cl p) (h0 : cl p0 = (cl p).takeWhile (· ≠ 34)) :
    PySem.Str.join (PySem.Str.ofString "\"") (qs ++ [p0]) = toldS y := by
  rw [litQQ] at hs
  obtain ⟨h1, h2⟩ := told_split y
  obtain ⟨hi, hp⟩ := List.getElem?_eq_some_iff.mp hp
  have e : ps = qs ++ p :: ps.drop (i + 1) := by
    rw [hq, ← hp, ← List.drop_eq_getElem_cons hi, List.take_append_drop]
  apply cl_inj
  rw [toldS, cl_mkS, h1, litQ1, ← hs]
  rw [e]
  exact (toldP_stop qs p p0 _ hf h34 h0).symm
theorem has_quote {p : PySem.Str} (h : (Builtin.Str.occurrences p (PySem.Str.ofString "\"") 0 p.length 1).isEmpty = false) : 34 ∈ cl p := by
  have := StrLaws.found_one p 34
  rw [litQ1] at h
  rw [h] at this
  exact of_decide_eq_true this.symm
theorem no_quote {p : PySem.Str} (h : (Builtin.Str.occurrences p (PySem.Str.ofString "\"") 0 p.length 1).isEmpty = true) : 34 ∉ cl p := by
  have := StrLaws.found_one p 34
  rw [litQ1] at h
  rw [h] at this
  exact of_decide_eq_false this.symm
section
variable {prog : Program} {w : World} {A : Around} {E : Value → Shared → Prop} {s : Shared} {h₀ : Heap} {L D : Addr} {m : PySem.Str → Option Value} {pre post : List (Addr × Obj)} {us : List Value} {n : Nat} {x : Value} {Q : Value → Shared → Prop}
theorem append_led (F : Fr h₀ L s.heap m) (N : News h₀ L s.heap (pre ++ (D, W.listOf us.toArray n) :: post)) (a : ∀ p ∈ pre, p.1 ≠ D) (b : ∀ p ∈ post, p.1 ≠ D) (hsz : us.length ≤ 100000)
    (h : ∀ h', Fr h₀ L h' m → News h₀ L h' (pre ++ (D, W.listOf (us ++ [x]).toArray (n + 1)) :: post) → Q .none { s with heap := h' }) : wpAny (model prog w) A (PySem.call (.builtin "list.append") [.ref D, x]) Q E s := by
  have z := N (D, W.listOf us.toArray n) (List.mem_append.mpr (.inr (.head _)))
  have e : us.toArray.push x = (us ++ [x]).toArray := by simp
  refine append_at (hsz := by rw [List.size_toArray, sizeLine_eq]; omega) z.1 fun h' hs ho' => ?_
  rw [e] at ho'
  exact h h' (F.change hs z.2.1 z.2.2) (news_set N a b hs ho')
end
end Mine
end
section
open PySem PySem.W PyProof.Rows PyProof.V PySem.Spec
set_option Elab.async false
set_option maxRecDepth 100000
namespace Mine
/-! a display of texts by texts -/
inductive LitPairs : List (Option PySem.Expr) → List PySem.Expr → List (PySem.Str × PySem.Str) → Prop
  | nil : LitPairs [] [] []
  | cons {k v : PySem.Str} {a b : Nat} {p q : Pos} {ks : List (Option PySem.Expr)} {vs : List PySem.Expr} {ps : List (PySem.Str × PySem.Str)} : LitPairs ks vs ps →
      LitPairs (some (PySem.Expr.Constant (Const.str k) a p) :: ks) (PySem.Expr.Constant (Const.str v) b q :: vs) ((k, v) :: ps)
inductive PairsAre : List (PySem.Str × Value) → List (PySem.Str × PySem.Str) → Prop
  | nil : PairsAre [] []
  | cons {k v : PySem.Str} {t : Tok} {kvs : List (PySem.Str × Value)} {ps : List (PySem.Str × PySem.Str)} : PairsAre kvs ps → PairsAre ((k, .str v t) :: kvs) ((k, v) :: ps)
theorem PairsAre.keys {kvs : List (PySem.Str × Value)} {ps : List (PySem.Str × PySem.Str)} (h : PairsAre kvs ps) : kvs.map (·.1) = ps.map (·.1) := by
  induction h with
  | nil => rfl
  | cons _ ih => simp [ih]
theorem PairsAre.at {kvs : List (PySem.Str × Value)} {ps : List (PySem.Str × PySem.Str)} (h : PairsAre kvs ps) (k : PySem.Str) :
    (ps.lookup k = none ∧ valueAt kvs k = none) ∨ ∃ v t, ps.lookup k = some v ∧ valueAt kvs k = some (.str v t) := by
  induction h with
  | nil => exact .inl ⟨rfl, rfl⟩
  | @cons k' v t kvs ps _ ih =>
    by_cases e : k = k'
    · subst e
      refine .inr ⟨v, t, by simp [List.lookup_cons], by simp [valueAt]⟩
    · have e' : ¬ k' = k := fun q => e q.symm
      have hb : (k == k') = false := by simpa using e
      have h1 : List.lookup k ((k', v) :: ps) = List.lookup k ps := by rw [List.lookup_cons, hb]
      have h2 : valueAt ((k', Value.str v t) :: kvs) k = valueAt kvs k := by simp [valueAt, e']
      rw [h1, h2]; exact ih
theorem LitPairs.lens {ks : List (Option PySem.Expr)} {vs : List PySem.Expr} {ps : List (PySem.Str × PySem.Str)} (h : LitPairs ks vs ps) : ks.length = vs.length ∧ ks.length = ps.length ∧ ks.all (·.isSome) = true := by
  induction h with
  | nil => exact ⟨rfl, rfl, rfl⟩
  | cons _ ih => exact ⟨by simp [ih.1], by simp [ih.2.1], by simp only [List.all_cons, ih.2.2]; rfl⟩
section
variable {prog : Program} {w : World} {A : Around} {E : Value → Shared → Prop} {h₀ : Heap} {L : Addr} {m : PySem.Str → Option Value} {news : List (Addr × Obj)} {env : Env}
theorem lit_walk {ks : List (Option PySem.Expr)} {vs : List PySem.Expr} {ps : List (PySem.Str × PySem.Str)} (hl : LitPairs ks vs ps) {pos : Pos} : ∀ {s : Shared} {Q : List (Value × Value) → Shared → Prop},
    (∀ prs tk, allStrKeys prs = true → PairsAre (strPairs prs) ps → Q prs { s with toks := tk }) → wpAny (model prog w) A (evalPairs (pairTrees ks vs env pos)) Q E s := by
  induction hl with
  | nil => intro s Q h; exact pairTrees_nil_walk (h [] s.toks rfl .nil)
  | cons _ ih =>
    intro s Q h
    refine pairTrees_cons_walk (wpAny_Constant_str (wpAny_Constant_str (ih fun prs tk h1 h2 => ?_)))
    exact h _ tk h1 (.cons h2)
theorem dict_lit {keys : List (Option PySem.Expr)} {vals : List PySem.Expr} {ps : List (PySem.Str × PySem.Str)} {pos : Pos} {s : Shared} {Q : Value → Shared → Prop} (hl : LitPairs keys vals ps) (F : Fr h₀ L s.heap m) (N : News h₀ L s.heap news) (hbig : h₀.NoLimit)
    (hne : ps ≠ []) (hlen : ps.length ≤ 15) (hnd : (ps.map (·.1)).Nodup)
    (k : ∀ h' o tk kvs, Fr h₀ L h' m → News h₀ L h' ((s.heap.objs.size, o) :: news) → (∀ p ∈ news, p.1 < s.heap.objs.size) → (s.heap.objs.size == sysModules) = false → o.IsDictOf (PySem.strKind prog w) kvs → PairsAre kvs ps → Q (.ref s.heap.objs.size) { s with heap := h', toks := tk }) :
    wpAny (model prog w) A (PySem.eval (PySem.Expr.Dict keys vals pos) env) Q E s := by
  obtain ⟨l1, l2, l3⟩ := hl.lens
  refine Dict_made (knd := PySem.strKind prog w) F l3 l1 (fun e => hne (List.eq_nil_of_length_eq_zero (by rw [← l2, e]; rfl))) (by omega) fun _ => ?_
  refine lit_walk hl fun prs tk h1 h2 => ?_
  refine made_str F N h1 (by rw [h2.keys]; exact hnd) fun h' o F' N' hd => ?_
  exact k h' o _ _ F' N' (fun p hp => Heap.lt_size (N p hp).1) (F.notModules (modules_low hbig)) hd h2
end
noncomputable def tabS : Nat → List (PySem.Str × PySem.Str)
  | 0 => [(PySem.Str.ofString "&", PySem.Str.ofString "&amp;"), (PySem.Str.ofString "<", PySem.Str.ofString "&lt;"), (PySem.Str.ofString ">", PySem.Str.ofString "&gt;")]
  | 1 => [(PySem.Str.ofString "&", PySem.Str.ofString "&amp;"), (PySem.Str.ofString "<", PySem.Str.ofString "&lt;"), (PySem.Str.ofString ">", PySem.Str.ofString "&gt;"), (PySem.Str.ofString "\"", PySem.Str.ofString "&quot;"), (PySem.Str.ofString "\x0d", PySem.Str.ofString "&#13;"), (PySem.Str.ofString "\n", PySem.Str.ofString "&#10;"), (PySem.Str.ofString "\t", PySem.Str.ofString "&#09;")]
  | 2 => [(PySem.Str.ofString "&", PySem.Str.ofString "&amp;"), (PySem.Str.ofString ">", PySem.Str.ofString "&gt;"), (PySem.Str.ofString "\"", PySem.Str.ofString "&quot;")]
  | 3 => [(PySem.Str.ofString "&", PySem.Str.ofString "&amp;"), (PySem.Str.ofString "<", PySem.Str.ofString "&lt;"), (PySem.Str.ofString ">", PySem.Str.ofString "&gt;"), (PySem.Str.ofString "\x0d", PySem.Str.ofString "&#xD;")]
  | _ => [(PySem.Str.ofString "&", PySem.Str.ofString "&amp;"), (PySem.Str.ofString "<", PySem.Str.ofString "&lt;"), (PySem.Str.ofString "\"", PySem.Str.ofString "&quot;"), (PySem.Str.ofString "\t", PySem.Str.ofString "&#x9;"), (PySem.Str.ofString "\n", PySem.Str.ofString "&#xA;"), (PySem.Str.ofString "\x0d", PySem.Str.ofString "&#xD;")]
theorem tabS_ref : ∀ p < 5, (tabS p).map (fun e => (cl e.1, cl e.2)) = (tabOf p).map (fun e => ([e.1], e.2)) := by decide +kernel
theorem lookup_ref : ∀ (ps : List (PySem.Str × PySem.Str)) (t : List (Nat × List Nat)), ps.map (fun e => (cl e.1, cl e.2)) = t.map (fun e => ([e.1], e.2)) → ∀ d : Nat,
    (ps.lookup ⟨#[d]⟩ = none ∧ t.lookup d = none) ∨ ∃ v, ps.lookup ⟨#[d]⟩ = some v ∧ t.lookup d = some (cl v)
  | [], [], _, d => .inl ⟨rfl, rfl⟩
  | [], _ :: _, h, d => by simp at h
  | _ :: _, [], h, d => by simp at h
  | (k, v) :: ps, (c, r) :: t, h, d => by
    simp only [List.map_cons, List.cons.injEq, Prod.mk.injEq] at h
    obtain ⟨⟨h1, h2⟩, h3⟩ := h
    have ih := lookup_ref ps t h3 d
    have hk : k = ⟨#[c]⟩ := cl_inj (by rw [h1]; rfl)
    by_cases e : d = c
    · subst e; subst hk
      exact .inr ⟨v, by simp [List.lookup_cons], by simp [List.lookup_cons, h2]⟩
    · have e1 : ((⟨#[d]⟩ : PySem.Str) == k) = false := by
        rw [beq_cl, h1]
        exact decide_eq_false (fun q => e (by simpa [cl] using q))
      have e2 : (d == c) = false := by simpa using e
      rw [List.lookup_cons, List.lookup_cons, e1, e2]; exact ih
theorem tab_at {p : Nat} (hp : p < 5) {kvs : List (PySem.Str × Value)} (h : PairsAre kvs (tabS p)) (d : Nat) :
    (valueAt kvs ⟨#[d]⟩ = none ∧ ref p d = [d]) ∨ ∃ v t, valueAt kvs ⟨#[d]⟩ = some (.str v t) ∧ cl v = ref p d := by
  unfold ref
  rcases h.at ⟨#[d]⟩ with ⟨h1, h2⟩ | ⟨v, t, h1, h2⟩
  · rcases lookup_ref _ _ (tabS_ref p hp) d with ⟨h3, h4⟩ | ⟨v, h3, h4⟩
    · exact .inl ⟨h2, by rw [h4]; rfl⟩
    · rw [h1] at h3; cases h3
  · rcases lookup_ref _ _ (tabS_ref p hp) d with ⟨h3, h4⟩ | ⟨v', h3, h4⟩
    · rw [h1] at h3; cases h3
    · rw [h1] at h3; cases h3
      exact .inr ⟨v, t, h2, by rw [h4]; rfl⟩
end Mine
end
section
open PySem PySem.Spec PySem.Calls PySem.W PyProof.Rows PyProof.Rows.LCg PyProof.Rows.LCt
set_option Elab.async false
set_option maxRecDepth 100000
namespace Mine
section
variable {prog : Program} {w : World} {A : Around} {E : Value → Shared → Prop} {s : Shared} {h₀ : Heap} {L : Addr} {m : PySem.Str → Option Value} {env : Env}
theorem iter_text {x : PySem.Str} {t : Tok} {Q : Value → Shared → Prop}
    (hQ : ∀ ty, (∀ A' : Around, A'.handled = none → Walks prog w A' s.heap.objs.size [s.heap.objs.size] [s.heap.objs.size] x.cps.size (SignAt x) (fun i h => h.IsStrIter s.heap.objs.size ty x t i)) →
      Q (.ref s.heap.objs.size) { s with heap := s.heap.push { cls := .type ty, data := .fields #[.str x t, .int 0 0] } }) : wpAny (model prog w) A (pyIter (.str x t)) Q E s := by
  cases ha : x.cps.all (· < 128)
  · exact wpAny_pyIter_wide ha (hQ _ (fun A' hA => Walks.strWide hA _ x t))
  · exact wpAny_pyIter_ascii ha (hQ _ (fun A' hA => Walks.strAscii hA _ x t))
noncomputable def SrcS (prog : Program) (w : World) (A : Around) (h₀ : Heap) (L : Addr) (m : PySem.Str → Option Value) (env : Env) (elt : PySem.Expr) (x : PySem.Str) (scope : Scope) (cl : List (PySem.Str × Addr)) (Fin : Shared → List Value → List (Addr × Obj) → Prop) (xv : Value) (s₁ : Shared) : Prop :=
  ∃ xt tx news, xv = .str xt tx ∧ A.handled = none ∧ Fr h₀ L s₁.heap m ∧ News h₀ L s₁.heap news ∧ xt.length ≤ sizeLine ∧
    ∀ s₂ : Shared, (∃ h, s₂ = { s₁ with heap := h }) → CompRest prog w A h₀ L m env elt x scope cl s₂ (fun _ => True) (SignAt xt) (Fin s₂) xt.cps.size 0 [] news
theorem ListComp_S (F₀ : Fr h₀ L s.heap m) {elt iter : PySem.Expr} {x : PySem.Str} {px : Pos} {scope : Scope} {cl : List (PySem.Str × Addr)} {pos : Pos} {Q : Value → Shared → Prop}
    (hclos : closureFor scope env = pure cl) (hcell : ∀ y ∈ scope.names, y.2 ≠ .cell) (hkind : scope.kind = .function)
    (hnames : ∀ y ∈ scope.names, y.2 = .local → scope.names.lookup y.1 = some .local) (hx : scope.names.lookup x = some .local)
    (h : wpAny (model prog w) A (PySem.eval iter env) (SrcS prog w A h₀ L m env elt x scope cl (fun s₂ => FinE h₀ L m s₂ Q)) E s)
    (hs : ∀ x, foldedSetIterable iter env x = pure x := by intro _; rfl) :
    wpAny (model prog w) A (PySem.eval (.ListComp elt [⟨.Name x px, iter, [], 0⟩] scope pos) env) Q E s := by
  rw [eval_ListComp]
  refine wpAny_comprehension_free (use := none) rfl hs hclos hkind hnames (wpAny_mono h (fun xv s₁ h₁ => ?_) fun _ _ e => e)
  obtain ⟨xt, tx, news, rfl, hh, F, N, hsz, R⟩ := h₁
  refine iter_text fun ty hW => ?_
  have up : ∀ b o, s₁.heap.get? b = some o → (s₁.heap.push { cls := .type ty, data := .fields #[.str xt tx, .int 0 0] }).get? b = some o := fun b o e => Heap.get?_push_of_some _ e
  refine block_U (S := fun _ => True) (hW A hh) hsz (fun i h st => by obtain ⟨o, e, _⟩ := st; exact ⟨o, e⟩) (fun i h h' o nw st e e' _ _ _ => by obtain ⟨o', q, r⟩ := st; rw [e] at q; cases q; exact ⟨o, e', r⟩)
    hcell hkind hx ⟨_, Heap.get?_push_size _ rfl, rfl, rfl⟩ (fun b hb => ?_)
    (F.keeps up) (N.grown up) (Nat.ne_of_lt F.ns.lt) (next_is_new F) (fun p hp => Nat.ne_of_lt (Heap.lt_size (N p hp).1)) trivial (R _ ⟨_, rfl⟩) ?_
  · rw [List.mem_singleton.mp hb]
    show s₁.heap.objs.size < (s₁.heap.push _).objs.size
    rw [Heap.size_push]; exact Nat.lt_succ_self _
  · intro D C h tk m' ys news' F' N' o1 hn hC₀ hD₀ hCL hDL hCD offC fin
    refine ⟨m', hn, fun h'' hs'' => fin D h'' tk (F'.change hs'' hCL hC₀) (fun p hp => ?_) o1⟩
    refine ⟨hs''.extBut _ _ ?_ (N' p hp).1, (N' p hp).2⟩
    rcases List.mem_cons.mp hp with rfl | hp
    · exact Ne.symm hCD
    · exact offC p hp
noncomputable def SrcST (prog : Program) (w : World) (A : Around) (h₀ : Heap) (L : Addr) (m : PySem.Str → Option Value) (env : Env) (ct elt : PySem.Expr) (x : PySem.Str) (scope : Scope) (cl : List (PySem.Str × Addr)) (Fin : Shared → List Value → List (Addr × Obj) → Prop) (xv : Value) (s₁ : Shared) : Prop :=
  ∃ xt tx news, xv = .str xt tx ∧ A.handled = none ∧ Fr h₀ L s₁.heap m ∧ News h₀ L s₁.heap news ∧ xt.length ≤ sizeLine ∧
    ∀ s₂ : Shared, (∃ h, s₂ = { s₁ with heap := h }) → CompRestT prog w A h₀ L m env ct elt x scope cl s₂ (fun _ => True) (SignAt xt) (Fin s₂) xt.cps.size 0 [] news
theorem ListComp_ST (F₀ : Fr h₀ L s.heap m) {ct elt iter : PySem.Expr} {x : PySem.Str} {px : Pos} {scope : Scope} {cl : List (PySem.Str × Addr)} {pos : Pos} {Q : Value → Shared → Prop}
    (hclos : closureFor scope env = pure cl) (hcell : ∀ y ∈ scope.names, y.2 ≠ .cell) (hkind : scope.kind = .function)
    (hnames : ∀ y ∈ scope.names, y.2 = .local → scope.names.lookup y.1 = some .local) (hx : scope.names.lookup x = some .local)
    (h : wpAny (model prog w) A (PySem.eval iter env) (SrcST prog w A h₀ L m env ct elt x scope cl (fun s₂ => FinE h₀ L m s₂ Q)) E s)
    (hs : ∀ x, foldedSetIterable iter env x = pure x := by intro _; rfl) :
    wpAny (model prog w) A (PySem.eval (.ListComp elt [⟨.Name x px, iter, [ct], 0⟩] scope pos) env) Q E s := by
  rw [eval_ListComp]
  refine wpAny_comprehension_free (use := none) rfl hs hclos hkind hnames (wpAny_mono h (fun xv s₁ h₁ => ?_) fun _ _ e => e)
  obtain ⟨xt, tx, news, rfl, hh, F, N, hsz, R⟩ := h₁
  refine iter_text fun ty hW => ?_
  have up : ∀ b o, s₁.heap.get? b = some o → (s₁.heap.push { cls := .type ty, data := .fields #[.str xt tx, .int 0 0] }).get? b = some o := fun b o e => Heap.get?_push_of_some _ e
  refine block_T (S := fun _ => True) (hW A hh) hsz (fun i h st => by obtain ⟨o, e, _⟩ := st; exact ⟨o, e⟩) (fun i h h' o nw st e e' _ _ _ => by obtain ⟨o', q, r⟩ := st; rw [e] at q; cases q; exact ⟨o, e', r⟩)
    hcell hkind hx ⟨_, Heap.get?_push_size _ rfl, rfl, rfl⟩ (fun b hb => ?_)
    (F.keeps up) (N.grown up) (Nat.ne_of_lt F.ns.lt) (next_is_new F) (fun p hp => Nat.ne_of_lt (Heap.lt_size (N p hp).1)) trivial (R _ ⟨_, rfl⟩) ?_
  · rw [List.mem_singleton.mp hb]
    show s₁.heap.objs.size < (s₁.heap.push _).objs.size
    rw [Heap.size_push]; exact Nat.lt_succ_self _
  · intro D C h tk m' ys news' F' N' o1 hn hC₀ hD₀ hCL hDL hCD offC fin
    refine ⟨m', hn, fun h'' hs'' => fin D h'' tk (F'.change hs'' hCL hC₀) (fun p hp => ?_) o1⟩
    refine ⟨hs''.extBut _ _ ?_ (N' p hp).1, (N' p hp).2⟩
    rcases List.mem_cons.mp hp with rfl | hp
    · exact Ne.symm hCD
    · exact offC p hp
/-- a comprehension over a text, one text a sign -/
theorem rest_text {elt : PySem.Expr} {x : PySem.Str} {scope : Scope} {cl : List (PySem.Str × Addr)} {S : List (Addr × Obj) → Prop} {Fin : List Value → List (Addr × Obj) → Prop} {news : List (Addr × Obj)} {xt : PySem.Str} (g : Nat → PySem.Str) (hS : S news)
    (turn : ∀ c t I oI C oC D m₂ ys h tk (E' : Value → Shared → Prop) (Q' : Value → Shared → Prop), NsObj oC m₂ → m₂ x = some (.str ⟨#[c]⟩ t) → Fr h₀ L h m → News h₀ L h ((I, oI) :: (C, oC) :: (D, lst ys) :: news) → Off3 I C D news →
      (∀ t' h' tk', Fr h₀ L h' m → News h₀ L h' ((I, oI) :: (C, oC) :: (D, lst ys) :: news) → Q' (.str (g c) t') { s with heap := h', toks := tk' }) →
      wpAny (model prog w) A (PySem.eval elt (compEnvC scope cl C env)) Q' E' { s with heap := h, toks := tk })
    (fin : ∀ ys, StrsAre ys ((Mine.cl xt).map g) → Fin ys news) : CompRest prog w A h₀ L m env elt x scope cl s S (SignAt xt) Fin xt.cps.size 0 [] news := by
  have key : ∀ (j i : Nat) (ys : List Value), i + j = xt.cps.size → StrsAre ys (((Mine.cl xt).take i).map g) → CompRest prog w A h₀ L m env elt x scope cl s S (SignAt xt) Fin j i ys news := by
    intro j
    induction j with
    | zero =>
      intro i ys hi hy
      have e : i = (Mine.cl xt).length := by simp [Mine.cl]; omega
      rw [e, List.take_length] at hy
      exact CompRest.zero (fin ys hy)
    | succ j ih =>
      intro i ys hi hy
      refine CompRest.succ ?_
      intro v I oI C oC D m₂ h tk E' hv hC hx F N off ne
      obtain ⟨c, t, hc, rfl⟩ := hv
      refine turn c t I oI C oC D m₂ ys h tk E' _ hC hx F N off fun t' h' tk' F' N' => ?_
      refine CompEnd.intro F' N' news (fun _ hp => hp) off hS ?_
      refine ih (i + 1) _ (by omega) ?_
      have hc' : (Mine.cl xt)[i]? = some c := by rw [← hc]; simp [Mine.cl]
      rw [List.take_add_one, hc', List.map_append]
      exact StrsAre.append' hy (.cons _ _ .nil)
  exact key _ 0 [] (by omega) (by simp only [List.take_zero, List.map_nil]; exact .nil)
/-- a comprehension over a text with a test: what passes, sign by sign -/
theorem rest_filter {ct elt : PySem.Expr} {x : PySem.Str} {scope : Scope} {cl : List (PySem.Str × Addr)} {S : List (Addr × Obj) → Prop} {Fin : List Value → List (Addr × Obj) → Prop} {news : List (Addr × Obj)} {xt : PySem.Str} (f : Nat → Bool) (hS : S news)
    (turn : ∀ c t I oI C oC D m₂ ys h tk (E' : Value → Shared → Prop) (Q' : Bool → Shared → Prop), NsObj oC m₂ → m₂ x = some (.str ⟨#[c]⟩ t) → Fr h₀ L h m → News h₀ L h ((I, oI) :: (C, oC) :: (D, lst ys) :: news) → Off3 I C D news →
      (∀ h' tk', Fr h₀ L h' m → News h₀ L h' ((I, oI) :: (C, oC) :: (D, lst ys) :: news) → Q' (f c) { s with heap := h', toks := tk' }) →
      wpAny (model prog w) A (PySem.isTrue ct (compEnvC scope cl C env) (PySem.eval ct (compEnvC scope cl C env))) Q' E' { s with heap := h, toks := tk })
    (elm : ∀ c t I oI C oC D m₂ ys h tk (E' : Value → Shared → Prop) (Q' : Value → Shared → Prop), NsObj oC m₂ → m₂ x = some (.str ⟨#[c]⟩ t) → Fr h₀ L h m → News h₀ L h ((I, oI) :: (C, oC) :: (D, lst ys) :: news) → Off3 I C D news →
      (∀ t' h' tk', Fr h₀ L h' m → News h₀ L h' ((I, oI) :: (C, oC) :: (D, lst ys) :: news) → Q' (.str ⟨#[c]⟩ t') { s with heap := h', toks := tk' }) →
      wpAny (model prog w) A (PySem.eval elt (compEnvC scope cl C env)) Q' E' { s with heap := h, toks := tk })
    (fin : ∀ ys, StrsAre ys (((Mine.cl xt).filter f).map fun c => ⟨#[c]⟩) → Fin ys news) : CompRestT prog w A h₀ L m env ct elt x scope cl s S (SignAt xt) Fin xt.cps.size 0 [] news := by
  have key : ∀ (j i : Nat) (ys : List Value), i + j = xt.cps.size → StrsAre ys ((((Mine.cl xt).take i).filter f).map fun c => ⟨#[c]⟩) → CompRestT prog w A h₀ L m env ct elt x scope cl s S (SignAt xt) Fin j i ys news := by
    intro j
    induction j with
    | zero =>
      intro i ys hi hy
      have e : i = (Mine.cl xt).length := by simp [Mine.cl]; omega
      rw [e, List.take_length] at hy
      exact CompRestT.zero (fin ys hy)
    | succ j ih =>
      intro i ys hi hy
      refine CompRestT.succ ?_
      intro v I oI C oC D m₂ h tk E' hv hC hx F N off ne
      obtain ⟨c, t, hc, rfl⟩ := hv
      have hc' : (Mine.cl xt)[i]? = some c := by rw [← hc]; simp [Mine.cl]
      refine turn c t I oI C oC D m₂ ys h tk E' _ hC hx F N off fun h' tk' F' N' => ?_
      cases hf : f c with
      | true =>
        rw [if_pos rfl]
        refine elm c t I oI C oC D m₂ ys h' tk' E' _ hC hx F' N' off fun t' h'' tk'' F'' N'' => ?_
        refine CompEnd.intro F'' N'' news (fun _ hp => hp) off hS ?_
        refine ih (i + 1) _ (by omega) ?_
        rw [List.take_add_one, hc', List.filter_append, List.map_append]
        refine StrsAre.append' hy ?_
        show StrsAre _ (([c].filter f).map _)
        rw [List.filter_cons, if_pos hf]
        exact .cons _ _ .nil
      | false =>
        rw [if_neg Bool.false_ne_true]
        refine CompEnd.intro F' N' news (fun _ hp => hp) off hS ?_
        refine ih (i + 1) _ (by omega) ?_
        rw [List.take_add_one, hc', List.filter_append]
        show StrsAre _ ((_ ++ [c].filter f).map _)
        rw [List.filter_cons, if_neg (by rw [hf]; decide), List.filter_nil, List.append_nil]
        exact hy
  exact key _ 0 [] (by omega) (by simp only [List.take_zero, List.filter_nil, List.map_nil]; exact .nil)
end
end Mine
namespace Mine
theorem cl_join0 : ∀ ys : List PySem.Str, cl (PySem.Str.join (PySem.Str.ofString "") ys) = ys.flatMap cl
  | [] => rfl
  | [y] => by simp [PySem.Str.join]
  | y :: z :: r => by
    show cl (y ++ PySem.Str.ofString "" ++ PySem.Str.join (PySem.Str.ofString "") (z :: r)) = _
    rw [cl_append, cl_append, cl_join0 (z :: r)]
    simp [show cl (PySem.Str.ofString "") = [] from rfl]
theorem page_join (p : Nat) (x : PySem.Str) : PySem.Str.join (PySem.Str.ofString "") ((cl x).map fun d => mkS (ref p d)) = pageS p x := by
  apply cl_inj
  rw [cl_join0, pageS, cl_mkS, page, List.flatMap_map]
  rfl
end Mine
end
section
open PySem PySem.Spec PySem.Calls PySem.W PyProof.Rows PyProof.Rows.LCg PyProof.Rows.LCt
set_option Elab.async false
set_option maxRecDepth 100000
namespace Mine
section
variable {prog : Program} {w : World} {A : Around} {E : Value → Shared → Prop} {s : Shared} {h₀ : Heap} {L : Addr} {m : PySem.Str → Option Value} {env : Env}
/-- a comprehension over a list of ints, one text each -/
theorem rest_ints {elt : PySem.Expr} {x : PySem.Str} {scope : Scope} {cl : List (PySem.Str × Addr)} {S : List (Addr × Obj) → Prop} {Fin : List Value → List (Addr × Obj) → Prop} {news : List (Addr × Obj)} {vs : List Value} {ns : List Int} (g : Int → PySem.Str) (hi : IntsAre vs ns) (hS : S news)
    (turn : ∀ c t I oI C oC D m₂ ys h tk (E' : Value → Shared → Prop) (Q' : Value → Shared → Prop), NsObj oC m₂ → m₂ x = some (.int c t) → Fr h₀ L h m → News h₀ L h ((I, oI) :: (C, oC) :: (D, lst ys) :: news) → Off3 I C D news →
      (∀ t' h' tk', Fr h₀ L h' m → News h₀ L h' ((I, oI) :: (C, oC) :: (D, lst ys) :: news) → Q' (.str (g c) t') { s with heap := h', toks := tk' }) →
      wpAny (model prog w) A (PySem.eval elt (compEnvC scope cl C env)) Q' E' { s with heap := h, toks := tk })
    (fin : ∀ ys, StrsAre ys (ns.map g) → Fin ys news) : CompRest prog w A h₀ L m env elt x scope cl s S (fun i v => vs.toArray[i]? = some v) Fin vs.toArray.size 0 [] news := by
  have hl : vs.length = ns.length := hi.length
  have key : ∀ (j i : Nat) (ys : List Value), i + j = vs.toArray.size → StrsAre ys ((ns.take i).map g) → CompRest prog w A h₀ L m env elt x scope cl s S (fun i v => vs.toArray[i]? = some v) Fin j i ys news := by
    intro j
    induction j with
    | zero =>
      intro i ys hi' hy
      have e : i = ns.length := by simp at hi'; omega
      rw [e, List.take_length] at hy
      exact CompRest.zero (fin ys hy)
    | succ j ih =>
      intro i ys hi' hy
      refine CompRest.succ ?_
      intro v I oI C oC D m₂ h tk E' hv hC hx F N off ne
      obtain ⟨c, t, rfl, hc⟩ := IntsAre.at hi i v (by simpa using hv)
      refine turn c t I oI C oC D m₂ ys h tk E' _ hC hx F N off fun t' h' tk' F' N' => ?_
      refine CompEnd.intro F' N' news (fun _ hp => hp) off hS ?_
      refine ih (i + 1) _ (by omega) ?_
      rw [List.take_add_one, hc, List.map_append]
      exact StrsAre.append' hy (.cons _ _ .nil)
  exact key _ 0 [] (by omega) (by simp only [List.take_zero, List.map_nil]; exact .nil)
end
end Mine
end
section
open PySem PySem.Spec PySem.Calls PySem.W PyProof.Rows
set_option Elab.async false
set_option maxRecDepth 100000
namespace Mine
section
variable {prog : Program} {w : World} {A : Around} {E : Value → Shared → Prop} {s : Shared} {env : Env} {h₀ : Heap} {x : PySem.Str} {body : List Stmt} {Q : Flow → Shared → Prop}
/-- a for over a range by ones, by an invariant on the frame and the ledger -/
theorem range_iter {r : Addr} {b₀ : Int} {t₀ u₀ v₀ : Tok} {n : Nat} {m₀ : PySem.Str → Option Value} {news news₀ : List (Addr × Obj)} (J : Nat → (PySem.Str → Option Value) → List (Addr × Obj) → Prop)
    (hh : A.handled = none) (hr : IsRange s.heap r 0 b₀ 1 t₀ u₀ v₀) (hsmall : Builtin.Range.small 0 b₀ 1 = true) (hsz : Builtin.Range.rangeSize 0 b₀ 1 = (n : Int))
    (F : Fr h₀ env.locals s.heap m₀) (N : News h₀ env.locals s.heap news₀) (hn : ∀ p ∈ news, p ∈ news₀) (hj : J 0 m₀ news)
    (turn : ∀ (i : Nat) t m₁ nx h tk own, i < n → OwnOff own (nx.map (·.1)) → J i m₁ nx → Fr h₀ env.locals h (fun y => if y = x then some (.int (i : Int) t) else m₁ y) → News h₀ env.locals h (nx ++ own) →
      wpAny (model prog w) A (execs body env) (InvPostG h₀ env.locals (J (i + 1)) own { s with heap := h, toks := tk } Q) E { s with heap := h, toks := tk })
    (done : ∀ m₁ nx h tk, J n m₁ nx → Fr h₀ env.locals h m₁ → News h₀ env.locals h nx → Q .next { s with heap := h, toks := tk }) :
    wpAny (model prog w) A (pyIter (.ref r)) (fun it s₂ => LoopAtV prog w A h₀ env x body Q E it s₂) E s := by
  refine wpAny_pyIter_range hr hsmall ?_
  have W : Walks prog w A s.heap.objs.size [s.heap.objs.size] [s.heap.objs.size] n (fun i v => i < n ∧ ∃ t, v = .int (0 + i * 1) t)
      (fun i h => IsRangeIter h s.heap.objs.size (0 + (i : Nat) * 1) ((n : Int) - (i : Nat)) 1) := (Walks.range hh _ 0 1 n).bound
  refine kdr_loop J W (fun _ h => h) (fun _ h => h) ?_ ?_ ?_ ?_ (by show IsRangeIter _ _ _ _ _; rw [hsz]; simpa using Heap.get?_push_size _ rfl) (F.push _) (fun p hp => ⟨Heap.get?_push_of_some _ (N p (hn p hp)).1, (N p (hn p hp)).2⟩) hj ?_ ?_
  · intro i h hi b hb
    rw [List.mem_singleton.mp hb]
    exact ⟨_, hi⟩
  · intro hm
    exact absurd F.ns.lt ((List.mem_singleton.mp hm) ▸ Nat.lt_irrefl _)
  · intro b hb
    rw [List.mem_singleton.mp hb]
    exact next_is_new F
  · intro p hp hI
    exact absurd (Heap.lt_size (N p (hn p hp)).1) ((List.mem_singleton.mp hI) ▸ Nat.lt_irrefl _)
  · rintro i v m₁ nx h tk own hi ⟨_, t, rfl⟩ hoff hJ F₁ N₁
    have e1 : (0 : Int) + (i : Int) * 1 = (i : Int) := by omega
    rw [e1] at F₁
    exact turn i t m₁ nx h tk own hi hoff hJ F₁ N₁
  · rintro m₁ nx h tk hJ F₁ N₁
    exact done m₁ nx h tk hJ F₁ N₁
open PySem.Spec PyProof.Rows.LCg PyProof.Rows.LCt in
/-- a comprehension over a range with a test: what passes -/
theorem rest_rangeT {L : Addr} {m : PySem.Str → Option Value} {ct elt : PySem.Expr} {scope : Scope} {cl : List (PySem.Str × Addr)} {S : List (Addr × Obj) → Prop} {Fin : List Value → List (Addr × Obj) → Prop} {news : List (Addr × Obj)} {n : Nat} (f : Nat → Bool) (hS : S news)
    (turn : ∀ (c : Nat) t I oI C oC D m₂ ys h tk (E' : Value → Shared → Prop) (Q' : Bool → Shared → Prop), c < n → NsObj oC m₂ → m₂ x = some (.int (c : Int) t) → Fr h₀ L h m → News h₀ L h ((I, oI) :: (C, oC) :: (D, lst ys) :: news) → Off3 I C D news →
      (∀ h' tk', Fr h₀ L h' m → News h₀ L h' ((I, oI) :: (C, oC) :: (D, lst ys) :: news) → Q' (f c) { s with heap := h', toks := tk' }) →
      wpAny (model prog w) A (PySem.isTrue ct (compEnvC scope cl C env) (PySem.eval ct (compEnvC scope cl C env))) Q' E' { s with heap := h, toks := tk })
    (elm : ∀ (c : Nat) t I oI C oC D m₂ ys h tk (E' : Value → Shared → Prop) (Q' : Value → Shared → Prop), c < n → NsObj oC m₂ → m₂ x = some (.int (c : Int) t) → Fr h₀ L h m → News h₀ L h ((I, oI) :: (C, oC) :: (D, lst ys) :: news) → Off3 I C D news →
      (∀ t' h' tk', Fr h₀ L h' m → News h₀ L h' ((I, oI) :: (C, oC) :: (D, lst ys) :: news) → Q' (.int (c : Int) t') { s with heap := h', toks := tk' }) →
      wpAny (model prog w) A (PySem.eval elt (compEnvC scope cl C env)) Q' E' { s with heap := h, toks := tk })
    (fin : ∀ ys, IntsAre ys (((List.range n).filter f).map fun c : Nat => (c : Int)) → Fin ys news) : CompRestT prog w A h₀ L m env ct elt x scope cl s S (fun i v => ∃ t, v = .int (0 + (i : Int)) t) Fin n 0 [] news := by
  have key : ∀ (j i : Nat) (ys : List Value), i + j = n → IntsAre ys (((List.range i).filter f).map fun c : Nat => (c : Int)) → CompRestT prog w A h₀ L m env ct elt x scope cl s S (fun i v => ∃ t, v = .int (0 + (i : Int)) t) Fin j i ys news := by
    intro j
    induction j with
    | zero =>
      intro i ys hi hy
      have e : i = n := by omega
      rw [e] at hy
      exact CompRestT.zero (fin ys hy)
    | succ j ih =>
      intro i ys hi hy
      refine CompRestT.succ ?_
      intro v I oI C oC D m₂ h tk E' hv hC hx F N off ne
      obtain ⟨t, rfl⟩ := hv
      rw [Int.zero_add] at hx
      refine turn i t I oI C oC D m₂ ys h tk E' _ (by omega) hC hx F N off fun h' tk' F' N' => ?_
      cases hf : f i with
      | true =>
        rw [if_pos rfl]
        refine elm i t I oI C oC D m₂ ys h' tk' E' _ (by omega) hC hx F' N' off fun t' h'' tk'' F'' N'' => ?_
        refine CompEnd.intro F'' N'' news (fun _ hp => hp) off hS ?_
        refine ih (i + 1) _ (by omega) ?_
        rw [List.range_succ, List.filter_append, List.map_append]
        refine IntsAre.append hy ?_
        rw [List.filter_cons, if_pos hf]
        exact .cons _ _ .nil
      | false =>
        rw [if_neg Bool.false_ne_true]
        refine CompEnd.intro F' N' news (fun _ hp => hp) off hS ?_
        refine ih (i + 1) _ (by omega) ?_
        rw [List.range_succ, List.filter_append, List.filter_cons, if_neg (by rw [hf]; decide), List.filter_nil, List.append_nil]
        exact hy
  exact key _ 0 [] (by omega) .nil
theorem ints_at : ∀ {us : List Value} {ns : List Int}, IntsAre us ns → ∀ {i : Nat} {v : Value}, us[i]? = some v → ∃ p t, ns[i]? = some p ∧ v = .int p t := by
  intro us ns h i v hv
  obtain ⟨c, t, e, hc⟩ := IntsAre.at h i v hv
  exact ⟨c, t, hc, e⟩
end
end Mine
end
section
open PySem PySem.W PyProof.Rows
set_option Elab.async false
set_option maxRecDepth 100000
namespace Mine
/-! the plain law: the straight road -/
inductive Road (bad : Nat → Bool) : List Nat → List Nat → Prop
  | nil : Road bad [] []
  | keep {x : Nat} {a b : List Nat} : Road bad a b → Road bad (x :: a) (x :: b)
  | ins {y : Nat} {a b : List Nat} : Road bad a b → Road bad a (y :: b)
  | sub {x y : Nat} {a b : List Nat} : bad x = true → Road bad a b → Road bad (x :: a) (y :: b)
noncomputable def cnt (bad : Nat → Bool) (a : List Nat) : Nat := (a.filter bad).length
theorem cnt_cons (bad : Nat → Bool) (x : Nat) (a : List Nat) : cnt bad (x :: a) = (if bad x = true then 1 else 0) + cnt bad a := by
  unfold cnt
  rw [List.filter_cons]
  split <;> simp; omega
theorem cnt_append (bad : Nat → Bool) (a b : List Nat) : cnt bad (a ++ b) = cnt bad a + cnt bad b := by
  unfold cnt
  rw [List.filter_append, List.length_append]
theorem cnt_le (bad : Nat → Bool) (a : List Nat) : cnt bad a ≤ a.length := List.length_filter_le _ _
theorem cnt_none {bad : Nat → Bool} {a : List Nat} (h : ∀ c ∈ a, bad c = false) : cnt bad a = 0 := by
  unfold cnt
  rw [List.length_eq_zero_iff, List.filter_eq_nil_iff]
  intro c hc; rw [h c hc]; decide
theorem cnt_rev (bad : Nat → Bool) (a : List Nat) : cnt bad a.reverse = cnt bad a := by
  unfold cnt
  rw [List.filter_reverse, List.length_reverse]
theorem road_len {bad : Nat → Bool} {a b : List Nat} (R : Road bad a b) : a.length ≤ b.length := by
  induction R with
  | nil => simp
  | keep _ ih => simpa using ih
  | ins _ ih => simp; omega
  | sub _ _ ih => simpa using ih
theorem ed_ins (a : List Nat) (y : Nat) (b : List Nat) : ed a (y :: b) ≤ ed a b + 2 := by
  cases a with
  | nil => rw [ed_nil', ed_nil', List.length_cons]; omega
  | cons x a => rw [ed_cons]; omega
theorem road_ed {bad : Nat → Bool} {a b : List Nat} (R : Road bad a b) : ed a b ≤ 2 * ((b.length : Int) - a.length) + 2 * cnt bad a := by
  induction R with
  | nil => rw [ed_nil']; simp [cnt]
  | @keep x a b _ ih =>
    rw [ed_cons, sc_self, cnt_cons, List.length_cons, List.length_cons]
    split <;> omega
  | @ins y a b _ ih =>
    have := ed_ins a y b
    rw [List.length_cons]; omega
  | @sub x y a b hb _ ih =>
    have := sc_le x y
    rw [ed_cons, cnt_cons, if_pos hb, List.length_cons, List.length_cons]
    omega
theorem ed_low {bad : Nat → Bool} : ∀ (a b : List Nat), (∀ c ∈ a, bad c = true → c < 65) → (∀ c ∈ b, bad c = false) → 2 * ((b.length : Int) - a.length) + 2 * cnt bad a ≤ ed a b
  | [], b, _, _ => by rw [ed_nil']; simp [cnt]
  | x :: a, [], _, _ => by
    have := cnt_le bad (x :: a)
    rw [ed_nil]; simp at this ⊢; omega
  | x :: a, y :: b, ha, hb => by
    have h1 := ed_low a (y :: b) (fun c hc => ha c (List.mem_cons_of_mem _ hc)) hb
    have h2 := ed_low (x :: a) b ha (fun c hc => hb c (List.mem_cons_of_mem _ hc))
    have h3 := ed_low a b (fun c hc => ha c (List.mem_cons_of_mem _ hc)) (fun c hc => hb c (List.mem_cons_of_mem _ hc))
    have hs := sc_le x y
    rw [cnt_cons] at h2
    rw [ed_cons, cnt_cons]
    simp only [List.length_cons] at h1 h2 ⊢
    by_cases hx : bad x = true
    · have hxy : x ≠ y := fun e => by rw [e, hb y (List.mem_cons_self ..)] at hx; cases hx
      have := sc_small (ha x (List.mem_cons_self ..) hx) hxy
      rw [if_pos hx] at h2 ⊢
      omega
    · rw [if_neg hx] at h2 ⊢
      omega
theorem road_drop {bad : Nat → Bool} {x : Nat} : ∀ {a b : List Nat}, Road bad (x :: a) b → Road bad a b := by
  intro a b h
  generalize hc : x :: a = c at h
  induction h with
  | nil => cases hc
  | keep r _ => cases hc; exact .ins r
  | ins _ ih => exact .ins (ih hc)
  | sub _ r _ => cases hc; exact .ins r
theorem road_tails {bad : Nat → Bool} {x y : Nat} {a b : List Nat} (h : Road bad (x :: a) (y :: b)) : Road bad a b := by
  cases h with
  | keep r => exact r
  | ins r => exact road_drop r
  | sub _ r => exact r
theorem road_append {bad : Nat → Bool} {a b c d : List Nat} (h : Road bad a b) (k : Road bad c d) : Road bad (a ++ c) (b ++ d) := by
  induction h with
  | nil => exact k
  | keep _ ih => exact .keep ih
  | ins _ ih => exact .ins ih
  | sub hb _ ih => exact .sub hb ih
theorem road_rev {bad : Nat → Bool} {a b : List Nat} (h : Road bad a b) : Road bad a.reverse b.reverse := by
  induction h with
  | nil => exact .nil
  | keep _ ih => rw [List.reverse_cons, List.reverse_cons]; exact road_append ih (.keep .nil)
  | @ins y a b _ ih =>
    rw [List.reverse_cons]
    have := road_append ih (Road.ins (y := y) (Road.nil (bad := bad)))
    rwa [List.append_nil] at this
  | sub hb _ ih => rw [List.reverse_cons, List.reverse_cons]; exact road_append ih (.sub hb .nil)
theorem road_refl (bad : Nat → Bool) : ∀ a, Road bad a a
  | [] => .nil
  | _ :: a => .keep (road_refl bad a)
theorem road_pre {bad : Nat → Bool} : ∀ (p : List Nat) {a b : List Nat}, Road bad (p ++ a) (p ++ b) → Road bad a b
  | [], _, _, h => h
  | _ :: p, _, _, h => road_pre p (road_tails h)
theorem road_suf {bad : Nat → Bool} (p : List Nat) {a b : List Nat} (h : Road bad (a ++ p) (b ++ p)) : Road bad a b := by
  have h1 := road_rev h
  rw [List.reverse_append, List.reverse_append] at h1
  have h2 := road_rev (road_pre _ h1)
  rwa [List.reverse_reverse, List.reverse_reverse] at h2

/-! what dropPre leaves -/
theorem dropPre_spec : ∀ a b : List Nat, ∃ p, a = p ++ (dropPre a b).1 ∧ b = p ++ (dropPre a b).2 ∧ ((dropPre a b).1 = [] ∨ (dropPre a b).2 = [] ∨ (dropPre a b).1.head? ≠ (dropPre a b).2.head?)
  | [], b => ⟨[], by rw [dropPre_nil]; simp⟩
  | x :: a, [] => ⟨[], by rw [dropPre_nil']; simp⟩
  | x :: a, y :: b => by
    by_cases h : x = y
    · subst h
      obtain ⟨p, h1, h2, h3⟩ := dropPre_spec a b
      rw [dropPre_eq]
      refine ⟨x :: p, ?_, ?_, h3⟩
      · rw [List.cons_append, ← h1]
      · rw [List.cons_append, ← h2]
    · rw [dropPre_ne h]
      exact ⟨[], rfl, rfl, .inr (.inr (by simpa using h))⟩
theorem dropPre_swap : ∀ a b : List Nat, dropPre b a = ((dropPre a b).2, (dropPre a b).1)
  | [], b => by rw [dropPre_nil, dropPre_nil']
  | x :: a, [] => by rw [dropPre_nil, dropPre_nil']
  | x :: a, y :: b => by
    by_cases h : x = y
    · subst h; rw [dropPre_eq, dropPre_eq, dropPre_swap a b]
    · rw [dropPre_ne h, dropPre_ne (Ne.symm h)]
theorem dropSuf_swap (a b : List Nat) : dropSuf b a = ((dropSuf a b).2, (dropSuf a b).1) := by
  unfold dropSuf
  rw [dropPre_swap a.reverse b.reverse]
theorem dropSuf_spec (a b : List Nat) : ∃ p, a = (dropSuf a b).1 ++ p ∧ b = (dropSuf a b).2 ++ p ∧ ((dropSuf a b).1 = [] ∨ (dropSuf a b).2 = [] ∨ (dropSuf a b).1.getLast? ≠ (dropSuf a b).2.getLast?) := by
  obtain ⟨p, h1, h2, h3⟩ := dropPre_spec a.reverse b.reverse
  refine ⟨p.reverse, ?_, ?_, ?_⟩
  · unfold dropSuf; rw [← List.reverse_append, ← h1, List.reverse_reverse]
  · unfold dropSuf; rw [← List.reverse_append, ← h2, List.reverse_reverse]
  · unfold dropSuf
    dsimp only
    rw [List.reverse_eq_nil_iff, List.reverse_eq_nil_iff, List.getLast?_reverse, List.getLast?_reverse]
    exact h3
/-- what the distance tells of two texts on a straight road -/
theorem levG_road {bad : Nat → Bool} {a b : List Nat} (R : Road bad a b) (ha : ∀ c ∈ a, bad c = true → c < 65) (hb : ∀ c ∈ b, bad c = false) (mx : Int) {L : Int} (hL : L = levG a b mx ∨ L = levG b a mx) :
    (a = [] → L = 2 * ((b.length : Int) - a.length) + 2 * cnt bad a) ∧
    (a ≠ [] → (40 < b.length ∨ mx < 2 * ((b.length : Int) - a.length)) → L = mx + 1) ∧
    (a ≠ [] → ¬ (40 < b.length ∨ mx < 2 * ((b.length : Int) - a.length)) → (L = 2 * ((b.length : Int) - a.length) + 2 * cnt bad a ∨ L = mx + 1) ∧ (2 * ((b.length : Int) - a.length) + 2 * cnt bad a ≤ mx → L = 2 * ((b.length : Int) - a.length) + 2 * cnt bad a)) := by
  have hlen := road_len R
  have hed : ed a.reverse b.reverse = 2 * ((b.length : Int) - a.length) + 2 * cnt bad a := by
    have h1 := road_ed (road_rev R)
    have h2 := ed_low (bad := bad) a.reverse b.reverse (fun c hc => ha c (List.mem_reverse.mp hc)) (fun c hc => hb c (List.mem_reverse.mp hc))
    rw [List.length_reverse, List.length_reverse, cnt_rev] at h1 h2
    omega
  refine ⟨?_, ?_, ?_⟩
  · rintro rfl
    have h0 : cnt bad [] = 0 := rfl
    rw [h0]
    rcases hL with hL | hL
    · rw [hL, levG, if_pos (.inl rfl)]; simp
    · rw [hL, levG, if_pos (.inr rfl)]; simp
  · intro hne hc
    have h0 : a.length ≠ 0 := fun e => hne (List.eq_nil_of_length_eq_zero e)
    by_cases h40 : 40 < b.length
    · rcases hL with hL | hL
      · rw [hL, levG, if_neg (by omega), if_pos (.inr h40)]
      · rw [hL, levG, if_neg (by omega), if_pos (.inl h40)]
    · have hc' := hc.resolve_left h40
      rcases hL with hL | hL
      · rw [hL, levG, if_neg (by omega), if_neg (by omega), if_neg (by omega), levH, if_pos (by omega)]
      · rw [hL, levG, if_neg (by omega), if_neg (by omega)]
        by_cases hlt : a.length < b.length
        · rw [if_pos hlt, levH, if_pos (by omega)]
        · rw [if_neg hlt, levH, if_pos (by omega)]
  · intro hne hc
    have h0 : a.length ≠ 0 := fun e => hne (List.eq_nil_of_length_eq_zero e)
    have hnb : b ≠ [] := fun e => by rw [e] at hlen; simp at hlen; exact h0 (by rw [hlen]; rfl)
    have d1 := dp_ed a hne mx b [] 0 (fun e => absurd e hnb)
    have d2 := dp_ed b hnb mx a [] 0 (fun e => absurd e hne)
    rw [List.append_nil] at d1 d2
    rw [ed_comm b.reverse a.reverse] at d2
    have key : L = dp a mx b ([] : List Nat).length (rowOf [] [] a) 0 ∨ L = dp b mx a ([] : List Nat).length (rowOf [] [] b) 0 := by
      rcases hL with hL | hL
      · rw [hL, levG, if_neg (by omega), if_neg (by omega), if_neg (by omega), levH, if_neg (by omega)]; exact .inl rfl
      · rw [hL, levG, if_neg (by omega), if_neg (by omega)]
        by_cases hlt : a.length < b.length
        · rw [if_pos hlt, levH, if_neg (by omega)]; exact .inl rfl
        · rw [if_neg hlt, levH, if_neg (by omega)]; exact .inr rfl
    rw [hed] at d1 d2
    rcases key with e | e <;> rw [e]
    · exact d1
    · exact d2
end Mine
end
section
open PySem PySem.W PyProof.Rows
set_option Elab.async false
set_option maxRecDepth 100000
namespace Mine
/-! references -/
theorem lookup_mem {α : Type} : ∀ {t : List (Nat × α)} {d : Nat} {r : α}, t.lookup d = some r → (d, r) ∈ t
  | [], _, _, h => by cases h
  | (k, q) :: t, d, r, h => by
    rw [List.lookup_cons] at h
    split at h
    · rename_i hk
      have : d = k := by simpa using hk
      cases h; subst this; exact List.mem_cons_self ..
    · exact List.mem_cons_of_mem _ (lookup_mem h)
theorem ref_cases (p d : Nat) : ((tabOf p).lookup d = none ∧ ref p d = [d]) ∨ (d, ref p d) ∈ tabOf p := by
  unfold ref
  cases h : (tabOf p).lookup d with
  | none => exact .inl ⟨rfl, rfl⟩
  | some r => exact .inr (lookup_mem h)
theorem tabOf_mem (p : Nat) : tabOf p = [] ∨ tabOf p ∈ refs := by
  unfold tabOf
  rw [List.getD_eq_getElem?_getD]
  cases h : refs[p]? with
  | none => exact .inl rfl
  | some t => exact .inr (List.mem_of_getElem? h)
theorem tab_all {P : Nat × List Nat → Prop} (h : ∀ t ∈ refs, ∀ q ∈ t, P q) {p : Nat} {q : Nat × List Nat} (hq : q ∈ tabOf p) : P q := by
  rcases tabOf_mem p with e | e
  · rw [e] at hq; cases hq
  · exact h _ e q hq
theorem ref_quote {p c : Nat} (h : c ≠ 34) : 34 ∉ ref p c := by
  rcases ref_cases p c with ⟨_, e⟩ | e
  · rw [e]; simp; exact fun h' => h h'.symm
  · exact tab_all (P := fun q => 34 ∉ q.2) (by decide +kernel) e
theorem told_app : ∀ {u : List Nat} (r : List Nat), 34 ∉ u → told (u ++ r) = u ++ told r
  | [], _, _ => rfl
  | c :: u, r, h => by
    have hc : c ≠ 34 := fun e => h (e ▸ List.mem_cons_self ..)
    rw [List.cons_append, told_cons hc, told_app r (fun m => h (List.mem_cons_of_mem _ m)), List.cons_append]
theorem told_id {u : List Nat} (h : 34 ∉ u) : told u = u := by
  have := told_app [] h
  simpa [told] using this
theorem page_cons (p c : Nat) (l : List Nat) : page p (c :: l) = ref p c ++ page p l := by simp [page]
theorem page_append (p : Nat) (a b : List Nat) : page p (a ++ b) = page p a ++ page p b := by simp [page]
theorem page_noquote {p : Nat} (hp : p = 1 ∨ p = 2 ∨ p = 4) (l : List Nat) : 34 ∉ page p l := by
  unfold page
  rw [List.mem_flatMap]
  rintro ⟨c, _, hc⟩
  by_cases h : c = 34
  · subst h
    revert hc
    rcases hp with rfl | rfl | rfl <;> decide +kernel
  · exact ref_quote h hc
theorem told_page_b {p : Nat} (hp : p = 0 ∨ p = 3) : ∀ l : List Nat, told (page p l) = page p (told l)
  | [] => rfl
  | [c] => by
    by_cases h : c = 34
    · subst h
      rcases hp with rfl | rfl <;> decide +kernel
    · rw [page_cons, told_app _ (ref_quote h), told_cons h, page_cons]; rfl
  | c :: d :: r => by
    by_cases h : c = 34
    · subst h
      have e : ref p 34 = [34] := by rcases hp with rfl | rfl <;> decide +kernel
      by_cases h2 : d = 34
      · subst h2
        rw [page_cons, page_cons, e, told_quotes, page_cons, e]
        show told (34 :: 34 :: page p r) = 34 :: page p (told r)
        rw [told_quotes, told_page_b hp r]
      · have h3 : (page p (d :: r)).head? ≠ some 34 := by
          have h4 := ref_quote (p := p) h2
          have h5 := (ref_len p d).1
          rw [page_cons]
          cases hr : ref p d with
          | nil => rw [hr] at h5; simp at h5
          | cons x u =>
            rw [hr] at h4
            simp only [List.cons_append, List.head?_cons, ne_eq, Option.some.injEq]
            exact fun e => h4 (e ▸ List.mem_cons_self ..)
        rw [page_cons, e, told_one (by simpa using h2)]
        show told (34 :: page p (d :: r)) = _
        rw [told_one h3]; rfl
    · rw [page_cons, told_app _ (ref_quote h), told_page_b hp (d :: r), told_cons h, page_cons]
theorem toldS_page_a {p : Int} (hp : p = 1 ∨ p = 2 ∨ p = 4) (x : PySem.Str) : toldS (pageS p.toNat x) = pageS p.toNat x := by
  apply cl_inj
  rw [toldS, cl_mkS, pageS, cl_mkS, told_id (page_noquote (by omega) _)]
theorem toldS_page_b {p : Int} (hp : p = 0 ∨ p = 3) (x : PySem.Str) : toldS (pageS p.toNat x) = pageS p.toNat (toldS x) := by
  apply cl_inj
  rw [toldS, cl_mkS, pageS, cl_mkS, pageS, cl_mkS, toldS, cl_mkS, told_page_b (by omega)]

/-! from the nearer text to the farther one -/
noncomputable def keysL : List Nat := [60, 62, 34, 13, 10, 9]
noncomputable def Good (q : Nat → List Nat) : Prop := ∀ c, (c ∈ keysL → ∀ d, d ≠ c → c ∉ q d) ∧ ∃ y r, q c = y :: r ∧ (y = c ∨ (c ∈ keysL ∧ c ∉ q c))
theorem good_ref (p : Nat) : Good (ref p) := by
  intro c
  refine ⟨fun hc d hd => ?_, ?_⟩
  · rcases ref_cases p d with ⟨_, e⟩ | e
    · rw [e]; simp; exact fun h => hd h.symm
    · exact tab_all (P := fun q => ∀ k ∈ keysL, k ∉ q.2) (by decide +kernel) e c hc
  · rcases ref_cases p c with ⟨_, e⟩ | e
    · exact ⟨c, [], e, .inl rfl⟩
    · have h := tab_all (P := fun q => ∃ y r, q.2 = y :: r ∧ (y = q.1 ∨ (q.1 ∈ keysL ∧ q.1 ∉ q.2))) (by
        intro t ht q hq
        have key : ∀ t ∈ refs, ∀ q ∈ t, q.2.head? = some 38 ∧ (q.1 = 38 ∨ (q.1 ∈ keysL ∧ q.1 ∉ q.2)) := by decide +kernel
        obtain ⟨h1, h2⟩ := key t ht q hq
        cases e : q.2 with
        | nil => rw [e] at h1; cases h1
        | cons y r =>
          rw [e] at h1
          have : y = 38 := by simpa using h1
          rw [e] at h2
          exact ⟨y, r, rfl, h2.elim (fun h => .inl (this.trans h.symm)) .inr⟩) e
      exact h
theorem good_id : Good (fun c => [c]) := fun c => ⟨fun _ d hd => by simp; exact fun h => hd h.symm, c, [], rfl, .inl rfl⟩
theorem good_comp {q₁ q₂ : Nat → List Nat} (h₁ : Good q₁) (h₂ : Good q₂) : Good (fun c => (q₁ c).flatMap q₂) := by
  intro c
  have step : c ∈ keysL → ∀ u : List Nat, c ∉ u → c ∉ u.flatMap q₂ := by
    intro hc u hu hm
    obtain ⟨e, he, hce⟩ := List.mem_flatMap.mp hm
    exact (h₂ c).1 hc e (fun h => hu (h ▸ he)) hce
  refine ⟨fun hc d hd => step hc _ ((h₁ c).1 hc d hd), ?_⟩
  obtain ⟨y, r, e, hy⟩ := (h₁ c).2
  obtain ⟨y2, r2, e2, hy2⟩ := (h₂ y).2
  refine ⟨y2, r2 ++ r.flatMap q₂, ?_, ?_⟩
  · show (q₁ c).flatMap q₂ = _
    rw [e, List.flatMap_cons, e2]; rfl
  · rcases hy with rfl | ⟨hc, hn⟩
    · rcases hy2 with rfl | ⟨hc, hn⟩
      · exact .inl rfl
      · refine .inr ⟨hc, fun hm => ?_⟩
        obtain ⟨e', he', hce⟩ := List.mem_flatMap.mp hm
        by_cases hh : e' = y
        · subst hh; exact hn hce
        · exact (h₂ y).1 hc e' hh hce
    · exact .inr ⟨hc, step hc _ hn⟩
theorem key_small {c : Nat} (h : c ∈ keysL) : c < 65 := by
  have : ∀ c ∈ keysL, c < 65 := by decide
  exact this c h
theorem road_sub {q : Nat → List Nat} (hq : Good q) {bad : Nat → Bool} : ∀ {a z : List Nat}, a.Sublist z → (∀ c ∈ z, c ∈ keysL → c ∉ q c → bad c = true) → Road bad a (z.flatMap q)
  | _, _, .slnil, _ => .nil
  | _, _, .cons (l₂ := z) c h, hb => by
    have ih := road_sub hq h (fun d hd => hb d (List.mem_cons_of_mem _ hd))
    rw [List.flatMap_cons]
    generalize q c = u
    induction u with
    | nil => exact ih
    | cons y u ihu => exact .ins ihu
  | _, _, .cons_cons (l₁ := a) (l₂ := z) c h, hb => by
    have ih := road_sub hq h (fun d hd => hb d (List.mem_cons_of_mem _ hd))
    obtain ⟨y, r, e, hy⟩ := (hq c).2
    have ih2 : Road bad a (r ++ z.flatMap q) := by
      clear e
      induction r with
      | nil => exact ih
      | cons y r ihr => exact .ins ihr
    rw [List.flatMap_cons, e, List.cons_append]
    rcases hy with rfl | ⟨hc, hn⟩
    · exact .keep ih2
    · exact .sub (hb c (List.mem_cons_self ..) hc hn) ih2
theorem road_of {q : Nat → List Nat} (hq : Good q) {a z : List Nat} (h : a.Sublist z) :
    Road (fun c => decide (c ∉ z.flatMap q)) a (z.flatMap q) ∧ ∀ c ∈ a, c ∉ z.flatMap q → c < 65 := by
  refine ⟨road_sub hq h fun c hc hk hn => ?_, fun c hc hn => ?_⟩
  · refine decide_eq_true fun hm => ?_
    obtain ⟨e, he, hce⟩ := List.mem_flatMap.mp hm
    by_cases hh : e = c
    · subst hh; exact hn hce
    · exact (hq c).1 hk e hh hce
  · obtain ⟨y, r, e, hy⟩ := (hq c).2
    rcases hy with rfl | ⟨hk, _⟩
    · exact absurd (List.mem_flatMap.mpr ⟨y, h.mem hc, e ▸ List.mem_cons_self ..⟩) hn
    · exact key_small hk
theorem told_sub : ∀ l : List Nat, (told l).Sublist l
  | [] => .slnil
  | [c] => by
    simp only [told]
    split
    · exact List.nil_sublist _
    · exact List.Sublist.refl _
  | c :: d :: r => by
    simp only [told]
    split
    · rename_i h
      split
      · subst h
        exact .cons_cons _ (.cons _ (told_sub r))
      · exact List.nil_sublist _
    · exact .cons_cons _ (told_sub (d :: r))
theorem flat_sub {q : Nat → List Nat} {a z : List Nat} (h : a.Sublist z) : (a.flatMap q).Sublist (z.flatMap q) := by
  induction h with
  | slnil => exact .slnil
  | cons c _ ih => rw [List.flatMap_cons]; exact List.Sublist.trans ih (List.sublist_append_right _ _)
  | cons_cons c _ ih => rw [List.flatMap_cons, List.flatMap_cons]; exact List.Sublist.append (List.Sublist.refl _) ih
end Mine
end
section
open PySem PySem.W PyProof.Rows
set_option Elab.async false
set_option maxRecDepth 100000
namespace Mine
noncomputable def rdS : Nat → PySem.Str → PySem.Str
  | 0, x => x
  | n + 1, x => toldS (rdS n x)
noncomputable def wrS (ps : List Int) (x : PySem.Str) : PySem.Str := ps.foldl (fun x p => pageS p.toNat x) x
noncomputable def endS (r w p0 p1 : Int) (x : PySem.Str) : PySem.Str := wrS ([p0, p1].take w.toNat) (rdS r.toNat x)
theorem rdS_len (n : Nat) (x : PySem.Str) : (rdS n x).length ≤ x.length := by
  induction n with
  | zero => exact Nat.le_refl _
  | succ n ih => exact Nat.le_trans (toldS_len _) ih
theorem wrS_len (ps : List Int) : ∀ x : PySem.Str, (wrS ps x).length ≤ 6 ^ ps.length * x.length := by
  induction ps with
  | nil => intro x; simp [wrS]
  | cons p ps ih =>
    intro x
    have h1 := ih (pageS p.toNat x)
    have h2 := pageS_len p.toNat x
    have h3 : 6 ^ ps.length * (pageS p.toNat x).length ≤ 6 ^ ps.length * (6 * x.length) := Nat.mul_le_mul_left _ h2
    show (wrS ps (pageS p.toNat x)).length ≤ _
    rw [List.length_cons, Nat.pow_succ, Nat.mul_assoc]
    omega
theorem wrS_len2 {ps : List Int} {x : PySem.Str} (h : ps.length ≤ 2) (hx : x.length ≤ 6) : (wrS ps x).length ≤ 216 := by
  have h1 := wrS_len ps x
  have h2 : 6 ^ ps.length ≤ 6 ^ 2 := Nat.pow_le_pow_right (by decide) h
  have h3 : 6 ^ ps.length * x.length ≤ 6 ^ 2 * 6 := Nat.mul_le_mul h2 hx
  omega
theorem endS_len {r w p0 p1 : Int} {x : PySem.Str} (hx : x.length ≤ 6) : (endS r w p0 p1 x).length ≤ 216 :=
  wrS_len2 (by rw [List.length_take]; exact Nat.min_le_right _ _) (Nat.le_trans (rdS_len _ _) hx)
theorem rd_sub (x : PySem.Str) (m : Nat) : ∀ k : Nat, (cl (rdS (m + k) x)).Sublist (cl (rdS m x))
  | 0 => List.Sublist.refl _
  | k + 1 => List.Sublist.trans (told_sub _) (rd_sub x m k)
noncomputable def qs : List Int → Nat → List Nat
  | [], c => [c]
  | p :: ps, c => (ref p.toNat c).flatMap (qs ps)
theorem good_qs : ∀ ps : List Int, Good (qs ps)
  | [] => good_id
  | p :: ps => good_comp (good_ref p.toNat) (good_qs ps)
theorem cl_wrS : ∀ (ps : List Int) (x : PySem.Str), cl (wrS ps x) = (cl x).flatMap (qs ps)
  | [], x => by
    show cl x = (cl x).flatMap fun c => [c]
    simp
  | p :: ps, x => by
    show cl (wrS ps (pageS p.toNat x)) = _
    rw [cl_wrS ps, pageS, cl_mkS, page, List.flatMap_assoc]; rfl
theorem wrS_append (a b : List Int) (x : PySem.Str) : wrS (a ++ b) x = wrS b (wrS a x) := by
  unfold wrS; rw [List.foldl_append]
/-- the two ends lie on one straight road -/
theorem ends_road {r0 r1 w0 w1 p0 p1 : Int} {x : PySem.Str} (hr : 0 ≤ r1 ∧ r1 ≤ r0) (hw : 0 ≤ w0 ∧ w0 ≤ w1) :
    Road (fun c => decide (c ∉ cl (endS r1 w1 p0 p1 x))) (cl (endS r0 w0 p0 p1 x)) (cl (endS r1 w1 p0 p1 x)) ∧ ∀ c ∈ cl (endS r0 w0 p0 p1 x), c ∉ cl (endS r1 w1 p0 p1 x) → c < 65 := by
  unfold endS
  have e1 : [p0, p1].take w1.toNat = [p0, p1].take w0.toNat ++ ([p0, p1].take w1.toNat).drop w0.toNat := by
    have h := (List.take_append_drop w0.toNat ([p0, p1].take w1.toNat)).symm
    rw [List.take_take, Nat.min_eq_left (by omega)] at h
    exact h
  rw [e1, wrS_append, cl_wrS (List.drop _ _), cl_wrS, cl_wrS]
  refine road_of (good_qs _) (flat_sub ?_)
  have := rd_sub x r1.toNat (r0.toNat - r1.toNat)
  rwa [show r1.toNat + (r0.toNat - r1.toNat) = r0.toNat by omega] at this

/-! the end of law 1 -/
theorem dropPre_self : ∀ a : List Nat, dropPre a a = ([], [])
  | [] => dropPre_nil []
  | x :: a => by rw [dropPre_eq, dropPre_self a]
theorem levF_levG {a b : List Nat} {mx : Int} : levF a b mx = levG (dropSuf (dropPre a b).1 (dropPre a b).2).1 (dropSuf (dropPre a b).1 (dropPre a b).2).2 mx := by
  by_cases h : a = b
  · subst h
    rw [levF, if_pos rfl, dropPre_self, dropSuf_nil, levG, if_pos (.inl rfl)]; rfl
  · rw [levF, if_neg h]
theorem levF_swap {a b : List Nat} {mx : Int} : levF b a mx = levG (dropSuf (dropPre a b).1 (dropPre a b).2).2 (dropSuf (dropPre a b).1 (dropPre a b).2).1 mx := by
  rw [levF_levG, dropPre_swap a b, dropSuf_swap (dropPre a b).1 (dropPre a b).2]
theorem law1_fin {a b : List Nat} {bad : Nat → Bool} (hbad : bad = fun c => decide (c ∉ b)) (R : Road bad a b) (hs : ∀ c ∈ a, c ∉ b → c < 65) {h f : Nat} (h1 : h ≤ a.length) (h2 : ∀ k < h, a[k]? = b[k]?) (h3 : h = a.length ∨ a[h]? ≠ b[h]?)
    (f1 : h ≤ f) (f1' : f ≤ a.length) (f2 : a.drop f = b.drop (b.length - a.length + f)) (f3 : ∀ g, h ≤ g → g < f → a.drop g ≠ b.drop (b.length - a.length + g)) (mx : Int) {L : Int} (hL : L = levF a b mx ∨ L = levF b a mx) :
    (f = h → L = 2 * ((b.length : Int) - a.length) + 2 * cnt bad a) ∧
    (f ≠ h → (40 < (f : Int) - h + ((b.length : Int) - a.length) ∨ mx < 2 * ((b.length : Int) - a.length)) → L = mx + 1) ∧
    (f ≠ h → ¬ (40 < (f : Int) - h + ((b.length : Int) - a.length) ∨ mx < 2 * ((b.length : Int) - a.length)) → (L = 2 * ((b.length : Int) - a.length) + 2 * cnt bad a ∨ L = mx + 1) ∧ (2 * ((b.length : Int) - a.length) + 2 * cnt bad a ≤ mx → L = 2 * ((b.length : Int) - a.length) + 2 * cnt bad a)) := by
  have hlen := road_len R
  rw [levF_levG, levF_swap] at hL
  obtain ⟨p, ha1, hb1, hc1⟩ := dropPre_spec a b
  obtain ⟨s, ha2, hb2, hc2⟩ := dropSuf_spec (dropPre a b).1 (dropPre a b).2
  generalize (dropSuf (dropPre a b).1 (dropPre a b).2).1 = a2 at ha2 hc2 hL
  generalize (dropSuf (dropPre a b).1 (dropPre a b).2).2 = b2 at hb2 hc2 hL
  generalize (dropPre a b).1 = a1 at ha1 hc1 ha2
  generalize (dropPre a b).2 = b1 at hb1 hc1 hb2
  have la : a.length = p.length + a1.length := by rw [ha1, List.length_append]
  have lb : b.length = p.length + b1.length := by rw [hb1, List.length_append]
  have la1 : a1.length = a2.length + s.length := by rw [ha2, List.length_append]
  have lb1 : b1.length = b2.length + s.length := by rw [hb2, List.length_append]
  have hp : p.length = h := by
    rcases Nat.lt_trichotomy p.length h with hlt | he | hgt
    · exfalso
      have e := h2 _ hlt
      have hn1 : a1 ≠ [] := fun e => by rw [e] at la; simp at la; omega
      have hn2 : b1 ≠ [] := fun e => by rw [e] at lb; simp at lb; omega
      refine (hc1.resolve_left hn1).resolve_left hn2 ?_
      rw [ha1, hb1, List.getElem?_append_right (Nat.le_refl _), List.getElem?_append_right (Nat.le_refl _), Nat.sub_self] at e
      rw [List.head?_eq_getElem?, List.head?_eq_getElem?]; exact e
    · exact he
    · exfalso
      rcases h3 with h3 | h3
      · omega
      · apply h3
        rw [ha1, hb1, List.getElem?_append_left hgt, List.getElem?_append_left hgt]
  have eqa : ∀ k ≤ a2.length, a.drop (h + k) = a2.drop k ++ s := by
    intro k hk
    rw [ha1, ha2, ← hp, ← List.drop_drop, List.drop_left, List.drop_append_of_le_length hk]
  have eqb : ∀ k ≤ a2.length, b.drop (b.length - a.length + (h + k)) = b2.drop (b2.length - a2.length + k) ++ s := by
    intro k hk
    have e : b.length - a.length + (h + k) = p.length + (b2.length - a2.length + k) := by
      rw [la, lb, Nat.add_sub_add_left, la1, lb1, Nat.add_sub_add_right, hp]
      exact Nat.add_left_comm _ _ _
    rw [e, hb1, hb2, ← List.drop_drop, List.drop_left, List.drop_append_of_le_length (by omega)]
  have hf : f = h + a2.length := by
    have hle : f ≤ h + a2.length := by
      refine Nat.le_of_not_lt fun hlt => ?_
      refine f3 _ (Nat.le_add_right _ _) hlt ?_
      rw [eqa _ (Nat.le_refl _), eqb _ (Nat.le_refl _), List.drop_length, show b2.length - a2.length + a2.length = b2.length by omega, List.drop_length]
    refine Nat.le_antisymm hle (Nat.le_of_not_lt fun hlt => ?_)
    obtain ⟨k, rfl⟩ : ∃ k, f = h + k := ⟨f - h, by omega⟩
    have hk : k < a2.length := by omega
    rw [eqa k (by omega), eqb k (by omega)] at f2
    have e := List.append_cancel_right f2
    have hn1 : a2 ≠ [] := fun e => by rw [e] at hk; simp at hk
    have hn2 : b2 ≠ [] := fun e => by rw [e] at lb1; simp at lb1; omega
    refine (hc2.resolve_left hn1).resolve_left hn2 ?_
    have g1 : (a2.drop k).getLast? = a2.getLast? := by rw [List.getLast?_drop, if_neg (by omega)]
    have g2 : (b2.drop (b2.length - a2.length + k)).getLast? = b2.getLast? := by rw [List.getLast?_drop, if_neg (by omega)]
    rw [← g1, ← g2, e]
  have Rb : ∀ c ∈ b, bad c = false := fun c hc => by rw [hbad]; exact decide_eq_false (fun h => h hc)
  have mb2 : ∀ c ∈ b2, c ∈ b := fun c hc => by rw [hb1, hb2]; exact List.mem_append.mpr (.inr (List.mem_append.mpr (.inl hc)))
  have mp : ∀ c ∈ p, c ∈ b := fun c hc => by rw [hb1]; exact List.mem_append.mpr (.inl hc)
  have ms : ∀ c ∈ s, c ∈ b := fun c hc => by rw [hb1, hb2]; exact List.mem_append.mpr (.inr (List.mem_append.mpr (.inr hc)))
  have ma2 : ∀ c ∈ a2, c ∈ a := fun c hc => by rw [ha1, ha2]; exact List.mem_append.mpr (.inr (List.mem_append.mpr (.inl hc)))
  have R2 : Road bad a2 b2 := by
    rw [ha1, hb1] at R
    have R1 := road_pre p R
    rw [ha2, hb2] at R1
    exact road_suf s R1
  have hcnt : cnt bad a = cnt bad a2 := by
    rw [ha1, ha2, cnt_append, cnt_append, cnt_none (fun c hc => Rb c (mp c hc)), cnt_none (fun c hc => Rb c (ms c hc))]; omega
  have key := levG_road R2 (fun c hc hb => hs c (ma2 c hc) (by rw [hbad] at hb; exact of_decide_eq_true hb)) (fun c hc => Rb c (mb2 c hc)) mx hL
  have d : (b2.length : Int) - a2.length = (b.length : Int) - a.length := by omega
  have d40 : (f : Int) - h + ((b.length : Int) - a.length) = b2.length := by omega
  rw [d40, hcnt, ← d]
  obtain ⟨k1, k2, k3⟩ := key
  have hz : a2 = [] ↔ f = h := by
    rw [hf, ← List.length_eq_zero_iff]; omega
  refine ⟨fun e => k1 (hz.mpr e), fun e => ?_, fun e => ?_⟩
  · rintro (c | c)
    · exact k2 (fun z => e (hz.mp z)) (.inl (by omega))
    · exact k2 (fun z => e (hz.mp z)) (.inr c)
  · intro c
    exact k3 (fun z => e (hz.mp z)) (fun z => c (z.imp (by omega) id))
end Mine
end
section
open PySem PySem.W PyProof.Rows
set_option maxHeartbeats 8000000
open_top hd1 for PySem.Challenge.rw_wn0093_01
end
section
open PySem PySem.W PyProof.Rows
set_option Elab.async false
set_option maxRecDepth 100000
namespace Mine
noncomputable abbrev prg : Program := PySem.Challenge.rw_wn0093_01.row.prog
noncomputable abbrev vw : Program := hd1.view_39
noncomputable def Ctr (k : Nat) (w : World) (mean : ExcName → Option Value) (mg mb : Str → Option Value) (f : Addr) (pre : Prop) (vs : List Value) (R : Tok → Value) : Prop :=
  ∀ (news : List (Addr × Obj)) (dp un : Nat) (gd : Option (List Code)) (cn : Str) (cs : Scope) (a : Addr) (ccd : Value) (cl : List (Str × Addr)) (outer : List Env) (A₀ : Around) (base h₀ : Heap) (L : Addr) (m : Str → Option Value) (s : Shared) (Q E : Value → Shared → Prop),
    Below A₀ base outer h₀ → Fr h₀ L s.heap m → (hd1.heap_39 w.params).In h₀ → News h₀ L s.heap news → Top vw (looseW vw []) mean mg mb h₀ → cs.kind = .function →
    pre → dp + k < recursionLimit → un + 8 * k < cLine →
    (∀ (t : Tok) (h' : Heap) (tk' : Nat), Fr h₀ L h' m → News h₀ L h' news → Q (R t) { s with heap := h', toks := tk' }) →
      wpAny (model prg w) (ktrTop dp un gd cn cs L a ccd cl outer) (PySem.call (.ref f) vs) Q E s
theorem Ctr.use {k : Nat} {w : World} {mean : ExcName → Option Value} {mg mb : Str → Option Value} {f : Addr} {pre : Prop} {vs : List Value} {R : Tok → Value} (C : Ctr k w mean mg mb f pre vs R)
    {news : List (Addr × Obj)} {dp un : Nat} {gd : Option (List Code)} {cn : Str} {cs : Scope} {a : Addr} {ccd : Value} {cl : List (Str × Addr)} {outer : List Env} {A₀ : Around} {base h₀ : Heap} {L : Addr} {m : Str → Option Value} {s : Shared} {Q E : Value → Shared → Prop}
    (B : Below A₀ base outer h₀) (F : Fr h₀ L s.heap m) (X : (hd1.heap_39 w.params).In h₀) (N : News h₀ L s.heap news) (T : Top vw (looseW vw []) mean mg mb h₀) (hk : cs.kind = .function)
    (hp : pre) (hd : dp + k < recursionLimit) (hu : un + 8 * k < cLine)
    (ret : ∀ (t : Tok) (h' : Heap) (tk' : Nat), Fr h₀ L h' m → News h₀ L h' news → Q (R t) { s with heap := h', toks := tk' }) :
    wpAny (model prg w) (ktrTop dp un gd cn cs L a ccd cl outer) (PySem.call (.ref f) vs) Q E s := C _ _ _ _ _ _ _ _ _ _ _ _ _ _ _ _ _ _ B F X N T hk hp hd hu ret
set_option maxHeartbeats 8000000 in
theorem parse257_ctr (w : World) (mean : ExcName → Option Value) (mg mb : Str → Option Value) (y : Str) (t : Tok) :
    Ctr 1 w mean mg mb 60 (y.length ≤ 100000) [.str (PySem.Str.ofString "257 \"" ++ y) t] (fun t => .str (toldS y) t) := by
  delta Ctr prg vw
  k_fill
  intros
  rename_i hpre _ _ hret
  have hlen : (PySem.Str.ofString "257 \"" ++ y).length = 5 + y.length := by rw [cl_len, cl_append, lit257, cl_len]; simp; omega
  generalize hx : PySem.Str.ofString "257 \"" ++ y = x at *
  k_with "exec While Compare cons nil" => k_while (fun script i d => 5 ≤ i ∧ i ≤ (x.length : Int) ∧ (d.length : Int) ≤ i ∧ cl d ++ told ((cl x).drop i.toNat) = told (cl y)) (fun script i d => x.length - i.toNat) "i" "dirname"
  k_with "state" => first
    | (with_reducible (subst hx; exact p257_start))
    | with_reducible exact p257_quote ⟨by assumption, by assumption, by assumption, by assumption⟩ (by assumption) (by assumption) (by assumption) (by assumption)
    | with_reducible exact p257_plain ⟨by assumption, by assumption, by assumption, by assumption⟩ (by assumption) (by assumption)
  refine wpAny_call ?_
  k_dflt cell_enter
  k_steps
  k_with_none
  all_goals first
    | (exfalso; subst hx; with_reducible exact p257_a (y := y) (by assumption))
    | (exfalso; subst hx; with_reducible exact p257_b (y := y) (by assumption))
    | (refine' cb_retS hret ?e1 ?e2 ?e3; (case e2 => with_reducible assumption); (case e3 => with_reducible assumption); (case e1 => first
      | with_reducible exact p257_end ⟨by assumption, by assumption, by assumption, by assumption⟩ (by assumption)
      | with_reducible exact p257_stop1 ⟨by assumption, by assumption, by assumption, by assumption⟩ (by assumption) (by assumption) (by assumption)
      | with_reducible exact p257_stop2 ⟨by assumption, by assumption, by assumption, by assumption⟩ (by assumption) (by assumption) (by assumption) (by assumption)))
set_option maxHeartbeats 8000000 in
theorem escape_cdata_ctr (w : World) (mean : ExcName → Option Value) (mg mb : Str → Option Value) (x : Str) (t : Tok) :
    Ctr 1 w mean mg mb 74 (x.length ≤ 100000) [.str x t] (fun t => .str (pageS 0 x) t) := by
  delta Ctr prg vw
  k_fill
  intros
  rename_i hpre _ _ hret
  obtain ⟨h0, h1, h2, hE⟩ := esc0 hpre
  refine wpAny_call ?_
  k_dflt cell_enter
  repeat' ((first | ((with_reducible show wpAny _ _ (PySem.exec (PySem.Stmt.If (PySem.Expr.Compare _ _ _ _) _ [] _) _) _ _ _); apply if_repl; (with_reducible assumption); (with_reducible assumption); exact rfl; decide +kernel; decide +kernel; (with_reducible assumption); decide +kernel; intro t' h' tk' F' N'; (try dsimp only)) | (k_unfold; (try dsimp only)) | (k_end; wrow_close) | walk1 | (dsimp only; walk1) | (leave1; walk_say "STEP leave1"; try dsimp only) | fail "no step"))
  refine' cb_retS hret ?e1 ?e2 ?e3; (case e2 => with_reducible assumption); (case e3 => with_reducible assumption); (case e1 => exact hE)
set_option maxHeartbeats 8000000 in
theorem escape_attrib_ctr (w : World) (mean : ExcName → Option Value) (mg mb : Str → Option Value) (x : Str) (t : Tok) :
    Ctr 1 w mean mg mb 81 (x.length ≤ 100000) [.str x t] (fun t => .str (pageS 1 x) t) := by
  delta Ctr prg vw
  k_fill
  intros
  rename_i hpre _ _ hret
  obtain ⟨h0, h1, h2, h3, h4, h5, h6, hE⟩ := esc1 hpre
  refine wpAny_call ?_
  k_dflt cell_enter
  repeat' ((first | ((with_reducible show wpAny _ _ (PySem.exec (PySem.Stmt.If (PySem.Expr.Compare _ _ _ _) _ [] _) _) _ _ _); apply if_repl; (with_reducible assumption); (with_reducible assumption); exact rfl; decide +kernel; decide +kernel; (with_reducible assumption); decide +kernel; intro t' h' tk' F' N'; (try dsimp only)) | (k_unfold; (try dsimp only)) | (k_end; wrow_close) | walk1 | (dsimp only; walk1) | (leave1; walk_say "STEP leave1"; try dsimp only) | fail "no step"))
  refine' cb_retS hret ?e1 ?e2 ?e3; (case e2 => with_reducible assumption); (case e3 => with_reducible assumption); (case e1 => exact hE)
set_option maxHeartbeats 8000000 in
theorem escape_attrib_html_ctr (w : World) (mean : ExcName → Option Value) (mg mb : Str → Option Value) (x : Str) (t : Tok) :
    Ctr 1 w mean mg mb 88 (x.length ≤ 100000) [.str x t] (fun t => .str (pageS 2 x) t) := by
  delta Ctr prg vw
  k_fill
  intros
  rename_i hpre _ _ hret
  obtain ⟨h0, h1, h2, hE⟩ := esc2 hpre
  refine wpAny_call ?_
  k_dflt cell_enter
  repeat' ((first | ((with_reducible show wpAny _ _ (PySem.exec (PySem.Stmt.If (PySem.Expr.Compare _ _ _ _) _ [] _) _) _ _ _); apply if_repl; (with_reducible assumption); (with_reducible assumption); exact rfl; decide +kernel; decide +kernel; (with_reducible assumption); decide +kernel; intro t' h' tk' F' N'; (try dsimp only)) | (k_unfold; (try dsimp only)) | (k_end; wrow_close) | walk1 | (dsimp only; walk1) | (leave1; walk_say "STEP leave1"; try dsimp only) | fail "no step"))
  refine' cb_retS hret ?e1 ?e2 ?e3; (case e2 => with_reducible assumption); (case e3 => with_reducible assumption); (case e1 => exact hE)
set_option maxHeartbeats 8000000 in
theorem escape_cdata_c14n_ctr (w : World) (mean : ExcName → Option Value) (mg mb : Str → Option Value) (x : Str) (t : Tok) :
    Ctr 1 w mean mg mb 95 (x.length ≤ 100000) [.str x t] (fun t => .str (pageS 3 x) t) := by
  delta Ctr prg vw
  k_fill
  intros
  rename_i hpre _ _ hret
  obtain ⟨h0, h1, h2, h3, hE⟩ := esc3 hpre
  refine wpAny_call ?_
  k_dflt cell_enter
  repeat' ((first | ((with_reducible show wpAny _ _ (PySem.exec (PySem.Stmt.If (PySem.Expr.Compare _ _ _ _) _ [] _) _) _ _ _); apply if_repl; (with_reducible assumption); (with_reducible assumption); exact rfl; decide +kernel; decide +kernel; (with_reducible assumption); decide +kernel; intro t' h' tk' F' N'; (try dsimp only)) | (k_unfold; (try dsimp only)) | (k_end; wrow_close) | walk1 | (dsimp only; walk1) | (leave1; walk_say "STEP leave1"; try dsimp only) | fail "no step"))
  refine' cb_retS hret ?e1 ?e2 ?e3; (case e2 => with_reducible assumption); (case e3 => with_reducible assumption); (case e1 => exact hE)
set_option maxHeartbeats 8000000 in
theorem escape_attrib_c14n_ctr (w : World) (mean : ExcName → Option Value) (mg mb : Str → Option Value) (x : Str) (t : Tok) :
    Ctr 1 w mean mg mb 102 (x.length ≤ 100000) [.str x t] (fun t => .str (pageS 4 x) t) := by
  delta Ctr prg vw
  k_fill
  intros
  rename_i hpre _ _ hret
  obtain ⟨h0, h1, h2, h3, h4, h5, hE⟩ := esc4 hpre
  refine wpAny_call ?_
  k_dflt cell_enter
  repeat' ((first | ((with_reducible show wpAny _ _ (PySem.exec (PySem.Stmt.If (PySem.Expr.Compare _ _ _ _) _ [] _) _) _ _ _); apply if_repl; (with_reducible assumption); (with_reducible assumption); exact rfl; decide +kernel; decide +kernel; (with_reducible assumption); decide +kernel; intro t' h' tk' F' N'; (try dsimp only)) | (k_unfold; (try dsimp only)) | (k_end; wrow_close) | walk1 | (dsimp only; walk1) | (leave1; walk_say "STEP leave1"; try dsimp only) | fail "no step"))
  refine' cb_retS hret ?e1 ?e2 ?e3; (case e2 => with_reducible assumption); (case e3 => with_reducible assumption); (case e1 => exact hE)
set_option maxHeartbeats 8000000 in
theorem law_write_ctr (w : World) (mean : ExcName → Option Value) (mg mb : Str → Option Value) (p : Int) (u : Tok) (x : Str) (t : Tok) :
    Ctr 2 w mean mg mb 128 (0 ≤ p ∧ p < 5 ∧ x.length ≤ 100000) [.int p u, .str x t] (fun t => .str (pageS p.toNat x) t) := by
  delta Ctr prg vw
  k_fill
  intros
  rename_i hpre _ _ hret
  obtain ⟨hp0, hp5, hx⟩ := hpre
  refine wpAny_call ?_
  k_dflt cell_enter
  repeat' ((first | ((with_reducible show wpAny _ _ (PySem.call (Value.ref _) _) _ _ _); k_here; k_dflt ((first | apply Ctr.use (escape_cdata_ctr _ _ _ _ _ _) | apply Ctr.use (escape_attrib_ctr _ _ _ _ _ _) | apply Ctr.use (escape_attrib_html_ctr _ _ _ _ _ _) | apply Ctr.use (escape_cdata_c14n_ctr _ _ _ _ _ _) | apply Ctr.use (escape_attrib_c14n_ctr _ _ _ _ _ _)); k_asm; k_asm; k_asm; k_asm; k_asm; (first | exact rfl | assumption); (assumption); ktr_room; ktr_units); intro _ _ _ _ _; (try dsimp only); (try k_fold)) | (k_unfold; (try dsimp only)) | (k_end; wrow_close) | walk1 | (dsimp only; walk1) | (leave1; walk_say "STEP leave1"; try dsimp only) | fail "no step"))
  all_goals (refine' cb_retS hret ?e1 ?e2 ?e3; (case e2 => with_reducible assumption); (case e3 => with_reducible assumption); (case e1 => (congr 1; omega)))
set_option maxHeartbeats 8000000 in
theorem subst_cost_ctr (w : World) (mean : ExcName → Option Value) (mg mb : Str → Option Value) (x y : Str) (t u : Tok) :
    Ctr 1 w mean mg mb 21 (x.length = 1 ∧ y.length = 1) [.str x t, .str y u] (fun t => .int (scS x y) t) := by
  delta Ctr prg vw
  k_fill
  intros
  rename_i hpre _ _ hret
  obtain ⟨hx1, hy1⟩ := hpre
  refine wpAny_call ?_
  k_dflt cell_enter
  k_steps
  all_goals (refine' cb_retI hret ?e1 ?e2 ?e3; (case e2 => with_reducible assumption); (case e3 => with_reducible assumption); (case e1 => (unfold scS; simp [*])))
local macro_rules | `(tactic| kst_in) => `(tactic| ((try dsimp only); first | with_reducible exact led_in1 | with_reducible exact led_in0))
set_option maxHeartbeats 8000000 in
theorem lev_ctr (w : World) (mean : ExcName → Option Value) (mg mb : Str → Option Value) (a b : Str) (mx : Int) (t u v : Tok) :
    Ctr 2 w mean mg mb 28 (a.length ≤ 100000 ∧ b.length ≤ 100000) [.str a t, .str b u, .int mx v] (fun t => .int (levF (cl a) (cl b) mx) t) := by
  delta Ctr prg vw
  k_fill
  intro news dp un gd cn cs ad ccd cls outer A₀ base h₀ L m s Q E B₀ F₀ X₀ N₀ T₀ hk hpre hd hu hret
  obtain ⟨ha, hb⟩ := hpre
  refine wpAny_call ?_
  k_dflt cell_enter
  rename_i g L₁ h₁ FG F1 N1 B1 X1 T1
  repeat' ((fail_if_success (with_reducible show wpAny _ _ (PySem.exec (PySem.Stmt.While _ _ _ _) _) _ _ _)); (first | ((with_reducible show wpAny _ _ (PySem.call (Value.ref _) _) _ _ _); k_here; k_dflt ((first | apply Ctr.use (subst_cost_ctr _ _ _ _ _ _ _ _)); k_asm; k_asm; k_asm; k_asm; k_asm; (first | exact rfl | assumption); (exact ⟨by omega, by omega⟩); ktr_room; ktr_units); intro _ _ _ _ _; (try dsimp only); (try k_fold)) | ((with_reducible show wpAny _ _ (PySem.eval (PySem.Expr.Subscript (PySem.Expr.Name _ _) (PySem.Expr.Slice none (some (PySem.Expr.BoolOp BoolOp.Or [PySem.Expr.Name _ _, PySem.Expr.Constant Const.none _ _] _)) none _) _) _) _ _ _); k_dflt (apply cut_expr; (with_reducible assumption); (with_reducible assumption); exact rfl; exact rfl; omega; omega; omega); intro t' h' tk' F' N' hcut; (try dsimp only)) | (k_unfold; (try dsimp only)) | (k_end; wrow_close) | walk1 | (dsimp only; walk1) | (leave1; walk_say "STEP leave1"; try dsimp only) | fail "no step"))
  · refine' cb_retI hret ?e1 ?e2 ?e3; (case e2 => with_reducible assumption); (case e3 => with_reducible assumption); (case e1 => exact levF_same (by assumption))
  have hne : (a == b) = false := by assumption
  rename Fr _ _ _ _ => F
  rename News _ _ _ _ => N
  obtain ⟨m0, tp, Fn⟩ : ∃ (m0 : PySem.Str → Option Value) (tp : Tok), Fr g L₁ _ (kstB m0 [(PySem.Str.ofString "pre", .int 0 tp), (PySem.Str.ofString "a", .str a t), (PySem.Str.ofString "b", .str b u), (PySem.Str.ofString "max_cost", .int mx v)]) := ⟨_, _, fr_norm F (by kst_all)⟩
  clear F
  dsimp only [kstB] at Fn
  refine stmt_join (fun s' => ∃ (p : Int) (tp : Tok) (h : Heap) (tk : Nat) (m1 : Str → Option Value), s' = { s with heap := h, toks := tk } ∧ 0 ≤ p ∧ p ≤ a.length ∧ p ≤ b.length ∧ dropPre (cl a) (cl b) = ((cl a).drop p.toNat, (cl b).drop p.toNat) ∧ Fr g L₁ h (kstB m1 [(PySem.Str.ofString "pre", .int p tp), (PySem.Str.ofString "a", .str a t), (PySem.Str.ofString "b", .str b u), (PySem.Str.ofString "max_cost", .int mx v)]) ∧ News g L₁ h news) ?_ ?_
  · k_with "state" => first
      | with_reducible exact lpre_start _ _
      | with_reducible exact lpre_turn ⟨by assumption, by assumption, by assumption, by assumption⟩ (by omega) (by omega) (by assumption)
    k_while (fun script p => 0 ≤ p ∧ p ≤ (a.length : Int) ∧ p ≤ (b.length : Int) ∧ dropPre (cl a) (cl b) = dropPre ((cl a).drop p.toNat) ((cl b).drop p.toNat)) (fun script p => a.length - p.toNat) "pre"
    repeat' ((first | ((with_reducible show wpAny _ _ (PySem.call (Value.ref _) _) _ _ _); k_here; k_dflt ((first | apply Ctr.use (subst_cost_ctr _ _ _ _ _ _ _ _)); k_asm; k_asm; k_asm; k_asm; k_asm; (first | exact rfl | assumption); (exact ⟨by omega, by omega⟩); ktr_room; ktr_units); intro _ _ _ _ _; (try dsimp only); (try k_fold)) | ((with_reducible show wpAny _ _ (PySem.eval (PySem.Expr.Subscript (PySem.Expr.Name _ _) (PySem.Expr.Slice none (some (PySem.Expr.BoolOp BoolOp.Or [PySem.Expr.Name _ _, PySem.Expr.Constant Const.none _ _] _)) none _) _) _) _ _ _); k_dflt (apply cut_expr; (with_reducible assumption); (with_reducible assumption); exact rfl; exact rfl; omega; omega; omega); intro t' h' tk' F' N' hcut; (try dsimp only)) | (k_unfold; (try dsimp only)) | (k_end; wrow_close) | walk1 | (dsimp only; walk1) | (leave1; walk_say "STEP leave1"; try dsimp only) | fail "no step"))
    k_with_none
    all_goals (refine JoinEnd.intro ⟨_, _, _, _, _, rfl, by with_reducible assumption, by with_reducible assumption, by with_reducible assumption, ?_, fr_norm (by with_reducible assumption) (by kst_all), by with_reducible assumption⟩)
    all_goals first
      | with_reducible exact lpre_end1 ⟨by assumption, by assumption, by assumption, by assumption⟩ (by omega)
      | with_reducible exact lpre_end2 ⟨by assumption, by assumption, by assumption, by assumption⟩ (by omega)
      | with_reducible exact lpre_end3 ⟨by assumption, by assumption, by assumption, by assumption⟩ (by omega) (by omega) (by assumption)
  clear Fn N m0
  rintro s' ⟨p, tp2, h2, tk2, m0, rfl, hp0, hp1, hp2, hpre, F2, N2⟩
  dsimp only [kstB] at F2
  dsimp only
  repeat' ((fail_if_success (with_reducible show wpAny _ _ (PySem.exec (PySem.Stmt.While _ _ _ _) _) _ _ _)); (first | ((with_reducible show wpAny _ _ (PySem.call (Value.ref _) _) _ _ _); k_here; k_dflt ((first | apply Ctr.use (subst_cost_ctr _ _ _ _ _ _ _ _)); k_asm; k_asm; k_asm; k_asm; k_asm; (first | exact rfl | assumption); (exact ⟨by omega, by omega⟩); ktr_room; ktr_units); intro _ _ _ _ _; (try dsimp only); (try k_fold)) | ((with_reducible show wpAny _ _ (PySem.eval (PySem.Expr.Subscript (PySem.Expr.Name _ _) (PySem.Expr.Slice none (some (PySem.Expr.BoolOp BoolOp.Or [PySem.Expr.Name _ _, PySem.Expr.Constant Const.none _ _] _)) none _) _) _) _ _ _); k_dflt (apply cut_expr; (with_reducible assumption); (with_reducible assumption); exact rfl; exact rfl; omega; omega; omega); intro t' h' tk' F' N' hcut; (try dsimp only)) | (k_unfold; (try dsimp only)) | (k_end; wrow_close) | walk1 | (dsimp only; walk1) | (leave1; walk_say "STEP leave1"; try dsimp only) | fail "no step"))
  rename Fr _ _ _ _ => F
  rename News _ _ _ _ => N
  obtain ⟨m0, tq, a1, b1, ta, tb, ha1, hb1, hla, hlb, Fn⟩ : ∃ (m0 : PySem.Str → Option Value) (tq : Tok) (a1 : PySem.Str) (b1 : PySem.Str) (ta : Tok) (tb : Tok), cl a1 = (dropPre (cl a) (cl b)).1 ∧ cl b1 = (dropPre (cl a) (cl b)).2 ∧ a1.length ≤ a.length ∧ b1.length ≤ b.length ∧ Fr g L₁ _ (kstB m0 [(PySem.Str.ofString "post", .int 0 tq), (PySem.Str.ofString "a", .str a1 ta), (PySem.Str.ofString "b", .str b1 tb), (PySem.Str.ofString "max_cost", .int mx v)]) := ⟨_, _, _, _, _, _, by rw [hpre]; exact slice_from a hp0 (by rw [← cl_len]; exact hp1), by rw [hpre]; exact slice_from b hp0 (by rw [← cl_len]; exact hp2), by assumption, by assumption, fr_norm F (by kst_all)⟩
  clear F
  dsimp only [kstB] at Fn
  clear hp0 hp1 hp2 hpre
  refine stmt_join (fun s' => ∃ (q : Int) (tq : Tok) (h : Heap) (tk : Nat) (m1 : Str → Option Value), s' = { s with heap := h, toks := tk } ∧ q ≤ 0 ∧ -q ≤ (a1.length : Int) ∧ -q ≤ (b1.length : Int) ∧ dropSuf (cl a1) (cl b1) = (cl (cut a1 q), cl (cut b1 q)) ∧ Fr g L₁ h (kstB m1 [(PySem.Str.ofString "post", .int q tq), (PySem.Str.ofString "a", .str a1 ta), (PySem.Str.ofString "b", .str b1 tb), (PySem.Str.ofString "max_cost", .int mx v)]) ∧ News g L₁ h news) ?_ ?_
  · k_with "state" => first
      | with_reducible exact lsuf_start _ _
      | with_reducible exact lsuf_turn ⟨by assumption, by assumption, by assumption, by assumption⟩ (by omega) (by omega) (by assumption)
    k_while (fun script q => q ≤ 0 ∧ -q ≤ (a1.length : Int) ∧ -q ≤ (b1.length : Int) ∧ dropSuf (cl a1) (cl b1) = dropSuf (cl (cut a1 q)) (cl (cut b1 q))) (fun script q => a1.length - (-q).toNat) "post"
    repeat' ((first | ((with_reducible show wpAny _ _ (PySem.call (Value.ref _) _) _ _ _); k_here; k_dflt ((first | apply Ctr.use (subst_cost_ctr _ _ _ _ _ _ _ _)); k_asm; k_asm; k_asm; k_asm; k_asm; (first | exact rfl | assumption); (exact ⟨by omega, by omega⟩); ktr_room; ktr_units); intro _ _ _ _ _; (try dsimp only); (try k_fold)) | ((with_reducible show wpAny _ _ (PySem.eval (PySem.Expr.Subscript (PySem.Expr.Name _ _) (PySem.Expr.Slice none (some (PySem.Expr.BoolOp BoolOp.Or [PySem.Expr.Name _ _, PySem.Expr.Constant Const.none _ _] _)) none _) _) _) _ _ _); k_dflt (apply cut_expr; (with_reducible assumption); (with_reducible assumption); exact rfl; exact rfl; omega; omega; omega); intro t' h' tk' F' N' hcut; (try dsimp only)) | (k_unfold; (try dsimp only)) | (k_end; wrow_close) | walk1 | (dsimp only; walk1) | (leave1; walk_say "STEP leave1"; try dsimp only) | fail "no step"))
    k_with_none
    all_goals (refine JoinEnd.intro ⟨_, _, _, _, _, rfl, by with_reducible assumption, by with_reducible assumption, by with_reducible assumption, ?_, fr_norm (by with_reducible assumption) (by kst_all), by with_reducible assumption⟩)
    all_goals first
      | with_reducible exact lsuf_end1 ⟨by assumption, by assumption, by assumption, by assumption⟩ (by omega)
      | with_reducible exact lsuf_end2 ⟨by assumption, by assumption, by assumption, by assumption⟩ (by omega)
      | with_reducible exact lsuf_end3 ⟨by assumption, by assumption, by assumption, by assumption⟩ (by omega) (by omega) (by assumption)
  clear Fn N m0
  rintro s' ⟨q, tq2, h3, tk3, m0, rfl, hq0, hq1, hq2, hsuf, F3, N3⟩
  dsimp only [kstB] at F3
  dsimp only
  repeat' ((fail_if_success (with_reducible show wpAny _ _ (PySem.exec (PySem.Stmt.If _ _ _ _) _) _ _ _)); (first | ((with_reducible show wpAny _ _ (PySem.call (Value.ref _) _) _ _ _); k_here; k_dflt ((first | apply Ctr.use (subst_cost_ctr _ _ _ _ _ _ _ _)); k_asm; k_asm; k_asm; k_asm; k_asm; (first | exact rfl | assumption); (exact ⟨by omega, by omega⟩); ktr_room; ktr_units); intro _ _ _ _ _; (try dsimp only); (try k_fold)) | ((with_reducible show wpAny _ _ (PySem.eval (PySem.Expr.Subscript (PySem.Expr.Name _ _) (PySem.Expr.Slice none (some (PySem.Expr.BoolOp BoolOp.Or [PySem.Expr.Name _ _, PySem.Expr.Constant Const.none _ _] _)) none _) _) _) _ _ _); k_dflt (apply cut_expr; (with_reducible assumption); (with_reducible assumption); exact rfl; exact rfl; omega; omega; omega); intro t' h' tk' F' N' hcut; (try dsimp only)) | (k_unfold; (try dsimp only)) | (k_end; wrow_close) | walk1 | (dsimp only; walk1) | (leave1; walk_say "STEP leave1"; try dsimp only) | fail "no step"))

  rename Fr _ _ _ _ => F
  rename News _ _ _ _ => N
  obtain ⟨m0, a2, b2, ta2, tb2, hG, hla2, hlb2, Fn⟩ : ∃ (m0 : PySem.Str → Option Value) (a2 : PySem.Str) (b2 : PySem.Str) (ta2 : Tok) (tb2 : Tok), levF (cl a) (cl b) mx = levG (cl a2) (cl b2) mx ∧ a2.length ≤ 100000 ∧ b2.length ≤ 100000 ∧ Fr g L₁ _ (kstB m0 [(PySem.Str.ofString "a", .str a2 ta2), (PySem.Str.ofString "b", .str b2 tb2), (PySem.Str.ofString "max_cost", .int mx v)]) := ⟨_, _, _, _, _, levF_ne hne ha1 hb1 hsuf, by omega, by omega, fr_norm F (by kst_all)⟩
  clear F
  dsimp only [kstB] at Fn
  rw [hG] at hret
  clear hq0 hq1 hq2 hsuf hG hla hlb ha1 hb1
  (try (rename (PySem.Txt.slice _ _ _).length ≤ _ => hz; clear hz)); (try (rename (PySem.Txt.slice _ _ _).length ≤ _ => hz; clear hz)); (try (rename ((cut _ _).length : Int) = _ => hz; clear hz)); (try (rename ((cut _ _).length : Int) = _ => hz; clear hz)); (try clear ha hb)
  repeat' ((fail_if_success (with_reducible show wpAny _ _ (PySem.exec (PySem.Stmt.If (PySem.Expr.Compare _ _ _ _) _ _ _) _) _ _ _)); (first | ((with_reducible show wpAny _ _ (PySem.call (Value.ref _) _) _ _ _); k_here; k_dflt ((first | apply Ctr.use (subst_cost_ctr _ _ _ _ _ _ _ _)); k_asm; k_asm; k_asm; k_asm; k_asm; (first | exact rfl | assumption); (exact ⟨by omega, by omega⟩); ktr_room; ktr_units); intro _ _ _ _ _; (try dsimp only); (try k_fold)) | ((with_reducible show wpAny _ _ (PySem.eval (PySem.Expr.Subscript (PySem.Expr.Name _ _) (PySem.Expr.Slice none (some (PySem.Expr.BoolOp BoolOp.Or [PySem.Expr.Name _ _, PySem.Expr.Constant Const.none _ _] _)) none _) _) _) _ _ _); k_dflt (apply cut_expr; (with_reducible assumption); (with_reducible assumption); exact rfl; exact rfl; omega; omega; omega); intro t' h' tk' F' N' hcut; (try dsimp only)) | (k_unfold; (try dsimp only)) | (k_end; wrow_close) | walk1 | (dsimp only; walk1) | (leave1; walk_say "STEP leave1"; try dsimp only) | fail "no step"))
  all_goals try (refine' cb_retI hret ?e1 ?e2 ?e3; (case e2 => with_reducible assumption); (case e3 => with_reducible assumption); (case e1 => first | ((rw [levG_nil (by omega)]) <;> omega) | exact (levG_nil (by omega)).symm | rw [levG_long (by omega) (by omega) (by omega)]))
  refine stmt_join (fun s' => ∃ (x y : Str) (tx ty : Tok) (h : Heap) (tk : Nat) (m1 : Str → Option Value), s' = { s with heap := h, toks := tk } ∧ levG (cl a2) (cl b2) mx = levH (cl x) (cl y) mx ∧ 1 ≤ x.length ∧ x.length ≤ y.length ∧ y.length ≤ 40 ∧ Fr g L₁ h (kstB m1 [(PySem.Str.ofString "a", .str x tx), (PySem.Str.ofString "b", .str y ty), (PySem.Str.ofString "max_cost", .int mx v)]) ∧ News g L₁ h news) ?_ ?_
  · repeat' ((first | ((with_reducible show wpAny _ _ (PySem.call (Value.ref _) _) _ _ _); k_here; k_dflt ((first | apply Ctr.use (subst_cost_ctr _ _ _ _ _ _ _ _)); k_asm; k_asm; k_asm; k_asm; k_asm; (first | exact rfl | assumption); (exact ⟨by omega, by omega⟩); ktr_room; ktr_units); intro _ _ _ _ _; (try dsimp only); (try k_fold)) | ((with_reducible show wpAny _ _ (PySem.eval (PySem.Expr.Subscript (PySem.Expr.Name _ _) (PySem.Expr.Slice none (some (PySem.Expr.BoolOp BoolOp.Or [PySem.Expr.Name _ _, PySem.Expr.Constant Const.none _ _] _)) none _) _) _) _ _ _); k_dflt (apply cut_expr; (with_reducible assumption); (with_reducible assumption); exact rfl; exact rfl; omega; omega; omega); intro t' h' tk' F' N' hcut; (try dsimp only)) | (k_unfold; (try dsimp only)) | (k_end; wrow_close) | walk1 | (dsimp only; walk1) | (leave1; walk_say "STEP leave1"; try dsimp only) | fail "no step"))
    · refine JoinEnd.intro ⟨_, _, _, _, _, _, _, rfl, levG_swap (by omega) (by omega) (by omega) (by omega) (by omega), by omega, by omega, by omega, fr_norm (by with_reducible assumption) (by kst_all), cb_drop (by with_reducible assumption) (fun p hp => List.mem_cons_of_mem _ hp)⟩
    · refine JoinEnd.intro ⟨_, _, _, _, _, _, _, rfl, levG_stay (by omega) (by omega) (by omega) (by omega) (by omega), by omega, by omega, by omega, fr_norm (by with_reducible assumption) (by kst_all), by with_reducible assumption⟩
  clear Fn N m0
  rintro s' ⟨x, y, tx, ty, h4, tk4, m0, rfl, hH, hx1, hxy, hy40, F4, N4⟩
  rw [hH] at hret
  (try (rename (PySem.Str.length _ : Int) ≠ 0 => hz; clear hz)); (try (rename (PySem.Str.length _ : Int) ≠ 0 => hz; clear hz)); (try (rename ¬ (40 : Int) < _ => hz; clear hz)); (try (rename ¬ (40 : Int) < _ => hz; clear hz)); (try clear hla2 hlb2 hH)
  dsimp only [kstB] at F4
  dsimp only
  repeat' ((fail_if_success (with_reducible show wpAny _ _ (PySem.call (Value.type "list") _) _ _ _)); (fail_if_success (with_reducible show wpAny _ _ (PySem.pyIter _) _ _ _)); (first | ((with_reducible show wpAny _ _ (PySem.call (Value.ref _) _) _ _ _); k_here; k_dflt ((first | apply Ctr.use (subst_cost_ctr _ _ _ _ _ _ _ _)); k_asm; k_asm; k_asm; k_asm; k_asm; (first | exact rfl | assumption); (exact ⟨by omega, by omega⟩); ktr_room; ktr_units); intro _ _ _ _ _; (try dsimp only); (try k_fold)) | ((with_reducible show wpAny _ _ (PySem.eval (PySem.Expr.Subscript (PySem.Expr.Name _ _) (PySem.Expr.Slice none (some (PySem.Expr.BoolOp BoolOp.Or [PySem.Expr.Name _ _, PySem.Expr.Constant Const.none _ _] _)) none _) _) _) _ _ _); k_dflt (apply cut_expr; (with_reducible assumption); (with_reducible assumption); exact rfl; exact rfl; omega; omega; omega); intro t' h' tk' F' N' hcut; (try dsimp only)) | (k_unfold; (try dsimp only)) | (k_end; wrow_close) | walk1 | (dsimp only; walk1) | (leave1; walk_say "STEP leave1"; try dsimp only) | fail "no step"))
  all_goals try (refine' cb_retI hret ?e1 ?e2 ?e3; (case e2 => with_reducible assumption); (case e3 => with_reducible assumption); (case e1 => rw [levH_far (by omega)]))
  rw [levH_dp (by omega)] at hret
  rename IsRange _ _ _ _ _ _ _ _ => R5
  rename Fr _ _ _ _ => F5
  rename News _ _ _ _ => N5
  refine list_range2 (a := cl x) rfl F5 N5 R5 (by rw [← cl_len]) (by rw [← cl_len]; exact hx1) (by rw [← cl_len]; omega) ?_
  clear F5 R5
  intro D us c h5 tk5 F5 N5 hD hI
  dsimp only
  repeat' ((fail_if_success (with_reducible show wpAny _ _ (PySem.pyIter _) _ _ _)); (first | ((with_reducible show wpAny _ _ (PySem.call (Value.ref _) _) _ _ _); k_here; k_dflt ((first | apply Ctr.use (subst_cost_ctr _ _ _ _ _ _ _ _)); k_asm; k_asm; k_asm; k_asm; k_asm; (first | exact rfl | assumption); (exact ⟨by omega, by omega⟩); ktr_room; ktr_units); intro _ _ _ _ _; (try dsimp only); (try k_fold)) | ((with_reducible show wpAny _ _ (PySem.eval (PySem.Expr.Subscript (PySem.Expr.Name _ _) (PySem.Expr.Slice none (some (PySem.Expr.BoolOp BoolOp.Or [PySem.Expr.Name _ _, PySem.Expr.Constant Const.none _ _] _)) none _) _) _) _ _ _); k_dflt (apply cut_expr; (with_reducible assumption); (with_reducible assumption); exact rfl; exact rfl; omega; omega; omega); intro t' h' tk' F' N' hcut; (try dsimp only)) | (k_unfold; (try dsimp only)) | (k_end; wrow_close) | walk1 | (dsimp only; walk1) | (leave1; walk_say "STEP leave1"; try dsimp only) | fail "no step"))
  k_with "state" => first
    | with_reducible exact ⟨Nat.zero_le _, rows_start _ _ _⟩
    | with_reducible exact dpIn_start (by assumption) (by omega) (by omega)
    | with_reducible exact dpIn_lt (by assumption) (by assumption) (by assumption) (by assumption) (by omega) (by assumption)
    | with_reducible exact dpIn_ge (by assumption) (by assumption) (by assumption) (by assumption) (by omega) (by assumption)
    | with_reducible exact dpIn_end (by assumption) hx1 (by omega) (by assumption)
  k_state (fun pre row res => pre.length ≤ y.length ∧ Rows (cl x) (cl y) mx pre.length row res) "row" "result"
  · repeat' ((fail_if_success (with_reducible show wpAny _ _ (PySem.pyIter _) _ _ _)); (first | ((with_reducible show wpAny _ _ (PySem.call (Value.ref _) _) _ _ _); k_here; k_dflt ((first | apply Ctr.use (subst_cost_ctr _ _ _ _ _ _ _ _)); k_asm; k_asm; k_asm; k_asm; k_asm; (first | exact rfl | assumption); (exact ⟨by omega, by omega⟩); ktr_room; ktr_units); intro _ _ _ _ _; (try dsimp only); (try k_fold)) | ((with_reducible show wpAny _ _ (PySem.eval (PySem.Expr.Subscript (PySem.Expr.Name _ _) (PySem.Expr.Slice none (some (PySem.Expr.BoolOp BoolOp.Or [PySem.Expr.Name _ _, PySem.Expr.Constant Const.none _ _] _)) none _) _) _) _ _ _); k_dflt (apply cut_expr; (with_reducible assumption); (with_reducible assumption); exact rfl; exact rfl; omega; omega; omega); intro t' h' tk' F' N' hcut; (try dsimp only)) | (k_unfold; (try dsimp only)) | (k_end; wrow_close) | walk1 | (dsimp only; walk1) | (leave1; walk_say "STEP leave1"; try dsimp only) | fail "no step"))
    k_state (fun pre row d r mn => pre.length ≤ x.length ∧ row.length = x.length ∧ DpIn x y mx kPre.length pre.length row d r mn) "row" "distance" "result" "minimum"
    · repeat' ((first | ((with_reducible show wpAny _ _ (PySem.call (Value.ref _) _) _ _ _); k_here; k_dflt ((first | apply Ctr.use (subst_cost_ctr _ _ _ _ _ _ _ _)); k_asm; k_asm; k_asm; k_asm; k_asm; (first | exact rfl | assumption); (exact ⟨by omega, by omega⟩); ktr_room; ktr_units); intro _ _ _ _ _; (try dsimp only); (try k_fold)) | ((with_reducible show wpAny _ _ (PySem.eval (PySem.Expr.Subscript (PySem.Expr.Name _ _) (PySem.Expr.Slice none (some (PySem.Expr.BoolOp BoolOp.Or [PySem.Expr.Name _ _, PySem.Expr.Constant Const.none _ _] _)) none _) _) _) _ _ _); k_dflt (apply cut_expr; (with_reducible assumption); (with_reducible assumption); exact rfl; exact rfl; omega; omega; omega); intro t' h' tk' F' N' hcut; (try dsimp only)) | (k_unfold; (try dsimp only)) | (k_end; wrow_close) | walk1 | (dsimp only; walk1) | (leave1; walk_say "STEP leave1"; try dsimp only) | fail "no step"))
    · repeat' ((first | ((with_reducible show wpAny _ _ (PySem.call (Value.ref _) _) _ _ _); k_here; k_dflt ((first | apply Ctr.use (subst_cost_ctr _ _ _ _ _ _ _ _)); k_asm; k_asm; k_asm; k_asm; k_asm; (first | exact rfl | assumption); (exact ⟨by omega, by omega⟩); ktr_room; ktr_units); intro _ _ _ _ _; (try dsimp only); (try k_fold)) | ((with_reducible show wpAny _ _ (PySem.eval (PySem.Expr.Subscript (PySem.Expr.Name _ _) (PySem.Expr.Slice none (some (PySem.Expr.BoolOp BoolOp.Or [PySem.Expr.Name _ _, PySem.Expr.Constant Const.none _ _] _)) none _) _) _) _ _ _); k_dflt (apply cut_expr; (with_reducible assumption); (with_reducible assumption); exact rfl; exact rfl; omega; omega; omega); intro t' h' tk' F' N' hcut; (try dsimp only)) | (k_unfold; (try dsimp only)) | (k_end; wrow_close) | walk1 | (dsimp only; walk1) | (leave1; walk_say "STEP leave1"; try dsimp only) | fail "no step"))
      refine' cb_retI hret ?e1 ?e2 ?e3; (case e2 => with_reducible assumption); (case e3 => with_reducible exact cb_drop (by assumption) (fun p hp => List.mem_cons_of_mem _ (List.mem_append.mpr (Or.inl hp)))); (case e1 => with_reducible exact dpIn_stop (by assumption) hx1 (by assumption))
  · repeat' ((first | ((with_reducible show wpAny _ _ (PySem.call (Value.ref _) _) _ _ _); k_here; k_dflt ((first | apply Ctr.use (subst_cost_ctr _ _ _ _ _ _ _ _)); k_asm; k_asm; k_asm; k_asm; k_asm; (first | exact rfl | assumption); (exact ⟨by omega, by omega⟩); ktr_room; ktr_units); intro _ _ _ _ _; (try dsimp only); (try k_fold)) | ((with_reducible show wpAny _ _ (PySem.eval (PySem.Expr.Subscript (PySem.Expr.Name _ _) (PySem.Expr.Slice none (some (PySem.Expr.BoolOp BoolOp.Or [PySem.Expr.Name _ _, PySem.Expr.Constant Const.none _ _] _)) none _) _) _) _ _ _); k_dflt (apply cut_expr; (with_reducible assumption); (with_reducible assumption); exact rfl; exact rfl; omega; omega; omega); intro t' h' tk' F' N' hcut; (try dsimp only)) | (k_unfold; (try dsimp only)) | (k_end; wrow_close) | walk1 | (dsimp only; walk1) | (leave1; walk_say "STEP leave1"; try dsimp only) | fail "no step"))
    refine' cb_retI hret ?e1 ?e2 ?e3; (case e2 => with_reducible assumption); (case e3 => with_reducible exact cb_drop (by assumption) (fun p hp => List.mem_cons_of_mem _ hp)); (case e1 => with_reducible exact rows_done (by assumption))
end Mine
end
section
open PySem PySem.W PyProof.Rows
set_option Elab.async false
set_option maxRecDepth 100000
namespace Mine
noncomputable def signS (x : Int) : Str := if x.fmod 8 < 3 then PySem.Str.ofString "\"" else if x.fmod 8 = 6 then Txt.item (PySem.Str.ofString "\t\n\x0d") ((x.fdiv 8).fmod 3) else if x.fmod 8 = 7 then ⟨#[((x.fdiv 8).fmod 55296).toNat]⟩ else Txt.item (PySem.Str.ofString "&<>") (x.fmod 8 - 3)
theorem signS_one (x : Int) : (signS x).length = 1 := by
  unfold signS
  split
  · rw [cl_len, litQuote]; rfl
  · split
    · rfl
    · split <;> rfl
set_option maxHeartbeats 8000000 in
theorem law_sign_ctr (w : World) (mean : ExcName → Option Value) (mg mb : Str → Option Value) (x : Int) (t : Tok) :
    Ctr 1 w mean mg mb 109 True [.int x t] (fun t => .str (signS x) t) := by
  delta Ctr prg vw
  k_fill
  intro news dp un gd cn cs ad ccd cls outer A₀ base h₀ L m s Q E B₀ F₀ X₀ N₀ T₀ hk hpre hd hu hret
  refine wpAny_call ?_
  k_dflt cell_enter
  k_steps
  all_goals (refine' cb_retS hret ?e1 ?e2 ?e3; (case e2 => with_reducible assumption); (case e3 => with_reducible assumption); (case e1 => (unfold signS; first | rw [if_pos (by assumption)] | rw [if_neg (by assumption), if_pos (by assumption)] | rw [if_neg (by assumption), if_neg (by assumption), if_pos (by assumption)] | rw [if_neg (by assumption), if_neg (by assumption), if_neg (by assumption)])))


end Mine
end
section
open PySem PySem.W PyProof.Rows
set_option Elab.async false
set_option maxRecDepth 100000
namespace Mine
set_option maxHeartbeats 8000000 in
theorem law_told_ctr (w : World) (mean : ExcName → Option Value) (mg mb : Str → Option Value) (y : Str) (t : Tok) :
    Ctr 1 w mean mg mb 116 (y.length ≤ 1000) [.str y t] (fun t => .str (toldS y) t) := by
  delta Ctr prg vw
  k_fill
  intro news dp un gd cn cs ad ccd cls outer A₀ base h₀ L m s Q E B₀ F₀ X₀ N₀ T₀ hk hpre hd hu hret
  refine wpAny_call ?_
  k_dflt cell_enter
  rename_i g L₁ h₁ FG F1 N1 B1 X1 T1
  repeat' ((fail_if_success (with_reducible show wpAny _ _ (PySem.pyIter _) _ _ _)); (first | (k_unfold; (try dsimp only)) | (k_end; wrow_close) | walk1 | (dsimp only; walk1) | (leave1; walk_say "STEP leave1"; try dsimp only) | fail "no step"))
  rename_i D hA hlow hB FB NB l hC kC hmap hS hlens hIL F2 N2
  clear hIL
  have hDS : D < hB.objs.size := Heap.lt_size (NB _ (List.mem_cons_self ..)).1
  have hnS : ∀ p ∈ news, p.1 < hB.objs.size := fun p hp => Heap.lt_size (NB _ (List.mem_cons_of_mem _ hp)).1
  clear FB NB
  dsimp only at F2 N2 ⊢
  generalize hSa : hB.objs.size = S at N2 hDS hnS ⊢
  generalize hws : strValues l = ws at hS N2 ⊢
  generalize hps : List.map (fun x => x.fst) l = ps at hmap hS hlens
  have hpl : ps.length ≤ 1002 := by rw [hmap]; exact Nat.le_trans (split_count y _) (by omega)
  refine kdl_iter (nn := 0) (vs := ws) (fun i m nx => ∃ (us : List Value) (qs : List Str) (c : Nat), nx = (S, W.listOf ws.toArray 0) :: (D, W.listOf us.toArray c) :: news ∧ StrsAre us qs ∧ qs = ps.take i ∧ (∀ p ∈ qs, 34 ∉ cl p) ∧ m (PySem.Str.ofString "pieces") = some (.ref D)) rfl (List.mem_cons_self ..) F2 N2 ⟨[], [], 0, rfl, .nil, by simp, by simp, by rfl⟩ ?_ ?_
  · rintro i v m₁ news₁ h tk own hv hoff hmem ⟨us, qs, c, rfl, hUs, hqs, hfree, hm⟩ F3 N3
    clear hmem F2 N2
    have hul : us.length ≤ 1002 := by rw [strs_len hUs, hqs, List.length_take]; omega
    have hql : ∀ q ∈ qs, q.length ≤ 1000 := fun q hq => Nat.le_trans (hlens q (List.mem_of_mem_take (hqs ▸ hq))) hpre
    obtain ⟨p, tp, hp, rfl⟩ := strs_at hS hv
    have hpl : p.length ≤ y.length := hlens p (List.mem_of_getElem? hp)
    obtain ⟨p0, pr, hsp, hp0⟩ := head_split p
    have F4 : Fr g L₁ h (kstB (fun y => if y = PySem.Str.ofString "piece" then some (.str p tp) else m₁ y) [(PySem.Str.ofString "piece", .str p tp), (PySem.Str.ofString "pieces", .ref D)]) := fr_norm (m := fun y => if y = PySem.Str.ofString "piece" then some (.str p tp) else m₁ y) F3 (by
      intro q hq
      rcases List.mem_cons.mp hq with rfl | hq
      · exact if_pos rfl
      · rw [List.mem_singleton.mp hq]
        show (if PySem.Str.ofString "pieces" = PySem.Str.ofString "piece" then _ else _) = _
        rw [if_neg (by decide)]; exact hm)
    dsimp only [kstB] at F4
    clear F3
    have N4 : News g L₁ h ((S, W.listOf ws.toArray 0) :: (D, W.listOf us.toArray c) :: (news ++ own)) := N3
    clear N3
    repeat' ((fail_if_success (with_reducible show wpAny _ _ (PySem.call (Value.builtin "list.append") _) _ _ _)); (first | (k_unfold; (try dsimp only)) | (k_end; wrow_close) | walk1 | (dsimp only; walk1) | (leave1; walk_say "STEP leave1"; try dsimp only) | fail "no step"))
    rename Fr _ _ _ _ => F5
    rename News _ _ _ _ => N5
    rename_i hlook _ _ _ y0 ty0 hy0
    have ey : y0 = p0 := by
      rw [hlook, litQ1, hsp] at hy0
      simpa using hy0.symm
    subst ey
    have N6 : News g L₁ _ ([(S, W.listOf ws.toArray 0)] ++ (D, W.listOf us.toArray c) :: (news ++ own)) := cb_drop N5 (fun p hp => List.mem_cons_of_mem _ hp)
    refine append_led F5 N6 (fun q hq => by rw [List.mem_singleton.mp hq]; exact Nat.ne_of_gt hDS) (fun q hq => (List.mem_append.mp hq).elim (fun hq => Nat.ne_of_lt (hlow q hq)) (fun hq => hoff.ne (by simp) q hq)) (by omega) fun h7 F7 N7 => ?_
    clear F5 N5 N6
    have hU7 : StrsAre (us ++ [.str y0 ty0]) (qs ++ [y0]) := StrsAre.append' hUs (.cons _ _ .nil)
    have N8 : News g L₁ h7 ((S, W.listOf ws.toArray 0) :: (D, W.listOf (us ++ [Value.str y0 ty0]).toArray (c + 1)) :: (news ++ own)) := N7
    clear N7
    repeat' ((fail_if_success (with_reducible show wpAny _ _ (PySem.call (Value.builtin "str.join") _) _ _ _)); (first | (k_unfold; (try dsimp only)) | (k_end; wrow_close) | walk1 | (dsimp only; walk1) | (leave1; walk_say "STEP leave1"; try dsimp only) | fail "no step"))
    · have hnq : 34 ∉ cl p := no_quote (by assumption)
      have e : y0 = p := cl_inj (by rw [hp0, takeWhile_free hnq])
      subst e
      obtain ⟨hi, hpi⟩ := List.getElem?_eq_some_iff.mp hp
      refine InvEndG.intro F7 N8 (nx := (S, W.listOf ws.toArray 0) :: (D, W.listOf (us ++ [Value.str y0 ty0]).toArray (c + 1)) :: news) ⟨List.mem_cons_self .., us ++ [Value.str y0 ty0], qs ++ [y0], c + 1, rfl, hU7, ?_, ?_, ?_⟩ hoff ?_ ?_
      · rw [hqs, List.take_add_one, hp]; rfl
      · intro q hq
        rcases List.mem_append.mp hq with hq | hq
        · exact hfree q hq
        · rw [List.mem_singleton.mp hq]; exact hnq
      · rfl
      · intro q hq
        rcases List.mem_cons.mp hq with hq | hq
        · exact List.mem_cons.mpr (.inl hq)
        · rcases List.mem_cons.mp hq with hq | hq
          · exact List.mem_cons_of_mem _ (List.mem_cons.mpr (.inl hq))
          · exact List.mem_cons_of_mem _ (List.mem_cons_of_mem _ (List.mem_append.mpr (.inl hq)))
      · exact fun q hq => List.mem_cons_of_mem _ (List.mem_cons_of_mem _ (List.mem_append.mpr (.inr hq)))
    · have h34 : 34 ∈ cl p := has_quote (by assumption)
      have hy0l : y0.length ≤ 1000 := by
        have h1 : (cl y0).length ≤ (cl p).length := by rw [hp0]; exact (List.takeWhile_sublist _).length_le
        rw [← cl_len, ← cl_len] at h1; omega
      refine join_made N8 (List.mem_cons_of_mem _ (List.mem_cons_self ..)) hU7 (join_sum (B := 1000) (n := 1003) (fun q hq => (List.mem_append.mp hq).elim (fun hq => hql q hq) (fun hq => by rw [List.mem_singleton.mp hq]; exact hy0l)) (by rw [List.length_append, ← strs_len hUs]; simp; omega) (by decide +kernel)) fun t' k => ?_
      rw [told_brk hmap hqs hp hfree h34 hp0]
      k_steps
      exact hret _ _ _ (by assumption) (cb_drop (by assumption) (fun p hp => List.mem_cons_of_mem _ (List.mem_cons_of_mem _ (List.mem_append.mpr (.inl hp)))))
  · rintro m₁ news₁ h tk ⟨us, qs, c, rfl, hUs, hqs, hfree, hm⟩ F3 N3
    have F4 : Fr g L₁ h (kstB m₁ [(PySem.Str.ofString "pieces", .ref D)]) := fr_norm F3 (by
      intro q hq
      rw [List.mem_singleton.mp hq]; exact hm)
    dsimp only [kstB] at F4
    clear F3
    repeat' ((fail_if_success (with_reducible show wpAny _ _ (PySem.call (Value.builtin "str.join") _) _ _ _)); (first | (k_unfold; (try dsimp only)) | (k_end; wrow_close) | walk1 | (dsimp only; walk1) | (leave1; walk_say "STEP leave1"; try dsimp only) | fail "no step"))
    rename News _ _ _ _ => N5
    have hn : ws.length = ps.length := strs_len hS
    refine join_made N5 (List.mem_cons_of_mem _ (List.mem_cons_self ..)) hUs (join_sum (B := 1000) (n := 1002) (fun q hq => Nat.le_trans (hlens q (List.mem_of_mem_take (hqs ▸ hq))) hpre) (by rw [hqs, List.length_take]; omega) (by decide +kernel)) fun t' k => ?_
    rw [told_done hmap hqs hn hfree]
    k_steps
    exact hret _ _ _ (by assumption) (cb_drop (by assumption) (fun p hp => List.mem_cons_of_mem _ (List.mem_cons_of_mem _ hp)))

end Mine
end
section
open PySem PySem.W PyProof.Rows
set_option Elab.async false
set_option maxRecDepth 100000
namespace Mine
set_option maxHeartbeats 8000000 in
theorem law_page_ctr (w : World) (mean : ExcName → Option Value) (mg mb : Str → Option Value) (p : Int) (u : Tok) (x : Str) (t : Tok) :
    Ctr 1 w mean mg mb 121 (0 ≤ p ∧ p < 5 ∧ x.length ≤ 1000) [.int p u, .str x t] (fun t => .str (pageS p.toNat x) t) := by
  delta Ctr prg vw
  k_fill
  intro news dp un gd cn cs ad ccd cls outer A₀ base h₀ L m s Q E B₀ F₀ X₀ N₀ T₀ hk hpre hd hu hret
  obtain ⟨hp0, hp5, hx⟩ := hpre
  refine wpAny_call ?_
  k_dflt (refine' code_defC ?k1 ?k2 ?k3 ?k4 ?k5 ?kA ?kF ?kK ?k6 ?k7 ?k8 ?k9 ?kB ?kD ?_ ?c2 ?c3 ?c4; (case kA => exact rfl); (case kF => exact rfl); (case kK => assumption); (case k1 => k_asm); (case k2 => k_asm); (case k3 => k_asm); (case k4 => k_asm); (case k5 => k_asm); (case k6 => k_is); (case k7 => k_is); (case k8 => ktr_room); (case k9 => exact BindsTo.of_eq rfl); (case kB => exact rfl); (case kD => decide +kernel); (case c2 => exact rfl); (case c3 => exact rfl); (case c4 => exact rfl); k_whole)
  intro g L₁ h₁ tk₁ cells₁ FG F1 N1 Y1 B1 X1 T1 l1
  have hnL : ∀ p ∈ news, p.1 < L₁ := l1
  k_cells Y1
  rename_i oC dC
  (try simp only [List.cons_append, List.nil_append] at N1); (try dsimp only); (try k_fold)
  repeat' ((fail_if_success (with_reducible show wpAny _ _ (PySem.exec (PySem.Stmt.Assign [PySem.Expr.Name (PySem.Str.ofString "table") _] _ _) _) _ _ _)); (first | ((with_reducible show wpAny _ _ (PySem.eval (PySem.Expr.Dict _ _ _) _) _ _ _); with_reducible refine dict_lit (by repeat (first | exact LitPairs.nil | apply LitPairs.cons)) (by with_reducible assumption) (by with_reducible assumption) (Top.nolimit (by with_reducible assumption)) (List.cons_ne_nil _ _) (by decide) (by decide +kernel) ?_; intro _ _ _ _ _ _ _ _ _ _; (try dsimp only)) | (k_unfold; (try dsimp only)) | (k_end; wrow_close) | walk1 | (dsimp only; walk1) | (leave1; walk_say "STEP leave1"; try dsimp only) | fail "no step"))
  rename_i hh1 o1 tk1 kvs1 ll1 lo1 hd1 hpr1 hh2 o2 tk2 kvs2 ll2 lo2 hd2 hpr2 hh3 o3 tk3 kvs3 ll3 lo3 hd3 hpr3 hh4 o4 tk4 kvs4 ll4 lo4 hd4 hpr4 hh5 o5 tk5 kvs5 ll5 lo5 hd5 hpr5 lT hT l1T hT2 FT NT
  refine stmt_join (fun s' => ∃ (TD : Addr) (o c : Obj) (kvs : List (Str × Value)) (h : Heap) (tk : Nat) (m1 : Str → Option Value), s' = { s with heap := h, toks := tk } ∧ c.data = .cell (some (.ref TD)) ∧ o.IsDictOf (PySem.strKind prg w) kvs ∧ PairsAre kvs (tabS p.toNat) ∧ (TD == sysModules) = false ∧ Fr g L₁ h (kstB m1 [(PySem.Str.ofString "text", .str x t)]) ∧ News g L₁ h ((L₁ + 1, c) :: (TD, o) :: news)) ?_ ?_
  · have hp : p = 0 ∨ p = 1 ∨ p = 2 ∨ p = 3 ∨ p = 4 := by omega
    rcases hp with rfl | rfl | rfl | rfl | rfl
    · repeat' ((fail_if_success (with_reducible show wpAny _ _ (storeName _ _ _) _ _ _)); (first | ((with_reducible show wpAny _ _ (PySem.eval (PySem.Expr.Dict _ _ _) _) _ _ _); with_reducible refine dict_lit (by repeat (first | exact LitPairs.nil | apply LitPairs.cons)) (by with_reducible assumption) (by with_reducible assumption) (Top.nolimit (by with_reducible assumption)) (List.cons_ne_nil _ _) (by decide) (by decide +kernel) ?_; intro _ _ _ _ _ _ _ _ _ _; (try dsimp only)) | (k_unfold; (try dsimp only)) | (k_end; wrow_close) | walk1 | (dsimp only; walk1) | (leave1; walk_say "STEP leave1"; try dsimp only) | fail "no step"))
      rename Fr _ _ _ _ => F6
      rename News _ _ _ _ => N6
      have N7 : News g L₁ _ ([(h₁.objs.size, o1)] ++ (L₁ + 1, oC) :: news) := cb_drop N6 (by
        intro q hq
        rcases List.mem_append.mp hq with hq | hq
        · rw [List.mem_singleton.mp hq]; k_mem
        · rcases List.mem_cons.mp hq with hq | hq
          · rw [hq]; k_mem
          · repeat (first | exact hq | refine List.mem_cons_of_mem _ ?_))
      refine stCN F6 N7 rfl dC (fun q hq => by rw [List.mem_singleton.mp hq]; exact Nat.ne_of_gt (ll1 (L₁ + 1, oC) (by k_mem))) (fun q hq => Nat.ne_of_lt (Nat.lt_succ_of_lt (hnL q hq))) fun h8 o8 F8 N8 hd8 => ?_
      exact JoinEnd.intro ⟨_, o1, o8, kvs1, h8, _, _, rfl, hd8, hd1, hpr1, lo1, fr_norm F8 (by kst_all), cb_drop N8 (by
        intro q hq
        rcases List.mem_cons.mp hq with hq | hq
        · rw [hq]; exact List.mem_append.mpr (.inr (.head _))
        · rcases List.mem_cons.mp hq with hq | hq
          · rw [hq]; exact List.mem_append.mpr (.inl (.head _))
          · exact List.mem_append.mpr (.inr (.tail _ hq)))⟩
    · repeat' ((fail_if_success (with_reducible show wpAny _ _ (storeName _ _ _) _ _ _)); (first | ((with_reducible show wpAny _ _ (PySem.eval (PySem.Expr.Dict _ _ _) _) _ _ _); with_reducible refine dict_lit (by repeat (first | exact LitPairs.nil | apply LitPairs.cons)) (by with_reducible assumption) (by with_reducible assumption) (Top.nolimit (by with_reducible assumption)) (List.cons_ne_nil _ _) (by decide) (by decide +kernel) ?_; intro _ _ _ _ _ _ _ _ _ _; (try dsimp only)) | (k_unfold; (try dsimp only)) | (k_end; wrow_close) | walk1 | (dsimp only; walk1) | (leave1; walk_say "STEP leave1"; try dsimp only) | fail "no step"))
      rename Fr _ _ _ _ => F6
      rename News _ _ _ _ => N6
      have N7 : News g L₁ _ ([(hh1.objs.size, o2)] ++ (L₁ + 1, oC) :: news) := cb_drop N6 (by
        intro q hq
        rcases List.mem_append.mp hq with hq | hq
        · rw [List.mem_singleton.mp hq]; k_mem
        · rcases List.mem_cons.mp hq with hq | hq
          · rw [hq]; k_mem
          · repeat (first | exact hq | refine List.mem_cons_of_mem _ ?_))
      refine stCN F6 N7 rfl dC (fun q hq => by rw [List.mem_singleton.mp hq]; exact Nat.ne_of_gt (ll2 (L₁ + 1, oC) (by k_mem))) (fun q hq => Nat.ne_of_lt (Nat.lt_succ_of_lt (hnL q hq))) fun h8 o8 F8 N8 hd8 => ?_
      exact JoinEnd.intro ⟨_, o2, o8, kvs2, h8, _, _, rfl, hd8, hd2, hpr2, lo2, fr_norm F8 (by kst_all), cb_drop N8 (by
        intro q hq
        rcases List.mem_cons.mp hq with hq | hq
        · rw [hq]; exact List.mem_append.mpr (.inr (.head _))
        · rcases List.mem_cons.mp hq with hq | hq
          · rw [hq]; exact List.mem_append.mpr (.inl (.head _))
          · exact List.mem_append.mpr (.inr (.tail _ hq)))⟩
    · repeat' ((fail_if_success (with_reducible show wpAny _ _ (storeName _ _ _) _ _ _)); (first | ((with_reducible show wpAny _ _ (PySem.eval (PySem.Expr.Dict _ _ _) _) _ _ _); with_reducible refine dict_lit (by repeat (first | exact LitPairs.nil | apply LitPairs.cons)) (by with_reducible assumption) (by with_reducible assumption) (Top.nolimit (by with_reducible assumption)) (List.cons_ne_nil _ _) (by decide) (by decide +kernel) ?_; intro _ _ _ _ _ _ _ _ _ _; (try dsimp only)) | (k_unfold; (try dsimp only)) | (k_end; wrow_close) | walk1 | (dsimp only; walk1) | (leave1; walk_say "STEP leave1"; try dsimp only) | fail "no step"))
      rename Fr _ _ _ _ => F6
      rename News _ _ _ _ => N6
      have N7 : News g L₁ _ ([(hh2.objs.size, o3)] ++ (L₁ + 1, oC) :: news) := cb_drop N6 (by
        intro q hq
        rcases List.mem_append.mp hq with hq | hq
        · rw [List.mem_singleton.mp hq]; k_mem
        · rcases List.mem_cons.mp hq with hq | hq
          · rw [hq]; k_mem
          · repeat (first | exact hq | refine List.mem_cons_of_mem _ ?_))
      refine stCN F6 N7 rfl dC (fun q hq => by rw [List.mem_singleton.mp hq]; exact Nat.ne_of_gt (ll3 (L₁ + 1, oC) (by k_mem))) (fun q hq => Nat.ne_of_lt (Nat.lt_succ_of_lt (hnL q hq))) fun h8 o8 F8 N8 hd8 => ?_
      exact JoinEnd.intro ⟨_, o3, o8, kvs3, h8, _, _, rfl, hd8, hd3, hpr3, lo3, fr_norm F8 (by kst_all), cb_drop N8 (by
        intro q hq
        rcases List.mem_cons.mp hq with hq | hq
        · rw [hq]; exact List.mem_append.mpr (.inr (.head _))
        · rcases List.mem_cons.mp hq with hq | hq
          · rw [hq]; exact List.mem_append.mpr (.inl (.head _))
          · exact List.mem_append.mpr (.inr (.tail _ hq)))⟩
    · repeat' ((fail_if_success (with_reducible show wpAny _ _ (storeName _ _ _) _ _ _)); (first | ((with_reducible show wpAny _ _ (PySem.eval (PySem.Expr.Dict _ _ _) _) _ _ _); with_reducible refine dict_lit (by repeat (first | exact LitPairs.nil | apply LitPairs.cons)) (by with_reducible assumption) (by with_reducible assumption) (Top.nolimit (by with_reducible assumption)) (List.cons_ne_nil _ _) (by decide) (by decide +kernel) ?_; intro _ _ _ _ _ _ _ _ _ _; (try dsimp only)) | (k_unfold; (try dsimp only)) | (k_end; wrow_close) | walk1 | (dsimp only; walk1) | (leave1; walk_say "STEP leave1"; try dsimp only) | fail "no step"))
      rename Fr _ _ _ _ => F6
      rename News _ _ _ _ => N6
      have N7 : News g L₁ _ ([(hh3.objs.size, o4)] ++ (L₁ + 1, oC) :: news) := cb_drop N6 (by
        intro q hq
        rcases List.mem_append.mp hq with hq | hq
        · rw [List.mem_singleton.mp hq]; k_mem
        · rcases List.mem_cons.mp hq with hq | hq
          · rw [hq]; k_mem
          · repeat (first | exact hq | refine List.mem_cons_of_mem _ ?_))
      refine stCN F6 N7 rfl dC (fun q hq => by rw [List.mem_singleton.mp hq]; exact Nat.ne_of_gt (ll4 (L₁ + 1, oC) (by k_mem))) (fun q hq => Nat.ne_of_lt (Nat.lt_succ_of_lt (hnL q hq))) fun h8 o8 F8 N8 hd8 => ?_
      exact JoinEnd.intro ⟨_, o4, o8, kvs4, h8, _, _, rfl, hd8, hd4, hpr4, lo4, fr_norm F8 (by kst_all), cb_drop N8 (by
        intro q hq
        rcases List.mem_cons.mp hq with hq | hq
        · rw [hq]; exact List.mem_append.mpr (.inr (.head _))
        · rcases List.mem_cons.mp hq with hq | hq
          · rw [hq]; exact List.mem_append.mpr (.inl (.head _))
          · exact List.mem_append.mpr (.inr (.tail _ hq)))⟩
    · repeat' ((fail_if_success (with_reducible show wpAny _ _ (storeName _ _ _) _ _ _)); (first | ((with_reducible show wpAny _ _ (PySem.eval (PySem.Expr.Dict _ _ _) _) _ _ _); with_reducible refine dict_lit (by repeat (first | exact LitPairs.nil | apply LitPairs.cons)) (by with_reducible assumption) (by with_reducible assumption) (Top.nolimit (by with_reducible assumption)) (List.cons_ne_nil _ _) (by decide) (by decide +kernel) ?_; intro _ _ _ _ _ _ _ _ _ _; (try dsimp only)) | (k_unfold; (try dsimp only)) | (k_end; wrow_close) | walk1 | (dsimp only; walk1) | (leave1; walk_say "STEP leave1"; try dsimp only) | fail "no step"))
      rename Fr _ _ _ _ => F6
      rename News _ _ _ _ => N6
      have N7 : News g L₁ _ ([(hh4.objs.size, o5)] ++ (L₁ + 1, oC) :: news) := cb_drop N6 (by
        intro q hq
        rcases List.mem_append.mp hq with hq | hq
        · rw [List.mem_singleton.mp hq]; k_mem
        · rcases List.mem_cons.mp hq with hq | hq
          · rw [hq]; k_mem
          · repeat (first | exact hq | refine List.mem_cons_of_mem _ ?_))
      refine stCN F6 N7 rfl dC (fun q hq => by rw [List.mem_singleton.mp hq]; exact Nat.ne_of_gt (ll5 (L₁ + 1, oC) (by k_mem))) (fun q hq => Nat.ne_of_lt (Nat.lt_succ_of_lt (hnL q hq))) fun h8 o8 F8 N8 hd8 => ?_
      exact JoinEnd.intro ⟨_, o5, o8, kvs5, h8, _, _, rfl, hd8, hd5, hpr5, lo5, fr_norm F8 (by kst_all), cb_drop N8 (by
        intro q hq
        rcases List.mem_cons.mp hq with hq | hq
        · rw [hq]; exact List.mem_append.mpr (.inr (.head _))
        · rcases List.mem_cons.mp hq with hq | hq
          · rw [hq]; exact List.mem_append.mpr (.inl (.head _))
          · exact List.mem_append.mpr (.inr (.tail _ hq)))⟩
  rintro s' ⟨TD, o, c, kvs, h9, tk9, m9, rfl, hc, hd, hprs, hsys, F9, N9⟩

  dsimp only [kstB] at F9
  dsimp only
  repeat' ((fail_if_success (with_reducible show wpAny _ _ (PySem.eval (PySem.Expr.ListComp _ _ _ _) _) _ _ _)); (first | ((with_reducible show wpAny _ _ (PySem.eval (PySem.Expr.Dict _ _ _) _) _ _ _); with_reducible refine dict_lit (by repeat (first | exact LitPairs.nil | apply LitPairs.cons)) (by with_reducible assumption) (by with_reducible assumption) (Top.nolimit (by with_reducible assumption)) (List.cons_ne_nil _ _) (by decide) (by decide +kernel) ?_; intro _ _ _ _ _ _ _ _ _ _; (try dsimp only)) | (k_unfold; (try dsimp only)) | (k_end; wrow_close) | walk1 | (dsimp only; walk1) | (leave1; walk_say "STEP leave1"; try dsimp only) | fail "no step"))
  refine ListComp_S F9 (by with_unfolding_all rfl) (by decide) (by rfl) (by decide) (by rfl) ?_
  repeat' ((fail_if_success (with_reducible show wpAny _ _ (SrcS _ _ _ _ _ _ _ _ _ _ _ _ _) _ _ _)); (first | ((with_reducible show wpAny _ _ (PySem.eval (PySem.Expr.Dict _ _ _) _) _ _ _); with_reducible refine dict_lit (by repeat (first | exact LitPairs.nil | apply LitPairs.cons)) (by with_reducible assumption) (by with_reducible assumption) (Top.nolimit (by with_reducible assumption)) (List.cons_ne_nil _ _) (by decide) (by decide +kernel) ?_; intro _ _ _ _ _ _ _ _ _ _; (try dsimp only)) | (k_unfold; (try dsimp only)) | (k_end; wrow_close) | walk1 | (dsimp only; walk1) | (leave1; walk_say "STEP leave1"; try dsimp only) | fail "no step"))
  refine ⟨x, t, _, rfl, rfl, F9, N9, Nat.le_trans hx (by decide +kernel), fun s₂ hs₂ => ?_⟩
  obtain ⟨h, rfl⟩ := hs₂
  refine rest_text (fun d => mkS (ref p.toNat d)) trivial ?_ ?_
  · intro d tc I oI C oC' D m₂ ys h' tk' E' Q' hC hx' F' N' off hQ
    dsimp only
    clear N9 F9
    repeat' ((fail_if_success (with_reducible show wpAny _ _ (PySem.getMethod _ _ _) _ _ _)); (first | ((with_reducible show wpAny _ _ (PySem.eval (PySem.Expr.Dict _ _ _) _) _ _ _); with_reducible refine dict_lit (by repeat (first | exact LitPairs.nil | apply LitPairs.cons)) (by with_reducible assumption) (by with_reducible assumption) (Top.nolimit (by with_reducible assumption)) (List.cons_ne_nil _ _) (by decide) (by decide +kernel) ?_; intro _ _ _ _ _ _ _ _ _ _; (try dsimp only)) | (k_unfold; (try dsimp only)) | (k_end; wrow_close) | walk1 | (dsimp only; walk1) | (leave1; walk_say "STEP leave1"; try dsimp only) | fail "no step"))
    refine kdg_method (knd := PySem.strKind _ _) N' (by k_mem) hd ?_
    repeat' ((fail_if_success (with_reducible show wpAny _ _ (PySem.call _ _) _ _ _)); (first | ((with_reducible show wpAny _ _ (PySem.eval (PySem.Expr.Dict _ _ _) _) _ _ _); with_reducible refine dict_lit (by repeat (first | exact LitPairs.nil | apply LitPairs.cons)) (by with_reducible assumption) (by with_reducible assumption) (Top.nolimit (by with_reducible assumption)) (List.cons_ne_nil _ _) (by decide) (by decide +kernel) ?_; intro _ _ _ _ _ _ _ _ _ _; (try dsimp only)) | (k_unfold; (try dsimp only)) | (k_end; wrow_close) | walk1 | (dsimp only; walk1) | (leave1; walk_say "STEP leave1"; try dsimp only) | fail "no step"))
    rcases tab_at (p := p.toNat) (by omega) hprs d with ⟨h1, h2⟩ | ⟨v, tv, h1, h2⟩
    · refine kdg_get2 (knd := PySem.strKind _ _) N' (by k_mem) hd hsys (strKind_is _ _ _ _) none h1 ?_
      have e : mkS (ref p.toNat d) = ⟨#[d]⟩ := by rw [h2]; rfl
      have z := hQ tc _ (tk' + 1) F' N'
      rw [e] at z
      exact z
    · refine kdg_get2 (knd := PySem.strKind _ _) N' (by k_mem) hd hsys (strKind_is _ _ _ _) (some _) h1 ?_
      have e : v = mkS (ref p.toNat d) := by rw [← h2]; exact (mkS_cl v).symm
      subst e
      exact hQ tv _ _ F' N'
  · intro ys hys D h tk F' N' o1
    clear F9 N9
    dsimp only
    repeat' ((fail_if_success (with_reducible show wpAny _ _ (PySem.call (Value.builtin "str.join") _) _ _ _)); (first | ((with_reducible show wpAny _ _ (PySem.eval (PySem.Expr.Dict _ _ _) _) _ _ _); with_reducible refine dict_lit (by repeat (first | exact LitPairs.nil | apply LitPairs.cons)) (by with_reducible assumption) (by with_reducible assumption) (Top.nolimit (by with_reducible assumption)) (List.cons_ne_nil _ _) (by decide) (by decide +kernel) ?_; intro _ _ _ _ _ _ _ _ _ _; (try dsimp only)) | (k_unfold; (try dsimp only)) | (k_end; wrow_close) | walk1 | (dsimp only; walk1) | (leave1; walk_say "STEP leave1"; try dsimp only) | fail "no step"))
    have N'' : News g L₁ h ((D, W.listOf ys.toArray ys.length) :: (L₁ + 1, c) :: (TD, o) :: news) := N'
    refine join_made N'' (List.mem_cons_self ..) hys (join_sum (B := 6) (n := 1000) ?_ ?_ (by decide +kernel)) fun t' k => ?_
    · intro y hy
      obtain ⟨d, _, rfl⟩ := List.mem_map.mp hy
      rw [cl_len, cl_mkS]; exact (ref_len _ _).2
    · rw [List.length_map, ← cl_len]; exact hx
    rw [page_join]
    k_steps
    exact hret _ _ _ (by assumption) (cb_drop (by assumption) (fun p hp => List.mem_cons_of_mem _ (List.mem_cons_of_mem _ (List.mem_cons_of_mem _ hp))))

end Mine
end
section
open PySem PySem.W PyProof.Rows
set_option Elab.async false
set_option maxRecDepth 100000
namespace Mine
theorem join_len3 (l : List Int) {n : Nat} (h : (List.take 3 l).length = min 3 n) : (PySem.Str.join (PySem.Str.ofString "") (List.map signS (List.take 3 l))).length ≤ 3 := by
  rw [cl_len, cl_join0, List.flatMap_map]
  have key : ∀ m : List Int, (m.flatMap fun a => cl (signS a)).length = m.length := by
    intro m
    induction m with
    | nil => rfl
    | cons a m ih => rw [List.flatMap_cons, List.length_append, ih, ← cl_len, signS_one, List.length_cons]; omega
  rw [key]; omega
abbrev tupO (a b : Int) (ta tb : Tok) : Obj := { cls := .type "tuple", data := .seq [Value.int a ta, Value.int b tb].toArray }
theorem mem3 {α : Type} {a b c : α} {l : List α} (ha : a ∈ l) (hb : b ∈ l) (hc : c ∈ l) : ∀ p ∈ [a, b, c], p ∈ l := by
  intro p hp
  simp only [List.mem_cons, List.not_mem_nil, or_false] at hp
  rcases hp with rfl | rfl | rfl <;> assumption
theorem mem4 {α : Type} {a b c d : α} {l : List α} (ha : a ∈ l) (hb : b ∈ l) (hc : c ∈ l) (hd : d ∈ l) : ∀ p ∈ [a, b, c, d], p ∈ l := by
  intro p hp
  simp only [List.mem_cons, List.not_mem_nil, or_false] at hp
  rcases hp with rfl | rfl | rfl | rfl <;> assumption
theorem fmod5 (x : Int) : 0 ≤ x.fmod 5 ∧ x.fmod 5 < 5 := ⟨Int.fmod_nonneg_of_pos _ (by decide), Int.fmod_lt_of_pos _ (by decide)⟩
theorem fr_k {h₀ h : Heap} {L : Addr} {x : PySem.Str} {v : Value} {m : PySem.Str → Option Value} {ps : List (PySem.Str × Value)} (F : Fr h₀ L h (fun y => if y = x then some v else m y)) (hm : ∀ q ∈ ps, m q.1 = some q.2) (hx : ∀ q ∈ ps.map (·.1), q ≠ x) : Fr h₀ L h (kstB m ((x, v) :: ps)) := by
  have := fr_norm (ps := (x, v) :: ps) F (by
    intro q hq
    rcases List.mem_cons.mp hq with rfl | hq
    · exact if_pos rfl
    · show (if q.1 = x then _ else _) = _
      rw [if_neg (hx _ (List.mem_map.mpr ⟨q, hq, rfl⟩))]; exact hm q hq)
  have e : kstB (fun y => if y = x then some v else m y) ((x, v) :: ps) = kstB m ((x, v) :: ps) := by
    have e1 : kstB m ((x, v) :: ps) = fun y => if y = x then some v else m y := by
      funext z
      show (if z = x then some v else kstB m ps z) = _
      rw [kstB_eq hm fun _ => rfl]
    have e2 : kstB (fun y => if y = x then some v else m y) ((x, v) :: ps) = fun y => if y = x then some v else m y := by
      funext z
      refine kstB_eq (fun q hq => ?_) fun _ => rfl
      rcases List.mem_cons.mp hq with rfl | hq
      · exact if_pos rfl
      · show (if q.1 = x then _ else _) = _
        rw [if_neg (hx _ (List.mem_map.mpr ⟨q, hq, rfl⟩))]; exact hm q hq
    rw [e1, e2]
  rw [e] at this
  exact this
theorem reads_at {r0 r1 : Int} {i : Nat} (h : (r0, r1) ∈ [((1 : Int), (0 : Int)), (2, 0), (2, 1), (0, 0)]) (hi : i < 2) : 0 ≤ [r0, r1].getD (i : Int).toNat 0 ∧ [r0, r1].getD (i : Int).toNat 0 ≤ 2 := by
  have key : ∀ q ∈ [((1 : Int), (0 : Int)), (2, 0), (2, 1), (0, 0)], ∀ i : Nat, i < 2 → 0 ≤ [q.1, q.2].getD (i : Int).toNat 0 ∧ [q.1, q.2].getD (i : Int).toNat 0 ≤ 2 := by decide
  exact key _ h i hi
theorem writes_at {r0 r1 : Int} {i : Nat} (h : (r0, r1) ∈ [((0 : Int), (1 : Int)), (0, 2), (1, 2), (0, 0), (1, 1)]) (hi : i < 2) : 0 ≤ [r0, r1].getD (i : Int).toNat 0 ∧ [r0, r1].getD (i : Int).toNat 0 ≤ 2 := by
  have key : ∀ q ∈ [((0 : Int), (1 : Int)), (0, 2), (1, 2), (0, 0), (1, 1)], ∀ i : Nat, i < 2 → 0 ≤ [q.1, q.2].getD (i : Int).toNat 0 ∧ [q.1, q.2].getD (i : Int).toNat 0 ≤ 2 := by decide
  exact key _ h i hi
theorem small2 {b : Int} (h : 0 ≤ b ∧ b ≤ 2) : Builtin.Range.small 0 b 1 = true := by
  have : b = 0 ∨ b = 1 ∨ b = 2 := by omega
  rcases this with rfl | rfl | rfl <;> decide
theorem size2 {b : Int} (h : 0 ≤ b ∧ b ≤ 2) : Builtin.Range.rangeSize 0 b 1 = (b.toNat : Int) := by
  have : b = 0 ∨ b = 1 ∨ b = 2 := by omega
  rcases this with rfl | rfl | rfl <;> decide
theorem wrS_step {ps : List Int} {i : Nat} {p : Int} (h : ps[i]? = some p) (x : PySem.Str) : wrS (ps.take (i + 1)) x = pageS p.toNat (wrS (ps.take i) x) := by
  unfold wrS
  rw [List.take_add_one, h, List.foldl_append]; rfl
theorem place_at {p0 p1 p : Int} {n i : Nat} (h0 : 0 ≤ p0 ∧ p0 < 5) (h1 : 0 ≤ p1 ∧ p1 < 5) (h : ([p0, p1].take n)[i]? = some p) : 0 ≤ p ∧ p < 5 := by
  have hm := List.mem_of_mem_take (List.mem_of_getElem? h)
  simp only [List.mem_cons, List.not_mem_nil, or_false] at hm
  rcases hm with rfl | rfl <;> assumption
theorem end_at {r0 r1 w0 w1 p0 p1 : Int} {Bd : PySem.Str} {i : Nat} (hi : i < 2) : [endS r0 w0 p0 p1 Bd, endS r1 w1 p0 p1 Bd][i]? = some (wrS ([p0, p1].take ([w0, w1].getD (i : Int).toNat 0).toNat) (rdS ([r0, r1].getD (i : Int).toNat 0).toNat Bd)) := by
  have : i = 0 ∨ i = 1 := by omega
  rcases this with rfl | rfl <;> rfl
theorem strs_snoc {us : List Value} {es : List PySem.Str} {i : Nat} {x : PySem.Str} {t : Tok} (h : StrsAre us (es.take i)) (hx : es[i]? = some x) : StrsAre (us ++ [.str x t]) (es.take (i + 1)) := by
  rw [List.take_add_one, hx]
  exact StrsAre.append' h (.cons _ _ .nil)
theorem ne_self {x : PySem.Str} (h : (x != x) = true) : False := by simp at h
theorem in124 {q : Int} (h : ([1, 2, 4].any fun x => x == q) = true) : q = 1 ∨ q = 2 ∨ q = 4 := by
  simp only [List.any_cons, List.any_nil, Bool.or_false, Bool.or_eq_true, beq_iff_eq] at h
  rcases h with rfl | rfl | rfl <;> decide
theorem out124 {q : Int} (h : ([1, 2, 4].any fun x => x == q) = false) (hq : 0 ≤ q ∧ q < 5) : q = 0 ∨ q = 3 := by
  have key : ∀ n : Nat, n < 5 → ([(1 : Int), 2, 4].any fun x => x == (n : Int)) = false → (n : Int) = 0 ∨ (n : Int) = 3 := by decide
  obtain ⟨n, rfl⟩ := Int.eq_ofNat_of_zero_le hq.1
  exact key n (Int.ofNat_lt.mp hq.2) h
theorem strs2 {us : List Value} {x y : PySem.Str} (h : StrsAre us [x, y]) : ∃ t u, us = [.str x t, .str y u] := by
  cases h with
  | cons _ t r =>
    cases r with
    | cons _ u r =>
      cases r
      exact ⟨t, u, rfl⟩
theorem rd_le {r0 r1 : Int} (h : (r0, r1) ∈ [((1 : Int), (0 : Int)), (2, 0), (2, 1), (0, 0)]) : 0 ≤ r1 ∧ r1 ≤ r0 := by
  have key : ∀ q ∈ [((1 : Int), (0 : Int)), (2, 0), (2, 1), (0, 0)], 0 ≤ q.2 ∧ q.2 ≤ q.1 := by decide
  exact key _ h
theorem wd_le {r0 r1 : Int} (h : (r0, r1) ∈ [((0 : Int), (1 : Int)), (0, 2), (1, 2), (0, 0), (1, 1)]) : 0 ≤ r0 ∧ r0 ≤ r1 := by
  have key : ∀ q ∈ [((0 : Int), (1 : Int)), (0, 2), (1, 2), (0, 0), (1, 1)], 0 ≤ q.1 ∧ q.1 ≤ q.2 := by decide
  exact key _ h
theorem notin_eq (x : PySem.Str) (c : Nat) : (!!(Builtin.Str.occurrences x ⟨#[c]⟩ 0 x.length 1).isEmpty) = decide (c ∉ cl x) := by
  have := StrLaws.found_one x c
  rw [this]
  by_cases h : c ∈ x.cps.toList
  · have h' : c ∈ cl x := h
    simp [h, h']
  · have h' : c ∉ cl x := h
    simp [h, h']
section
variable {prog : Program} {w : World} {A : Around} {E : Value → Shared → Prop} {s : Shared} {Q : Value → Shared → Prop} {h₀ : Heap} {L D : Addr} {news : List (Addr × Obj)} {us : List Value} {c n : Nat}
theorem len_made2 (N : News h₀ L s.heap news) (hm : (D, W.listOf us.toArray c) ∈ news) (hn : us.length = n) (hf : n ≤ 1000) (h : ∀ t k, Q (.int (n : Int) t) { s with toks := k }) : wpAny (model prog w) A (PySem.call (.builtin "len") [.ref D]) Q E s := by
  refine len_list (items := us.toArray) ⟨_, (N _ hm).1, rfl, c, rfl⟩ (by rw [List.size_toArray, hn]; omega) ?_
  rw [List.size_toArray, hn]
  exact h _ _
end
theorem fmod8 (x : Int) : 0 ≤ x.fmod 8 ∧ x.fmod 8 < 8 := ⟨Int.fmod_nonneg_of_pos _ (by decide), Int.fmod_lt_of_pos _ (by decide)⟩
theorem mem2 {α : Type} {a b : α} {l : List α} (ha : a ∈ l) (hb : b ∈ l) : ∀ p ∈ [a, b], p ∈ l := by
  intro p hp
  simp only [List.mem_cons, List.not_mem_nil, or_false] at hp
  rcases hp with rfl | rfl <;> assumption
theorem sizeN (n : Nat) : Builtin.Range.rangeSize 0 (n : Int) 1 = (n : Int) := by
  rw [rangeSize_nat]; omega
theorem smallN {n : Nat} (h : n ≤ 900) : Builtin.Range.small 0 (n : Int) 1 = true := by
  unfold Builtin.Range.small
  rw [sizeN, fitsL (by omega) (by omega), fitsL (by omega) (by omega), fitsL (by omega) (by omega), if_pos (by decide), fitsL (by omega) (by omega)]
  simp
theorem item_ne {x y : PySem.Str} {k : Nat} (hx : k < x.length) (hy : k < y.length) : (Txt.item x (k : Int) != Txt.item y (k : Int)) = decide ((cl x)[k]? ≠ (cl y)[k]?) := by
  rw [cl_len] at hx hy
  obtain ⟨c, h1, e1⟩ := item_at x (i := (k : Int)) (by omega) (by omega)
  obtain ⟨d, h2, e2⟩ := item_at y (i := (k : Int)) (by omega) (by omega)
  rw [Int.toNat_natCast] at h1 h2
  rw [bne_cl, e1, e2, h1, h2]
  by_cases h : c = d
  · subst h; simp
  · simp [h]
theorem filter_head {f : Nat → Bool} : ∀ (n i : Nat), ∃ h : Nat, (((List.range' i n).filter f).map (fun c : Nat => (c : Int)) ++ [((i + n : Nat) : Int)]).getD 0 0 = (h : Int) ∧ i ≤ h ∧ h ≤ i + n ∧ (∀ k, i ≤ k → k < h → f k = false) ∧ (h = i + n ∨ f h = true)
  | 0, i => ⟨i, rfl, Nat.le_refl _, Nat.le_refl _, fun k h1 h2 => by omega, .inl rfl⟩
  | n + 1, i => by
    rw [List.range'_succ, List.filter_cons]
    cases hf : f i with
    | true => exact ⟨i, rfl, Nat.le_refl _, by omega, fun k h1 h2 => by omega, .inr hf⟩
    | false =>
      rw [if_neg (by decide)]
      obtain ⟨h, h1, h2, h3, h4, h5⟩ := filter_head n (i + 1) (f := f)
      refine ⟨h, ?_, by omega, by omega, fun k k1 k2 => ?_, ?_⟩
      · rw [show i + (n + 1) = i + 1 + n by omega]; exact h1
      · by_cases e : k = i
        · rw [e]; exact hf
        · exact h4 k (by omega) k2
      · rcases h5 with h5 | h5
        · exact .inl (by omega)
        · exact .inr h5
theorem head_facts (x y : PySem.Str) : ∃ h : Nat, ((((List.range x.length).filter (fun k => decide ((cl x)[k]? ≠ (cl y)[k]?))).map (fun c : Nat => (c : Int)) ++ [(x.length : Int)]).getD (Int.toNat 0) 0) = (h : Int) ∧ h ≤ (cl x).length ∧ (∀ k < h, (cl x)[k]? = (cl y)[k]?) ∧ (h = (cl x).length ∨ (cl x)[h]? ≠ (cl y)[h]?) := by
  obtain ⟨h, h1, h2, h3, h4, h5⟩ := filter_head (f := fun k => decide ((cl x)[k]? ≠ (cl y)[k]?)) x.length 0
  rw [Nat.zero_add] at h1 h3 h5
  rw [← List.range_eq_range'] at h1
  rw [← cl_len]
  refine ⟨h, h1, h3, fun k hk => ?_, ?_⟩
  · have := of_decide_eq_false (h4 k (Nat.zero_le _) hk)
    exact Decidable.of_not_not this
  · rcases h5 with h5 | h5
    · exact .inl h5
    · exact .inr (of_decide_eq_true h5)
theorem ms_len (f : Nat → Bool) (n : Nat) : (((List.range n).filter f).map (fun c : Nat => (c : Int))).length ≤ n := by
  rw [List.length_map]
  exact Nat.le_trans (List.length_filter_le _ _) (by rw [List.length_range]; exact Nat.le_refl _)
abbrev LFoot (x y : PySem.Str) (h : Nat) (f : Int) : Prop := (h : Int) ≤ f ∧ f ≤ (x.length : Int) ∧ ∀ g : Nat, h ≤ g → (g : Int) < f → (cl x).drop g ≠ (cl y).drop ((cl y).length - (cl x).length + g)
theorem fidx {n m : Nat} {f mo : Int} (h0 : 0 ≤ f) (hm : mo = (m : Int) - n) (hl : n ≤ m) : (mo + f).toNat = m - n + f.toNat := by omega
theorem fidx2 {n m : Nat} {f mo : Int} (h0 : 0 ≤ f) (h1 : f ≤ (n : Int)) (hm : mo = (m : Int) - n) (hl : n ≤ m) : 0 ≤ mo + f ∧ mo + f ≤ (m : Int) := by omega
theorem foot_eq {x y : PySem.Str} {f mo : Int} (h0 : 0 ≤ f) (h1 : f ≤ (x.length : Int)) (hm : mo = (y.length : Int) - x.length) (hl : x.length ≤ y.length) :
    (Txt.slice x (some f) none != Txt.slice y (some (mo + f)) none) = decide ((cl x).drop f.toNat ≠ (cl y).drop ((cl y).length - (cl x).length + f.toNat)) := by
  rw [cl_len] at h1 hm hl
  rw [cl_len] at hm hl
  rw [bne_cl, slice_from x h0 h1, slice_from y (fidx2 h0 h1 hm hl).1 (fidx2 h0 h1 hm hl).2, fidx h0 hm hl]
theorem drop_end {n m : Nat} {a b : List Nat} (ha : n = a.length) (hb : m = b.length) (hl : n ≤ m) : a.drop n = b.drop (m - n + n) := by
  rw [ha, List.drop_length, ← ha, Nat.sub_add_cancel hl, hb, List.drop_length]
theorem foot_lt {x y : PySem.Str} {h : Nat} {f mo : Int} (i : LFoot x y h f) (hm : mo = (y.length : Int) - x.length) (hl : x.length ≤ y.length) (ht : (Txt.slice x (some f) none != Txt.slice y (some (mo + f)) none) = true) : f < (x.length : Int) := by
  obtain ⟨i1, i2, i3⟩ := i
  rw [foot_eq (Int.le_trans (Int.natCast_nonneg h) i1) i2 hm hl] at ht
  refine Int.lt_iff_le_and_ne.mpr ⟨i2, fun e => of_decide_eq_true ht ?_⟩
  subst e
  rw [cl_len] at hl
  rw [cl_len] at hl
  rw [cl_len, Int.toNat_natCast]
  exact drop_end rfl rfl hl
theorem foot_start {x y : PySem.Str} {h : Nat} (hh : h ≤ (cl x).length) : LFoot x y h (h : Int) := ⟨Int.le_refl _, by rw [cl_len]; exact Int.ofNat_le.mpr hh, fun g g1 g2 => absurd (Int.ofNat_lt.mp g2) (Nat.not_lt.mpr g1)⟩
theorem foot_turn {x y : PySem.Str} {h : Nat} {f mo : Int} (i : LFoot x y h f) (hm : mo = (y.length : Int) - x.length) (hl : x.length ≤ y.length) (ht : (Txt.slice x (some f) none != Txt.slice y (some (mo + f)) none) = true) : LFoot x y h (f + 1) := by
  have hlt := foot_lt i hm hl ht
  obtain ⟨i1, i2, i3⟩ := i
  rw [foot_eq (Int.le_trans (Int.natCast_nonneg h) i1) i2 hm hl] at ht
  refine ⟨Int.le_trans i1 (Int.le_of_lt (Int.lt_succ f)), hlt, fun g g1 g2 => ?_⟩
  by_cases e : (g : Int) = f
  · subst e
    exact of_decide_eq_true ht
  · exact i3 g g1 (Int.lt_iff_le_and_ne.mpr ⟨Int.lt_add_one_iff.mp g2, e⟩)
theorem foot_end {x y : PySem.Str} {h : Nat} {f mo : Int} (i : LFoot x y h f) (hm : mo = (y.length : Int) - x.length) (hl : x.length ≤ y.length) (ht : (Txt.slice x (some f) none != Txt.slice y (some (mo + f)) none) = false) :
    ∃ fn : Nat, f = (fn : Int) ∧ h ≤ fn ∧ fn ≤ (cl x).length ∧ (cl x).drop fn = (cl y).drop ((cl y).length - (cl x).length + fn) ∧ ∀ g, h ≤ g → g < fn → (cl x).drop g ≠ (cl y).drop ((cl y).length - (cl x).length + g) := by
  obtain ⟨i1, i2, i3⟩ := i
  have h0 := Int.le_trans (Int.natCast_nonneg h) i1
  rw [foot_eq h0 i2 hm hl] at ht
  obtain ⟨fn, rfl⟩ := Int.eq_ofNat_of_zero_le h0
  rw [cl_len] at i2
  rw [Int.toNat_natCast] at ht
  exact ⟨fn, rfl, Int.ofNat_le.mp i1, Int.ofNat_le.mp i2, Decidable.of_not_not (of_decide_eq_false ht), fun g g1 g2 => i3 g g1 (Int.ofNat_lt.mpr g2)⟩
theorem end_facts {x y : PySem.Str} (R : Road (fun c => decide (c ∉ cl y)) (cl x) (cl y)) (hs : ∀ c ∈ cl x, c ∉ cl y → c < 65) {h f nb : Nat} (h1 : h ≤ (cl x).length) (h2 : ∀ k < h, (cl x)[k]? = (cl y)[k]?) (h3 : h = (cl x).length ∨ (cl x)[h]? ≠ (cl y)[h]?)
    (f1 : h ≤ f) (f1' : f ≤ (cl x).length) (f2 : (cl x).drop f = (cl y).drop ((cl y).length - (cl x).length + f)) (f3 : ∀ g, h ≤ g → g < f → (cl x).drop g ≠ (cl y).drop ((cl y).length - (cl x).length + g)) {mo pr bd L : Int}
    (hm : mo = (y.length : Int) - x.length) (hp : pr = 2 * mo + 2 * nb) (hb : nb = cnt (fun c => decide (c ∉ cl y)) (cl x)) (hL : L = levF (cl x) (cl y) bd ∨ L = levF (cl y) (cl x) bd) :
    ((f : Int) ≠ h ∨ L = pr) ∧ ((f : Int) = h ∨ ¬ (40 < (f : Int) - h + mo ∨ bd < 2 * mo) ∨ L = bd + 1) ∧ ((f : Int) = h ∨ (40 < (f : Int) - h + mo ∨ bd < 2 * mo) ∨ ((L = pr ∨ L = bd + 1) ∧ (bd < pr ∨ L = pr))) := by
  have key := law1_fin rfl R hs h1 h2 h3 f1 f1' f2 f3 bd hL
  rw [cl_len, cl_len] at hm
  rw [← hm, ← hb, ← hp] at key
  obtain ⟨k1, k2, k3⟩ := key
  by_cases e : f = h
  · have := k1 e
    subst e
    exact ⟨.inr this, .inl rfl, .inl rfl⟩
  · have e' : (f : Int) ≠ h := by omega
    refine ⟨.inl e', ?_, ?_⟩
    · by_cases c : 40 < (f : Int) - h + mo ∨ bd < 2 * mo
      · exact .inr (.inr (k2 e c))
      · exact .inr (.inl c)
    · by_cases c : 40 < (f : Int) - h + mo ∨ bd < 2 * mo
      · exact .inr (.inl c)
      · obtain ⟨q1, q2⟩ := k3 e c
        refine .inr (.inr ⟨q1, ?_⟩)
        by_cases d : pr ≤ bd
        · exact .inr (q2 d)
        · exact .inl (by omega)
theorem body_len {J : PySem.Str} (h : J.length ≤ 3) : (J ++ PySem.Str.ofString "\"\"<").length ≤ 6 := by
  rw [PySem.Str.length_append, show (PySem.Str.ofString "\"\"<").length = 3 by decide +kernel]; omega
end Mine
end
section
open PySem PySem.W PyProof.Rows
set_option Elab.async false
set_option maxRecDepth 100000
namespace Mine


set_option maxHeartbeats 8000000 in
theorem law1 : PySem.Challenge.rw_wn0093_01.Holds := hd1 (by
  k_go0
  (all_goals try k_fold)
  rename_i w s₀ s₁ mg mb G Y fa o pm doc ho hg KX X V GL T B TE TW wa wb M wc wd hcd script hs hlay0 hL1 hr1 hl2 we wf la vs wg hL ra w1 r0 hI hr hlen hcond K0 hD h₁ tk₁ F1 cF cN cFd cNd N1 CX
  repeat' ((fail_if_success (with_reducible show wpAny _ _ (PySem.eval (PySem.Expr.ListComp _ _ _ _) _) _ _ _)); (first | ((with_reducible show wpAny _ _ (PySem.call (Value.ref _) _) _ _ _); k_here; k_dflt ((first | apply Ctr.use (parse257_ctr _ _ _ _ _ _) | apply Ctr.use (law_told_ctr _ _ _ _ _ _) | apply Ctr.use (law_write_ctr _ _ _ _ _ _ _ _) | apply Ctr.use (law_page_ctr _ _ _ _ _ _ _ _) | apply Ctr.use (lev_ctr _ _ _ _ _ _ _ _ _ _)); k_asm; k_asm; k_asm; k_asm; k_asm; (first | exact rfl | assumption); (first | omega | exact ⟨by omega, by omega⟩ | exact ⟨by omega, by omega, by omega⟩); ktr_room; ktr_units); intro _ _ _ _ _; (try dsimp only); (try k_fold)) | ((with_reducible show wpAny _ _ (PySem.compareOp PySem.CmpOp.In (PySem.Value.int _ _) (PySem.Value.ref _)) _ _ _); k_here; apply in_tuple_ints; exact News.isTup (by k_asm) (by k_mem); exact IntsAre.cons _ _ (IntsAre.cons _ _ (IntsAre.cons _ _ IntsAre.nil))) | (k_unfold; (try dsimp only)) | (k_end; wrow_close) | walk1 | (dsimp only; walk1) | (leave1; walk_say "STEP leave1"; try dsimp only) | fail "no step"))
  refine LCg.ListComp_U (F₀ := by k_asm) (by with_unfolding_all rfl) (by decide) (by rfl) (by decide) (by rfl) ?_
  repeat' ((fail_if_success (with_reducible show (LCg.CompSrc _ _ _ _ _ _ _ _ _ _ _ _ _ _))); (first | ((with_reducible show wpAny _ _ (PySem.call (Value.ref _) _) _ _ _); k_here; k_dflt ((first | apply Ctr.use (parse257_ctr _ _ _ _ _ _) | apply Ctr.use (law_told_ctr _ _ _ _ _ _) | apply Ctr.use (law_write_ctr _ _ _ _ _ _ _ _) | apply Ctr.use (law_page_ctr _ _ _ _ _ _ _ _) | apply Ctr.use (lev_ctr _ _ _ _ _ _ _ _ _ _)); k_asm; k_asm; k_asm; k_asm; k_asm; (first | exact rfl | assumption); (first | omega | exact ⟨by omega, by omega⟩ | exact ⟨by omega, by omega, by omega⟩); ktr_room; ktr_units); intro _ _ _ _ _; (try dsimp only); (try k_fold)) | ((with_reducible show wpAny _ _ (PySem.compareOp PySem.CmpOp.In (PySem.Value.int _ _) (PySem.Value.ref _)) _ _ _); k_here; apply in_tuple_ints; exact News.isTup (by k_asm) (by k_mem); exact IntsAre.cons _ _ (IntsAre.cons _ _ (IntsAre.cons _ _ IntsAre.nil))) | (k_unfold; (try dsimp only)) | (k_end; wrow_close) | walk1 | (dsimp only; walk1) | (leave1; walk_say "STEP leave1"; try dsimp only) | fail "no step"))
  rename_i D4 ws4 h4 F4 N4 hI4 hC4 hL4 l4
  refine LCg.CompSrc.ledger (by rfl) F4 N4 (List.mem_cons_self ..) (by first | size_fits | (rw [List.size_toArray, hI4.length, sizeLine_eq]; omega)) ?_
  intro g'
  refine rest_ints signS hI4 (.inr ⟨_, List.mem_cons_self .., rfl, _, rfl⟩) ?_ ?_
  · intro c t I oI C oC D m₂ ys h tk E' Q' hC hx F N off hQ
    dsimp only
    repeat' ((fail_if_success (with_reducible show wpAny _ _ (PySem.call _ _) _ _ _)); (first | ((with_reducible show wpAny _ _ (PySem.call (Value.ref _) _) _ _ _); k_here; k_dflt ((first | apply Ctr.use (parse257_ctr _ _ _ _ _ _) | apply Ctr.use (law_told_ctr _ _ _ _ _ _) | apply Ctr.use (law_write_ctr _ _ _ _ _ _ _ _) | apply Ctr.use (law_page_ctr _ _ _ _ _ _ _ _) | apply Ctr.use (lev_ctr _ _ _ _ _ _ _ _ _ _)); k_asm; k_asm; k_asm; k_asm; k_asm; (first | exact rfl | assumption); (first | omega | exact ⟨by omega, by omega⟩ | exact ⟨by omega, by omega, by omega⟩); ktr_room; ktr_units); intro _ _ _ _ _; (try dsimp only); (try k_fold)) | ((with_reducible show wpAny _ _ (PySem.compareOp PySem.CmpOp.In (PySem.Value.int _ _) (PySem.Value.ref _)) _ _ _); k_here; apply in_tuple_ints; exact News.isTup (by k_asm) (by k_mem); exact IntsAre.cons _ _ (IntsAre.cons _ _ (IntsAre.cons _ _ IntsAre.nil))) | (k_unfold; (try dsimp only)) | (k_end; wrow_close) | walk1 | (dsimp only; walk1) | (leave1; walk_say "STEP leave1"; try dsimp only) | fail "no step"))
    refine' Ctr.use (law_sign_ctr _ _ _ _ _ _) ?k1x1 ?k2x2 ?k3x3 ?k4x4 ?k5x5 ?k6x6 ?k7x7 ?k8x8 ?k9x9 ?_
    (case k1x1 => k_asm)
    (case k2x2 => k_asm)
    (case k3x3 => k_asm)
    (case k4x4 => k_asm)
    (case k5x5 => k_asm)
    (case k6x6 => exact rfl)
    (case k7x7 => trivial)
    (case k8x8 => ktr_room)
    (case k9x9 => ktr_units)
    intro t9 h9 tk9 F9 N9
    exact hQ _ _ _ F9 N9
  intro ys hys D h tk F' N' o1
  clear F4 N4
  dsimp only
  repeat' ((fail_if_success (with_reducible show wpAny _ _ (PySem.call (Value.builtin "str.join") _) _ _ _)); (first | ((with_reducible show wpAny _ _ (PySem.call (Value.ref _) _) _ _ _); k_here; k_dflt ((first | apply Ctr.use (parse257_ctr _ _ _ _ _ _) | apply Ctr.use (law_told_ctr _ _ _ _ _ _) | apply Ctr.use (law_write_ctr _ _ _ _ _ _ _ _) | apply Ctr.use (law_page_ctr _ _ _ _ _ _ _ _) | apply Ctr.use (lev_ctr _ _ _ _ _ _ _ _ _ _)); k_asm; k_asm; k_asm; k_asm; k_asm; (first | exact rfl | assumption); (first | omega | exact ⟨by omega, by omega⟩ | exact ⟨by omega, by omega, by omega⟩); ktr_room; ktr_units); intro _ _ _ _ _; (try dsimp only); (try k_fold)) | ((with_reducible show wpAny _ _ (PySem.compareOp PySem.CmpOp.In (PySem.Value.int _ _) (PySem.Value.ref _)) _ _ _); k_here; apply in_tuple_ints; exact News.isTup (by k_asm) (by k_mem); exact IntsAre.cons _ _ (IntsAre.cons _ _ (IntsAre.cons _ _ IntsAre.nil))) | (k_unfold; (try dsimp only)) | (k_end; wrow_close) | walk1 | (dsimp only; walk1) | (leave1; walk_say "STEP leave1"; try dsimp only) | fail "no step"))
  have hJ : (PySem.Str.join (PySem.Str.ofString "") (List.map signS (List.take 3 script))).length ≤ 3 := join_len3 _ hC4
  refine join_made (c := ys.length) N' (List.mem_cons_self ..) hys (join_sum (B := 1) (n := 3) (fun y hy => by
    obtain ⟨d, _, rfl⟩ := List.mem_map.mp hy
    exact Nat.le_of_eq (signS_one d)) (by rw [List.length_map, hC4]; omega) (by decide +kernel)) fun t5 k5 => ?_
  generalize PySem.Str.join (PySem.Str.ofString "") (List.map signS (List.take 3 script)) = J at hJ ⊢
  repeat' ((fail_if_success (with_reducible show wpAny _ _ (PySem.exec (PySem.Stmt.Assign [PySem.Expr.Name (PySem.Str.ofString "reads") _] _ _) _) _ _ _)); (first | ((with_reducible show wpAny _ _ (PySem.call (Value.ref _) _) _ _ _); k_here; k_dflt ((first | apply Ctr.use (parse257_ctr _ _ _ _ _ _) | apply Ctr.use (law_told_ctr _ _ _ _ _ _) | apply Ctr.use (law_write_ctr _ _ _ _ _ _ _ _) | apply Ctr.use (law_page_ctr _ _ _ _ _ _ _ _) | apply Ctr.use (lev_ctr _ _ _ _ _ _ _ _ _ _)); k_asm; k_asm; k_asm; k_asm; k_asm; (first | exact rfl | assumption); (first | omega | exact ⟨by omega, by omega⟩ | exact ⟨by omega, by omega, by omega⟩); ktr_room; ktr_units); intro _ _ _ _ _; (try dsimp only); (try k_fold)) | ((with_reducible show wpAny _ _ (PySem.compareOp PySem.CmpOp.In (PySem.Value.int _ _) (PySem.Value.ref _)) _ _ _); k_here; apply in_tuple_ints; exact News.isTup (by k_asm) (by k_mem); exact IntsAre.cons _ _ (IntsAre.cons _ _ (IntsAre.cons _ _ IntsAre.nil))) | (k_unfold; (try dsimp only)) | (k_end; wrow_close) | walk1 | (dsimp only; walk1) | (leave1; walk_say "STEP leave1"; try dsimp only) | fail "no step"))
  rename Fr _ _ _ _ => F5
  rename News _ _ _ _ => N5
  obtain ⟨W, hW⟩ : ∃ W : Int, script.sum = W := ⟨_, rfl⟩
  rw [hW] at F5
  have hBl := body_len hJ
  obtain ⟨Bd, hBd⟩ : ∃ Bd : Str, J ++ PySem.Str.ofString "\"\"<" = Bd := ⟨_, rfl⟩
  rw [hBd] at F5 hBl
  (try clear F'); (try clear N'); (try clear F1); (try clear N1); clear hys hBd hI4 hC4 hL4 l4 o1
  (try (rename _ + _ ≤ _ ∧ _ => hJ2; clear hJ2)); (try clear hJ)
  exact (by
   with_reducible refine stmt_joinO (fun s' => ∃ (TR : Addr) (r0 r1 : Int) (tr0 tr1 tW tB : Tok) (h : Heap) (tk : Nat) (m1 : Str → Option Value), s' = { s₁ with heap := h, toks := tk } ∧ (r0, r1) ∈ [((1 : Int), (0 : Int)), (2, 0), (2, 1), (0, 0)] ∧ Fr s₁.heap s₁.heap.objs.size h (kstB m1 [(PySem.Str.ofString "script", .ref la), (PySem.Str.ofString "whole", .int W tW), (PySem.Str.ofString "body", .str Bd tB), (PySem.Str.ofString "reads", .ref TR)]) ∧ News s₁.heap s₁.heap.objs.size h [(TR, tupO r0 r1 tr0 tr1), (s₁.heap.objs.size + 1 + 1, cF), (s₁.heap.objs.size + 1, cN)]) (fun R' hR' => ?_) ?_
   · repeat' ((fail_if_success (with_reducible show wpAny _ _ (PySem.exec (PySem.Stmt.Assign [PySem.Expr.Name (PySem.Str.ofString "zzz") _] _ _) _) _ _ _)); (first | ((with_reducible show wpAny _ _ (PySem.call (Value.ref _) _) _ _ _); k_here; k_dflt ((first | apply Ctr.use (parse257_ctr _ _ _ _ _ _) | apply Ctr.use (law_told_ctr _ _ _ _ _ _) | apply Ctr.use (law_write_ctr _ _ _ _ _ _ _ _) | apply Ctr.use (law_page_ctr _ _ _ _ _ _ _ _) | apply Ctr.use (lev_ctr _ _ _ _ _ _ _ _ _ _)); k_asm; k_asm; k_asm; k_asm; k_asm; (first | exact rfl | assumption); (first | omega | exact ⟨by omega, by omega⟩ | exact ⟨by omega, by omega, by omega⟩); ktr_room; ktr_units); intro _ _ _ _ _; (try dsimp only); (try k_fold)) | ((with_reducible show wpAny _ _ (PySem.compareOp PySem.CmpOp.In (PySem.Value.int _ _) (PySem.Value.ref _)) _ _ _); k_here; apply in_tuple_ints; exact News.isTup (by k_asm) (by k_mem); exact IntsAre.cons _ _ (IntsAre.cons _ _ (IntsAre.cons _ _ IntsAre.nil))) | (k_unfold; (try dsimp only)) | (k_end; wrow_close) | walk1 | (dsimp only; walk1) | (leave1; walk_say "STEP leave1"; try dsimp only) | fail "no step"))
     all_goals (rename Fr _ _ _ _ => F6; rename News _ _ _ _ => N6; refine' JoinEnd.intro (hR' _ ⟨_, _, _, _, _, _, _, _, _, _, rfl, ?hrdx14, fr_norm F6 ?hkx13, cb_drop N6 (mem3 ?hax10 ?hbx11 ?hcx12)⟩); (case hkx13 => kst_all); (case hax10 => (repeat (first | exact List.mem_cons_self .. | refine List.mem_cons_of_mem _ ?_))); (case hbx11 => (repeat (first | exact List.mem_cons_self .. | refine List.mem_cons_of_mem _ ?_))); (case hcx12 => (repeat (first | exact List.mem_cons_self .. | refine List.mem_cons_of_mem _ ?_))); (case hrdx14 => simp))
   clear F5 N5
   rintro s' ⟨TR, r0, r1, tr0, tr1, tW, tB, h6, tk6, m6, rfl, hrd, F6, N6⟩
   dsimp only [kstB] at F6
   dsimp only
   repeat' ((fail_if_success (with_reducible show wpAny _ _ (PySem.exec (PySem.Stmt.Assign [PySem.Expr.Name (PySem.Str.ofString "writes") _] _ _) _) _ _ _)); (first | ((with_reducible show wpAny _ _ (PySem.call (Value.ref _) _) _ _ _); k_here; k_dflt ((first | apply Ctr.use (parse257_ctr _ _ _ _ _ _) | apply Ctr.use (law_told_ctr _ _ _ _ _ _) | apply Ctr.use (law_write_ctr _ _ _ _ _ _ _ _) | apply Ctr.use (law_page_ctr _ _ _ _ _ _ _ _) | apply Ctr.use (lev_ctr _ _ _ _ _ _ _ _ _ _)); k_asm; k_asm; k_asm; k_asm; k_asm; (first | exact rfl | assumption); (first | omega | exact ⟨by omega, by omega⟩ | exact ⟨by omega, by omega, by omega⟩); ktr_room; ktr_units); intro _ _ _ _ _; (try dsimp only); (try k_fold)) | ((with_reducible show wpAny _ _ (PySem.compareOp PySem.CmpOp.In (PySem.Value.int _ _) (PySem.Value.ref _)) _ _ _); k_here; apply in_tuple_ints; exact News.isTup (by k_asm) (by k_mem); exact IntsAre.cons _ _ (IntsAre.cons _ _ (IntsAre.cons _ _ IntsAre.nil))) | (k_unfold; (try dsimp only)) | (k_end; wrow_close) | walk1 | (dsimp only; walk1) | (leave1; walk_say "STEP leave1"; try dsimp only) | fail "no step"))
   exact (by
    with_reducible refine stmt_joinO (fun s' => ∃ (TV : Addr) (w0 w1 : Int) (tw0 tw1 tW tB : Tok) (h : Heap) (tk : Nat) (m1 : Str → Option Value), s' = { s₁ with heap := h, toks := tk } ∧ (w0, w1) ∈ [((0 : Int), (1 : Int)), (0, 2), (1, 2), (0, 0), (1, 1)] ∧ Fr s₁.heap s₁.heap.objs.size h (kstB m1 [(PySem.Str.ofString "script", .ref la), (PySem.Str.ofString "whole", .int W tW), (PySem.Str.ofString "body", .str Bd tB), (PySem.Str.ofString "reads", .ref TR), (PySem.Str.ofString "writes", .ref TV)]) ∧ News s₁.heap s₁.heap.objs.size h [(TV, tupO w0 w1 tw0 tw1), (TR, tupO r0 r1 tr0 tr1), (s₁.heap.objs.size + 1 + 1, cF), (s₁.heap.objs.size + 1, cN)]) (fun R' hR' => ?_) ?_
    · repeat' ((fail_if_success (with_reducible show wpAny _ _ (PySem.exec (PySem.Stmt.Assign [PySem.Expr.Name (PySem.Str.ofString "zzz") _] _ _) _) _ _ _)); (first | ((with_reducible show wpAny _ _ (PySem.call (Value.ref _) _) _ _ _); k_here; k_dflt ((first | apply Ctr.use (parse257_ctr _ _ _ _ _ _) | apply Ctr.use (law_told_ctr _ _ _ _ _ _) | apply Ctr.use (law_write_ctr _ _ _ _ _ _ _ _) | apply Ctr.use (law_page_ctr _ _ _ _ _ _ _ _) | apply Ctr.use (lev_ctr _ _ _ _ _ _ _ _ _ _)); k_asm; k_asm; k_asm; k_asm; k_asm; (first | exact rfl | assumption); (first | omega | exact ⟨by omega, by omega⟩ | exact ⟨by omega, by omega, by omega⟩); ktr_room; ktr_units); intro _ _ _ _ _; (try dsimp only); (try k_fold)) | ((with_reducible show wpAny _ _ (PySem.compareOp PySem.CmpOp.In (PySem.Value.int _ _) (PySem.Value.ref _)) _ _ _); k_here; apply in_tuple_ints; exact News.isTup (by k_asm) (by k_mem); exact IntsAre.cons _ _ (IntsAre.cons _ _ (IntsAre.cons _ _ IntsAre.nil))) | (k_unfold; (try dsimp only)) | (k_end; wrow_close) | walk1 | (dsimp only; walk1) | (leave1; walk_say "STEP leave1"; try dsimp only) | fail "no step"))
      all_goals (rename Fr _ _ _ _ => F7; rename News _ _ _ _ => N7; refine' JoinEnd.intro (hR' _ ⟨_, _, _, _, _, _, _, _, _, _, rfl, ?hrdx20, fr_norm F7 ?hkx19, cb_drop N7 (mem4 ?hax15 ?hbx16 ?hcx17 ?hdx18)⟩); (case hkx19 => kst_all); (case hax15 => (repeat (first | exact List.mem_cons_self .. | refine List.mem_cons_of_mem _ ?_))); (case hbx16 => (repeat (first | exact List.mem_cons_self .. | refine List.mem_cons_of_mem _ ?_))); (case hcx17 => (repeat (first | exact List.mem_cons_self .. | refine List.mem_cons_of_mem _ ?_))); (case hdx18 => (repeat (first | exact List.mem_cons_self .. | refine List.mem_cons_of_mem _ ?_))); (case hrdx20 => simp))
    clear F6 N6
    rintro s' ⟨TV, w0, w1, tw0, tw1, tW, tB, h6, tk6, m6, rfl, hwd, F6, N6⟩
    dsimp only [kstB] at F6
    dsimp only
    exact (by
     repeat' ((fail_if_success (with_reducible show wpAny _ _ (PySem.exec (PySem.Stmt.For _ _ _ _ _) _) _ _ _)); (first | ((with_reducible show wpAny _ _ (PySem.call (Value.ref _) _) _ _ _); k_here; k_dflt ((first | apply Ctr.use (parse257_ctr _ _ _ _ _ _) | apply Ctr.use (law_told_ctr _ _ _ _ _ _) | apply Ctr.use (law_write_ctr _ _ _ _ _ _ _ _) | apply Ctr.use (law_page_ctr _ _ _ _ _ _ _ _) | apply Ctr.use (lev_ctr _ _ _ _ _ _ _ _ _ _)); k_asm; k_asm; k_asm; k_asm; k_asm; (first | exact rfl | assumption); (first | omega | exact ⟨by omega, by omega⟩ | exact ⟨by omega, by omega, by omega⟩); ktr_room; ktr_units); intro _ _ _ _ _; (try dsimp only); (try k_fold)) | ((with_reducible show wpAny _ _ (PySem.compareOp PySem.CmpOp.In (PySem.Value.int _ _) (PySem.Value.ref _)) _ _ _); k_here; apply in_tuple_ints; exact News.isTup (by k_asm) (by k_mem); exact IntsAre.cons _ _ (IntsAre.cons _ _ (IntsAre.cons _ _ IntsAre.nil))) | (k_unfold; (try dsimp only)) | (k_end; wrow_close) | walk1 | (dsimp only; walk1) | (leave1; walk_say "STEP leave1"; try dsimp only) | fail "no step"))
     (try clear F6); (try clear N6)
     rename_i TP _ lTP _ TE _ lTE h7 F7 N7
     obtain ⟨p0, hp0, hp05⟩ : ∃ p : Int, (W.fdiv 20).fmod 5 = p ∧ (0 ≤ p ∧ p < 5) := ⟨_, rfl, fmod5 _⟩
     obtain ⟨p1, hp1, hp15⟩ : ∃ p : Int, (W.fdiv 100).fmod 5 = p ∧ (0 ≤ p ∧ p < 5) := ⟨_, rfl, fmod5 _⟩
     rw [hp0, hp1] at N7
     clear hp0 hp1
     with_reducible refine stmt_joinO (fun s' => ∃ (us : List Value) (c : Nat) (tp0 tp1 : Tok) (h : Heap) (tk : Nat) (m1 : Str → Option Value), s' = { s₁ with heap := h, toks := tk } ∧ StrsAre us [endS r0 w0 p0 p1 Bd, endS r1 w1 p0 p1 Bd] ∧ Fr s₁.heap s₁.heap.objs.size h (kstB m1 [(PySem.Str.ofString "script", .ref la), (PySem.Str.ofString "whole", .int W tW), (PySem.Str.ofString "body", .str Bd tB), (PySem.Str.ofString "places", .ref TP), (PySem.Str.ofString "ends", .ref TE)]) ∧ News s₁.heap s₁.heap.objs.size h [(TE, PySem.W.listOf us.toArray c), (TP, PySem.W.listOf [Value.int p0 tp0, Value.int p1 tp1].toArray 0), (s₁.heap.objs.size + 1 + 1, cF), (s₁.heap.objs.size + 1, cN)]) (fun R' hR' => ?_) ?_
     · repeat' ((fail_if_success (with_reducible show wpAny _ _ (PySem.pyIter _) _ _ _)); (first | ((with_reducible show wpAny _ _ (PySem.call (Value.ref _) _) _ _ _); k_here; k_dflt ((first | apply Ctr.use (parse257_ctr _ _ _ _ _ _) | apply Ctr.use (law_told_ctr _ _ _ _ _ _) | apply Ctr.use (law_write_ctr _ _ _ _ _ _ _ _) | apply Ctr.use (law_page_ctr _ _ _ _ _ _ _ _) | apply Ctr.use (lev_ctr _ _ _ _ _ _ _ _ _ _)); k_asm; k_asm; k_asm; k_asm; k_asm; (first | exact rfl | assumption); (first | omega | exact ⟨by omega, by omega⟩ | exact ⟨by omega, by omega, by omega⟩); ktr_room; ktr_units); intro _ _ _ _ _; (try dsimp only); (try k_fold)) | ((with_reducible show wpAny _ _ (PySem.compareOp PySem.CmpOp.In (PySem.Value.int _ _) (PySem.Value.ref _)) _ _ _); k_here; apply in_tuple_ints; exact News.isTup (by k_asm) (by k_mem); exact IntsAre.cons _ _ (IntsAre.cons _ _ (IntsAre.cons _ _ IntsAre.nil))) | (k_unfold; (try dsimp only)) | (k_end; wrow_close) | walk1 | (dsimp only; walk1) | (leave1; walk_say "STEP leave1"; try dsimp only) | fail "no step"))
       rename_i h8 tk8 ta8 tb8 tc8 R8 F8 N8 K8
       (try clear F7); (try clear N7); clear K8
       dsimp only at R8 F8 N8 ⊢
       refine range_iter (n := 2) (fun i m nx => ∃ (us : List Value) (c : Nat) (tp0 tp1 : Tok), nx = [(TE, PySem.W.listOf us.toArray c), (TP, PySem.W.listOf [Value.int p0 tp0, Value.int p1 tp1].toArray 0), (TV, tupO w0 w1 tw0 tw1), (TR, tupO r0 r1 tr0 tr1), (s₁.heap.objs.size + 1 + 1, cF), (s₁.heap.objs.size + 1, cN)] ∧ StrsAre us ([endS r0 w0 p0 p1 Bd, endS r1 w1 p0 p1 Bd].take i) ∧ ∀ q ∈ [(PySem.Str.ofString "script", .ref la), (PySem.Str.ofString "whole", .int W tW), (PySem.Str.ofString "body", .str Bd tB), (PySem.Str.ofString "reads", .ref TR), (PySem.Str.ofString "writes", .ref TV), (PySem.Str.ofString "places", .ref TP), (PySem.Str.ofString "ends", .ref TE)], m q.1 = some q.2) rfl R8 (by decide) (by decide) F8 N8 (fun _ h => h) ⟨[], 0, _, _, rfl, .nil, by kst_all⟩ ?_ ?_
       · rintro i t m₁ nx h tk own hi hoff ⟨us, c, tp0, tp1, rfl, hus, hm⟩ F9 N9
         have hul : us.length ≤ 100000 := by rw [strs_len hus, List.length_take]; simp; omega
         have N10 : News s₁.heap s₁.heap.objs.size h _ := N9
         have F10 : Fr s₁.heap s₁.heap.objs.size h _ := fr_k F9 hm (by dsimp only [List.map]; decide)
         have hri := reads_at hrd hi
         have hwi := writes_at hwd hi
         clear F8 N8 F9 N9
         dsimp only [kstB] at F10
         repeat' ((fail_if_success (with_reducible show wpAny _ _ (PySem.pyIter _) _ _ _)); (first | ((with_reducible show wpAny _ _ (PySem.call (Value.ref _) _) _ _ _); k_here; k_dflt ((first | apply Ctr.use (parse257_ctr _ _ _ _ _ _) | apply Ctr.use (law_told_ctr _ _ _ _ _ _) | apply Ctr.use (law_write_ctr _ _ _ _ _ _ _ _) | apply Ctr.use (law_page_ctr _ _ _ _ _ _ _ _) | apply Ctr.use (lev_ctr _ _ _ _ _ _ _ _ _ _)); k_asm; k_asm; k_asm; k_asm; k_asm; (first | exact rfl | assumption); (first | omega | exact ⟨by omega, by omega⟩ | exact ⟨by omega, by omega, by omega⟩); ktr_room; ktr_units); intro _ _ _ _ _; (try dsimp only); (try k_fold)) | ((with_reducible show wpAny _ _ (PySem.compareOp PySem.CmpOp.In (PySem.Value.int _ _) (PySem.Value.ref _)) _ _ _); k_here; apply in_tuple_ints; exact News.isTup (by k_asm) (by k_mem); exact IntsAre.cons _ _ (IntsAre.cons _ _ (IntsAre.cons _ _ IntsAre.nil))) | (k_unfold; (try dsimp only)) | (k_end; wrow_close) | walk1 | (dsimp only; walk1) | (leave1; walk_say "STEP leave1"; try dsimp only) | fail "no step"))
         rename_i h11 tk11 ta11 tb11 tc11 R11 F11 N11 K11
         clear K11
         dsimp only at R11 F11 N11 ⊢
         refine range_iter (n := ([r0, r1].getD (i : Int).toNat 0).toNat) (fun i2 m nx => ∃ (tx td : Tok), nx = [(TE, PySem.W.listOf us.toArray c), (TP, PySem.W.listOf [Value.int p0 tp0, Value.int p1 tp1].toArray 0), (TV, tupO w0 w1 tw0 tw1), (TR, tupO r0 r1 tr0 tr1), (s₁.heap.objs.size + 1 + 1, cF), (s₁.heap.objs.size + 1, cN)] ++ own ∧ ∀ q ∈ [(PySem.Str.ofString "text", .str (rdS i2 Bd) tx), (PySem.Str.ofString "due", .str (rdS i2 Bd) td), (PySem.Str.ofString "k", .int (i : Int) t), (PySem.Str.ofString "script", .ref la), (PySem.Str.ofString "whole", .int W tW), (PySem.Str.ofString "body", .str Bd tB), (PySem.Str.ofString "reads", .ref TR), (PySem.Str.ofString "writes", .ref TV), (PySem.Str.ofString "places", .ref TP), (PySem.Str.ofString "ends", .ref TE)], m q.1 = some q.2) rfl R11 (small2 hri) (size2 hri) F11 N11 (fun _ h => h) ⟨_, _, rfl, by kst_all⟩ ?_ ?_
         · rintro i2 t2 m₂ nx2 h2 tk2 own2 hi2 hoff2 ⟨tx, td, rfl, hm2⟩ F12 N12
           have N13 : News s₁.heap s₁.heap.objs.size h2 _ := N12
           have F13 : Fr s₁.heap s₁.heap.objs.size h2 _ := fr_k F12 hm2 (by dsimp only [List.map]; decide)
           have hl2 := rdS_len i2 Bd
           clear F11 N11 F12 R11 N12
           dsimp only [kstB] at F13
           rw [show rdS (i2 + 1) Bd = toldS (rdS i2 Bd) from rfl]
           repeat' ((first | ((with_reducible show wpAny _ _ (PySem.call (Value.ref _) _) _ _ _); k_here; k_dflt ((first | apply Ctr.use (parse257_ctr _ _ _ _ _ _) | apply Ctr.use (law_told_ctr _ _ _ _ _ _) | apply Ctr.use (law_write_ctr _ _ _ _ _ _ _ _) | apply Ctr.use (law_page_ctr _ _ _ _ _ _ _ _) | apply Ctr.use (lev_ctr _ _ _ _ _ _ _ _ _ _)); k_asm; k_asm; k_asm; k_asm; k_asm; (first | exact rfl | assumption); (first | omega | exact ⟨by omega, by omega⟩ | exact ⟨by omega, by omega, by omega⟩); ktr_room; ktr_units); intro _ _ _ _ _; (try dsimp only); (try k_fold)) | ((with_reducible show wpAny _ _ (PySem.compareOp PySem.CmpOp.In (PySem.Value.int _ _) (PySem.Value.ref _)) _ _ _); k_here; apply in_tuple_ints; exact News.isTup (by k_asm) (by k_mem); exact IntsAre.cons _ _ (IntsAre.cons _ _ (IntsAre.cons _ _ IntsAre.nil))) | (k_unfold; (try dsimp only)) | (k_end; wrow_close) | walk1 | (dsimp only; walk1) | (leave1; walk_say "STEP leave1"; try dsimp only) | fail "no step"))
           rename Fr _ _ _ _ => F14
           rename News _ _ _ _ => N14
           refine' InvEndG.intro F14 N14 ⟨_, _, rfl, ?hkx21⟩ hoff2 (fun p hp => List.mem_append.mpr (.inl hp)) (fun p hp => List.mem_append.mpr (.inr hp))
           (case hkx21 => kst_all)
         · rintro m₂ nx2 h2 tk2 ⟨tx, td, rfl, hm2⟩ F12 N12
           have N13 : News s₁.heap s₁.heap.objs.size h2 _ := N12
           have F13 : Fr s₁.heap s₁.heap.objs.size h2 _ := fr_norm F12 hm2
           have hl2 := rdS_len ([r0, r1].getD (i : Int).toNat 0).toNat Bd
           clear F11 N11 F12 R11 N12
           dsimp only [kstB] at F13
           repeat' ((fail_if_success (with_reducible show wpAny _ _ (PySem.exec (PySem.Stmt.For _ _ _ _ _) _) _ _ _)); (first | ((with_reducible show wpAny _ _ (PySem.call (Value.ref _) _) _ _ _); k_here; k_dflt ((first | apply Ctr.use (parse257_ctr _ _ _ _ _ _) | apply Ctr.use (law_told_ctr _ _ _ _ _ _) | apply Ctr.use (law_write_ctr _ _ _ _ _ _ _ _) | apply Ctr.use (law_page_ctr _ _ _ _ _ _ _ _) | apply Ctr.use (lev_ctr _ _ _ _ _ _ _ _ _ _)); k_asm; k_asm; k_asm; k_asm; k_asm; (first | exact rfl | assumption); (first | omega | exact ⟨by omega, by omega⟩ | exact ⟨by omega, by omega, by omega⟩); ktr_room; ktr_units); intro _ _ _ _ _; (try dsimp only); (try k_fold)) | ((with_reducible show wpAny _ _ (PySem.compareOp PySem.CmpOp.In (PySem.Value.int _ _) (PySem.Value.ref _)) _ _ _); k_here; apply in_tuple_ints; exact News.isTup (by k_asm) (by k_mem); exact IntsAre.cons _ _ (IntsAre.cons _ _ (IntsAre.cons _ _ IntsAre.nil))) | (k_unfold; (try dsimp only)) | (k_end; wrow_close) | walk1 | (dsimp only; walk1) | (leave1; walk_say "STEP leave1"; try dsimp only) | fail "no step"))
           refine For_invV s₁.heap (by rfl) (by rfl) ?_
           repeat' ((fail_if_success (with_reducible show wpAny _ _ (PySem.pyIter _) _ _ _)); (first | ((with_reducible show wpAny _ _ (PySem.call (Value.ref _) _) _ _ _); k_here; k_dflt ((first | apply Ctr.use (parse257_ctr _ _ _ _ _ _) | apply Ctr.use (law_told_ctr _ _ _ _ _ _) | apply Ctr.use (law_write_ctr _ _ _ _ _ _ _ _) | apply Ctr.use (law_page_ctr _ _ _ _ _ _ _ _) | apply Ctr.use (lev_ctr _ _ _ _ _ _ _ _ _ _)); k_asm; k_asm; k_asm; k_asm; k_asm; (first | exact rfl | assumption); (first | omega | exact ⟨by omega, by omega⟩ | exact ⟨by omega, by omega, by omega⟩); ktr_room; ktr_units); intro _ _ _ _ _; (try dsimp only); (try k_fold)) | ((with_reducible show wpAny _ _ (PySem.compareOp PySem.CmpOp.In (PySem.Value.int _ _) (PySem.Value.ref _)) _ _ _); k_here; apply in_tuple_ints; exact News.isTup (by k_asm) (by k_mem); exact IntsAre.cons _ _ (IntsAre.cons _ _ (IntsAre.cons _ _ IntsAre.nil))) | (k_unfold; (try dsimp only)) | (k_end; wrow_close) | walk1 | (dsimp only; walk1) | (leave1; walk_say "STEP leave1"; try dsimp only) | fail "no step"))
           rename_i D5 ws5 h5 F14 N14 l5 hI5 hC5 hL5
           have hn5 : ws5.length = ([p0, p1].take ([w0, w1].getD (i : Int).toNat 0).toNat).length := hI5.length
           have hn2 : ([p0, p1].take ([w0, w1].getD (i : Int).toNat 0).toNat).length ≤ 2 := by rw [List.length_take]; exact Nat.min_le_right _ _
           have hend := end_at (r0 := r0) (r1 := r1) (w0 := w0) (w1 := w1) (p0 := p0) (p1 := p1) (Bd := Bd) hi
           refine kdl_iter (nn := 0) (vs := ws5) (fun i3 m nx => ∃ (tx td : Tok), nx = (D5, PySem.W.listOf ws5.toArray 0) :: ([(TE, PySem.W.listOf us.toArray c), (TP, PySem.W.listOf [Value.int p0 tp0, Value.int p1 tp1].toArray 0), (TV, tupO w0 w1 tw0 tw1), (TR, tupO r0 r1 tr0 tr1), (s₁.heap.objs.size + 1 + 1, cF), (s₁.heap.objs.size + 1, cN)] ++ own) ∧ ∀ q ∈ [(PySem.Str.ofString "text", .str (wrS (([p0, p1].take ([w0, w1].getD (i : Int).toNat 0).toNat).take i3) (rdS ([r0, r1].getD (i : Int).toNat 0).toNat Bd)) tx), (PySem.Str.ofString "due", .str (wrS (([p0, p1].take ([w0, w1].getD (i : Int).toNat 0).toNat).take i3) (rdS ([r0, r1].getD (i : Int).toNat 0).toNat Bd)) td), (PySem.Str.ofString "k", .int (i : Int) t), (PySem.Str.ofString "script", .ref la), (PySem.Str.ofString "whole", .int W tW), (PySem.Str.ofString "body", .str Bd tB), (PySem.Str.ofString "reads", .ref TR), (PySem.Str.ofString "writes", .ref TV), (PySem.Str.ofString "places", .ref TP), (PySem.Str.ofString "ends", .ref TE)], m q.1 = some q.2) rfl (List.mem_cons_self ..) F14 N14 ⟨_, _, rfl, by kst_all⟩ ?_ ?_
           · rintro i3 v m₃ nx3 h3 tk3 own3 hv hoff3 hmem3 ⟨tx, td, rfl, hm3⟩ F15 N15
             clear hmem3
             obtain ⟨p, tp, hp, rfl⟩ := ints_at hI5 hv
             have hpp := place_at hp05 hp15 hp
             have N16 : News s₁.heap s₁.heap.objs.size h3 _ := N15
             have F16 : Fr s₁.heap s₁.heap.objs.size h3 _ := fr_k F15 hm3 (by dsimp only [List.map]; decide)
             have hl3 := wrS_len2 (ps := ([p0, p1].take ([w0, w1].getD (i : Int).toNat 0).toNat).take i3) (x := rdS ([r0, r1].getD (i : Int).toNat 0).toNat Bd) (by rw [List.length_take]; omega) (by omega)
             rw [wrS_step hp]
             clear F14 N14 F15 N15
             dsimp only [kstB] at F16
             repeat' ((first | ((with_reducible show wpAny _ _ (PySem.call (Value.ref _) _) _ _ _); k_here; k_dflt ((first | apply Ctr.use (parse257_ctr _ _ _ _ _ _) | apply Ctr.use (law_told_ctr _ _ _ _ _ _) | apply Ctr.use (law_write_ctr _ _ _ _ _ _ _ _) | apply Ctr.use (law_page_ctr _ _ _ _ _ _ _ _) | apply Ctr.use (lev_ctr _ _ _ _ _ _ _ _ _ _)); k_asm; k_asm; k_asm; k_asm; k_asm; (first | exact rfl | assumption); (first | omega | exact ⟨by omega, by omega⟩ | exact ⟨by omega, by omega, by omega⟩); ktr_room; ktr_units); intro _ _ _ _ _; (try dsimp only); (try k_fold)) | ((with_reducible show wpAny _ _ (PySem.compareOp PySem.CmpOp.In (PySem.Value.int _ _) (PySem.Value.ref _)) _ _ _); k_here; apply in_tuple_ints; exact News.isTup (by k_asm) (by k_mem); exact IntsAre.cons _ _ (IntsAre.cons _ _ (IntsAre.cons _ _ IntsAre.nil))) | (k_unfold; (try dsimp only)) | (k_end; wrow_close) | walk1 | (dsimp only; walk1) | (leave1; walk_say "STEP leave1"; try dsimp only) | fail "no step"))
             rename Fr _ _ _ _ => F17
             rename News _ _ _ _ => N17
             refine' InvEndG.intro F17 N17 ⟨List.mem_cons_self .., _, _, rfl, ?hkx22⟩ hoff3 (fun p hp => List.mem_append.mpr (.inl hp)) (fun p hp => List.mem_append.mpr (.inr hp))
             (case hkx22 => kst_all)
           · rintro m₃ nx3 h3 tk3 ⟨tx, td, rfl, hm3⟩ F15 N15
             rw [hn5, List.take_length] at hm3
             have N16 : News s₁.heap s₁.heap.objs.size h3 _ := N15
             have F16 : Fr s₁.heap s₁.heap.objs.size h3 _ := fr_norm F15 hm3
             clear F14 N14 F15 N15
             dsimp only [kstB] at F16
             repeat' ((fail_if_success (with_reducible show wpAny _ _ (PySem.call (Value.builtin "list.append") _) _ _ _)); (first | ((with_reducible show wpAny _ _ (PySem.call (Value.ref _) _) _ _ _); k_here; k_dflt ((first | apply Ctr.use (parse257_ctr _ _ _ _ _ _) | apply Ctr.use (law_told_ctr _ _ _ _ _ _) | apply Ctr.use (law_write_ctr _ _ _ _ _ _ _ _) | apply Ctr.use (law_page_ctr _ _ _ _ _ _ _ _) | apply Ctr.use (lev_ctr _ _ _ _ _ _ _ _ _ _)); k_asm; k_asm; k_asm; k_asm; k_asm; (first | exact rfl | assumption); (first | omega | exact ⟨by omega, by omega⟩ | exact ⟨by omega, by omega, by omega⟩); ktr_room; ktr_units); intro _ _ _ _ _; (try dsimp only); (try k_fold)) | ((with_reducible show wpAny _ _ (PySem.compareOp PySem.CmpOp.In (PySem.Value.int _ _) (PySem.Value.ref _)) _ _ _); k_here; apply in_tuple_ints; exact News.isTup (by k_asm) (by k_mem); exact IntsAre.cons _ _ (IntsAre.cons _ _ (IntsAre.cons _ _ IntsAre.nil))) | (k_unfold; (try dsimp only)) | (k_end; wrow_close) | walk1 | (dsimp only; walk1) | (leave1; walk_say "STEP leave1"; try dsimp only) | fail "no step"))
             · exact (ne_self (by with_reducible assumption)).elim
             have hlt : ∀ p ∈ [(TE, PySem.W.listOf us.toArray c), (TP, PySem.W.listOf [Value.int p0 tp0, Value.int p1 tp1].toArray 0), (TV, tupO w0 w1 tw0 tw1), (TR, tupO r0 r1 tr0 tr1), (s₁.heap.objs.size + 1 + 1, cF), (s₁.heap.objs.size + 1, cN)] ++ own, p.1 < D5 := l5
             have hTE : TE < D5 := hlt _ (List.mem_cons_self ..)
             refine append_led (pre := [(D5, PySem.W.listOf ws5.toArray 0)]) F16 N16 (fun q hq => by rw [List.mem_singleton.mp hq]; exact Nat.ne_of_gt hTE) ?_ hul fun h7 F18 N18 => ?_
             · intro q hq
               rcases List.mem_append.mp hq with hq | hq
               · obtain ⟨l1, l2, l3, l4, l6⟩ := lTE
                 simp only [List.mem_cons, List.not_mem_nil, or_false] at hq
                 rcases hq with rfl | rfl | rfl | rfl | rfl
                 · exact Nat.ne_of_lt l1
                 · exact Nat.ne_of_lt l2
                 · exact Nat.ne_of_lt l3
                 · exact Nat.ne_of_lt l4
                 · exact Nat.ne_of_lt l6
               · exact hoff.ne (List.mem_cons_self ..) q hq
             repeat' ((first | ((with_reducible show wpAny _ _ (PySem.call (Value.ref _) _) _ _ _); k_here; k_dflt ((first | apply Ctr.use (parse257_ctr _ _ _ _ _ _) | apply Ctr.use (law_told_ctr _ _ _ _ _ _) | apply Ctr.use (law_write_ctr _ _ _ _ _ _ _ _) | apply Ctr.use (law_page_ctr _ _ _ _ _ _ _ _) | apply Ctr.use (lev_ctr _ _ _ _ _ _ _ _ _ _)); k_asm; k_asm; k_asm; k_asm; k_asm; (first | exact rfl | assumption); (first | omega | exact ⟨by omega, by omega⟩ | exact ⟨by omega, by omega, by omega⟩); ktr_room; ktr_units); intro _ _ _ _ _; (try dsimp only); (try k_fold)) | ((with_reducible show wpAny _ _ (PySem.compareOp PySem.CmpOp.In (PySem.Value.int _ _) (PySem.Value.ref _)) _ _ _); k_here; apply in_tuple_ints; exact News.isTup (by k_asm) (by k_mem); exact IntsAre.cons _ _ (IntsAre.cons _ _ (IntsAre.cons _ _ IntsAre.nil))) | (k_unfold; (try dsimp only)) | (k_end; wrow_close) | walk1 | (dsimp only; walk1) | (leave1; walk_say "STEP leave1"; try dsimp only) | fail "no step"))
             rename Fr _ _ _ _ => F17
             rename News _ _ _ _ => N17
             have N19 : News s₁.heap s₁.heap.objs.size h7 ((D5, PySem.W.listOf ws5.toArray 0) :: ([(TE, PySem.W.listOf (us ++ [Value.str (wrS ([p0, p1].take ([w0, w1].getD (i : Int).toNat 0).toNat) (rdS ([r0, r1].getD (i : Int).toNat 0).toNat Bd)) tx]).toArray (c + 1)), (TP, PySem.W.listOf [Value.int p0 tp0, Value.int p1 tp1].toArray 0), (TV, tupO w0 w1 tw0 tw1), (TR, tupO r0 r1 tr0 tr1), (s₁.heap.objs.size + 1 + 1, cF), (s₁.heap.objs.size + 1, cN)] ++ own)) := N17
             refine' InvEndG.intro F17 N19 ⟨_, _, _, _, rfl, strs_snoc hus hend, ?hkx23⟩ hoff (fun p hp => List.mem_cons_of_mem _ (List.mem_append.mpr (.inl hp))) (fun p hp => List.mem_cons_of_mem _ (List.mem_append.mpr (.inr hp)))
             (case hkx23 => kst_all)
       · rintro m₁ nx h tk ⟨us, c, tp0, tp1, rfl, hus, hm⟩ F9 N9
         have F10 : Fr s₁.heap s₁.heap.objs.size h _ := fr_norm F9 hm
         dsimp only [kstB] at F10
         refine' JoinEnd.intro (hR' _ ⟨us, c, tp0, tp1, h, tk, _, rfl, hus, fr_norm F10 ?hkx28, cb_drop N9 (mem4 ?hax24 ?hbx25 ?hcx26 ?hdx27)⟩)
         (case hkx28 => kst_all)
         (case hax24 => (repeat (first | exact List.mem_cons_self .. | refine List.mem_cons_of_mem _ ?_)))
         (case hbx25 => (repeat (first | exact List.mem_cons_self .. | refine List.mem_cons_of_mem _ ?_)))
         (case hcx26 => (repeat (first | exact List.mem_cons_self .. | refine List.mem_cons_of_mem _ ?_)))
         (case hdx27 => (repeat (first | exact List.mem_cons_self .. | refine List.mem_cons_of_mem _ ?_)))
     clear F7 N7 lTE lTP
     rintro s' ⟨us, c, tp0, tp1, h7, tk7, m7, rfl, hus, F7, N7⟩
     dsimp only [kstB] at F7
     dsimp only
     exact (by
      have hpg : 0 ≤ [p0, p1].getD (Int.toNat 0) 0 ∧ [p0, p1].getD (Int.toNat 0) 0 < 5 := hp05
      have hTl : (toldS Bd).length ≤ 6 := Nat.le_trans (toldS_len Bd) hBl
      have hPl : (pageS ([p0, p1].getD (Int.toNat 0) 0).toNat Bd).length ≤ 36 := Nat.le_trans (pageS_len _ Bd) (by omega)
      repeat' ((fail_if_success (with_reducible show wpAny _ _ (PySem.exec (PySem.Stmt.Assign [PySem.Expr.Name (PySem.Str.ofString "behind") _] _ _) _) _ _ _)); (first | ((with_reducible show wpAny _ _ (PySem.call (Value.ref _) _) _ _ _); k_here; k_dflt ((first | apply Ctr.use (parse257_ctr _ _ _ _ _ _) | apply Ctr.use (law_told_ctr _ _ _ _ _ _) | apply Ctr.use (law_write_ctr _ _ _ _ _ _ _ _) | apply Ctr.use (law_page_ctr _ _ _ _ _ _ _ _) | apply Ctr.use (lev_ctr _ _ _ _ _ _ _ _ _ _)); k_asm; k_asm; k_asm; k_asm; k_asm; (first | exact rfl | assumption); (first | omega | exact ⟨by omega, by omega⟩ | exact ⟨by omega, by omega, by omega⟩); ktr_room; ktr_units); intro _ _ _ _ _; (try dsimp only); (try k_fold)) | ((with_reducible show wpAny _ _ (PySem.compareOp PySem.CmpOp.In (PySem.Value.int _ _) (PySem.Value.ref _)) _ _ _); k_here; apply in_tuple_ints; exact News.isTup (by k_asm) (by k_mem); exact IntsAre.cons _ _ (IntsAre.cons _ _ (IntsAre.cons _ _ IntsAre.nil))) | (k_unfold; (try dsimp only)) | (k_end; wrow_close) | walk1 | (dsimp only; walk1) | (leave1; walk_say "STEP leave1"; try dsimp only) | fail "no step"))
      with_reducible refine stmt_joinO (fun s' => ∃ (Bh : Str) (tp tb : Tok) (h : Heap) (tk : Nat) (m1 : Str → Option Value), s' = { s₁ with heap := h, toks := tk } ∧ Bh = toldS (pageS ([p0, p1].getD (Int.toNat 0) 0).toNat Bd) ∧ Fr s₁.heap s₁.heap.objs.size h (kstB m1 [(PySem.Str.ofString "script", .ref la), (PySem.Str.ofString "whole", .int W tW), (PySem.Str.ofString "page", .str (pageS ([p0, p1].getD (Int.toNat 0) 0).toNat Bd) tp), (PySem.Str.ofString "behind", .str Bh tb), (PySem.Str.ofString "ends", .ref TE)]) ∧ News s₁.heap s₁.heap.objs.size h [(TE, PySem.W.listOf us.toArray c), (s₁.heap.objs.size + 1 + 1, cF), (s₁.heap.objs.size + 1, cN)]) (fun R' hR' => ?_) ?_
      · repeat' ((fail_if_success (with_reducible show wpAny _ _ (PySem.exec (PySem.Stmt.Assign [PySem.Expr.Name (PySem.Str.ofString "zzz") _] _ _) _) _ _ _)); (first | ((with_reducible show wpAny _ _ (PySem.call (Value.ref _) _) _ _ _); k_here; k_dflt ((first | apply Ctr.use (parse257_ctr _ _ _ _ _ _) | apply Ctr.use (law_told_ctr _ _ _ _ _ _) | apply Ctr.use (law_write_ctr _ _ _ _ _ _ _ _) | apply Ctr.use (law_page_ctr _ _ _ _ _ _ _ _) | apply Ctr.use (lev_ctr _ _ _ _ _ _ _ _ _ _)); k_asm; k_asm; k_asm; k_asm; k_asm; (first | exact rfl | assumption); (first | omega | exact ⟨by omega, by omega⟩ | exact ⟨by omega, by omega, by omega⟩); ktr_room; ktr_units); intro _ _ _ _ _; (try dsimp only); (try k_fold)) | ((with_reducible show wpAny _ _ (PySem.compareOp PySem.CmpOp.In (PySem.Value.int _ _) (PySem.Value.ref _)) _ _ _); k_here; apply in_tuple_ints; exact News.isTup (by k_asm) (by k_mem); exact IntsAre.cons _ _ (IntsAre.cons _ _ (IntsAre.cons _ _ IntsAre.nil))) | (k_unfold; (try dsimp only)) | (k_end; wrow_close) | walk1 | (dsimp only; walk1) | (leave1; walk_say "STEP leave1"; try dsimp only) | fail "no step"))
        all_goals (rename Fr _ _ _ _ => F8; rename News _ _ _ _ => N8; refine' JoinEnd.intro (hR' _ ⟨_, _, _, _, _, _, rfl, ?hBx29, fr_norm F8 ?hkx33, cb_drop N8 (mem3 ?hax30 ?hbx31 ?hcx32)⟩); (case hkx33 => kst_all); (case hax30 => (repeat (first | exact List.mem_cons_self .. | refine List.mem_cons_of_mem _ ?_))); (case hbx31 => (repeat (first | exact List.mem_cons_self .. | refine List.mem_cons_of_mem _ ?_))); (case hcx32 => (repeat (first | exact List.mem_cons_self .. | refine List.mem_cons_of_mem _ ?_))); (case hBx29 => first | exact (toldS_page_a (in124 (by assumption)) _).symm | exact (toldS_page_b (out124 (by assumption) hpg) _).symm))
      (try clear F7); (try clear N7)
      rintro s' ⟨Bh, tp, tb, h7, tk7, m7, rfl, hBh, F7, N7⟩
      subst hBh
      dsimp only [kstB] at F7
      dsimp only
      repeat' ((fail_if_success (with_reducible show wpAny _ _ (PySem.exec (PySem.Stmt.Assign [PySem.Expr.Name (PySem.Str.ofString "near") _] _ _) _) _ _ _)); (first | ((with_reducible show wpAny _ _ (PySem.call (Value.ref _) _) _ _ _); k_here; k_dflt ((first | apply Ctr.use (parse257_ctr _ _ _ _ _ _) | apply Ctr.use (law_told_ctr _ _ _ _ _ _) | apply Ctr.use (law_write_ctr _ _ _ _ _ _ _ _) | apply Ctr.use (law_page_ctr _ _ _ _ _ _ _ _) | apply Ctr.use (lev_ctr _ _ _ _ _ _ _ _ _ _)); k_asm; k_asm; k_asm; k_asm; k_asm; (first | exact rfl | assumption); (first | omega | exact ⟨by omega, by omega⟩ | exact ⟨by omega, by omega, by omega⟩); ktr_room; ktr_units); intro _ _ _ _ _; (try dsimp only); (try k_fold)) | ((with_reducible show wpAny _ _ (PySem.compareOp PySem.CmpOp.In (PySem.Value.int _ _) (PySem.Value.ref _)) _ _ _); k_here; apply in_tuple_ints; exact News.isTup (by k_asm) (by k_mem); exact IntsAre.cons _ _ (IntsAre.cons _ _ (IntsAre.cons _ _ IntsAre.nil))) | (k_unfold; (try dsimp only)) | (k_end; wrow_close) | walk1 | (dsimp only; walk1) | (leave1; walk_say "STEP leave1"; try dsimp only) | fail "no step"))
      rename Fr _ _ _ _ => F8
      rename News _ _ _ _ => N8
      obtain ⟨te0, te1, rfl⟩ := strs2 hus
      have hNl := endS_len (r := r0) (w := w0) (p0 := p0) (p1 := p1) hBl
      have hFl := endS_len (r := r1) (w := w1) (p0 := p0) (p1 := p1) hBl
      obtain ⟨hRo, hSm⟩ := ends_road (r0 := r0) (r1 := r1) (w0 := w0) (w1 := w1) (p0 := p0) (p1 := p1) (x := Bd) (rd_le hrd) (wd_le hwd)
      clear hus
      generalize endS r0 w0 p0 p1 Bd = Nr at hNl hRo hSm N8
      generalize endS r1 w1 p0 p1 Bd = Fa at hFl hRo hSm N8
      (try clear F7); (try clear N7)
      clear hpg hTl hPl hp05 hp15 hBl hrd hwd
      (try (rename (_ != _) = false => hJ2; clear hJ2))
      exact (by
       repeat' ((fail_if_success (with_reducible show wpAny _ _ (PySem.eval (PySem.Expr.ListComp _ _ _ _) _) _ _ _)); (first | ((with_reducible show wpAny _ _ (PySem.call (Value.ref _) _) _ _ _); k_here; k_dflt ((first | apply Ctr.use (parse257_ctr _ _ _ _ _ _) | apply Ctr.use (law_told_ctr _ _ _ _ _ _) | apply Ctr.use (law_write_ctr _ _ _ _ _ _ _ _) | apply Ctr.use (law_page_ctr _ _ _ _ _ _ _ _) | apply Ctr.use (lev_ctr _ _ _ _ _ _ _ _ _ _)); k_asm; k_asm; k_asm; k_asm; k_asm; (first | exact rfl | assumption); (first | omega | exact ⟨by omega, by omega⟩ | exact ⟨by omega, by omega, by omega⟩); ktr_room; ktr_units); intro _ _ _ _ _; (try dsimp only); (try k_fold)) | ((with_reducible show wpAny _ _ (PySem.compareOp PySem.CmpOp.In (PySem.Value.int _ _) (PySem.Value.ref _)) _ _ _); k_here; apply in_tuple_ints; exact News.isTup (by k_asm) (by k_mem); exact IntsAre.cons _ _ (IntsAre.cons _ _ (IntsAre.cons _ _ IntsAre.nil))) | (k_unfold; (try dsimp only)) | (k_end; wrow_close) | walk1 | (dsimp only; walk1) | (leave1; walk_say "STEP leave1"; try dsimp only) | fail "no step"))
       refine ListComp_ST (by k_asm) (by with_unfolding_all rfl) (by decide) (by rfl) (by decide) (by rfl) ?_
       repeat' ((fail_if_success (with_reducible show (SrcST _ _ _ _ _ _ _ _ _ _ _ _ _ _))); (first | ((with_reducible show wpAny _ _ (PySem.call (Value.ref _) _) _ _ _); k_here; k_dflt ((first | apply Ctr.use (parse257_ctr _ _ _ _ _ _) | apply Ctr.use (law_told_ctr _ _ _ _ _ _) | apply Ctr.use (law_write_ctr _ _ _ _ _ _ _ _) | apply Ctr.use (law_page_ctr _ _ _ _ _ _ _ _) | apply Ctr.use (lev_ctr _ _ _ _ _ _ _ _ _ _)); k_asm; k_asm; k_asm; k_asm; k_asm; (first | exact rfl | assumption); (first | omega | exact ⟨by omega, by omega⟩ | exact ⟨by omega, by omega, by omega⟩); ktr_room; ktr_units); intro _ _ _ _ _; (try dsimp only); (try k_fold)) | ((with_reducible show wpAny _ _ (PySem.compareOp PySem.CmpOp.In (PySem.Value.int _ _) (PySem.Value.ref _)) _ _ _); k_here; apply in_tuple_ints; exact News.isTup (by k_asm) (by k_mem); exact IntsAre.cons _ _ (IntsAre.cons _ _ (IntsAre.cons _ _ IntsAre.nil))) | (k_unfold; (try dsimp only)) | (k_end; wrow_close) | walk1 | (dsimp only; walk1) | (leave1; walk_say "STEP leave1"; try dsimp only) | fail "no step"))
       rename_i oNe dNe h9a oFa dFa h9 F9 N9
       refine ⟨Nr, te0, _, rfl, rfl, F9, N9, Nat.le_trans hNl (by decide +kernel), fun s₂ hs₂ => ?_⟩
       obtain ⟨h10, rfl⟩ := hs₂
       refine rest_filter (fun c => decide (c ∉ cl Fa)) trivial ?_ ?_ ?_
       · intro c tc I oI C oC D m₂ ys h' tk' E' Q' hC hx' F' N' off hQ
         dsimp only
         clear N9 F9
         repeat' ((first | ((with_reducible show wpAny _ _ (PySem.call (Value.ref _) _) _ _ _); k_here; k_dflt ((first | apply Ctr.use (parse257_ctr _ _ _ _ _ _) | apply Ctr.use (law_told_ctr _ _ _ _ _ _) | apply Ctr.use (law_write_ctr _ _ _ _ _ _ _ _) | apply Ctr.use (law_page_ctr _ _ _ _ _ _ _ _) | apply Ctr.use (lev_ctr _ _ _ _ _ _ _ _ _ _)); k_asm; k_asm; k_asm; k_asm; k_asm; (first | exact rfl | assumption); (first | omega | exact ⟨by omega, by omega⟩ | exact ⟨by omega, by omega, by omega⟩); ktr_room; ktr_units); intro _ _ _ _ _; (try dsimp only); (try k_fold)) | ((with_reducible show wpAny _ _ (PySem.compareOp PySem.CmpOp.In (PySem.Value.int _ _) (PySem.Value.ref _)) _ _ _); k_here; apply in_tuple_ints; exact News.isTup (by k_asm) (by k_mem); exact IntsAre.cons _ _ (IntsAre.cons _ _ (IntsAre.cons _ _ IntsAre.nil))) | (k_unfold; (try dsimp only)) | (k_end; wrow_close) | walk1 | (dsimp only; walk1) | (leave1; walk_say "STEP leave1"; try dsimp only) | fail "no step"))
         rw [notin_eq]
         exact hQ _ _ F' N'
       · intro c tc I oI C oC D m₂ ys h' tk' E' Q' hC hx' F' N' off hQ
         dsimp only
         clear N9 F9
         repeat' ((first | ((with_reducible show wpAny _ _ (PySem.call (Value.ref _) _) _ _ _); k_here; k_dflt ((first | apply Ctr.use (parse257_ctr _ _ _ _ _ _) | apply Ctr.use (law_told_ctr _ _ _ _ _ _) | apply Ctr.use (law_write_ctr _ _ _ _ _ _ _ _) | apply Ctr.use (law_page_ctr _ _ _ _ _ _ _ _) | apply Ctr.use (lev_ctr _ _ _ _ _ _ _ _ _ _)); k_asm; k_asm; k_asm; k_asm; k_asm; (first | exact rfl | assumption); (first | omega | exact ⟨by omega, by omega⟩ | exact ⟨by omega, by omega, by omega⟩); ktr_room; ktr_units); intro _ _ _ _ _; (try dsimp only); (try k_fold)) | ((with_reducible show wpAny _ _ (PySem.compareOp PySem.CmpOp.In (PySem.Value.int _ _) (PySem.Value.ref _)) _ _ _); k_here; apply in_tuple_ints; exact News.isTup (by k_asm) (by k_mem); exact IntsAre.cons _ _ (IntsAre.cons _ _ (IntsAre.cons _ _ IntsAre.nil))) | (k_unfold; (try dsimp only)) | (k_end; wrow_close) | walk1 | (dsimp only; walk1) | (leave1; walk_say "STEP leave1"; try dsimp only) | fail "no step"))
         exact hQ _ _ _ F' N'
       intro ys hys D h11 tk11 F11 N11 o11
       clear N9 F9
       have N12 : News s₁.heap s₁.heap.objs.size h11 ((D, PySem.W.listOf ys.toArray ys.length) :: _) := N11
       have hyl : ys.length = cnt (fun c => decide (c ∉ cl Fa)) (cl Nr) := by rw [strs_len hys, List.length_map]; rfl
       have hyl2 : ys.length ≤ 216 := by rw [hyl]; exact Nat.le_trans (cnt_le _ _) (by rw [← cl_len]; exact hNl)
       obtain ⟨nb, hnb⟩ : ∃ nb : Nat, nb = cnt (fun c => decide (c ∉ cl Fa)) (cl Nr) := ⟨_, rfl⟩
       rw [← hnb] at hyl
       rw [hyl] at hyl2
       clear N11 hys
       dsimp only
       repeat' ((fail_if_success (with_reducible show wpAny _ _ (PySem.call (Value.builtin "len") _) _ _ _)); (first | ((with_reducible show wpAny _ _ (PySem.call (Value.ref _) _) _ _ _); k_here; k_dflt ((first | apply Ctr.use (parse257_ctr _ _ _ _ _ _) | apply Ctr.use (law_told_ctr _ _ _ _ _ _) | apply Ctr.use (law_write_ctr _ _ _ _ _ _ _ _) | apply Ctr.use (law_page_ctr _ _ _ _ _ _ _ _) | apply Ctr.use (lev_ctr _ _ _ _ _ _ _ _ _ _)); k_asm; k_asm; k_asm; k_asm; k_asm; (first | exact rfl | assumption); (first | omega | exact ⟨by omega, by omega⟩ | exact ⟨by omega, by omega, by omega⟩); ktr_room; ktr_units); intro _ _ _ _ _; (try dsimp only); (try k_fold)) | ((with_reducible show wpAny _ _ (PySem.compareOp PySem.CmpOp.In (PySem.Value.int _ _) (PySem.Value.ref _)) _ _ _); k_here; apply in_tuple_ints; exact News.isTup (by k_asm) (by k_mem); exact IntsAre.cons _ _ (IntsAre.cons _ _ (IntsAre.cons _ _ IntsAre.nil))) | (k_unfold; (try dsimp only)) | (k_end; wrow_close) | walk1 | (dsimp only; walk1) | (leave1; walk_say "STEP leave1"; try dsimp only) | fail "no step"))
       refine len_made2 N12 (List.mem_cons_self ..) hyl (by omega) fun t12 k12 => ?_
       repeat' ((fail_if_success (with_reducible show wpAny _ _ (PySem.exec (PySem.Stmt.Assign [PySem.Expr.Name (PySem.Str.ofString "told") _] _ _) _) _ _ _)); (fail_if_success (with_reducible show wpAny _ _ (PySem.exec (PySem.Stmt.If _ _ _ _) _) _ _ _)); (first | ((with_reducible show wpAny _ _ (PySem.call (Value.ref _) _) _ _ _); k_here; k_dflt ((first | apply Ctr.use (parse257_ctr _ _ _ _ _ _) | apply Ctr.use (law_told_ctr _ _ _ _ _ _) | apply Ctr.use (law_write_ctr _ _ _ _ _ _ _ _) | apply Ctr.use (law_page_ctr _ _ _ _ _ _ _ _) | apply Ctr.use (lev_ctr _ _ _ _ _ _ _ _ _ _)); k_asm; k_asm; k_asm; k_asm; k_asm; (first | exact rfl | assumption); (first | omega | exact ⟨by omega, by omega⟩ | exact ⟨by omega, by omega, by omega⟩); ktr_room; ktr_units); intro _ _ _ _ _; (try dsimp only); (try k_fold)) | ((with_reducible show wpAny _ _ (PySem.compareOp PySem.CmpOp.In (PySem.Value.int _ _) (PySem.Value.ref _)) _ _ _); k_here; apply in_tuple_ints; exact News.isTup (by k_asm) (by k_mem); exact IntsAre.cons _ _ (IntsAre.cons _ _ (IntsAre.cons _ _ IntsAre.nil))) | (k_unfold; (try dsimp only)) | (k_end; wrow_close) | walk1 | (dsimp only; walk1) | (leave1; walk_say "STEP leave1"; try dsimp only) | fail "no step"))
       have hb8 := fmod8 (W.fdiv 500 + 4)
       exact (by
        with_reducible refine stmt_joinO (fun s' => ∃ (mo pr bd Lv : Int) (tm tp tb tL : Tok) (h : Heap) (tk : Nat) (m1 : Str → Option Value), s' = { s₁ with heap := h, toks := tk } ∧ (mo = (Fa.length : Int) - Nr.length ∧ pr = 2 * mo + 2 * nb ∧ (pr - 4 ≤ bd ∧ bd ≤ pr + 3) ∧ (Lv = levF (cl Nr) (cl Fa) bd ∨ Lv = levF (cl Fa) (cl Nr) bd)) ∧ Fr s₁.heap s₁.heap.objs.size h (kstB m1 [(PySem.Str.ofString "script", .ref la), (PySem.Str.ofString "more", .int mo tm), (PySem.Str.ofString "price", .int pr tp), (PySem.Str.ofString "bound", .int bd tb), (PySem.Str.ofString "told", .int Lv tL)]) ∧ News s₁.heap s₁.heap.objs.size h [(s₁.heap.objs.size + 1 + 1, oFa), (s₁.heap.objs.size + 1, oNe)]) (fun R' hR' => ?_) ?_
        · repeat' ((fail_if_success (with_reducible show wpAny _ _ (PySem.exec (PySem.Stmt.Assign [PySem.Expr.Name (PySem.Str.ofString "zzz") _] _ _) _) _ _ _)); (first | ((with_reducible show wpAny _ _ (PySem.call (Value.ref _) _) _ _ _); k_here; k_dflt ((first | apply Ctr.use (parse257_ctr _ _ _ _ _ _) | apply Ctr.use (law_told_ctr _ _ _ _ _ _) | apply Ctr.use (law_write_ctr _ _ _ _ _ _ _ _) | apply Ctr.use (law_page_ctr _ _ _ _ _ _ _ _) | apply Ctr.use (lev_ctr _ _ _ _ _ _ _ _ _ _)); k_asm; k_asm; k_asm; k_asm; k_asm; (first | exact rfl | assumption); (first | omega | exact ⟨by omega, by omega⟩ | exact ⟨by omega, by omega, by omega⟩); ktr_room; ktr_units); intro _ _ _ _ _; (try dsimp only); (try k_fold)) | ((with_reducible show wpAny _ _ (PySem.compareOp PySem.CmpOp.In (PySem.Value.int _ _) (PySem.Value.ref _)) _ _ _); k_here; apply in_tuple_ints; exact News.isTup (by k_asm) (by k_mem); exact IntsAre.cons _ _ (IntsAre.cons _ _ (IntsAre.cons _ _ IntsAre.nil))) | (k_unfold; (try dsimp only)) | (k_end; wrow_close) | walk1 | (dsimp only; walk1) | (leave1; walk_say "STEP leave1"; try dsimp only) | fail "no step"))
          all_goals (rename Fr _ _ _ _ => F13; rename News _ _ _ _ => N13; refine' JoinEnd.intro (hR' _ ⟨_, _, _, _, _, _, _, _, _, _, _, rfl, ?hvx37, fr_norm F13 ?hkx36, cb_drop N13 (mem2 ?hax34 ?hbx35)⟩); (case hkx36 => kst_all); (case hax34 => (repeat (first | exact List.mem_cons_self .. | refine List.mem_cons_of_mem _ ?_))); (case hbx35 => (repeat (first | exact List.mem_cons_self .. | refine List.mem_cons_of_mem _ ?_))); (case hvx37 => exact ⟨rfl, rfl, ⟨by omega, by omega⟩, by first | exact .inl rfl | exact .inr rfl⟩))
        (try clear F11); (try clear N12); clear hb8
        rintro s' ⟨mo, pr, bd, Lv, tm, tp, tb, tL, h7, tk7, m7, rfl, ⟨hmo, hpr, hbd, hLv⟩, F7, N7⟩
        dsimp only [kstB] at F7
        dsimp only
        repeat' ((fail_if_success (with_reducible show wpAny _ _ (PySem.exec (PySem.Stmt.Assign [PySem.Expr.Name (PySem.Str.ofString "head") _] _ _) _) _ _ _)); (first | ((with_reducible show wpAny _ _ (PySem.call (Value.ref _) _) _ _ _); k_here; k_dflt ((first | apply Ctr.use (parse257_ctr _ _ _ _ _ _) | apply Ctr.use (law_told_ctr _ _ _ _ _ _) | apply Ctr.use (law_write_ctr _ _ _ _ _ _ _ _) | apply Ctr.use (law_page_ctr _ _ _ _ _ _ _ _) | apply Ctr.use (lev_ctr _ _ _ _ _ _ _ _ _ _)); k_asm; k_asm; k_asm; k_asm; k_asm; (first | exact rfl | assumption); (first | omega | exact ⟨by omega, by omega⟩ | exact ⟨by omega, by omega, by omega⟩); ktr_room; ktr_units); intro _ _ _ _ _; (try dsimp only); (try k_fold)) | ((with_reducible show wpAny _ _ (PySem.compareOp PySem.CmpOp.In (PySem.Value.int _ _) (PySem.Value.ref _)) _ _ _); k_here; apply in_tuple_ints; exact News.isTup (by k_asm) (by k_mem); exact IntsAre.cons _ _ (IntsAre.cons _ _ (IntsAre.cons _ _ IntsAre.nil))) | (k_unfold; (try dsimp only)) | (k_end; wrow_close) | walk1 | (dsimp only; walk1) | (leave1; walk_say "STEP leave1"; try dsimp only) | fail "no step"))
        exact (by
         have hlen := road_len hRo
         rw [← cl_len, ← cl_len] at hlen
         repeat' ((fail_if_success (with_reducible show wpAny _ _ (PySem.eval (PySem.Expr.ListComp _ _ _ _) _) _ _ _)); (first | ((with_reducible show wpAny _ _ (PySem.call (Value.ref _) _) _ _ _); k_here; k_dflt ((first | apply Ctr.use (parse257_ctr _ _ _ _ _ _) | apply Ctr.use (law_told_ctr _ _ _ _ _ _) | apply Ctr.use (law_write_ctr _ _ _ _ _ _ _ _) | apply Ctr.use (law_page_ctr _ _ _ _ _ _ _ _) | apply Ctr.use (lev_ctr _ _ _ _ _ _ _ _ _ _)); k_asm; k_asm; k_asm; k_asm; k_asm; (first | exact rfl | assumption); (first | omega | exact ⟨by omega, by omega⟩ | exact ⟨by omega, by omega, by omega⟩); ktr_room; ktr_units); intro _ _ _ _ _; (try dsimp only); (try k_fold)) | ((with_reducible show wpAny _ _ (PySem.compareOp PySem.CmpOp.In (PySem.Value.int _ _) (PySem.Value.ref _)) _ _ _); k_here; apply in_tuple_ints; exact News.isTup (by k_asm) (by k_mem); exact IntsAre.cons _ _ (IntsAre.cons _ _ (IntsAre.cons _ _ IntsAre.nil))) | (k_unfold; (try dsimp only)) | (k_end; wrow_close) | walk1 | (dsimp only; walk1) | (leave1; walk_say "STEP leave1"; try dsimp only) | fail "no step"))
         refine LCt.ListComp_T (by k_asm) (by with_unfolding_all rfl) (by decide) (by rfl) (by decide) (by rfl) ?_
         repeat' ((fail_if_success (with_reducible show (LCt.CompSrcT _ _ _ _ _ _ _ _ _ _ _ _ _ _ _))); (first | ((with_reducible show wpAny _ _ (PySem.call (Value.ref _) _) _ _ _); k_here; k_dflt ((first | apply Ctr.use (parse257_ctr _ _ _ _ _ _) | apply Ctr.use (law_told_ctr _ _ _ _ _ _) | apply Ctr.use (law_write_ctr _ _ _ _ _ _ _ _) | apply Ctr.use (law_page_ctr _ _ _ _ _ _ _ _) | apply Ctr.use (lev_ctr _ _ _ _ _ _ _ _ _ _)); k_asm; k_asm; k_asm; k_asm; k_asm; (first | exact rfl | assumption); (first | omega | exact ⟨by omega, by omega⟩ | exact ⟨by omega, by omega, by omega⟩); ktr_room; ktr_units); intro _ _ _ _ _; (try dsimp only); (try k_fold)) | ((with_reducible show wpAny _ _ (PySem.compareOp PySem.CmpOp.In (PySem.Value.int _ _) (PySem.Value.ref _)) _ _ _); k_here; apply in_tuple_ints; exact News.isTup (by k_asm) (by k_mem); exact IntsAre.cons _ _ (IntsAre.cons _ _ (IntsAre.cons _ _ IntsAre.nil))) | (k_unfold; (try dsimp only)) | (k_end; wrow_close) | walk1 | (dsimp only; walk1) | (leave1; walk_say "STEP leave1"; try dsimp only) | fail "no step"))
         rename_i h8 tk8 ta8 tb8 tc8 R8 F8 N8 K8
         clear K8
         refine LCt.CompSrcT.range rfl F8 N8 R8 (smallN (by omega)) (sizeN _) (Nat.le_trans hNl (by decide +kernel)) fun g8 => ?_
         refine rest_rangeT (fun k => decide ((cl Nr)[k]? ≠ (cl Fa)[k]?)) trivial ?_ ?_ ?_
         · intro c tc I oI C oC D m₂ ys h' tk' E' Q' hc hC hx' F' N' off hQ
           dsimp only
           clear N8 F8
           repeat' ((first | ((with_reducible show wpAny _ _ (PySem.call (Value.ref _) _) _ _ _); k_here; k_dflt ((first | apply Ctr.use (parse257_ctr _ _ _ _ _ _) | apply Ctr.use (law_told_ctr _ _ _ _ _ _) | apply Ctr.use (law_write_ctr _ _ _ _ _ _ _ _) | apply Ctr.use (law_page_ctr _ _ _ _ _ _ _ _) | apply Ctr.use (lev_ctr _ _ _ _ _ _ _ _ _ _)); k_asm; k_asm; k_asm; k_asm; k_asm; (first | exact rfl | assumption); (first | omega | exact ⟨by omega, by omega⟩ | exact ⟨by omega, by omega, by omega⟩); ktr_room; ktr_units); intro _ _ _ _ _; (try dsimp only); (try k_fold)) | ((with_reducible show wpAny _ _ (PySem.compareOp PySem.CmpOp.In (PySem.Value.int _ _) (PySem.Value.ref _)) _ _ _); k_here; apply in_tuple_ints; exact News.isTup (by k_asm) (by k_mem); exact IntsAre.cons _ _ (IntsAre.cons _ _ (IntsAre.cons _ _ IntsAre.nil))) | (k_unfold; (try dsimp only)) | (k_end; wrow_close) | walk1 | (dsimp only; walk1) | (leave1; walk_say "STEP leave1"; try dsimp only) | fail "no step"))
           rw [item_ne (by omega) (by omega)]
           exact hQ _ _ F' N'
         · intro c tc I oI C oC D m₂ ys h' tk' E' Q' hc hC hx' F' N' off hQ
           dsimp only
           clear N8 F8
           repeat' ((first | ((with_reducible show wpAny _ _ (PySem.call (Value.ref _) _) _ _ _); k_here; k_dflt ((first | apply Ctr.use (parse257_ctr _ _ _ _ _ _) | apply Ctr.use (law_told_ctr _ _ _ _ _ _) | apply Ctr.use (law_write_ctr _ _ _ _ _ _ _ _) | apply Ctr.use (law_page_ctr _ _ _ _ _ _ _ _) | apply Ctr.use (lev_ctr _ _ _ _ _ _ _ _ _ _)); k_asm; k_asm; k_asm; k_asm; k_asm; (first | exact rfl | assumption); (first | omega | exact ⟨by omega, by omega⟩ | exact ⟨by omega, by omega, by omega⟩); ktr_room; ktr_units); intro _ _ _ _ _; (try dsimp only); (try k_fold)) | ((with_reducible show wpAny _ _ (PySem.compareOp PySem.CmpOp.In (PySem.Value.int _ _) (PySem.Value.ref _)) _ _ _); k_here; apply in_tuple_ints; exact News.isTup (by k_asm) (by k_mem); exact IntsAre.cons _ _ (IntsAre.cons _ _ (IntsAre.cons _ _ IntsAre.nil))) | (k_unfold; (try dsimp only)) | (k_end; wrow_close) | walk1 | (dsimp only; walk1) | (leave1; walk_say "STEP leave1"; try dsimp only) | fail "no step"))
           exact hQ _ _ _ F' N'
         intro ys hys D h11 tk11 F11 N11 o11
         clear N8 F8 R8
         have N12 : News s₁.heap s₁.heap.objs.size h11 ((D, PySem.W.listOf ys.toArray ys.length) :: _) := N11
         clear N11
         obtain ⟨h0, hh0, hh1, hh2, hh3⟩ := head_facts Nr Fa
         have hml := ms_len (fun k => decide ((cl Nr)[k]? ≠ (cl Fa)[k]?)) Nr.length
         generalize List.map (fun c : Nat => (c : Int)) (List.filter (fun k => decide ((cl Nr)[k]? ≠ (cl Fa)[k]?)) (List.range Nr.length)) = ms at hys hml hh0
         dsimp only
         repeat' ((fail_if_success (with_reducible show wpAny _ _ (PySem.binaryOp Operator.Add (Value.ref _) (Value.ref _)) _ _ _)); (first | ((with_reducible show wpAny _ _ (PySem.call (Value.ref _) _) _ _ _); k_here; k_dflt ((first | apply Ctr.use (parse257_ctr _ _ _ _ _ _) | apply Ctr.use (law_told_ctr _ _ _ _ _ _) | apply Ctr.use (law_write_ctr _ _ _ _ _ _ _ _) | apply Ctr.use (law_page_ctr _ _ _ _ _ _ _ _) | apply Ctr.use (lev_ctr _ _ _ _ _ _ _ _ _ _)); k_asm; k_asm; k_asm; k_asm; k_asm; (first | exact rfl | assumption); (first | omega | exact ⟨by omega, by omega⟩ | exact ⟨by omega, by omega, by omega⟩); ktr_room; ktr_units); intro _ _ _ _ _; (try dsimp only); (try k_fold)) | ((with_reducible show wpAny _ _ (PySem.compareOp PySem.CmpOp.In (PySem.Value.int _ _) (PySem.Value.ref _)) _ _ _); k_here; apply in_tuple_ints; exact News.isTup (by k_asm) (by k_mem); exact IntsAre.cons _ _ (IntsAre.cons _ _ (IntsAre.cons _ _ IntsAre.nil))) | (k_unfold; (try dsimp only)) | (k_end; wrow_close) | walk1 | (dsimp only; walk1) | (leave1; walk_say "STEP leave1"; try dsimp only) | fail "no step"))
         refine' kmk_add_ints ?Fx38 ?Nx39 ?ax40 ?bx41 hys ?jx42 ?_ ?zx43
         (case Fx38 => k_asm)
         (case Nx39 => k_asm)
         (case ax40 => kmk_list)
         (case bx41 => kmk_list)
         (case jx42 => l_ints)
         (case zx43 => simp only [sizeLine_eq, List.length_cons, List.length_nil]; omega)
         intro D' us' h' F' N' l1 hI'
         repeat' ((fail_if_success (with_reducible show wpAny _ _ (PySem.exec (PySem.Stmt.Assign [PySem.Expr.Name (PySem.Str.ofString "foot") _] _ _) _) _ _ _)); (first | ((with_reducible show wpAny _ _ (PySem.call (Value.ref _) _) _ _ _); k_here; k_dflt ((first | apply Ctr.use (parse257_ctr _ _ _ _ _ _) | apply Ctr.use (law_told_ctr _ _ _ _ _ _) | apply Ctr.use (law_write_ctr _ _ _ _ _ _ _ _) | apply Ctr.use (law_page_ctr _ _ _ _ _ _ _ _) | apply Ctr.use (lev_ctr _ _ _ _ _ _ _ _ _ _)); k_asm; k_asm; k_asm; k_asm; k_asm; (first | exact rfl | assumption); (first | omega | exact ⟨by omega, by omega⟩ | exact ⟨by omega, by omega, by omega⟩); ktr_room; ktr_units); intro _ _ _ _ _; (try dsimp only); (try k_fold)) | ((with_reducible show wpAny _ _ (PySem.compareOp PySem.CmpOp.In (PySem.Value.int _ _) (PySem.Value.ref _)) _ _ _); k_here; apply in_tuple_ints; exact News.isTup (by k_asm) (by k_mem); exact IntsAre.cons _ _ (IntsAre.cons _ _ (IntsAre.cons _ _ IntsAre.nil))) | (k_unfold; (try dsimp only)) | (k_end; wrow_close) | walk1 | (dsimp only; walk1) | (leave1; walk_say "STEP leave1"; try dsimp only) | fail "no step"))
         rename Fr _ _ _ _ => F13
         rw [hh0] at F13
         (try clear hml); (try clear hh0); (try clear hI'); (try clear l1); (try clear hys); (try (rename _ < _ ∧ _ < _ ∧ _ < _ => hz; clear hz))
         exact (by
          repeat' ((fail_if_success (with_reducible show wpAny _ _ (PySem.exec (PySem.Stmt.While _ _ _ _) _) _ _ _)); (first | ((with_reducible show wpAny _ _ (PySem.call (Value.ref _) _) _ _ _); k_here; k_dflt ((first | apply Ctr.use (parse257_ctr _ _ _ _ _ _) | apply Ctr.use (law_told_ctr _ _ _ _ _ _) | apply Ctr.use (law_write_ctr _ _ _ _ _ _ _ _) | apply Ctr.use (law_page_ctr _ _ _ _ _ _ _ _) | apply Ctr.use (lev_ctr _ _ _ _ _ _ _ _ _ _)); k_asm; k_asm; k_asm; k_asm; k_asm; (first | exact rfl | assumption); (first | omega | exact ⟨by omega, by omega⟩ | exact ⟨by omega, by omega, by omega⟩); ktr_room; ktr_units); intro _ _ _ _ _; (try dsimp only); (try k_fold)) | ((with_reducible show wpAny _ _ (PySem.compareOp PySem.CmpOp.In (PySem.Value.int _ _) (PySem.Value.ref _)) _ _ _); k_here; apply in_tuple_ints; exact News.isTup (by k_asm) (by k_mem); exact IntsAre.cons _ _ (IntsAre.cons _ _ (IntsAre.cons _ _ IntsAre.nil))) | (k_unfold; (try dsimp only)) | (k_end; wrow_close) | walk1 | (dsimp only; walk1) | (leave1; walk_say "STEP leave1"; try dsimp only) | fail "no step"))
          rename Fr _ _ _ _ => F14
          rename News _ _ _ _ => N14
          with_reducible refine stmt_joinO (fun s' => ∃ (fn : Nat) (tm tp tb tL th tf : Tok) (h : Heap) (tk : Nat) (m1 : Str → Option Value), s' = { s₁ with heap := h, toks := tk } ∧ (h0 ≤ fn ∧ fn ≤ (cl Nr).length ∧ (cl Nr).drop fn = (cl Fa).drop ((cl Fa).length - (cl Nr).length + fn) ∧ ∀ g, h0 ≤ g → g < fn → (cl Nr).drop g ≠ (cl Fa).drop ((cl Fa).length - (cl Nr).length + g)) ∧ Fr s₁.heap s₁.heap.objs.size h (kstB m1 [(PySem.Str.ofString "more", .int mo tm), (PySem.Str.ofString "price", .int pr tp), (PySem.Str.ofString "bound", .int bd tb), (PySem.Str.ofString "told", .int Lv tL), (PySem.Str.ofString "head", .int (h0 : Int) th), (PySem.Str.ofString "foot", .int (fn : Int) tf)])) (fun R' hR' => ?_) ?_
          · k_with "state" => first
              | with_reducible exact foot_start hh1
              | with_reducible exact foot_turn ⟨by assumption, by assumption, by assumption⟩ hmo hlen (by assumption)
            k_with "measure" => (have hfl := foot_lt (x := Nr) (y := Fa) (h := h0) ⟨by assumption, by assumption, by assumption⟩ hmo hlen (by assumption); omega)
            k_while (fun script f => (h0 : Int) ≤ f ∧ f ≤ (Nr.length : Int) ∧ ∀ g : Nat, h0 ≤ g → (g : Int) < f → (cl Nr).drop g ≠ (cl Fa).drop ((cl Fa).length - (cl Nr).length + g)) (fun script f => Nr.length - f.toNat) "foot"
            k_steps
            k_with_none
            obtain ⟨fn, rfl, hfn⟩ := foot_end (x := Nr) (y := Fa) (h := h0) (mo := mo) ⟨by assumption, by assumption, by assumption⟩ hmo hlen (by assumption)
            rename Fr _ _ _ _ => F15
            rename News _ _ _ _ => N15
            refine' JoinEnd.intro (hR' _ ⟨fn, _, _, _, _, _, _, _, _, _, rfl, hfn, fr_norm F15 ?hkx44⟩)
            (case hkx44 => kst_all)
          clear F14 N14
          rintro s' ⟨fn, tm, tp, tb, tL, th, tf, h7, tk7, m7, rfl, ⟨hf1, hf2, hf3, hf4⟩, F7⟩
          dsimp only [kstB] at F7
          dsimp only
          have hEnd := end_facts hRo hSm hh1 hh2 hh3 hf1 hf2 hf3 hf4 hmo hpr hnb hLv
          obtain ⟨e1, e2, e3⟩ := hEnd
          clear hLv hh2 hh3 hf3 hf4 hRo hSm
          have N7 : News s₁.heap s₁.heap.objs.size h7 [] := News.nil
          exact (by
           repeat' ((first | ((with_reducible show wpAny _ _ (PySem.call (Value.ref _) _) _ _ _); k_here; k_dflt ((first | apply Ctr.use (parse257_ctr _ _ _ _ _ _) | apply Ctr.use (law_told_ctr _ _ _ _ _ _) | apply Ctr.use (law_write_ctr _ _ _ _ _ _ _ _) | apply Ctr.use (law_page_ctr _ _ _ _ _ _ _ _) | apply Ctr.use (lev_ctr _ _ _ _ _ _ _ _ _ _)); k_asm; k_asm; k_asm; k_asm; k_asm; (first | exact rfl | assumption); (first | omega | exact ⟨by omega, by omega⟩ | exact ⟨by omega, by omega, by omega⟩); ktr_room; ktr_units); intro _ _ _ _ _; (try dsimp only); (try k_fold)) | ((with_reducible show wpAny _ _ (PySem.compareOp PySem.CmpOp.In (PySem.Value.int _ _) (PySem.Value.ref _)) _ _ _); k_here; apply in_tuple_ints; exact News.isTup (by k_asm) (by k_mem); exact IntsAre.cons _ _ (IntsAre.cons _ _ (IntsAre.cons _ _ IntsAre.nil))) | (k_unfold; (try dsimp only)) | (k_end; wrow_close) | walk1 | (dsimp only; walk1) | (leave1; walk_say "STEP leave1"; try dsimp only) | fail "no step")))))))))))
)

end Mine
end
theorem PySem.Challenge.cw_wn0093_01_holds : PySem.Challenge.rw_wn0093_01.Holds := by
  exact Mine.law1
